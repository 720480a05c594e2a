import JvmDerived
import JvmDerived.Pilot.@@N@@Statement
import JvmDerived.Pilot.@@N@@Code
set_option linter.unusedVariables false
set_option linter.unusedSimpArgs false
namespace Jvm.RoadKit
open Sem ClassFile Op Lib Jvm.Stand Jvm.Free Jvm.LawKit
section New
variable {p : Program} {l : Launch} {e : Env} {R : Room} {s : State} {m : MethodId} {args : Array Value} {below : List Frame} {meth : Method} {c : Code} {T : State} {locs : List Loc} {cells slots : Nat}
theorem retI (X : Stand p l e R s m args below meth c T locs cells slots) (hx : p.tables.exec = Jvm.exec) {pc : Nat} {Ls : Array Slot} {z : Int32} {rest : List Value} (hret : meth.sig.returnType = some .int) (hd : decode c.code pc = .ok (.ireturn, 1)) {fs : List Frame}
    (hl : ∀ (f : JFrame) (acts : List Action), f.method = m → f.locked = none → f.entered = [] → (doReturn e (T.setTop f) acts (some (.int z))).1 = T.setFrames fs) : Steps p.tables e below (T.setTop (mkF m pc Ls (.int z :: rest))) (T.setFrames fs) := by
  have hm' : T.vm.method? m = some meth := X.method'
  have hn : narrow .int (.int z) = .int z := rfl
  show Steps p.tables e below (T.setTop { method := m, pc := pc, locals := Ls, stack := _ :: rest, locked := none }) _
  jvm_step X.here [X.here.top, hx, hd, hm', hret, hn]
  first | (intro acts; rw [hl _ acts rfl rfl rfl]) | rw [hl _ _ rfl rfl rfl]
  exact Steps.refl _
end New
end Jvm.RoadKit
namespace Jvm.Pilot.@@N@@
open Jvm Jvm.ClassFile Sem Op Lib Jvm.Free Jvm.Stand Jvm.LawKit Jvm.RoadKit Bundle Jvm.Pilot.@@N@@.Jvm.D
theorem own_eq_int {a : Term} {n : Int32} {args : Array Value} {s : State} (h : (Jvm.Cond.eq a (.int n)).value args s none s [] = some true) : a.eval args s none [] s = some (.int n) := by
  obtain ⟨x, y, e1, e2, -, k⟩ := cmp_v (Or.inl h)
  cases (Term.int_eval n).symm.trans e2
  obtain ⟨z, rfl⟩ := k
  have q := gotT (Cond.eq_ints e1 e2) h
  rw [e1, q]
theorem own_eq_ref {a b : Term} {y : Addr} {args : Array Value} {s : State} (h : (Jvm.Cond.eq a b).value args s none s [] = some true) (hb : b.eval args s none [] s = some (.ref y)) : a.eval args s none [] s = some (.ref y) := by
  obtain ⟨x, y', e1, e2, -, k⟩ := cmp_v (Or.inl h)
  cases hb.symm.trans e2
  have q := gotT (eq_R e1 e2 k.2 rfl) h
  rw [e1, q]
theorem own_wS {Z : State} {a0 : Array Value} (hw : ∀ d ∈ tables_1, d.before a0 Z = true) : ∀ a ∈ Bundle.stringAtoms, a.before a0 Z = true := by
  intro a ha
  simp only [Bundle.stringAtoms, List.mem_cons, List.not_mem_nil, or_false] at ha
  rcases ha with rfl | rfl | rfl | rfl | rfl | rfl | rfl
  · exact (hw _ (List.mem_of_getElem? (i := 7) rfl))
  · exact (hw _ (List.mem_of_getElem? (i := 8) rfl))
  · exact (hw _ (List.mem_of_getElem? (i := 9) rfl))
  · exact (hw _ (List.mem_of_getElem? (i := 10) rfl))
  · exact (hw _ (List.mem_of_getElem? (i := 11) rfl))
  · exact (hw _ (List.mem_of_getElem? (i := 12) rfl))
  · exact (hw _ (List.mem_of_getElem? (i := 13) rfl))
def own_min (p0 p1 : Int32) : Int32 := (if p1 < p0 then p1 else p0)
theorem d2_0 : decode jdk_30_method_1_code 0 = .ok (.aload_n 0, 1) := by decide +kernel
theorem d2_1 : decode jdk_30_method_1_code 1 = .ok (.invokespecial 1, 3) := by decide +kernel
theorem d2_4 : decode jdk_30_method_1_code 4 = .ok (.return_, 1) := by decide +kernel
theorem pn_2 : plainName "java/lang/Record" = true := by first | (simp [plainName, overriddenIn]; done) | decide +kernel
theorem ef_rm2 (m : MethodId) (p0 : Addr) : entryFrame m #[(.ref p0)] 1 = mkF m 0 #[.val (.ref p0)] [] := by first | (simp [entryFrame, mkF, argsToLocals, Value.category]; done) | rfl
def Q2 (Z : State) (p0 : Addr) (h0 : Heap) (n0 : Nat) (v : Option Value) (h : Heap) (L : List Loc) : Prop := v = none ∧ Fr n0 L ∧ h = h0
set_option maxRecDepth 65536 in
set_option maxHeartbeats 40000000 in
theorem rm2 (l : Launch) (Z : State) (a0 : Array Value) (hw : ∀ d ∈ tables_1, d.before a0 Z = true) (ws : List Jvm.Cond) (p0 : Addr) (h0 : Heap) (n0 : Nat) (O0 : Old Z n0 h0) :
    MetFree l (⟨"java/lang/Record", "<init>", "()V"⟩ : MethodName) (head1 (Jvm.Cond.code (⟨"java/lang/Record", "<init>", "()V"⟩ : MethodName) jdk_30_method_1_code 1 none :: ws) ({ frames := 1, cells := 0, slots := 0, locals := 12 } : Room)) (fun a U => a = #[(.ref p0)] ∧ Z.Warmed39 U.vm ∧ U.heap = h0) (fun _ _ _ _ _ => True) (fun _ U o U' => ∃ v L, o = .returned v ∧ Q2 Z p0 h0 n0 v U'.heap L ∧ FrameEnd U o U' L ({ frames := 1, cells := 0, slots := 0, locals := 12 } : Room).cells ({ frames := 1, cells := 0, slots := 0, locals := 12 } : Room).slots) := by
  refine MetFree.of_bodySF (plainFor_of_name pn_2) hisR ?_
  intro p e s m args below meth c s₁ Bd hml0 hP hK
  obtain ⟨rfl, hZ, hh⟩ := hP
  have hx := Bd.exec
  have hby := Bd.bytes
  have hml : c.maxLocals = 1 := hml0
  have hown : s.vm.findClass "java/lang/Record" = some m.cls := findClass_of_methodNamed Bd.named
  have hnm := (name_of_methodNamed Bd.named Bd.method).1
  have X0 : Stand p l e ({ frames := 1, cells := 0, slots := 0, locals := 12 } : Room) s m #[(.ref p0)] below meth c s₁ [] 0 0 := Stand.of_body Bd
  have e0 : s₁.heap = h0 := by rw [← hh, Bd.state]; rfl
  have N0 := Fr.nil n0
  have s0 : Steps p.tables e below (s₁.setTop (entryFrame m #[(.ref p0)] 1)) (s₁.setTop (mkF m 0 #[.val (.ref p0)] [])) := castTop (ef_rm2 m p0) (Steps.refl _)
  obtain ⟨T1, X1, e1, st1⟩ := initO X0 hx hZ hown (hw _ (List.mem_of_getElem? (i := 22) rfl)) (hw _ (List.mem_of_getElem? (i := 23) rfl)) (hw _ (List.mem_of_getElem? (i := 24) rfl)) e0 (g := (mkF m 1 #[.val (.ref p0)] [(.ref p0)])) rfl (by rw [hml]; rfl) rfl (hb hby d2_1) (by decide) (W := 0) (by show 2 * 0 + _ ≤ _; exact Nat.le_of_eq rfl) (by decide)
  have s2 : Steps p.tables e below (s₁.setTop (entryFrame m #[(.ref p0)] 1)) (T1.setTop (mkF m 4 #[.val (.ref p0)] [])) := by
    refine s0.trans ?_
    show Steps p.tables e below (s₁.setTop (mkF m 0 #[.val (.ref p0)] [])) _
    refine XS.aloadN X0.here hx rfl (hb hby d2_0) rfl rfl ?_
    show Steps p.tables e below (s₁.setTop (mkF m 1 #[.val (.ref p0)] [(.ref p0)])) _
    refine st1 _ ?_
    exact Steps.refl _
  obtain ⟨fs, hr, hrun, hended, hW, hsame⟩ := X1.leave (v := none) (fun _ => rfl)
  refine ⟨_, _, s2.trans ?_, hrun, hended, _, _, rfl, ?_, ⟨_, rfl⟩, hW, hsame.mono (by decide) (by decide)⟩
  · show Steps p.tables e below (T1.setTop (mkF m 4 #[.val (.ref p0)] [])) _
    exact X1.returnOut hx Bd.returns (hb hby d2_4) hr
  · show Q2 Z p0 h0 n0 _ T1.heap _
    rw [e1]
    exact ⟨rfl, N0, rfl⟩
theorem d1_0 : decode prog_10_method_1_code 0 = .ok (.aload_n 0, 1) := by decide +kernel
theorem d1_1 : decode prog_10_method_1_code 1 = .ok (.invokespecial 1, 3) := by decide +kernel
theorem d1_4 : decode prog_10_method_1_code 4 = .ok (.aload_n 0, 1) := by decide +kernel
theorem d1_5 : decode prog_10_method_1_code 5 = .ok (.aload_n 1, 1) := by decide +kernel
theorem d1_6 : decode prog_10_method_1_code 6 = .ok (.putfield 7, 3) := by decide +kernel
theorem d1_9 : decode prog_10_method_1_code 9 = .ok (.aload_n 0, 1) := by decide +kernel
theorem d1_10 : decode prog_10_method_1_code 10 = .ok (.aload_n 2, 1) := by decide +kernel
theorem d1_11 : decode prog_10_method_1_code 11 = .ok (.putfield 13, 3) := by decide +kernel
theorem d1_14 : decode prog_10_method_1_code 14 = .ok (.aload_n 0, 1) := by decide +kernel
theorem d1_15 : decode prog_10_method_1_code 15 = .ok (.aload_n 3, 1) := by decide +kernel
theorem d1_16 : decode prog_10_method_1_code 16 = .ok (.putfield 17, 3) := by decide +kernel
theorem d1_19 : decode prog_10_method_1_code 19 = .ok (.aload_n 0, 1) := by decide +kernel
theorem d1_20 : decode prog_10_method_1_code 20 = .ok (.lload 4, 2) := by decide +kernel
theorem d1_22 : decode prog_10_method_1_code 22 = .ok (.putfield 20, 3) := by decide +kernel
theorem d1_25 : decode prog_10_method_1_code 25 = .ok (.aload_n 0, 1) := by decide +kernel
theorem d1_26 : decode prog_10_method_1_code 26 = .ok (.iload 6, 2) := by decide +kernel
theorem d1_28 : decode prog_10_method_1_code 28 = .ok (.putfield 24, 3) := by decide +kernel
theorem d1_31 : decode prog_10_method_1_code 31 = .ok (.aload_n 0, 1) := by decide +kernel
theorem d1_32 : decode prog_10_method_1_code 32 = .ok (.iload 7, 2) := by decide +kernel
theorem d1_34 : decode prog_10_method_1_code 34 = .ok (.putfield 28, 3) := by decide +kernel
theorem d1_37 : decode prog_10_method_1_code 37 = .ok (.return_, 1) := by decide +kernel
theorem pn_1 : plainName "com/example/hot_gate/hotgate/bench/Options" = true := by first | (simp [plainName, overriddenIn]; done) | decide +kernel
theorem pd_rm1_0 : parseMethodDescriptor "()V" = some ⟨[], none⟩ := by decide +kernel
theorem ef_rm1 (m : MethodId) (p0 : Addr) (p1 : Addr) (p3 : Addr) (p4 : Int64) (p5 : Int32) (p6 : Int32) : entryFrame m #[(.ref p0), (.ref p1), .null, (.ref p3), (.long p4), (.int p5), (.int p6)] 8 = mkF m 0 #[.val (.ref p0), .val (.ref p1), .val .null, .val (.ref p3), .val (.long p4), .second, .val (.int p5), .val (.int p6)] [] := by first | (simp [entryFrame, mkF, argsToLocals, Value.category]; done) | rfl
def Q1 (Z : State) (p0 : Addr) (p1 : Addr) (p3 : Addr) (p4 : Int64) (p5 : Int32) (p6 : Int32) (h0 : Heap) (n0 : Nat) (v : Option Value) (h : Heap) (L : List Loc) : Prop := v = none ∧ Fr n0 L ∧ Keep h0 h [p0] ∧ (Exa Z h p0 "com/example/hot_gate/hotgate/bench/Options") ∧ (Fld Z h p0 "com/example/hot_gate/hotgate/bench/Options" "claims" "I" (.int p5)) ∧ (Fld Z h p0 "com/example/hot_gate/hotgate/bench/Options" "connections" "I" (.int p6))
set_option maxRecDepth 65536 in
set_option maxHeartbeats 40000000 in
theorem rm1 (l : Launch) (Z : State) (a0 : Array Value) (hw : ∀ d ∈ tables_1, d.before a0 Z = true) (ws : List Jvm.Cond) (p0 : Addr) (p1 : Addr) (p3 : Addr) (p4 : Int64) (p5 : Int32) (p6 : Int32) (h0 : Heap) (n0 : Nat) (O0 : Old Z n0 h0) (F0_ : Exa Z h0 p0 "com/example/hot_gate/hotgate/bench/Options") (F1_ : Fld Z h0 p0 "com/example/hot_gate/hotgate/bench/Options" "mode" "Lcom/example/hot_gate/hotgate/bench/Mode;" .null) (F2_ : Fld Z h0 p0 "com/example/hot_gate/hotgate/bench/Options" "url" "Ljava/lang/String;" .null) (F3_ : Fld Z h0 p0 "com/example/hot_gate/hotgate/bench/Options" "dropId" "Ljava/lang/String;" .null) (F4_ : Fld Z h0 p0 "com/example/hot_gate/hotgate/bench/Options" "stock" "J" (.long (0 : Int64))) (F5_ : Fld Z h0 p0 "com/example/hot_gate/hotgate/bench/Options" "claims" "I" (.int (0 : Int32))) (F6_ : Fld Z h0 p0 "com/example/hot_gate/hotgate/bench/Options" "connections" "I" (.int (0 : Int32))) (F7_ : n0 ≤ p0) :
    MetFree l (⟨"com/example/hot_gate/hotgate/bench/Options", "<init>", "(Lcom/example/hot_gate/hotgate/bench/Mode;Ljava/lang/String;Ljava/lang/String;JII)V"⟩ : MethodName) (head1 (Jvm.Cond.code (⟨"com/example/hot_gate/hotgate/bench/Options", "<init>", "(Lcom/example/hot_gate/hotgate/bench/Mode;Ljava/lang/String;Ljava/lang/String;JII)V"⟩ : MethodName) prog_10_method_1_code 8 none :: ws) ({ frames := 2, cells := 0, slots := 0, locals := 24 } : Room)) (fun a U => a = #[(.ref p0), (.ref p1), .null, (.ref p3), (.long p4), (.int p5), (.int p6)] ∧ Z.Warmed39 U.vm ∧ U.heap = h0) (fun _ _ _ _ _ => True) (fun _ U o U' => ∃ v L, o = .returned v ∧ Q1 Z p0 p1 p3 p4 p5 p6 h0 n0 v U'.heap L ∧ FrameEnd U o U' L ({ frames := 2, cells := 0, slots := 0, locals := 24 } : Room).cells ({ frames := 2, cells := 0, slots := 0, locals := 24 } : Room).slots) := by
  refine MetFree.of_bodySF (plainFor_of_name pn_1) hisR ?_
  intro p e s m args below meth c s₁ Bd hml0 hP hK
  obtain ⟨rfl, hZ, hh⟩ := hP
  have hx := Bd.exec
  have hby := Bd.bytes
  have hml : c.maxLocals = 8 := hml0
  have hown : s.vm.findClass "com/example/hot_gate/hotgate/bench/Options" = some m.cls := findClass_of_methodNamed Bd.named
  have hnm := (name_of_methodNamed Bd.named Bd.method).1
  have X0 : Stand p l e ({ frames := 2, cells := 0, slots := 0, locals := 24 } : Room) s m #[(.ref p0), (.ref p1), .null, (.ref p3), (.long p4), (.int p5), (.int p6)] below meth c s₁ [] 0 0 := Stand.of_body Bd
  have e0 : s₁.heap = h0 := by rw [← hh, Bd.state]; rfl
  have N0 := Fr.nil n0
  have s0 : Steps p.tables e below (s₁.setTop (entryFrame m #[(.ref p0), (.ref p1), .null, (.ref p3), (.long p4), (.int p5), (.int p6)] 8)) (s₁.setTop (mkF m 0 #[.val (.ref p0), .val (.ref p1), .val .null, .val (.ref p3), .val (.long p4), .second, .val (.int p5), .val (.int p6)] [])) := castTop (ef_rm1 m p0 p1 p3 p4 p5 p6) (Steps.refl _)
  obtain ⟨_, _, ⟨T1, L1, k1, n1⟩, -, X1, ⟨Lc1, hQ1, l1, y1, z1⟩, st1⟩ := X0.specialBack hx (y := (⟨"java/lang/Record", "<init>", "()V"⟩ : MethodName)) rfl hown (mvT hZ (hw _ (List.mem_of_getElem? (i := 17) rfl))) (mvT hZ (hw _ (List.mem_of_getElem? (i := 18) rfl))) (mvT hZ (hw _ (List.mem_of_getElem? (i := 21) rfl))) (by decide) (backOf (W := 0) (rm2 l Z a0 hw [] p0 h0 n0 O0 ) hZ (hw _ (List.mem_of_getElem? (i := 21) rfl)) (hw _ (List.mem_of_getElem? (i := 20) rfl)) (by decide) (by decide)) (g := (mkF m 1 #[.val (.ref p0), .val (.ref p1), .val .null, .val (.ref p3), .val (.long p4), .second, .val (.int p5), .val (.int p6)] [(.ref p0)])) rfl (by rw [hml]; rfl) (Steps.refl _) (a := p0) (argsL := []) (rest := []) (lenOf pd_rm1_0 rfl) rfl (by show 2 * 0 + _ ≤ _; exact Nat.le_of_eq rfl) (hb hby d1_1) (fun _ _ => ⟨rfl, e0, (by decide : 0 + 0 ≤ _), (by decide : 0 + 0 ≤ _)⟩)
  dsimp only [Pt.U, Pt.locs, Pt.cells, Pt.slots] at X1 l1 y1 z1 st1 hQ1
  subst l1 y1 z1
  obtain ⟨rfl, Nq1, e1⟩ := hQ1
  have N1 := Fr.app N0 Nq1
  obtain ⟨T2, h2, X2, e2, W2, st2⟩ := putF X1 hx hZ hown (host := "") (Or.inl (hw _ (List.mem_of_getElem? (i := 25) rfl))) Via.refl e1 F1_ F0_ (Or.inr ⟨(hw _ (List.mem_of_getElem? (i := 26) rfl)), rfl, hnm⟩) (hw _ (List.mem_of_getElem? (i := 4) rfl)) (ty := (.object "com/example/hot_gate/hotgate/bench/Mode")) (by decide) rfl rfl (g := (mkF m 6 #[.val (.ref p0), .val (.ref p1), .val .null, .val (.ref p3), .val (.long p4), .second, .val (.int p5), .val (.int p6)] [(.ref p1), (.ref p0)])) rfl rfl (hb hby d1_6)
  have Fw2 := F1_.same W2
  have O2 := O0.wr W2 F7_
  have K2 : Keep h0 h2 [p0] := (Keep.refl h0 [p0]).wr W2 (Or.inl (List.mem_of_getElem? (i := 0) rfl))
  have N2 := Fr.snoc X2 N1 F7_
  have c3 : Exa Z h2 p0 "com/example/hot_gate/hotgate/bench/Options" := (F0_.wr W2)
  have c4 : Fld Z h2 p0 "com/example/hot_gate/hotgate/bench/Options" "url" "Ljava/lang/String;" .null := (F2_.other W2 (Or.inr (slot_ne (Or.inr (hw _ (List.mem_of_getElem? (i := 28) rfl))) (Or.inr (hw _ (List.mem_of_getElem? (i := 26) rfl))) (by decide) (t := (.object "java/lang/String")) (t' := (.object "com/example/hot_gate/hotgate/bench/Mode")) (by decide) (by decide))))
  obtain ⟨T5, h5, X5, e5, W5, st5⟩ := putF X2 hx hZ hown (host := "") (Or.inl (hw _ (List.mem_of_getElem? (i := 27) rfl))) Via.refl e2 c4 c3 (Or.inr ⟨(hw _ (List.mem_of_getElem? (i := 28) rfl)), rfl, hnm⟩) (hw _ (List.mem_of_getElem? (i := 4) rfl)) (ty := (.object "java/lang/String")) (by decide) rfl rfl (g := (mkF m 11 #[.val (.ref p0), .val (.ref p1), .val .null, .val (.ref p3), .val (.long p4), .second, .val (.int p5), .val (.int p6)] [.null, (.ref p0)])) rfl rfl (hb hby d1_11)
  have Fw5 := c4.same W5
  have O5 := O2.wr W5 F7_
  have K5 : Keep h0 h5 [p0] := K2.wr W5 (Or.inl (List.mem_of_getElem? (i := 0) rfl))
  have N5 := Fr.snoc X5 N2 F7_
  have c6 : Exa Z h5 p0 "com/example/hot_gate/hotgate/bench/Options" := (c3.wr W5)
  have c7 : Fld Z h5 p0 "com/example/hot_gate/hotgate/bench/Options" "dropId" "Ljava/lang/String;" .null := ((F3_.other W2 (Or.inr (slot_ne (Or.inr (hw _ (List.mem_of_getElem? (i := 30) rfl))) (Or.inr (hw _ (List.mem_of_getElem? (i := 26) rfl))) (by decide) (t := (.object "java/lang/String")) (t' := (.object "com/example/hot_gate/hotgate/bench/Mode")) (by decide) (by decide)))).other W5 (Or.inr (slot_ne (Or.inr (hw _ (List.mem_of_getElem? (i := 30) rfl))) (Or.inr (hw _ (List.mem_of_getElem? (i := 28) rfl))) (by decide) (t := (.object "java/lang/String")) (t' := (.object "java/lang/String")) (by decide) (by decide))))
  obtain ⟨T8, h8, X8, e8, W8, st8⟩ := putF X5 hx hZ hown (host := "") (Or.inl (hw _ (List.mem_of_getElem? (i := 29) rfl))) Via.refl e5 c7 c6 (Or.inr ⟨(hw _ (List.mem_of_getElem? (i := 30) rfl)), rfl, hnm⟩) (hw _ (List.mem_of_getElem? (i := 4) rfl)) (ty := (.object "java/lang/String")) (by decide) rfl rfl (g := (mkF m 16 #[.val (.ref p0), .val (.ref p1), .val .null, .val (.ref p3), .val (.long p4), .second, .val (.int p5), .val (.int p6)] [(.ref p3), (.ref p0)])) rfl rfl (hb hby d1_16)
  have Fw8 := c7.same W8
  have O8 := O5.wr W8 F7_
  have K8 : Keep h0 h8 [p0] := K5.wr W8 (Or.inl (List.mem_of_getElem? (i := 0) rfl))
  have N8 := Fr.snoc X8 N5 F7_
  have c9 : Exa Z h8 p0 "com/example/hot_gate/hotgate/bench/Options" := (c6.wr W8)
  have c10 : Fld Z h8 p0 "com/example/hot_gate/hotgate/bench/Options" "stock" "J" (.long (0 : Int64)) := (((F4_.other W2 (Or.inr (slot_ne (Or.inr (hw _ (List.mem_of_getElem? (i := 32) rfl))) (Or.inr (hw _ (List.mem_of_getElem? (i := 26) rfl))) (by decide) (t := .long) (t' := (.object "com/example/hot_gate/hotgate/bench/Mode")) (by decide) (by decide)))).other W5 (Or.inr (slot_ne (Or.inr (hw _ (List.mem_of_getElem? (i := 32) rfl))) (Or.inr (hw _ (List.mem_of_getElem? (i := 28) rfl))) (by decide) (t := .long) (t' := (.object "java/lang/String")) (by decide) (by decide)))).other W8 (Or.inr (slot_ne (Or.inr (hw _ (List.mem_of_getElem? (i := 32) rfl))) (Or.inr (hw _ (List.mem_of_getElem? (i := 30) rfl))) (by decide) (t := .long) (t' := (.object "java/lang/String")) (by decide) (by decide))))
  obtain ⟨T11, h11, X11, e11, W11, st11⟩ := putF X8 hx hZ hown (host := "") (Or.inl (hw _ (List.mem_of_getElem? (i := 31) rfl))) Via.refl e8 c10 c9 (Or.inr ⟨(hw _ (List.mem_of_getElem? (i := 32) rfl)), rfl, hnm⟩) (hw _ (List.mem_of_getElem? (i := 4) rfl)) (ty := .long) (by decide) rfl rfl (g := (mkF m 22 #[.val (.ref p0), .val (.ref p1), .val .null, .val (.ref p3), .val (.long p4), .second, .val (.int p5), .val (.int p6)] [(.long p4), (.ref p0)])) rfl rfl (hb hby d1_22)
  have Fw11 := c10.same W11
  have O11 := O8.wr W11 F7_
  have K11 : Keep h0 h11 [p0] := K8.wr W11 (Or.inl (List.mem_of_getElem? (i := 0) rfl))
  have N11 := Fr.snoc X11 N8 F7_
  have c12 : Exa Z h11 p0 "com/example/hot_gate/hotgate/bench/Options" := (c9.wr W11)
  have c13 : Fld Z h11 p0 "com/example/hot_gate/hotgate/bench/Options" "claims" "I" (.int (0 : Int32)) := ((((F5_.other W2 (Or.inr (slot_ne (Or.inr (hw _ (List.mem_of_getElem? (i := 34) rfl))) (Or.inr (hw _ (List.mem_of_getElem? (i := 26) rfl))) (by decide) (t := .int) (t' := (.object "com/example/hot_gate/hotgate/bench/Mode")) (by decide) (by decide)))).other W5 (Or.inr (slot_ne (Or.inr (hw _ (List.mem_of_getElem? (i := 34) rfl))) (Or.inr (hw _ (List.mem_of_getElem? (i := 28) rfl))) (by decide) (t := .int) (t' := (.object "java/lang/String")) (by decide) (by decide)))).other W8 (Or.inr (slot_ne (Or.inr (hw _ (List.mem_of_getElem? (i := 34) rfl))) (Or.inr (hw _ (List.mem_of_getElem? (i := 30) rfl))) (by decide) (t := .int) (t' := (.object "java/lang/String")) (by decide) (by decide)))).other W11 (Or.inr (slot_ne (Or.inr (hw _ (List.mem_of_getElem? (i := 34) rfl))) (Or.inr (hw _ (List.mem_of_getElem? (i := 32) rfl))) (by decide) (t := .int) (t' := .long) (by decide) (by decide))))
  obtain ⟨T14, h14, X14, e14, W14, st14⟩ := putF X11 hx hZ hown (host := "") (Or.inl (hw _ (List.mem_of_getElem? (i := 33) rfl))) Via.refl e11 c13 c12 (Or.inr ⟨(hw _ (List.mem_of_getElem? (i := 34) rfl)), rfl, hnm⟩) (hw _ (List.mem_of_getElem? (i := 4) rfl)) (ty := .int) (by decide) rfl rfl (g := (mkF m 28 #[.val (.ref p0), .val (.ref p1), .val .null, .val (.ref p3), .val (.long p4), .second, .val (.int p5), .val (.int p6)] [(.int p5), (.ref p0)])) rfl rfl (hb hby d1_28)
  have Fw14 := c13.same W14
  have O14 := O11.wr W14 F7_
  have K14 : Keep h0 h14 [p0] := K11.wr W14 (Or.inl (List.mem_of_getElem? (i := 0) rfl))
  have N14 := Fr.snoc X14 N11 F7_
  have c15 : Exa Z h14 p0 "com/example/hot_gate/hotgate/bench/Options" := (c12.wr W14)
  have c16 : Fld Z h14 p0 "com/example/hot_gate/hotgate/bench/Options" "connections" "I" (.int (0 : Int32)) := (((((F6_.other W2 (Or.inr (slot_ne (Or.inr (hw _ (List.mem_of_getElem? (i := 36) rfl))) (Or.inr (hw _ (List.mem_of_getElem? (i := 26) rfl))) (by decide) (t := .int) (t' := (.object "com/example/hot_gate/hotgate/bench/Mode")) (by decide) (by decide)))).other W5 (Or.inr (slot_ne (Or.inr (hw _ (List.mem_of_getElem? (i := 36) rfl))) (Or.inr (hw _ (List.mem_of_getElem? (i := 28) rfl))) (by decide) (t := .int) (t' := (.object "java/lang/String")) (by decide) (by decide)))).other W8 (Or.inr (slot_ne (Or.inr (hw _ (List.mem_of_getElem? (i := 36) rfl))) (Or.inr (hw _ (List.mem_of_getElem? (i := 30) rfl))) (by decide) (t := .int) (t' := (.object "java/lang/String")) (by decide) (by decide)))).other W11 (Or.inr (slot_ne (Or.inr (hw _ (List.mem_of_getElem? (i := 36) rfl))) (Or.inr (hw _ (List.mem_of_getElem? (i := 32) rfl))) (by decide) (t := .int) (t' := .long) (by decide) (by decide)))).other W14 (Or.inr (slot_ne (Or.inr (hw _ (List.mem_of_getElem? (i := 36) rfl))) (Or.inr (hw _ (List.mem_of_getElem? (i := 34) rfl))) (by decide) (t := .int) (t' := .int) (by decide) (by decide))))
  obtain ⟨T17, h17, X17, e17, W17, st17⟩ := putF X14 hx hZ hown (host := "") (Or.inl (hw _ (List.mem_of_getElem? (i := 35) rfl))) Via.refl e14 c16 c15 (Or.inr ⟨(hw _ (List.mem_of_getElem? (i := 36) rfl)), rfl, hnm⟩) (hw _ (List.mem_of_getElem? (i := 4) rfl)) (ty := .int) (by decide) rfl rfl (g := (mkF m 34 #[.val (.ref p0), .val (.ref p1), .val .null, .val (.ref p3), .val (.long p4), .second, .val (.int p5), .val (.int p6)] [(.int p6), (.ref p0)])) rfl rfl (hb hby d1_34)
  have Fw17 := c16.same W17
  have O17 := O14.wr W17 F7_
  have K17 : Keep h0 h17 [p0] := K14.wr W17 (Or.inl (List.mem_of_getElem? (i := 0) rfl))
  have N17 := Fr.snoc X17 N14 F7_
  have s18 : Steps p.tables e below (s₁.setTop (entryFrame m #[(.ref p0), (.ref p1), .null, (.ref p3), (.long p4), (.int p5), (.int p6)] 8)) (T17.setTop (mkF m 37 #[.val (.ref p0), .val (.ref p1), .val .null, .val (.ref p3), .val (.long p4), .second, .val (.int p5), .val (.int p6)] [])) := by
    refine s0.trans ?_
    show Steps p.tables e below (s₁.setTop (mkF m 0 #[.val (.ref p0), .val (.ref p1), .val .null, .val (.ref p3), .val (.long p4), .second, .val (.int p5), .val (.int p6)] [])) _
    refine XS.aloadN X0.here hx rfl (hb hby d1_0) rfl rfl ?_
    show Steps p.tables e below (s₁.setTop (mkF m 1 #[.val (.ref p0), .val (.ref p1), .val .null, .val (.ref p3), .val (.long p4), .second, .val (.int p5), .val (.int p6)] [(.ref p0)])) _
    refine st1.trans ?_
    show Steps p.tables e below (T1.setTop (mkF m 4 #[.val (.ref p0), .val (.ref p1), .val .null, .val (.ref p3), .val (.long p4), .second, .val (.int p5), .val (.int p6)] [])) _
    refine XS.aloadN X1.here hx rfl (hb hby d1_4) rfl rfl ?_
    show Steps p.tables e below (T1.setTop (mkF m 5 #[.val (.ref p0), .val (.ref p1), .val .null, .val (.ref p3), .val (.long p4), .second, .val (.int p5), .val (.int p6)] [(.ref p0)])) _
    refine XS.aloadN X1.here hx rfl (hb hby d1_5) rfl rfl ?_
    show Steps p.tables e below (T1.setTop (mkF m 6 #[.val (.ref p0), .val (.ref p1), .val .null, .val (.ref p3), .val (.long p4), .second, .val (.int p5), .val (.int p6)] [(.ref p1), (.ref p0)])) _
    refine st2 _ ?_
    show Steps p.tables e below (T2.setTop (mkF m 9 #[.val (.ref p0), .val (.ref p1), .val .null, .val (.ref p3), .val (.long p4), .second, .val (.int p5), .val (.int p6)] [])) _
    refine XS.aloadN X2.here hx rfl (hb hby d1_9) rfl rfl ?_
    show Steps p.tables e below (T2.setTop (mkF m 10 #[.val (.ref p0), .val (.ref p1), .val .null, .val (.ref p3), .val (.long p4), .second, .val (.int p5), .val (.int p6)] [(.ref p0)])) _
    refine XS.aloadN X2.here hx rfl (hb hby d1_10) rfl rfl ?_
    show Steps p.tables e below (T2.setTop (mkF m 11 #[.val (.ref p0), .val (.ref p1), .val .null, .val (.ref p3), .val (.long p4), .second, .val (.int p5), .val (.int p6)] [.null, (.ref p0)])) _
    refine st5 _ ?_
    show Steps p.tables e below (T5.setTop (mkF m 14 #[.val (.ref p0), .val (.ref p1), .val .null, .val (.ref p3), .val (.long p4), .second, .val (.int p5), .val (.int p6)] [])) _
    refine XS.aloadN X5.here hx rfl (hb hby d1_14) rfl rfl ?_
    show Steps p.tables e below (T5.setTop (mkF m 15 #[.val (.ref p0), .val (.ref p1), .val .null, .val (.ref p3), .val (.long p4), .second, .val (.int p5), .val (.int p6)] [(.ref p0)])) _
    refine XS.aloadN X5.here hx rfl (hb hby d1_15) rfl rfl ?_
    show Steps p.tables e below (T5.setTop (mkF m 16 #[.val (.ref p0), .val (.ref p1), .val .null, .val (.ref p3), .val (.long p4), .second, .val (.int p5), .val (.int p6)] [(.ref p3), (.ref p0)])) _
    refine st8 _ ?_
    show Steps p.tables e below (T8.setTop (mkF m 19 #[.val (.ref p0), .val (.ref p1), .val .null, .val (.ref p3), .val (.long p4), .second, .val (.int p5), .val (.int p6)] [])) _
    refine XS.aloadN X8.here hx rfl (hb hby d1_19) rfl rfl ?_
    show Steps p.tables e below (T8.setTop (mkF m 20 #[.val (.ref p0), .val (.ref p1), .val .null, .val (.ref p3), .val (.long p4), .second, .val (.int p5), .val (.int p6)] [(.ref p0)])) _
    refine XS.lload X8.here hx rfl (hb hby d1_20) rfl ?_
    show Steps p.tables e below (T8.setTop (mkF m 22 #[.val (.ref p0), .val (.ref p1), .val .null, .val (.ref p3), .val (.long p4), .second, .val (.int p5), .val (.int p6)] [(.long p4), (.ref p0)])) _
    refine st11 _ ?_
    show Steps p.tables e below (T11.setTop (mkF m 25 #[.val (.ref p0), .val (.ref p1), .val .null, .val (.ref p3), .val (.long p4), .second, .val (.int p5), .val (.int p6)] [])) _
    refine XS.aloadN X11.here hx rfl (hb hby d1_25) rfl rfl ?_
    show Steps p.tables e below (T11.setTop (mkF m 26 #[.val (.ref p0), .val (.ref p1), .val .null, .val (.ref p3), .val (.long p4), .second, .val (.int p5), .val (.int p6)] [(.ref p0)])) _
    refine XS.iload X11.here hx rfl (hb hby d1_26) rfl ?_
    show Steps p.tables e below (T11.setTop (mkF m 28 #[.val (.ref p0), .val (.ref p1), .val .null, .val (.ref p3), .val (.long p4), .second, .val (.int p5), .val (.int p6)] [(.int p5), (.ref p0)])) _
    refine st14 _ ?_
    show Steps p.tables e below (T14.setTop (mkF m 31 #[.val (.ref p0), .val (.ref p1), .val .null, .val (.ref p3), .val (.long p4), .second, .val (.int p5), .val (.int p6)] [])) _
    refine XS.aloadN X14.here hx rfl (hb hby d1_31) rfl rfl ?_
    show Steps p.tables e below (T14.setTop (mkF m 32 #[.val (.ref p0), .val (.ref p1), .val .null, .val (.ref p3), .val (.long p4), .second, .val (.int p5), .val (.int p6)] [(.ref p0)])) _
    refine XS.iload X14.here hx rfl (hb hby d1_32) rfl ?_
    show Steps p.tables e below (T14.setTop (mkF m 34 #[.val (.ref p0), .val (.ref p1), .val .null, .val (.ref p3), .val (.long p4), .second, .val (.int p5), .val (.int p6)] [(.int p6), (.ref p0)])) _
    refine st17 _ ?_
    exact Steps.refl _
  have c19 : Exa Z h17 p0 "com/example/hot_gate/hotgate/bench/Options" := (c15.wr W17)
  have c20 : Fld Z h17 p0 "com/example/hot_gate/hotgate/bench/Options" "claims" "I" (.int p5) := (Fw14.other W17 (Or.inr (slot_ne (Or.inr (hw _ (List.mem_of_getElem? (i := 34) rfl))) (Or.inr (hw _ (List.mem_of_getElem? (i := 36) rfl))) (by decide) (t := .int) (t' := .int) (by decide) (by decide))))
  obtain ⟨fs, hr, hrun, hended, hW, hsame⟩ := X17.leave (v := none) (fun _ => rfl)
  refine ⟨_, _, s18.trans ?_, hrun, hended, _, _, rfl, ?_, ⟨_, rfl⟩, hW, hsame.mono (by decide) (by decide)⟩
  · show Steps p.tables e below (T17.setTop (mkF m 37 #[.val (.ref p0), .val (.ref p1), .val .null, .val (.ref p3), .val (.long p4), .second, .val (.int p5), .val (.int p6)] [])) _
    exact X17.returnOut hx Bd.returns (hb hby d1_37) hr
  · show Q1 Z p0 p1 p3 p4 p5 p6 h0 n0 _ T17.heap _
    rw [e17]
    exact ⟨rfl, N17, K17, c19, c20, Fw17⟩
theorem d5_0 : decode jdk_29_method_69_code 0 = .ok (.iload_n 0, 1) := by decide +kernel
theorem d5_1 : decode jdk_29_method_69_code 1 = .ok (.iload_n 1, 1) := by decide +kernel
theorem d5_2 : decode jdk_29_method_69_code 2 = .ok (.if_icmp .gt 7, 3) := by decide +kernel
theorem d5_5 : decode jdk_29_method_69_code 5 = .ok (.iload_n 0, 1) := by decide +kernel
theorem d5_6 : decode jdk_29_method_69_code 6 = .ok (.goto 4, 3) := by decide +kernel
theorem d5_9 : decode jdk_29_method_69_code 9 = .ok (.iload_n 1, 1) := by decide +kernel
theorem d5_10 : decode jdk_29_method_69_code 10 = .ok (.ireturn, 1) := by decide +kernel
theorem ef_rm5 (m : MethodId) (p0 : Int32) (p1 : Int32) : entryFrame m #[(.int p0), (.int p1)] 2 = mkF m 0 #[.val (.int p0), .val (.int p1)] [] := by first | (simp [entryFrame, mkF, argsToLocals, Value.category]; done) | rfl
def Q5 (Z : State) (p0 : Int32) (p1 : Int32) (h0 : Heap) (n0 : Nat) (v : Option Value) (h : Heap) (L : List Loc) : Prop := v = some (.int (own_min p0 p1)) ∧ Fr n0 L ∧ h = h0
set_option maxRecDepth 65536 in
set_option maxHeartbeats 40000000 in
theorem rm5 (l : Launch) (Z : State) (a0 : Array Value) (hw : ∀ d ∈ tables_1, d.before a0 Z = true) (ws : List Jvm.Cond) (p0 : Int32) (p1 : Int32) (h0 : Heap) (n0 : Nat) (O0 : Old Z n0 h0) :
    MetFree l (⟨"java/lang/Math", "min", "(II)I"⟩ : MethodName) (head1 (Jvm.Cond.code (⟨"java/lang/Math", "min", "(II)I"⟩ : MethodName) jdk_29_method_69_code 2 (some .int) :: ws) ({ frames := 0, cells := 0, slots := 0, locals := 0 } : Room)) (fun a U => a = #[(.int p0), (.int p1)] ∧ Z.Warmed39 U.vm ∧ U.heap = h0) (fun _ _ _ _ _ => True) (fun _ U o U' => ∃ v L, o = .returned v ∧ Q5 Z p0 p1 h0 n0 v U'.heap L ∧ FrameEnd U o U' L ({ frames := 0, cells := 0, slots := 0, locals := 0 } : Room).cells ({ frames := 0, cells := 0, slots := 0, locals := 0 } : Room).slots) := by
  refine MetFree.of_bodySF (Jvm.Free.JP.mathPlain rfl (by decide +kernel)) hisR ?_
  intro p e s m args below meth c s₁ Bd hml0 hP hK
  obtain ⟨rfl, hZ, hh⟩ := hP
  have hx := Bd.exec
  have hby := Bd.bytes
  have hml : c.maxLocals = 2 := hml0
  have hown : s.vm.findClass "java/lang/Math" = some m.cls := findClass_of_methodNamed Bd.named
  have hnm := (name_of_methodNamed Bd.named Bd.method).1
  have X0 : Stand p l e ({ frames := 0, cells := 0, slots := 0, locals := 0 } : Room) s m #[(.int p0), (.int p1)] below meth c s₁ [] 0 0 := Stand.of_body Bd
  have e0 : s₁.heap = h0 := by rw [← hh, Bd.state]; rfl
  have N0 := Fr.nil n0
  have s0 : Steps p.tables e below (s₁.setTop (entryFrame m #[(.int p0), (.int p1)] 2)) (s₁.setTop (mkF m 0 #[.val (.int p0), .val (.int p1)] [])) := castTop (ef_rm5 m p0 p1) (Steps.refl _)
  have s1 : Steps p.tables e below (s₁.setTop (entryFrame m #[(.int p0), (.int p1)] 2)) (s₁.setTop (mkF m 2 #[.val (.int p0), .val (.int p1)] [(.int p1), (.int p0)])) := by
    refine s0.trans ?_
    show Steps p.tables e below (s₁.setTop (mkF m 0 #[.val (.int p0), .val (.int p1)] [])) _
    refine XS.iloadN X0.here hx rfl (hb hby d5_0) rfl ?_
    show Steps p.tables e below (s₁.setTop (mkF m 1 #[.val (.int p0), .val (.int p1)] [(.int p0)])) _
    refine XS.iloadN X0.here hx rfl (hb hby d5_1) rfl ?_
    exact Steps.refl _
  have s3 : Steps p.tables e below (s₁.setTop (entryFrame m #[(.int p0), (.int p1)] 2)) (s₁.setTop (mkF m 10 #[.val (.int p0), .val (.int p1)] [(.int (if p1 < p0 then p1 else p0))])) := by
    by_cases hm2 : p1 < p0
    · simp only [if_pos hm2]
      refine s1.trans ?_
      show Steps p.tables e below (s₁.setTop (mkF m 2 #[.val (.int p0), .val (.int p1)] [(.int p1), (.int p0)])) _
      refine XS.icmpYes X0.here hx rfl (pc0 := 2) (pc' := 9) rfl (hb hby d5_2) rfl (tlt hm2).2.2.1 (by decide) (by decide) ?_
      show Steps p.tables e below (s₁.setTop (mkF m 9 #[.val (.int p0), .val (.int p1)] [])) _
      refine XS.iloadN X0.here hx rfl (hb hby d5_9) rfl ?_
      exact Steps.refl _
    · simp only [if_neg hm2]
      refine s1.trans ?_
      show Steps p.tables e below (s₁.setTop (mkF m 2 #[.val (.int p0), .val (.int p1)] [(.int p1), (.int p0)])) _
      refine XS.icmpNo X0.here hx rfl (hb hby d5_2) rfl (flt hm2).2.2.1 ?_
      show Steps p.tables e below (s₁.setTop (mkF m 5 #[.val (.int p0), .val (.int p1)] [])) _
      refine XS.iloadN X0.here hx rfl (hb hby d5_5) rfl ?_
      show Steps p.tables e below (s₁.setTop (mkF m 6 #[.val (.int p0), .val (.int p1)] [(.int p0)])) _
      refine XS.goto X0.here hx rfl (pc0 := 6) (pc' := 10) rfl (hb hby d5_6) (by decide) (by decide) ?_
      exact Steps.refl _
  obtain ⟨zz, hzz⟩ : ∃ z, z = (if p1 < p0 then p1 else p0) := ⟨_, rfl⟩
  rw [← hzz] at s3
  obtain ⟨fs, hr, hrun, hended, hW, hsame⟩ := X0.leave (v := some (.int zz)) (fun h => by rw [Bd.returns] at h; cases h)
  refine ⟨_, _, s3.trans ?_, hrun, hended, _, _, rfl, ?_, ⟨_, rfl⟩, hW, hsame.mono (by decide) (by decide)⟩
  · show Steps p.tables e below (s₁.setTop (mkF m 10 #[.val (.int p0), .val (.int p1)] [(.int zz)])) _
    exact retI X0 hx Bd.returns (hb hby d5_10) hr
  · show Q5 Z p0 p1 h0 n0 _ s₁.heap _
    rw [e0]
    exact ⟨(by rw [hzz]; rfl), N0, rfl⟩
theorem d4_0 : decode prog_10_method_3_code 0 = .ok (.aload_n 0, 1) := by decide +kernel
theorem d4_1 : decode prog_10_method_3_code 1 = .ok (.getfield 28, 3) := by decide +kernel
theorem d4_4 : decode prog_10_method_3_code 4 = .ok (.aload_n 0, 1) := by decide +kernel
theorem d4_5 : decode prog_10_method_3_code 5 = .ok (.getfield 24, 3) := by decide +kernel
theorem d4_8 : decode prog_10_method_3_code 8 = .ok (.invokestatic 155, 3) := by decide +kernel
theorem d4_11 : decode prog_10_method_3_code 11 = .ok (.ireturn, 1) := by decide +kernel
theorem pd_rm4_0 : parseMethodDescriptor "(II)I" = some ⟨[.int, .int], some .int⟩ := by decide +kernel
theorem ef_rm4 (m : MethodId) (p0 : Addr) : entryFrame m #[(.ref p0)] 1 = mkF m 0 #[.val (.ref p0)] [] := by first | (simp [entryFrame, mkF, argsToLocals, Value.category]; done) | rfl
def Q4 (Z : State) (p0 : Addr) (w1 : Int32) (w2 : Int32) (h0 : Heap) (n0 : Nat) (v : Option Value) (h : Heap) (L : List Loc) : Prop := v = some (.int (own_min w1 w2)) ∧ Fr n0 L ∧ h = h0
set_option maxRecDepth 65536 in
set_option maxHeartbeats 40000000 in
theorem rm4 (l : Launch) (Z : State) (a0 : Array Value) (hw : ∀ d ∈ tables_1, d.before a0 Z = true) (ws : List Jvm.Cond) (p0 : Addr) (w1 : Int32) (w2 : Int32) (h0 : Heap) (n0 : Nat) (O0 : Old Z n0 h0) (F0_ : Fld Z h0 p0 "com/example/hot_gate/hotgate/bench/Options" "connections" "I" (.int w1)) (F1_ : Fld Z h0 p0 "com/example/hot_gate/hotgate/bench/Options" "claims" "I" (.int w2)) :
    MetFree l (⟨"com/example/hot_gate/hotgate/bench/Options", "lanes", "()I"⟩ : MethodName) (head1 (Jvm.Cond.code (⟨"com/example/hot_gate/hotgate/bench/Options", "lanes", "()I"⟩ : MethodName) prog_10_method_3_code 1 (some .int) :: ws) ({ frames := 1, cells := 0, slots := 0, locals := 13 } : Room)) (fun a U => a = #[(.ref p0)] ∧ Z.Warmed39 U.vm ∧ U.heap = h0) (fun _ _ _ _ _ => True) (fun _ U o U' => ∃ v L, o = .returned v ∧ Q4 Z p0 w1 w2 h0 n0 v U'.heap L ∧ FrameEnd U o U' L ({ frames := 1, cells := 0, slots := 0, locals := 13 } : Room).cells ({ frames := 1, cells := 0, slots := 0, locals := 13 } : Room).slots) := by
  refine MetFree.of_bodySF (plainFor_of_name pn_1) hisR ?_
  intro p e s m args below meth c s₁ Bd hml0 hP hK
  obtain ⟨rfl, hZ, hh⟩ := hP
  have hx := Bd.exec
  have hby := Bd.bytes
  have hml : c.maxLocals = 1 := hml0
  have hown : s.vm.findClass "com/example/hot_gate/hotgate/bench/Options" = some m.cls := findClass_of_methodNamed Bd.named
  have hnm := (name_of_methodNamed Bd.named Bd.method).1
  have X0 : Stand p l e ({ frames := 1, cells := 0, slots := 0, locals := 13 } : Room) s m #[(.ref p0)] below meth c s₁ [] 0 0 := Stand.of_body Bd
  have e0 : s₁.heap = h0 := by rw [← hh, Bd.state]; rfl
  have N0 := Fr.nil n0
  have s0 : Steps p.tables e below (s₁.setTop (entryFrame m #[(.ref p0)] 1)) (s₁.setTop (mkF m 0 #[.val (.ref p0)] [])) := castTop (ef_rm4 m p0) (Steps.refl _)
  obtain ⟨T1, X1, e1, st1⟩ := getF X0 hx hZ hown (host := "") (Or.inl (hw _ (List.mem_of_getElem? (i := 35) rfl))) Via.refl e0 F0_ (g := (mkF m 1 #[.val (.ref p0)] [(.ref p0)])) rfl rfl (hb hby d4_1)
  obtain ⟨T2, X2, e2, st2⟩ := getF X1 hx hZ hown (host := "") (Or.inl (hw _ (List.mem_of_getElem? (i := 33) rfl))) Via.refl e1 F1_ (g := (mkF m 5 #[.val (.ref p0)] [(.ref p0), (.int w1)])) rfl rfl (hb hby d4_5)
  obtain ⟨_, _, ⟨T3, L3, k3, n3⟩, -, X3, ⟨Lc3, hQ3, l3, y3, z3⟩, st3⟩ := Jvm.LawKit.callS X2 hx (y := (⟨"java/lang/Math", "min", "(II)I"⟩ : MethodName)) hown (mvT hZ (hw _ (List.mem_of_getElem? (i := 42) rfl))) (mvT hZ (hw _ (List.mem_of_getElem? (i := 43) rfl))) (mvT hZ (hw _ (List.mem_of_getElem? (i := 44) rfl))) (mvT hZ (hw _ (List.mem_of_getElem? (i := 45) rfl))) (by decide) (backOf (W := 0) (rm5 l Z a0 hw [] w1 w2 h0 n0 O0 ) hZ (hw _ (List.mem_of_getElem? (i := 45) rfl)) (hw _ (List.mem_of_getElem? (i := 44) rfl)) (by decide) (by decide)) (g := (mkF m 8 #[.val (.ref p0)] [(.int w2), (.int w1)])) rfl (by rw [hml]; rfl) (argsL := [(.int w1), (.int w2)]) (rest := []) (lenOf pd_rm4_0 rfl) rfl (by show 2 * 0 + _ ≤ _; exact Nat.le_of_eq rfl) (hb hby d4_8) (fun _ _ => ⟨rfl, e2, (by decide : 0 + 0 ≤ _), (by decide : 0 + 0 ≤ _)⟩)
  dsimp only [Pt.U, Pt.locs, Pt.cells, Pt.slots] at X3 l3 y3 z3 st3 hQ3
  subst l3 y3 z3
  obtain ⟨rfl, Nq3, e3⟩ := hQ3
  have N3 := Fr.app N0 Nq3
  have s4 : Steps p.tables e below (s₁.setTop (entryFrame m #[(.ref p0)] 1)) (T3.setTop (mkF m 11 #[.val (.ref p0)] [(.int (own_min w1 w2))])) := by
    refine s0.trans ?_
    show Steps p.tables e below (s₁.setTop (mkF m 0 #[.val (.ref p0)] [])) _
    refine XS.aloadN X0.here hx rfl (hb hby d4_0) rfl rfl ?_
    show Steps p.tables e below (s₁.setTop (mkF m 1 #[.val (.ref p0)] [(.ref p0)])) _
    refine st1 _ ?_
    show Steps p.tables e below (T1.setTop (mkF m 4 #[.val (.ref p0)] [(.int w1)])) _
    refine XS.aloadN X1.here hx rfl (hb hby d4_4) rfl rfl ?_
    show Steps p.tables e below (T1.setTop (mkF m 5 #[.val (.ref p0)] [(.ref p0), (.int w1)])) _
    refine st2 _ ?_
    show Steps p.tables e below (T2.setTop (mkF m 8 #[.val (.ref p0)] [(.int w2), (.int w1)])) _
    refine st3 _ ?_
    exact Steps.refl _
  obtain ⟨fs, hr, hrun, hended, hW, hsame⟩ := X3.leave (v := some (.int (own_min w1 w2))) (fun h => by rw [Bd.returns] at h; cases h)
  refine ⟨_, _, s4.trans ?_, hrun, hended, _, _, rfl, ?_, ⟨_, rfl⟩, hW, hsame.mono (by decide) (by decide)⟩
  · show Steps p.tables e below (T3.setTop (mkF m 11 #[.val (.ref p0)] [(.int (own_min w1 w2))])) _
    exact retI X3 hx Bd.returns (hb hby d4_11) hr
  · show Q4 Z p0 w1 w2 h0 n0 _ T3.heap _
    rw [e3]
    exact ⟨rfl, N3, rfl⟩
theorem own_rm0_1 (p0 : Int32) (p1 : Int32) (z1 : Int32) (hz1 : z1 = (if p1 < (own_min p1 p0) then (0 : Int32) else (1 : Int32))) : ¬ (z1 = (0 : Int32)) := by
  subst hz1
  unfold own_min
  repeat' split
  all_goals first | decide | (exfalso; simp only [Int32.lt_iff_toInt_lt, ← Int32.toInt_inj] at *; omega) | simp_all
theorem own_rm0_2 (p0 : Int32) (p1 : Int32) (z2 : Int32) (hz2 : z2 = (if p0 < (own_min p1 p0) then (0 : Int32) else (1 : Int32))) : ¬ (z2 = (0 : Int32)) := by
  subst hz2
  unfold own_min
  repeat' split
  all_goals first | decide | (exfalso; simp only [Int32.lt_iff_toInt_lt, ← Int32.toInt_inj] at *; omega) | simp_all
theorem own_rm0_3 (p0 : Int32) (p1 : Int32) (z3 : Int32) (hz3 : z3 = (if (own_min p1 p0) = p1 then (1 : Int32) else (if (own_min p1 p0) = p0 then (1 : Int32) else (0 : Int32)))) : ¬ (z3 = (0 : Int32)) := by
  subst hz3
  unfold own_min
  repeat' split
  all_goals first | decide | (exfalso; simp only [Int32.lt_iff_toInt_lt, ← Int32.toInt_inj] at *; omega) | simp_all
theorem own_rm0_4 (p0 : Int32) (p1 : Int32) (z1 : Int32) (hz1 : z1 = (if p1 < (own_min p1 p0) then (0 : Int32) else (1 : Int32))) : ¬ (z1 = (0 : Int32)) := by
  subst hz1
  unfold own_min
  repeat' split
  all_goals first | decide | (exfalso; simp only [Int32.lt_iff_toInt_lt, ← Int32.toInt_inj] at *; omega) | simp_all
theorem own_rm0_5 (p0 : Int32) (p1 : Int32) (z2 : Int32) (hz2 : z2 = (if p0 < (own_min p1 p0) then (0 : Int32) else (1 : Int32))) : ¬ (z2 = (0 : Int32)) := by
  subst hz2
  unfold own_min
  repeat' split
  all_goals first | decide | (exfalso; simp only [Int32.lt_iff_toInt_lt, ← Int32.toInt_inj] at *; omega) | simp_all
theorem own_rm0_6 (p0 : Int32) (p1 : Int32) (z3 : Int32) (hz3 : z3 = (if (own_min p1 p0) = p1 then (1 : Int32) else (if (own_min p1 p0) = p0 then (1 : Int32) else (0 : Int32)))) : ¬ (z3 = (0 : Int32)) := by
  subst hz3
  unfold own_min
  repeat' split
  all_goals first | decide | (exfalso; simp only [Int32.lt_iff_toInt_lt, ← Int32.toInt_inj] at *; omega) | simp_all
theorem pn_0 : plainName "com/example/hot_gate/hotgate/bench/OptionsLanesPinLaw" = true := by first | (simp [plainName, overriddenIn]; done) | decide +kernel
theorem pd_rm0_0 : parseMethodDescriptor "(Lcom/example/hot_gate/hotgate/bench/Mode;Ljava/lang/String;Ljava/lang/String;JII)V" = some ⟨[(.object "com/example/hot_gate/hotgate/bench/Mode"), (.object "java/lang/String"), (.object "java/lang/String"), .long, .int, .int], none⟩ := by decide +kernel
theorem pd_rm0_1 : parseMethodDescriptor "()I" = some ⟨[], some .int⟩ := by decide +kernel
theorem ef_rm0 (m : MethodId) (p0 : Int32) (p1 : Int32) (p2 : Int64) (p3 : Int32) : entryFrame m #[(.int p0), (.int p1), (.long p2), (.int p3)] maxLocals = mkF m 0 #[.val (.int p0), .val (.int p1), .val (.long p2), .second, .val (.int p3), .unset, .unset, .unset, .unset, .unset, .unset] [] := by first | (simp [entryFrame, mkF, argsToLocals, Value.category, maxLocals]; done) | rfl
def Q0 (Z : State) (p0 : Int32) (p1 : Int32) (p2 : Int64) (p3 : Int32) (v_ROW_LOCK : Addr) (v_GATE : Addr) (h0 : Heap) (n0 : Nat) (v : Option Value) (h : Heap) (L : List Loc) : Prop := v = some (.int (1 : Int32)) ∧ Fr n0 L
set_option maxRecDepth 65536 in
set_option maxHeartbeats 40000000 in
theorem rm0 (l : Launch) (Z : State) (a0 : Array Value) (hw : ∀ d ∈ tables_1, d.before a0 Z = true) (ws : List Jvm.Cond) (p0 : Int32) (p1 : Int32) (p2 : Int64) (p3 : Int32) (v_ROW_LOCK : Addr) (v_GATE : Addr) (h0 : Heap) (n0 : Nat) (O0 : Old Z n0 h0) (F0_ : Sta Z Z.heap "com/example/hot_gate/hotgate/bench/Mode" "ROW_LOCK" "Lcom/example/hot_gate/hotgate/bench/Mode;" (.ref v_ROW_LOCK)) (F1_ : Exa Z Z.heap v_ROW_LOCK "com/example/hot_gate/hotgate/bench/Mode") (F2_ : Sta Z Z.heap "com/example/hot_gate/hotgate/bench/Mode" "GATE" "Lcom/example/hot_gate/hotgate/bench/Mode;" (.ref v_GATE)) (F3_ : Exa Z Z.heap v_GATE "com/example/hot_gate/hotgate/bench/Mode") :
    MetFree l x (head1 (Jvm.Cond.code x code maxLocals ret :: ws) room_1) (fun a U => a = #[(.int p0), (.int p1), (.long p2), (.int p3)] ∧ Z.Warmed39 U.vm ∧ U.heap = h0) (fun _ _ _ _ _ => True) (fun _ U o U' => ∃ v L, o = .returned v ∧ Q0 Z p0 p1 p2 p3 v_ROW_LOCK v_GATE h0 n0 v U'.heap L ∧ ReturnedEndW U o U' L room_1.cells room_1.slots) := by
  refine MetFree.of_bodySF (plainFor_of_name pn_0) hisR ?_
  intro p e s m args below meth c s₁ Bd hml0 hP hK
  obtain ⟨rfl, hZ, hh⟩ := hP
  have hx := Bd.exec
  have hby := Bd.bytes
  have hml : c.maxLocals = 11 := hml0
  have hown : s.vm.findClass "com/example/hot_gate/hotgate/bench/OptionsLanesPinLaw" = some m.cls := findClass_of_methodNamed Bd.named
  have hnm := (name_of_methodNamed Bd.named Bd.method).1
  have X0 : Stand p l e room_1 (s.setVm s.vm) m #[(.int p0), (.int p1), (.long p2), (.int p3)] below meth c s₁ [] 0 0 := Stand.of_body Bd
  have e0 : s₁.heap = h0 := by rw [← hh, Bd.state]; rfl
  have N0 := Fr.nil n0
  have hS0 : s.Since s.vm s.heap.size := (State.WarmedH.refl s).since _
  have hk0 : s.heap.size ≤ h0.size := Nat.le_of_eq (congrArg Array.size hh)
  have s0 : Steps p.tables e below (s₁.setTop (entryFrame m #[(.int p0), (.int p1), (.long p2), (.int p3)] maxLocals)) (s₁.setTop (mkF m 0 #[.val (.int p0), .val (.int p1), .val (.long p2), .second, .val (.int p3), .unset, .unset, .unset, .unset, .unset, .unset] [])) := castTop (ef_rm0 m p0 p1 p2 p3) (Steps.refl _)
  have s1 : Steps p.tables e below (s₁.setTop (entryFrame m #[(.int p0), (.int p1), (.long p2), (.int p3)] maxLocals)) (s₁.setTop (mkF m 4 #[.val (.int p0), .val (.int p1), .val (.long p2), .second, .val (.int p3), .unset, .unset, .unset, .unset, .unset, .unset] [(.int (p3 &&& (1 : Int32)))])) := by
    refine s0.trans ?_
    show Steps p.tables e below (s₁.setTop (mkF m 0 #[.val (.int p0), .val (.int p1), .val (.long p2), .second, .val (.int p3), .unset, .unset, .unset, .unset, .unset, .unset] [])) _
    refine XS.iload X0.here hx rfl (hb hby at_0) rfl ?_
    show Steps p.tables e below (s₁.setTop (mkF m 2 #[.val (.int p0), .val (.int p1), .val (.long p2), .second, .val (.int p3), .unset, .unset, .unset, .unset, .unset, .unset] [(.int p3)])) _
    refine XS.iconst X0.here hx rfl (hb hby at_2) ?_
    show Steps p.tables e below (s₁.setTop (mkF m 3 #[.val (.int p0), .val (.int p1), .val (.long p2), .second, .val (.int p3), .unset, .unset, .unset, .unset, .unset, .unset] [(.int (1 : Int32)), (.int p3)])) _
    refine XS.iand X0.here hx rfl (hb hby at_3) rfl ?_
    exact Steps.refl _
  by_cases hc2 : (p3 &&& (1 : Int32)) = (0 : Int32)
  · obtain ⟨T3, X3, e3, st3⟩ := getS2 X0 hx hZ hown (host := "") (Or.inl (hw _ (List.mem_of_getElem? (i := 0) rfl))) Via.refl e0 (F0_.ext O0.2) (g := (mkF m 13 #[.val (.int p0), .val (.int p1), .val (.long p2), .second, .val (.int p3), .unset, .unset, .unset, .unset, .unset, .unset] [])) rfl (hb hby at_13)
    obtain ⟨T4, h4, X4, e4, E4, A4, D4, -, st4⟩ := newO X3 hx hZ hown (hw _ (List.mem_of_getElem? (i := 3) rfl)) (hw _ (List.mem_of_getElem? (i := 4) rfl)) (hw _ (List.mem_of_getElem? (i := 5) rfl)) e3 (g := (mkF m 18 #[.val (.int p0), .val (.int p1), .val (.long p2), .second, .val (.int p3), .val (.ref v_ROW_LOCK), .unset, .unset, .unset, .unset, .unset] [])) rfl (hb hby at_18) (by decide) (by decide)
    obtain ⟨b4, g4⟩ : ∃ z, z = h0.size := ⟨_, rfl⟩
    rw [← g4] at A4 D4 st4
    have g_b4 : n0 ≤ b4 := Nat.le_trans (Nat.le_of_eq O0.1.symm) (Nat.le_trans O0.2.1 (Nat.le_of_eq g4.symm))
    have O4 := O0.ext E4
    have hkk4 := Nat.le_trans hk0 E4.1
    have F4_mode : Fld Z h4 b4 "com/example/hot_gate/hotgate/bench/Options" "mode" "Lcom/example/hot_gate/hotgate/bench/Mode;" .null := D4 (Or.inr (hw _ (List.mem_of_getElem? (i := 26) rfl))) (ty := (.object "com/example/hot_gate/hotgate/bench/Mode")) (by decide)
    have F4_url : Fld Z h4 b4 "com/example/hot_gate/hotgate/bench/Options" "url" "Ljava/lang/String;" .null := D4 (Or.inr (hw _ (List.mem_of_getElem? (i := 28) rfl))) (ty := (.object "java/lang/String")) (by decide)
    have F4_dropId : Fld Z h4 b4 "com/example/hot_gate/hotgate/bench/Options" "dropId" "Ljava/lang/String;" .null := D4 (Or.inr (hw _ (List.mem_of_getElem? (i := 30) rfl))) (ty := (.object "java/lang/String")) (by decide)
    have F4_stock : Fld Z h4 b4 "com/example/hot_gate/hotgate/bench/Options" "stock" "J" (.long (0 : Int64)) := D4 (Or.inr (hw _ (List.mem_of_getElem? (i := 32) rfl))) (ty := .long) (by decide)
    have F4_claims : Fld Z h4 b4 "com/example/hot_gate/hotgate/bench/Options" "claims" "I" (.int (0 : Int32)) := D4 (Or.inr (hw _ (List.mem_of_getElem? (i := 34) rfl))) (ty := .int) (by decide)
    have F4_connections : Fld Z h4 b4 "com/example/hot_gate/hotgate/bench/Options" "connections" "I" (.int (0 : Int32)) := D4 (Or.inr (hw _ (List.mem_of_getElem? (i := 36) rfl))) (ty := .int) (by decide)
    have s5 : Steps p.tables e below (s₁.setTop (entryFrame m #[(.int p0), (.int p1), (.long p2), (.int p3)] maxLocals)) (T4.setTop (mkF m 25 #[.val (.int p0), .val (.int p1), .val (.long p2), .second, .val (.int p3), .val (.ref v_ROW_LOCK), .unset, .unset, .unset, .unset, .unset] [.null, (.ref v_ROW_LOCK), (.ref b4), (.ref b4)])) := by
      refine s1.trans ?_
      show Steps p.tables e below (s₁.setTop (mkF m 4 #[.val (.int p0), .val (.int p1), .val (.long p2), .second, .val (.int p3), .unset, .unset, .unset, .unset, .unset, .unset] [(.int (p3 &&& (1 : Int32)))])) _
      refine XS.ifYes X0.here hx rfl (pc0 := 4) (pc' := 13) rfl (hb hby at_4) rfl ((if0 _ _).trans (teq hc2).1) (by decide) (by decide) ?_
      show Steps p.tables e below (s₁.setTop (mkF m 13 #[.val (.int p0), .val (.int p1), .val (.long p2), .second, .val (.int p3), .unset, .unset, .unset, .unset, .unset, .unset] [])) _
      refine st3 _ ?_
      show Steps p.tables e below (T3.setTop (mkF m 16 #[.val (.int p0), .val (.int p1), .val (.long p2), .second, .val (.int p3), .unset, .unset, .unset, .unset, .unset, .unset] [(.ref v_ROW_LOCK)])) _
      refine XS.astore X3.here hx rfl (hb hby at_16) rfl rfl (l' := #[.val (.int p0), .val (.int p1), .val (.long p2), .second, .val (.int p3), .val (.ref v_ROW_LOCK), .unset, .unset, .unset, .unset, .unset]) rfl ?_
      show Steps p.tables e below (T3.setTop (mkF m 18 #[.val (.int p0), .val (.int p1), .val (.long p2), .second, .val (.int p3), .val (.ref v_ROW_LOCK), .unset, .unset, .unset, .unset, .unset] [])) _
      refine st4 _ ?_
      show Steps p.tables e below (T4.setTop (mkF m 21 #[.val (.int p0), .val (.int p1), .val (.long p2), .second, .val (.int p3), .val (.ref v_ROW_LOCK), .unset, .unset, .unset, .unset, .unset] [(.ref b4)])) _
      refine XS.dup X4.here hx rfl (hb hby at_21) rfl rfl ?_
      show Steps p.tables e below (T4.setTop (mkF m 22 #[.val (.int p0), .val (.int p1), .val (.long p2), .second, .val (.int p3), .val (.ref v_ROW_LOCK), .unset, .unset, .unset, .unset, .unset] [(.ref b4), (.ref b4)])) _
      refine XS.aload X4.here hx rfl (hb hby at_22) rfl rfl ?_
      show Steps p.tables e below (T4.setTop (mkF m 24 #[.val (.int p0), .val (.int p1), .val (.long p2), .second, .val (.int p3), .val (.ref v_ROW_LOCK), .unset, .unset, .unset, .unset, .unset] [(.ref v_ROW_LOCK), (.ref b4), (.ref b4)])) _
      refine XS.aconstNull X4.here hx rfl (hb hby at_24) ?_
      exact Steps.refl _
    obtain ⟨a6, T6, h6, k6, X6, e6, E6, hS6, hk6, hZ6, hown6, st6⟩ := ldcS X4 hx hZ hown (hw _ (List.mem_of_getElem? (i := 6) rfl)) (own_wS hw) e4 hS0 hkk4 (g := (mkF m 25 #[.val (.int p0), .val (.int p1), .val (.long p2), .second, .val (.int p3), .val (.ref v_ROW_LOCK), .unset, .unset, .unset, .unset, .unset] [.null, (.ref v_ROW_LOCK), (.ref b4), (.ref b4)])) rfl (hb hby at_25) (n := 4) (by decide) (by decide) (by decide) (by decide)
    have O6 := O4.ext E6
    have hkk6 := Nat.le_trans hkk4 E6.1
    have c7 : Exa Z h6 b4 "com/example/hot_gate/hotgate/bench/Options" := (A4.ext E6)
    have c8 : Fld Z h6 b4 "com/example/hot_gate/hotgate/bench/Options" "mode" "Lcom/example/hot_gate/hotgate/bench/Mode;" .null := (F4_mode.ext E6)
    have c9 : Fld Z h6 b4 "com/example/hot_gate/hotgate/bench/Options" "url" "Ljava/lang/String;" .null := (F4_url.ext E6)
    have c10 : Fld Z h6 b4 "com/example/hot_gate/hotgate/bench/Options" "dropId" "Ljava/lang/String;" .null := (F4_dropId.ext E6)
    have c11 : Fld Z h6 b4 "com/example/hot_gate/hotgate/bench/Options" "stock" "J" (.long (0 : Int64)) := (F4_stock.ext E6)
    have c12 : Fld Z h6 b4 "com/example/hot_gate/hotgate/bench/Options" "claims" "I" (.int (0 : Int32)) := (F4_claims.ext E6)
    have c13 : Fld Z h6 b4 "com/example/hot_gate/hotgate/bench/Options" "connections" "I" (.int (0 : Int32)) := (F4_connections.ext E6)
    obtain ⟨_, _, ⟨T14, L14, k14, n14⟩, -, X14, ⟨Lc14, hQ14, l14, y14, z14⟩, st14⟩ := X6.specialBack hx (y := (⟨"com/example/hot_gate/hotgate/bench/Options", "<init>", "(Lcom/example/hot_gate/hotgate/bench/Mode;Ljava/lang/String;Ljava/lang/String;JII)V"⟩ : MethodName)) rfl hown6 (mvT hZ6 (hw _ (List.mem_of_getElem? (i := 14) rfl))) (mvT hZ6 (hw _ (List.mem_of_getElem? (i := 15) rfl))) (mvT hZ6 (hw _ (List.mem_of_getElem? (i := 16) rfl))) (by decide) (backOf (W := 1) (rm1 l Z a0 hw [] b4 v_ROW_LOCK a6 p2 p0 p1 h6 n0 O6 c7 c8 c9 c10 c11 c12 c13 g_b4) hZ6 (hw _ (List.mem_of_getElem? (i := 16) rfl)) (hw _ (List.mem_of_getElem? (i := 5) rfl)) (by decide) (by decide)) (g := (mkF m 30 #[.val (.int p0), .val (.int p1), .val (.long p2), .second, .val (.int p3), .val (.ref v_ROW_LOCK), .unset, .unset, .unset, .unset, .unset] [(.int p1), (.int p0), (.long p2), (.ref a6), .null, (.ref v_ROW_LOCK), (.ref b4), (.ref b4)])) rfl (by rw [hml]; rfl) (Steps.refl _) (a := b4) (argsL := [(.ref v_ROW_LOCK), .null, (.ref a6), (.long p2), (.int p0), (.int p1)]) (rest := [(.ref b4)]) (lenOf pd_rm0_0 rfl) rfl (by show 2 * 0 + _ ≤ _; exact Nat.le_of_eq rfl) (hb hby at_30) (fun _ _ => ⟨rfl, e6, (by decide : 3 + 0 ≤ _), (by decide : 14 + 0 ≤ _)⟩)
    dsimp only [Pt.U, Pt.locs, Pt.cells, Pt.slots] at X14 l14 y14 z14 st14 hQ14
    subst l14 y14 z14
    obtain ⟨rfl, Nq14, Kc14, f14_0, f14_1, f14_2⟩ := hQ14
    have N14 := Fr.app N0 Nq14
    have O14 := O6.keep Kc14 (allS g_b4 all0)
    have hkk14 := Nat.le_trans hk6 Kc14.1
    obtain ⟨cq15, kq15, q15a, q15b, q15c⟩ := isOf hZ6 (rfl : T14.heap = T14.heap) f14_0
    obtain ⟨_, _, ⟨T15, L15, k15, n15⟩, -, X15, ⟨Lc15, hQ15, l15, y15, z15⟩, st15⟩ := X14.virtualBack hx (y := (⟨"com/example/hot_gate/hotgate/bench/Options", "lanes", "()I"⟩ : MethodName)) (z := (⟨"com/example/hot_gate/hotgate/bench/Options", "lanes", "()I"⟩ : MethodName)) hown6 (mvT hZ6 (hw _ (List.mem_of_getElem? (i := 37) rfl))) (mvT hZ6 (hw _ (List.mem_of_getElem? (i := 38) rfl))) (notFace_of_selects (args := #[]) (mvT hZ6 (hw _ (List.mem_of_getElem? (i := 40) rfl)))) (mvT hZ6 (hw _ (List.mem_of_getElem? (i := 40) rfl))) (mvT hZ6 (hw _ (List.mem_of_getElem? (i := 39) rfl))) (by decide) (backOf (W := 0) (rm4 l Z a0 hw [] b4 p1 p0 T14.heap n0 O14 f14_2 f14_1) hZ6 (hw _ (List.mem_of_getElem? (i := 41) rfl)) (hw _ (List.mem_of_getElem? (i := 5) rfl)) (by decide) (by decide)) q15a q15c (g := (mkF m 37 #[.val (.int p0), .val (.int p1), .val (.long p2), .second, .val (.int p3), .val (.ref v_ROW_LOCK), .val (.ref b4), .unset, .unset, .unset, .unset] [(.ref b4)])) rfl (by rw [hml]; rfl) (Steps.refl _) (argsL := []) (rest := []) (lenOf pd_rm0_1 rfl) rfl (by show 2 * 0 + _ ≤ _; exact Nat.le_of_eq rfl) (hb hby at_37) (fun _ _ => ⟨rfl, (rfl : T14.heap = T14.heap), (by decide : 3 + 0 ≤ _), (by decide : 14 + 0 ≤ _)⟩)
    dsimp only [Pt.U, Pt.locs, Pt.cells, Pt.slots] at X15 l15 y15 z15 st15 hQ15
    subst l15 y15 z15
    obtain ⟨rfl, Nq15, e15⟩ := hQ15
    have N15 := Fr.app N14 Nq15
    have s16 : Steps p.tables e below (s₁.setTop (entryFrame m #[(.int p0), (.int p1), (.long p2), (.int p3)] maxLocals)) (T15.setTop (mkF m 45 #[.val (.int p0), .val (.int p1), .val (.long p2), .second, .val (.int p3), .val (.ref v_ROW_LOCK), .val (.ref b4), .val (.int (own_min p1 p0)), .unset, .unset, .unset] [(.int p1), (.int (own_min p1 p0))])) := by
      refine s5.trans ?_
      show Steps p.tables e below (T4.setTop (mkF m 25 #[.val (.int p0), .val (.int p1), .val (.long p2), .second, .val (.int p3), .val (.ref v_ROW_LOCK), .unset, .unset, .unset, .unset, .unset] [.null, (.ref v_ROW_LOCK), (.ref b4), (.ref b4)])) _
      refine st6 _ ?_
      show Steps p.tables e below (T6.setTop (mkF m 27 #[.val (.int p0), .val (.int p1), .val (.long p2), .second, .val (.int p3), .val (.ref v_ROW_LOCK), .unset, .unset, .unset, .unset, .unset] [(.ref a6), .null, (.ref v_ROW_LOCK), (.ref b4), (.ref b4)])) _
      refine XS.lloadN X6.here hx rfl (hb hby at_27) rfl ?_
      show Steps p.tables e below (T6.setTop (mkF m 28 #[.val (.int p0), .val (.int p1), .val (.long p2), .second, .val (.int p3), .val (.ref v_ROW_LOCK), .unset, .unset, .unset, .unset, .unset] [(.long p2), (.ref a6), .null, (.ref v_ROW_LOCK), (.ref b4), (.ref b4)])) _
      refine XS.iloadN X6.here hx rfl (hb hby at_28) rfl ?_
      show Steps p.tables e below (T6.setTop (mkF m 29 #[.val (.int p0), .val (.int p1), .val (.long p2), .second, .val (.int p3), .val (.ref v_ROW_LOCK), .unset, .unset, .unset, .unset, .unset] [(.int p0), (.long p2), (.ref a6), .null, (.ref v_ROW_LOCK), (.ref b4), (.ref b4)])) _
      refine XS.iloadN X6.here hx rfl (hb hby at_29) rfl ?_
      show Steps p.tables e below (T6.setTop (mkF m 30 #[.val (.int p0), .val (.int p1), .val (.long p2), .second, .val (.int p3), .val (.ref v_ROW_LOCK), .unset, .unset, .unset, .unset, .unset] [(.int p1), (.int p0), (.long p2), (.ref a6), .null, (.ref v_ROW_LOCK), (.ref b4), (.ref b4)])) _
      refine st14.trans ?_
      show Steps p.tables e below (T14.setTop (mkF m 33 #[.val (.int p0), .val (.int p1), .val (.long p2), .second, .val (.int p3), .val (.ref v_ROW_LOCK), .unset, .unset, .unset, .unset, .unset] [(.ref b4)])) _
      refine XS.astore X14.here hx rfl (hb hby at_33) rfl rfl (l' := #[.val (.int p0), .val (.int p1), .val (.long p2), .second, .val (.int p3), .val (.ref v_ROW_LOCK), .val (.ref b4), .unset, .unset, .unset, .unset]) rfl ?_
      show Steps p.tables e below (T14.setTop (mkF m 35 #[.val (.int p0), .val (.int p1), .val (.long p2), .second, .val (.int p3), .val (.ref v_ROW_LOCK), .val (.ref b4), .unset, .unset, .unset, .unset] [])) _
      refine XS.aload X14.here hx rfl (hb hby at_35) rfl rfl ?_
      show Steps p.tables e below (T14.setTop (mkF m 37 #[.val (.int p0), .val (.int p1), .val (.long p2), .second, .val (.int p3), .val (.ref v_ROW_LOCK), .val (.ref b4), .unset, .unset, .unset, .unset] [(.ref b4)])) _
      refine st15.trans ?_
      show Steps p.tables e below (T15.setTop (mkF m 40 #[.val (.int p0), .val (.int p1), .val (.long p2), .second, .val (.int p3), .val (.ref v_ROW_LOCK), .val (.ref b4), .unset, .unset, .unset, .unset] [(.int (own_min p1 p0))])) _
      refine XS.istore X15.here hx rfl (hb hby at_40) rfl (l' := #[.val (.int p0), .val (.int p1), .val (.long p2), .second, .val (.int p3), .val (.ref v_ROW_LOCK), .val (.ref b4), .val (.int (own_min p1 p0)), .unset, .unset, .unset]) rfl ?_
      show Steps p.tables e below (T15.setTop (mkF m 42 #[.val (.int p0), .val (.int p1), .val (.long p2), .second, .val (.int p3), .val (.ref v_ROW_LOCK), .val (.ref b4), .val (.int (own_min p1 p0)), .unset, .unset, .unset] [])) _
      refine XS.iload X15.here hx rfl (hb hby at_42) rfl ?_
      show Steps p.tables e below (T15.setTop (mkF m 44 #[.val (.int p0), .val (.int p1), .val (.long p2), .second, .val (.int p3), .val (.ref v_ROW_LOCK), .val (.ref b4), .val (.int (own_min p1 p0)), .unset, .unset, .unset] [(.int (own_min p1 p0))])) _
      refine XS.iloadN X15.here hx rfl (hb hby at_44) rfl ?_
      exact Steps.refl _
    have s18 : Steps p.tables e below (s₁.setTop (entryFrame m #[(.int p0), (.int p1), (.long p2), (.int p3)] maxLocals)) (T15.setTop (mkF m 53 #[.val (.int p0), .val (.int p1), .val (.long p2), .second, .val (.int p3), .val (.ref v_ROW_LOCK), .val (.ref b4), .val (.int (own_min p1 p0)), .unset, .unset, .unset] [(.int (if p1 < (own_min p1 p0) then (0 : Int32) else (1 : Int32)))])) := by
      by_cases hm17 : p1 < (own_min p1 p0)
      · simp only [if_pos hm17]
        refine s16.trans ?_
        show Steps p.tables e below (T15.setTop (mkF m 45 #[.val (.int p0), .val (.int p1), .val (.long p2), .second, .val (.int p3), .val (.ref v_ROW_LOCK), .val (.ref b4), .val (.int (own_min p1 p0)), .unset, .unset, .unset] [(.int p1), (.int (own_min p1 p0))])) _
        refine XS.icmpYes X15.here hx rfl (pc0 := 45) (pc' := 52) rfl (hb hby at_45) rfl (tlt hm17).2.2.1 (by decide) (by decide) ?_
        show Steps p.tables e below (T15.setTop (mkF m 52 #[.val (.int p0), .val (.int p1), .val (.long p2), .second, .val (.int p3), .val (.ref v_ROW_LOCK), .val (.ref b4), .val (.int (own_min p1 p0)), .unset, .unset, .unset] [])) _
        refine XS.iconst X15.here hx rfl (hb hby at_52) ?_
        exact Steps.refl _
      · simp only [if_neg hm17]
        refine s16.trans ?_
        show Steps p.tables e below (T15.setTop (mkF m 45 #[.val (.int p0), .val (.int p1), .val (.long p2), .second, .val (.int p3), .val (.ref v_ROW_LOCK), .val (.ref b4), .val (.int (own_min p1 p0)), .unset, .unset, .unset] [(.int p1), (.int (own_min p1 p0))])) _
        refine XS.icmpNo X15.here hx rfl (hb hby at_45) rfl (flt hm17).2.2.1 ?_
        show Steps p.tables e below (T15.setTop (mkF m 48 #[.val (.int p0), .val (.int p1), .val (.long p2), .second, .val (.int p3), .val (.ref v_ROW_LOCK), .val (.ref b4), .val (.int (own_min p1 p0)), .unset, .unset, .unset] [])) _
        refine XS.iconst X15.here hx rfl (hb hby at_48) ?_
        show Steps p.tables e below (T15.setTop (mkF m 49 #[.val (.int p0), .val (.int p1), .val (.long p2), .second, .val (.int p3), .val (.ref v_ROW_LOCK), .val (.ref b4), .val (.int (own_min p1 p0)), .unset, .unset, .unset] [(.int (1 : Int32))])) _
        refine XS.goto X15.here hx rfl (pc0 := 49) (pc' := 53) rfl (hb hby at_49) (by decide) (by decide) ?_
        exact Steps.refl _
    obtain ⟨z1, hz1⟩ : ∃ z, z = (if p1 < (own_min p1 p0) then (0 : Int32) else (1 : Int32)) := ⟨_, rfl⟩
    rw [← hz1] at s18
    have s19 : Steps p.tables e below (s₁.setTop (entryFrame m #[(.int p0), (.int p1), (.long p2), (.int p3)] maxLocals)) (T15.setTop (mkF m 58 #[.val (.int p0), .val (.int p1), .val (.long p2), .second, .val (.int p3), .val (.ref v_ROW_LOCK), .val (.ref b4), .val (.int (own_min p1 p0)), .val (.int z1), .unset, .unset] [(.int p0), (.int (own_min p1 p0))])) := by
      refine s18.trans ?_
      show Steps p.tables e below (T15.setTop (mkF m 53 #[.val (.int p0), .val (.int p1), .val (.long p2), .second, .val (.int p3), .val (.ref v_ROW_LOCK), .val (.ref b4), .val (.int (own_min p1 p0)), .unset, .unset, .unset] [(.int z1)])) _
      refine XS.istore X15.here hx rfl (hb hby at_53) rfl (l' := #[.val (.int p0), .val (.int p1), .val (.long p2), .second, .val (.int p3), .val (.ref v_ROW_LOCK), .val (.ref b4), .val (.int (own_min p1 p0)), .val (.int z1), .unset, .unset]) rfl ?_
      show Steps p.tables e below (T15.setTop (mkF m 55 #[.val (.int p0), .val (.int p1), .val (.long p2), .second, .val (.int p3), .val (.ref v_ROW_LOCK), .val (.ref b4), .val (.int (own_min p1 p0)), .val (.int z1), .unset, .unset] [])) _
      refine XS.iload X15.here hx rfl (hb hby at_55) rfl ?_
      show Steps p.tables e below (T15.setTop (mkF m 57 #[.val (.int p0), .val (.int p1), .val (.long p2), .second, .val (.int p3), .val (.ref v_ROW_LOCK), .val (.ref b4), .val (.int (own_min p1 p0)), .val (.int z1), .unset, .unset] [(.int (own_min p1 p0))])) _
      refine XS.iloadN X15.here hx rfl (hb hby at_57) rfl ?_
      exact Steps.refl _
    have s21 : Steps p.tables e below (s₁.setTop (entryFrame m #[(.int p0), (.int p1), (.long p2), (.int p3)] maxLocals)) (T15.setTop (mkF m 66 #[.val (.int p0), .val (.int p1), .val (.long p2), .second, .val (.int p3), .val (.ref v_ROW_LOCK), .val (.ref b4), .val (.int (own_min p1 p0)), .val (.int z1), .unset, .unset] [(.int (if p0 < (own_min p1 p0) then (0 : Int32) else (1 : Int32)))])) := by
      by_cases hm20 : p0 < (own_min p1 p0)
      · simp only [if_pos hm20]
        refine s19.trans ?_
        show Steps p.tables e below (T15.setTop (mkF m 58 #[.val (.int p0), .val (.int p1), .val (.long p2), .second, .val (.int p3), .val (.ref v_ROW_LOCK), .val (.ref b4), .val (.int (own_min p1 p0)), .val (.int z1), .unset, .unset] [(.int p0), (.int (own_min p1 p0))])) _
        refine XS.icmpYes X15.here hx rfl (pc0 := 58) (pc' := 65) rfl (hb hby at_58) rfl (tlt hm20).2.2.1 (by decide) (by decide) ?_
        show Steps p.tables e below (T15.setTop (mkF m 65 #[.val (.int p0), .val (.int p1), .val (.long p2), .second, .val (.int p3), .val (.ref v_ROW_LOCK), .val (.ref b4), .val (.int (own_min p1 p0)), .val (.int z1), .unset, .unset] [])) _
        refine XS.iconst X15.here hx rfl (hb hby at_65) ?_
        exact Steps.refl _
      · simp only [if_neg hm20]
        refine s19.trans ?_
        show Steps p.tables e below (T15.setTop (mkF m 58 #[.val (.int p0), .val (.int p1), .val (.long p2), .second, .val (.int p3), .val (.ref v_ROW_LOCK), .val (.ref b4), .val (.int (own_min p1 p0)), .val (.int z1), .unset, .unset] [(.int p0), (.int (own_min p1 p0))])) _
        refine XS.icmpNo X15.here hx rfl (hb hby at_58) rfl (flt hm20).2.2.1 ?_
        show Steps p.tables e below (T15.setTop (mkF m 61 #[.val (.int p0), .val (.int p1), .val (.long p2), .second, .val (.int p3), .val (.ref v_ROW_LOCK), .val (.ref b4), .val (.int (own_min p1 p0)), .val (.int z1), .unset, .unset] [])) _
        refine XS.iconst X15.here hx rfl (hb hby at_61) ?_
        show Steps p.tables e below (T15.setTop (mkF m 62 #[.val (.int p0), .val (.int p1), .val (.long p2), .second, .val (.int p3), .val (.ref v_ROW_LOCK), .val (.ref b4), .val (.int (own_min p1 p0)), .val (.int z1), .unset, .unset] [(.int (1 : Int32))])) _
        refine XS.goto X15.here hx rfl (pc0 := 62) (pc' := 66) rfl (hb hby at_62) (by decide) (by decide) ?_
        exact Steps.refl _
    obtain ⟨z2, hz2⟩ : ∃ z, z = (if p0 < (own_min p1 p0) then (0 : Int32) else (1 : Int32)) := ⟨_, rfl⟩
    rw [← hz2] at s21
    have s22 : Steps p.tables e below (s₁.setTop (entryFrame m #[(.int p0), (.int p1), (.long p2), (.int p3)] maxLocals)) (T15.setTop (mkF m 71 #[.val (.int p0), .val (.int p1), .val (.long p2), .second, .val (.int p3), .val (.ref v_ROW_LOCK), .val (.ref b4), .val (.int (own_min p1 p0)), .val (.int z1), .val (.int z2), .unset] [(.int p1), (.int (own_min p1 p0))])) := by
      refine s21.trans ?_
      show Steps p.tables e below (T15.setTop (mkF m 66 #[.val (.int p0), .val (.int p1), .val (.long p2), .second, .val (.int p3), .val (.ref v_ROW_LOCK), .val (.ref b4), .val (.int (own_min p1 p0)), .val (.int z1), .unset, .unset] [(.int z2)])) _
      refine XS.istore X15.here hx rfl (hb hby at_66) rfl (l' := #[.val (.int p0), .val (.int p1), .val (.long p2), .second, .val (.int p3), .val (.ref v_ROW_LOCK), .val (.ref b4), .val (.int (own_min p1 p0)), .val (.int z1), .val (.int z2), .unset]) rfl ?_
      show Steps p.tables e below (T15.setTop (mkF m 68 #[.val (.int p0), .val (.int p1), .val (.long p2), .second, .val (.int p3), .val (.ref v_ROW_LOCK), .val (.ref b4), .val (.int (own_min p1 p0)), .val (.int z1), .val (.int z2), .unset] [])) _
      refine XS.iload X15.here hx rfl (hb hby at_68) rfl ?_
      show Steps p.tables e below (T15.setTop (mkF m 70 #[.val (.int p0), .val (.int p1), .val (.long p2), .second, .val (.int p3), .val (.ref v_ROW_LOCK), .val (.ref b4), .val (.int (own_min p1 p0)), .val (.int z1), .val (.int z2), .unset] [(.int (own_min p1 p0))])) _
      refine XS.iloadN X15.here hx rfl (hb hby at_70) rfl ?_
      exact Steps.refl _
    have s25 : Steps p.tables e below (s₁.setTop (entryFrame m #[(.int p0), (.int p1), (.long p2), (.int p3)] maxLocals)) (T15.setTop (mkF m 85 #[.val (.int p0), .val (.int p1), .val (.long p2), .second, .val (.int p3), .val (.ref v_ROW_LOCK), .val (.ref b4), .val (.int (own_min p1 p0)), .val (.int z1), .val (.int z2), .unset] [(.int (if (own_min p1 p0) = p1 then (1 : Int32) else (if (own_min p1 p0) = p0 then (1 : Int32) else (0 : Int32))))])) := by
      by_cases hm23 : (own_min p1 p0) = p1
      · simp only [if_pos hm23]
        refine s22.trans ?_
        show Steps p.tables e below (T15.setTop (mkF m 71 #[.val (.int p0), .val (.int p1), .val (.long p2), .second, .val (.int p3), .val (.ref v_ROW_LOCK), .val (.ref b4), .val (.int (own_min p1 p0)), .val (.int z1), .val (.int z2), .unset] [(.int p1), (.int (own_min p1 p0))])) _
        refine XS.icmpYes X15.here hx rfl (pc0 := 71) (pc' := 80) rfl (hb hby at_71) rfl (teq hm23).1 (by decide) (by decide) ?_
        show Steps p.tables e below (T15.setTop (mkF m 80 #[.val (.int p0), .val (.int p1), .val (.long p2), .second, .val (.int p3), .val (.ref v_ROW_LOCK), .val (.ref b4), .val (.int (own_min p1 p0)), .val (.int z1), .val (.int z2), .unset] [])) _
        refine XS.iconst X15.here hx rfl (hb hby at_80) ?_
        show Steps p.tables e below (T15.setTop (mkF m 81 #[.val (.int p0), .val (.int p1), .val (.long p2), .second, .val (.int p3), .val (.ref v_ROW_LOCK), .val (.ref b4), .val (.int (own_min p1 p0)), .val (.int z1), .val (.int z2), .unset] [(.int (1 : Int32))])) _
        refine XS.goto X15.here hx rfl (pc0 := 81) (pc' := 85) rfl (hb hby at_81) (by decide) (by decide) ?_
        exact Steps.refl _
      · simp only [if_neg hm23]
        by_cases hm24 : (own_min p1 p0) = p0
        · simp only [if_pos hm24]
          refine s22.trans ?_
          show Steps p.tables e below (T15.setTop (mkF m 71 #[.val (.int p0), .val (.int p1), .val (.long p2), .second, .val (.int p3), .val (.ref v_ROW_LOCK), .val (.ref b4), .val (.int (own_min p1 p0)), .val (.int z1), .val (.int z2), .unset] [(.int p1), (.int (own_min p1 p0))])) _
          refine XS.icmpNo X15.here hx rfl (hb hby at_71) rfl (feq hm23).1 ?_
          show Steps p.tables e below (T15.setTop (mkF m 74 #[.val (.int p0), .val (.int p1), .val (.long p2), .second, .val (.int p3), .val (.ref v_ROW_LOCK), .val (.ref b4), .val (.int (own_min p1 p0)), .val (.int z1), .val (.int z2), .unset] [])) _
          refine XS.iload X15.here hx rfl (hb hby at_74) rfl ?_
          show Steps p.tables e below (T15.setTop (mkF m 76 #[.val (.int p0), .val (.int p1), .val (.long p2), .second, .val (.int p3), .val (.ref v_ROW_LOCK), .val (.ref b4), .val (.int (own_min p1 p0)), .val (.int z1), .val (.int z2), .unset] [(.int (own_min p1 p0))])) _
          refine XS.iloadN X15.here hx rfl (hb hby at_76) rfl ?_
          show Steps p.tables e below (T15.setTop (mkF m 77 #[.val (.int p0), .val (.int p1), .val (.long p2), .second, .val (.int p3), .val (.ref v_ROW_LOCK), .val (.ref b4), .val (.int (own_min p1 p0)), .val (.int z1), .val (.int z2), .unset] [(.int p0), (.int (own_min p1 p0))])) _
          refine XS.icmpNo X15.here hx rfl (hb hby at_77) rfl (teq hm24).2 ?_
          show Steps p.tables e below (T15.setTop (mkF m 80 #[.val (.int p0), .val (.int p1), .val (.long p2), .second, .val (.int p3), .val (.ref v_ROW_LOCK), .val (.ref b4), .val (.int (own_min p1 p0)), .val (.int z1), .val (.int z2), .unset] [])) _
          refine XS.iconst X15.here hx rfl (hb hby at_80) ?_
          show Steps p.tables e below (T15.setTop (mkF m 81 #[.val (.int p0), .val (.int p1), .val (.long p2), .second, .val (.int p3), .val (.ref v_ROW_LOCK), .val (.ref b4), .val (.int (own_min p1 p0)), .val (.int z1), .val (.int z2), .unset] [(.int (1 : Int32))])) _
          refine XS.goto X15.here hx rfl (pc0 := 81) (pc' := 85) rfl (hb hby at_81) (by decide) (by decide) ?_
          exact Steps.refl _
        · simp only [if_neg hm24]
          refine s22.trans ?_
          show Steps p.tables e below (T15.setTop (mkF m 71 #[.val (.int p0), .val (.int p1), .val (.long p2), .second, .val (.int p3), .val (.ref v_ROW_LOCK), .val (.ref b4), .val (.int (own_min p1 p0)), .val (.int z1), .val (.int z2), .unset] [(.int p1), (.int (own_min p1 p0))])) _
          refine XS.icmpNo X15.here hx rfl (hb hby at_71) rfl (feq hm23).1 ?_
          show Steps p.tables e below (T15.setTop (mkF m 74 #[.val (.int p0), .val (.int p1), .val (.long p2), .second, .val (.int p3), .val (.ref v_ROW_LOCK), .val (.ref b4), .val (.int (own_min p1 p0)), .val (.int z1), .val (.int z2), .unset] [])) _
          refine XS.iload X15.here hx rfl (hb hby at_74) rfl ?_
          show Steps p.tables e below (T15.setTop (mkF m 76 #[.val (.int p0), .val (.int p1), .val (.long p2), .second, .val (.int p3), .val (.ref v_ROW_LOCK), .val (.ref b4), .val (.int (own_min p1 p0)), .val (.int z1), .val (.int z2), .unset] [(.int (own_min p1 p0))])) _
          refine XS.iloadN X15.here hx rfl (hb hby at_76) rfl ?_
          show Steps p.tables e below (T15.setTop (mkF m 77 #[.val (.int p0), .val (.int p1), .val (.long p2), .second, .val (.int p3), .val (.ref v_ROW_LOCK), .val (.ref b4), .val (.int (own_min p1 p0)), .val (.int z1), .val (.int z2), .unset] [(.int p0), (.int (own_min p1 p0))])) _
          refine XS.icmpYes X15.here hx rfl (pc0 := 77) (pc' := 84) rfl (hb hby at_77) rfl (feq hm24).2 (by decide) (by decide) ?_
          show Steps p.tables e below (T15.setTop (mkF m 84 #[.val (.int p0), .val (.int p1), .val (.long p2), .second, .val (.int p3), .val (.ref v_ROW_LOCK), .val (.ref b4), .val (.int (own_min p1 p0)), .val (.int z1), .val (.int z2), .unset] [])) _
          refine XS.iconst X15.here hx rfl (hb hby at_84) ?_
          exact Steps.refl _
    obtain ⟨z3, hz3⟩ : ∃ z, z = (if (own_min p1 p0) = p1 then (1 : Int32) else (if (own_min p1 p0) = p0 then (1 : Int32) else (0 : Int32))) := ⟨_, rfl⟩
    rw [← hz3] at s25
    have s26 : Steps p.tables e below (s₁.setTop (entryFrame m #[(.int p0), (.int p1), (.long p2), (.int p3)] maxLocals)) (T15.setTop (mkF m 107 #[.val (.int p0), .val (.int p1), .val (.long p2), .second, .val (.int p3), .val (.ref v_ROW_LOCK), .val (.ref b4), .val (.int (own_min p1 p0)), .val (.int z1), .val (.int z2), .val (.int z3)] [(.int (1 : Int32))])) := by
      refine s25.trans ?_
      show Steps p.tables e below (T15.setTop (mkF m 85 #[.val (.int p0), .val (.int p1), .val (.long p2), .second, .val (.int p3), .val (.ref v_ROW_LOCK), .val (.ref b4), .val (.int (own_min p1 p0)), .val (.int z1), .val (.int z2), .unset] [(.int z3)])) _
      refine XS.istore X15.here hx rfl (hb hby at_85) rfl (l' := #[.val (.int p0), .val (.int p1), .val (.long p2), .second, .val (.int p3), .val (.ref v_ROW_LOCK), .val (.ref b4), .val (.int (own_min p1 p0)), .val (.int z1), .val (.int z2), .val (.int z3)]) rfl ?_
      show Steps p.tables e below (T15.setTop (mkF m 87 #[.val (.int p0), .val (.int p1), .val (.long p2), .second, .val (.int p3), .val (.ref v_ROW_LOCK), .val (.ref b4), .val (.int (own_min p1 p0)), .val (.int z1), .val (.int z2), .val (.int z3)] [])) _
      refine XS.iload X15.here hx rfl (hb hby at_87) rfl ?_
      show Steps p.tables e below (T15.setTop (mkF m 89 #[.val (.int p0), .val (.int p1), .val (.long p2), .second, .val (.int p3), .val (.ref v_ROW_LOCK), .val (.ref b4), .val (.int (own_min p1 p0)), .val (.int z1), .val (.int z2), .val (.int z3)] [(.int z1)])) _
      refine XS.ifNo X15.here hx rfl (hb hby at_89) rfl ((if0 _ _).trans (feq (own_rm0_1 p0 p1 z1 hz1)).1) ?_
      show Steps p.tables e below (T15.setTop (mkF m 92 #[.val (.int p0), .val (.int p1), .val (.long p2), .second, .val (.int p3), .val (.ref v_ROW_LOCK), .val (.ref b4), .val (.int (own_min p1 p0)), .val (.int z1), .val (.int z2), .val (.int z3)] [])) _
      refine XS.iload X15.here hx rfl (hb hby at_92) rfl ?_
      show Steps p.tables e below (T15.setTop (mkF m 94 #[.val (.int p0), .val (.int p1), .val (.long p2), .second, .val (.int p3), .val (.ref v_ROW_LOCK), .val (.ref b4), .val (.int (own_min p1 p0)), .val (.int z1), .val (.int z2), .val (.int z3)] [(.int z2)])) _
      refine XS.ifNo X15.here hx rfl (hb hby at_94) rfl ((if0 _ _).trans (feq (own_rm0_2 p0 p1 z2 hz2)).1) ?_
      show Steps p.tables e below (T15.setTop (mkF m 97 #[.val (.int p0), .val (.int p1), .val (.long p2), .second, .val (.int p3), .val (.ref v_ROW_LOCK), .val (.ref b4), .val (.int (own_min p1 p0)), .val (.int z1), .val (.int z2), .val (.int z3)] [])) _
      refine XS.iload X15.here hx rfl (hb hby at_97) rfl ?_
      show Steps p.tables e below (T15.setTop (mkF m 99 #[.val (.int p0), .val (.int p1), .val (.long p2), .second, .val (.int p3), .val (.ref v_ROW_LOCK), .val (.ref b4), .val (.int (own_min p1 p0)), .val (.int z1), .val (.int z2), .val (.int z3)] [(.int z3)])) _
      refine XS.ifNo X15.here hx rfl (hb hby at_99) rfl ((if0 _ _).trans (feq (own_rm0_3 p0 p1 z3 hz3)).1) ?_
      show Steps p.tables e below (T15.setTop (mkF m 102 #[.val (.int p0), .val (.int p1), .val (.long p2), .second, .val (.int p3), .val (.ref v_ROW_LOCK), .val (.ref b4), .val (.int (own_min p1 p0)), .val (.int z1), .val (.int z2), .val (.int z3)] [])) _
      refine XS.iconst X15.here hx rfl (hb hby at_102) ?_
      show Steps p.tables e below (T15.setTop (mkF m 103 #[.val (.int p0), .val (.int p1), .val (.long p2), .second, .val (.int p3), .val (.ref v_ROW_LOCK), .val (.ref b4), .val (.int (own_min p1 p0)), .val (.int z1), .val (.int z2), .val (.int z3)] [(.int (1 : Int32))])) _
      refine XS.goto X15.here hx rfl (pc0 := 103) (pc' := 107) rfl (hb hby at_103) (by decide) (by decide) ?_
      exact Steps.refl _
    obtain ⟨fs, hr, hrun, hended, -, hW, hIn, hsame⟩ := X15.leaveW hS6 (by rw [e15]; exact hkk14) (v := some (.int (1 : Int32))) (fun h => by rw [Bd.returns] at h; cases h)
    refine ⟨_, _, s26.trans ?_, hrun, hended, _, _, rfl, ?_, ⟨_, rfl⟩, hW, hIn, hsame.mono (by decide) (by decide)⟩
    · show Steps p.tables e below (T15.setTop (mkF m 107 #[.val (.int p0), .val (.int p1), .val (.long p2), .second, .val (.int p3), .val (.ref v_ROW_LOCK), .val (.ref b4), .val (.int (own_min p1 p0)), .val (.int z1), .val (.int z2), .val (.int z3)] [(.int (1 : Int32))])) _
      exact retN X15 hx (t := .boolean) Bd.returns (by simp) (hb hby at_107) hr
    · show Q0 Z p0 p1 p2 p3 v_ROW_LOCK v_GATE h0 n0 _ T15.heap _
      rw [e15]
      exact ⟨rfl, N15⟩
  · obtain ⟨T27, X27, e27, st27⟩ := getS2 X0 hx hZ hown (host := "") (Or.inl (hw _ (List.mem_of_getElem? (i := 46) rfl))) Via.refl e0 (F2_.ext O0.2) (g := (mkF m 7 #[.val (.int p0), .val (.int p1), .val (.long p2), .second, .val (.int p3), .unset, .unset, .unset, .unset, .unset, .unset] [])) rfl (hb hby at_7)
    obtain ⟨T28, h28, X28, e28, E28, A28, D28, -, st28⟩ := newO X27 hx hZ hown (hw _ (List.mem_of_getElem? (i := 3) rfl)) (hw _ (List.mem_of_getElem? (i := 4) rfl)) (hw _ (List.mem_of_getElem? (i := 5) rfl)) e27 (g := (mkF m 18 #[.val (.int p0), .val (.int p1), .val (.long p2), .second, .val (.int p3), .val (.ref v_GATE), .unset, .unset, .unset, .unset, .unset] [])) rfl (hb hby at_18) (by decide) (by decide)
    obtain ⟨b28, g28⟩ : ∃ z, z = h0.size := ⟨_, rfl⟩
    rw [← g28] at A28 D28 st28
    have g_b28 : n0 ≤ b28 := Nat.le_trans (Nat.le_of_eq O0.1.symm) (Nat.le_trans O0.2.1 (Nat.le_of_eq g28.symm))
    have O28 := O0.ext E28
    have hkk28 := Nat.le_trans hk0 E28.1
    have F28_mode : Fld Z h28 b28 "com/example/hot_gate/hotgate/bench/Options" "mode" "Lcom/example/hot_gate/hotgate/bench/Mode;" .null := D28 (Or.inr (hw _ (List.mem_of_getElem? (i := 26) rfl))) (ty := (.object "com/example/hot_gate/hotgate/bench/Mode")) (by decide)
    have F28_url : Fld Z h28 b28 "com/example/hot_gate/hotgate/bench/Options" "url" "Ljava/lang/String;" .null := D28 (Or.inr (hw _ (List.mem_of_getElem? (i := 28) rfl))) (ty := (.object "java/lang/String")) (by decide)
    have F28_dropId : Fld Z h28 b28 "com/example/hot_gate/hotgate/bench/Options" "dropId" "Ljava/lang/String;" .null := D28 (Or.inr (hw _ (List.mem_of_getElem? (i := 30) rfl))) (ty := (.object "java/lang/String")) (by decide)
    have F28_stock : Fld Z h28 b28 "com/example/hot_gate/hotgate/bench/Options" "stock" "J" (.long (0 : Int64)) := D28 (Or.inr (hw _ (List.mem_of_getElem? (i := 32) rfl))) (ty := .long) (by decide)
    have F28_claims : Fld Z h28 b28 "com/example/hot_gate/hotgate/bench/Options" "claims" "I" (.int (0 : Int32)) := D28 (Or.inr (hw _ (List.mem_of_getElem? (i := 34) rfl))) (ty := .int) (by decide)
    have F28_connections : Fld Z h28 b28 "com/example/hot_gate/hotgate/bench/Options" "connections" "I" (.int (0 : Int32)) := D28 (Or.inr (hw _ (List.mem_of_getElem? (i := 36) rfl))) (ty := .int) (by decide)
    have s29 : Steps p.tables e below (s₁.setTop (entryFrame m #[(.int p0), (.int p1), (.long p2), (.int p3)] maxLocals)) (T28.setTop (mkF m 25 #[.val (.int p0), .val (.int p1), .val (.long p2), .second, .val (.int p3), .val (.ref v_GATE), .unset, .unset, .unset, .unset, .unset] [.null, (.ref v_GATE), (.ref b28), (.ref b28)])) := by
      refine s1.trans ?_
      show Steps p.tables e below (s₁.setTop (mkF m 4 #[.val (.int p0), .val (.int p1), .val (.long p2), .second, .val (.int p3), .unset, .unset, .unset, .unset, .unset, .unset] [(.int (p3 &&& (1 : Int32)))])) _
      refine XS.ifNo X0.here hx rfl (hb hby at_4) rfl ((if0 _ _).trans (feq hc2).1) ?_
      show Steps p.tables e below (s₁.setTop (mkF m 7 #[.val (.int p0), .val (.int p1), .val (.long p2), .second, .val (.int p3), .unset, .unset, .unset, .unset, .unset, .unset] [])) _
      refine st27 _ ?_
      show Steps p.tables e below (T27.setTop (mkF m 10 #[.val (.int p0), .val (.int p1), .val (.long p2), .second, .val (.int p3), .unset, .unset, .unset, .unset, .unset, .unset] [(.ref v_GATE)])) _
      refine XS.goto X27.here hx rfl (pc0 := 10) (pc' := 16) rfl (hb hby at_10) (by decide) (by decide) ?_
      show Steps p.tables e below (T27.setTop (mkF m 16 #[.val (.int p0), .val (.int p1), .val (.long p2), .second, .val (.int p3), .unset, .unset, .unset, .unset, .unset, .unset] [(.ref v_GATE)])) _
      refine XS.astore X27.here hx rfl (hb hby at_16) rfl rfl (l' := #[.val (.int p0), .val (.int p1), .val (.long p2), .second, .val (.int p3), .val (.ref v_GATE), .unset, .unset, .unset, .unset, .unset]) rfl ?_
      show Steps p.tables e below (T27.setTop (mkF m 18 #[.val (.int p0), .val (.int p1), .val (.long p2), .second, .val (.int p3), .val (.ref v_GATE), .unset, .unset, .unset, .unset, .unset] [])) _
      refine st28 _ ?_
      show Steps p.tables e below (T28.setTop (mkF m 21 #[.val (.int p0), .val (.int p1), .val (.long p2), .second, .val (.int p3), .val (.ref v_GATE), .unset, .unset, .unset, .unset, .unset] [(.ref b28)])) _
      refine XS.dup X28.here hx rfl (hb hby at_21) rfl rfl ?_
      show Steps p.tables e below (T28.setTop (mkF m 22 #[.val (.int p0), .val (.int p1), .val (.long p2), .second, .val (.int p3), .val (.ref v_GATE), .unset, .unset, .unset, .unset, .unset] [(.ref b28), (.ref b28)])) _
      refine XS.aload X28.here hx rfl (hb hby at_22) rfl rfl ?_
      show Steps p.tables e below (T28.setTop (mkF m 24 #[.val (.int p0), .val (.int p1), .val (.long p2), .second, .val (.int p3), .val (.ref v_GATE), .unset, .unset, .unset, .unset, .unset] [(.ref v_GATE), (.ref b28), (.ref b28)])) _
      refine XS.aconstNull X28.here hx rfl (hb hby at_24) ?_
      exact Steps.refl _
    obtain ⟨a30, T30, h30, k30, X30, e30, E30, hS30, hk30, hZ30, hown30, st30⟩ := ldcS X28 hx hZ hown (hw _ (List.mem_of_getElem? (i := 6) rfl)) (own_wS hw) e28 hS0 hkk28 (g := (mkF m 25 #[.val (.int p0), .val (.int p1), .val (.long p2), .second, .val (.int p3), .val (.ref v_GATE), .unset, .unset, .unset, .unset, .unset] [.null, (.ref v_GATE), (.ref b28), (.ref b28)])) rfl (hb hby at_25) (n := 4) (by decide) (by decide) (by decide) (by decide)
    have O30 := O28.ext E30
    have hkk30 := Nat.le_trans hkk28 E30.1
    have c31 : Exa Z h30 b28 "com/example/hot_gate/hotgate/bench/Options" := (A28.ext E30)
    have c32 : Fld Z h30 b28 "com/example/hot_gate/hotgate/bench/Options" "mode" "Lcom/example/hot_gate/hotgate/bench/Mode;" .null := (F28_mode.ext E30)
    have c33 : Fld Z h30 b28 "com/example/hot_gate/hotgate/bench/Options" "url" "Ljava/lang/String;" .null := (F28_url.ext E30)
    have c34 : Fld Z h30 b28 "com/example/hot_gate/hotgate/bench/Options" "dropId" "Ljava/lang/String;" .null := (F28_dropId.ext E30)
    have c35 : Fld Z h30 b28 "com/example/hot_gate/hotgate/bench/Options" "stock" "J" (.long (0 : Int64)) := (F28_stock.ext E30)
    have c36 : Fld Z h30 b28 "com/example/hot_gate/hotgate/bench/Options" "claims" "I" (.int (0 : Int32)) := (F28_claims.ext E30)
    have c37 : Fld Z h30 b28 "com/example/hot_gate/hotgate/bench/Options" "connections" "I" (.int (0 : Int32)) := (F28_connections.ext E30)
    obtain ⟨_, _, ⟨T38, L38, k38, n38⟩, -, X38, ⟨Lc38, hQ38, l38, y38, z38⟩, st38⟩ := X30.specialBack hx (y := (⟨"com/example/hot_gate/hotgate/bench/Options", "<init>", "(Lcom/example/hot_gate/hotgate/bench/Mode;Ljava/lang/String;Ljava/lang/String;JII)V"⟩ : MethodName)) rfl hown30 (mvT hZ30 (hw _ (List.mem_of_getElem? (i := 14) rfl))) (mvT hZ30 (hw _ (List.mem_of_getElem? (i := 15) rfl))) (mvT hZ30 (hw _ (List.mem_of_getElem? (i := 16) rfl))) (by decide) (backOf (W := 1) (rm1 l Z a0 hw [] b28 v_GATE a30 p2 p0 p1 h30 n0 O30 c31 c32 c33 c34 c35 c36 c37 g_b28) hZ30 (hw _ (List.mem_of_getElem? (i := 16) rfl)) (hw _ (List.mem_of_getElem? (i := 5) rfl)) (by decide) (by decide)) (g := (mkF m 30 #[.val (.int p0), .val (.int p1), .val (.long p2), .second, .val (.int p3), .val (.ref v_GATE), .unset, .unset, .unset, .unset, .unset] [(.int p1), (.int p0), (.long p2), (.ref a30), .null, (.ref v_GATE), (.ref b28), (.ref b28)])) rfl (by rw [hml]; rfl) (Steps.refl _) (a := b28) (argsL := [(.ref v_GATE), .null, (.ref a30), (.long p2), (.int p0), (.int p1)]) (rest := [(.ref b28)]) (lenOf pd_rm0_0 rfl) rfl (by show 2 * 0 + _ ≤ _; exact Nat.le_of_eq rfl) (hb hby at_30) (fun _ _ => ⟨rfl, e30, (by decide : 3 + 0 ≤ _), (by decide : 14 + 0 ≤ _)⟩)
    dsimp only [Pt.U, Pt.locs, Pt.cells, Pt.slots] at X38 l38 y38 z38 st38 hQ38
    subst l38 y38 z38
    obtain ⟨rfl, Nq38, Kc38, f38_0, f38_1, f38_2⟩ := hQ38
    have N38 := Fr.app N0 Nq38
    have O38 := O30.keep Kc38 (allS g_b28 all0)
    have hkk38 := Nat.le_trans hk30 Kc38.1
    obtain ⟨cq39, kq39, q39a, q39b, q39c⟩ := isOf hZ30 (rfl : T38.heap = T38.heap) f38_0
    obtain ⟨_, _, ⟨T39, L39, k39, n39⟩, -, X39, ⟨Lc39, hQ39, l39, y39, z39⟩, st39⟩ := X38.virtualBack hx (y := (⟨"com/example/hot_gate/hotgate/bench/Options", "lanes", "()I"⟩ : MethodName)) (z := (⟨"com/example/hot_gate/hotgate/bench/Options", "lanes", "()I"⟩ : MethodName)) hown30 (mvT hZ30 (hw _ (List.mem_of_getElem? (i := 37) rfl))) (mvT hZ30 (hw _ (List.mem_of_getElem? (i := 38) rfl))) (notFace_of_selects (args := #[]) (mvT hZ30 (hw _ (List.mem_of_getElem? (i := 40) rfl)))) (mvT hZ30 (hw _ (List.mem_of_getElem? (i := 40) rfl))) (mvT hZ30 (hw _ (List.mem_of_getElem? (i := 39) rfl))) (by decide) (backOf (W := 0) (rm4 l Z a0 hw [] b28 p1 p0 T38.heap n0 O38 f38_2 f38_1) hZ30 (hw _ (List.mem_of_getElem? (i := 41) rfl)) (hw _ (List.mem_of_getElem? (i := 5) rfl)) (by decide) (by decide)) q39a q39c (g := (mkF m 37 #[.val (.int p0), .val (.int p1), .val (.long p2), .second, .val (.int p3), .val (.ref v_GATE), .val (.ref b28), .unset, .unset, .unset, .unset] [(.ref b28)])) rfl (by rw [hml]; rfl) (Steps.refl _) (argsL := []) (rest := []) (lenOf pd_rm0_1 rfl) rfl (by show 2 * 0 + _ ≤ _; exact Nat.le_of_eq rfl) (hb hby at_37) (fun _ _ => ⟨rfl, (rfl : T38.heap = T38.heap), (by decide : 3 + 0 ≤ _), (by decide : 14 + 0 ≤ _)⟩)
    dsimp only [Pt.U, Pt.locs, Pt.cells, Pt.slots] at X39 l39 y39 z39 st39 hQ39
    subst l39 y39 z39
    obtain ⟨rfl, Nq39, e39⟩ := hQ39
    have N39 := Fr.app N38 Nq39
    have s40 : Steps p.tables e below (s₁.setTop (entryFrame m #[(.int p0), (.int p1), (.long p2), (.int p3)] maxLocals)) (T39.setTop (mkF m 45 #[.val (.int p0), .val (.int p1), .val (.long p2), .second, .val (.int p3), .val (.ref v_GATE), .val (.ref b28), .val (.int (own_min p1 p0)), .unset, .unset, .unset] [(.int p1), (.int (own_min p1 p0))])) := by
      refine s29.trans ?_
      show Steps p.tables e below (T28.setTop (mkF m 25 #[.val (.int p0), .val (.int p1), .val (.long p2), .second, .val (.int p3), .val (.ref v_GATE), .unset, .unset, .unset, .unset, .unset] [.null, (.ref v_GATE), (.ref b28), (.ref b28)])) _
      refine st30 _ ?_
      show Steps p.tables e below (T30.setTop (mkF m 27 #[.val (.int p0), .val (.int p1), .val (.long p2), .second, .val (.int p3), .val (.ref v_GATE), .unset, .unset, .unset, .unset, .unset] [(.ref a30), .null, (.ref v_GATE), (.ref b28), (.ref b28)])) _
      refine XS.lloadN X30.here hx rfl (hb hby at_27) rfl ?_
      show Steps p.tables e below (T30.setTop (mkF m 28 #[.val (.int p0), .val (.int p1), .val (.long p2), .second, .val (.int p3), .val (.ref v_GATE), .unset, .unset, .unset, .unset, .unset] [(.long p2), (.ref a30), .null, (.ref v_GATE), (.ref b28), (.ref b28)])) _
      refine XS.iloadN X30.here hx rfl (hb hby at_28) rfl ?_
      show Steps p.tables e below (T30.setTop (mkF m 29 #[.val (.int p0), .val (.int p1), .val (.long p2), .second, .val (.int p3), .val (.ref v_GATE), .unset, .unset, .unset, .unset, .unset] [(.int p0), (.long p2), (.ref a30), .null, (.ref v_GATE), (.ref b28), (.ref b28)])) _
      refine XS.iloadN X30.here hx rfl (hb hby at_29) rfl ?_
      show Steps p.tables e below (T30.setTop (mkF m 30 #[.val (.int p0), .val (.int p1), .val (.long p2), .second, .val (.int p3), .val (.ref v_GATE), .unset, .unset, .unset, .unset, .unset] [(.int p1), (.int p0), (.long p2), (.ref a30), .null, (.ref v_GATE), (.ref b28), (.ref b28)])) _
      refine st38.trans ?_
      show Steps p.tables e below (T38.setTop (mkF m 33 #[.val (.int p0), .val (.int p1), .val (.long p2), .second, .val (.int p3), .val (.ref v_GATE), .unset, .unset, .unset, .unset, .unset] [(.ref b28)])) _
      refine XS.astore X38.here hx rfl (hb hby at_33) rfl rfl (l' := #[.val (.int p0), .val (.int p1), .val (.long p2), .second, .val (.int p3), .val (.ref v_GATE), .val (.ref b28), .unset, .unset, .unset, .unset]) rfl ?_
      show Steps p.tables e below (T38.setTop (mkF m 35 #[.val (.int p0), .val (.int p1), .val (.long p2), .second, .val (.int p3), .val (.ref v_GATE), .val (.ref b28), .unset, .unset, .unset, .unset] [])) _
      refine XS.aload X38.here hx rfl (hb hby at_35) rfl rfl ?_
      show Steps p.tables e below (T38.setTop (mkF m 37 #[.val (.int p0), .val (.int p1), .val (.long p2), .second, .val (.int p3), .val (.ref v_GATE), .val (.ref b28), .unset, .unset, .unset, .unset] [(.ref b28)])) _
      refine st39.trans ?_
      show Steps p.tables e below (T39.setTop (mkF m 40 #[.val (.int p0), .val (.int p1), .val (.long p2), .second, .val (.int p3), .val (.ref v_GATE), .val (.ref b28), .unset, .unset, .unset, .unset] [(.int (own_min p1 p0))])) _
      refine XS.istore X39.here hx rfl (hb hby at_40) rfl (l' := #[.val (.int p0), .val (.int p1), .val (.long p2), .second, .val (.int p3), .val (.ref v_GATE), .val (.ref b28), .val (.int (own_min p1 p0)), .unset, .unset, .unset]) rfl ?_
      show Steps p.tables e below (T39.setTop (mkF m 42 #[.val (.int p0), .val (.int p1), .val (.long p2), .second, .val (.int p3), .val (.ref v_GATE), .val (.ref b28), .val (.int (own_min p1 p0)), .unset, .unset, .unset] [])) _
      refine XS.iload X39.here hx rfl (hb hby at_42) rfl ?_
      show Steps p.tables e below (T39.setTop (mkF m 44 #[.val (.int p0), .val (.int p1), .val (.long p2), .second, .val (.int p3), .val (.ref v_GATE), .val (.ref b28), .val (.int (own_min p1 p0)), .unset, .unset, .unset] [(.int (own_min p1 p0))])) _
      refine XS.iloadN X39.here hx rfl (hb hby at_44) rfl ?_
      exact Steps.refl _
    have s42 : Steps p.tables e below (s₁.setTop (entryFrame m #[(.int p0), (.int p1), (.long p2), (.int p3)] maxLocals)) (T39.setTop (mkF m 53 #[.val (.int p0), .val (.int p1), .val (.long p2), .second, .val (.int p3), .val (.ref v_GATE), .val (.ref b28), .val (.int (own_min p1 p0)), .unset, .unset, .unset] [(.int (if p1 < (own_min p1 p0) then (0 : Int32) else (1 : Int32)))])) := by
      by_cases hm41 : p1 < (own_min p1 p0)
      · simp only [if_pos hm41]
        refine s40.trans ?_
        show Steps p.tables e below (T39.setTop (mkF m 45 #[.val (.int p0), .val (.int p1), .val (.long p2), .second, .val (.int p3), .val (.ref v_GATE), .val (.ref b28), .val (.int (own_min p1 p0)), .unset, .unset, .unset] [(.int p1), (.int (own_min p1 p0))])) _
        refine XS.icmpYes X39.here hx rfl (pc0 := 45) (pc' := 52) rfl (hb hby at_45) rfl (tlt hm41).2.2.1 (by decide) (by decide) ?_
        show Steps p.tables e below (T39.setTop (mkF m 52 #[.val (.int p0), .val (.int p1), .val (.long p2), .second, .val (.int p3), .val (.ref v_GATE), .val (.ref b28), .val (.int (own_min p1 p0)), .unset, .unset, .unset] [])) _
        refine XS.iconst X39.here hx rfl (hb hby at_52) ?_
        exact Steps.refl _
      · simp only [if_neg hm41]
        refine s40.trans ?_
        show Steps p.tables e below (T39.setTop (mkF m 45 #[.val (.int p0), .val (.int p1), .val (.long p2), .second, .val (.int p3), .val (.ref v_GATE), .val (.ref b28), .val (.int (own_min p1 p0)), .unset, .unset, .unset] [(.int p1), (.int (own_min p1 p0))])) _
        refine XS.icmpNo X39.here hx rfl (hb hby at_45) rfl (flt hm41).2.2.1 ?_
        show Steps p.tables e below (T39.setTop (mkF m 48 #[.val (.int p0), .val (.int p1), .val (.long p2), .second, .val (.int p3), .val (.ref v_GATE), .val (.ref b28), .val (.int (own_min p1 p0)), .unset, .unset, .unset] [])) _
        refine XS.iconst X39.here hx rfl (hb hby at_48) ?_
        show Steps p.tables e below (T39.setTop (mkF m 49 #[.val (.int p0), .val (.int p1), .val (.long p2), .second, .val (.int p3), .val (.ref v_GATE), .val (.ref b28), .val (.int (own_min p1 p0)), .unset, .unset, .unset] [(.int (1 : Int32))])) _
        refine XS.goto X39.here hx rfl (pc0 := 49) (pc' := 53) rfl (hb hby at_49) (by decide) (by decide) ?_
        exact Steps.refl _
    obtain ⟨z1, hz1⟩ : ∃ z, z = (if p1 < (own_min p1 p0) then (0 : Int32) else (1 : Int32)) := ⟨_, rfl⟩
    rw [← hz1] at s42
    have s43 : Steps p.tables e below (s₁.setTop (entryFrame m #[(.int p0), (.int p1), (.long p2), (.int p3)] maxLocals)) (T39.setTop (mkF m 58 #[.val (.int p0), .val (.int p1), .val (.long p2), .second, .val (.int p3), .val (.ref v_GATE), .val (.ref b28), .val (.int (own_min p1 p0)), .val (.int z1), .unset, .unset] [(.int p0), (.int (own_min p1 p0))])) := by
      refine s42.trans ?_
      show Steps p.tables e below (T39.setTop (mkF m 53 #[.val (.int p0), .val (.int p1), .val (.long p2), .second, .val (.int p3), .val (.ref v_GATE), .val (.ref b28), .val (.int (own_min p1 p0)), .unset, .unset, .unset] [(.int z1)])) _
      refine XS.istore X39.here hx rfl (hb hby at_53) rfl (l' := #[.val (.int p0), .val (.int p1), .val (.long p2), .second, .val (.int p3), .val (.ref v_GATE), .val (.ref b28), .val (.int (own_min p1 p0)), .val (.int z1), .unset, .unset]) rfl ?_
      show Steps p.tables e below (T39.setTop (mkF m 55 #[.val (.int p0), .val (.int p1), .val (.long p2), .second, .val (.int p3), .val (.ref v_GATE), .val (.ref b28), .val (.int (own_min p1 p0)), .val (.int z1), .unset, .unset] [])) _
      refine XS.iload X39.here hx rfl (hb hby at_55) rfl ?_
      show Steps p.tables e below (T39.setTop (mkF m 57 #[.val (.int p0), .val (.int p1), .val (.long p2), .second, .val (.int p3), .val (.ref v_GATE), .val (.ref b28), .val (.int (own_min p1 p0)), .val (.int z1), .unset, .unset] [(.int (own_min p1 p0))])) _
      refine XS.iloadN X39.here hx rfl (hb hby at_57) rfl ?_
      exact Steps.refl _
    have s45 : Steps p.tables e below (s₁.setTop (entryFrame m #[(.int p0), (.int p1), (.long p2), (.int p3)] maxLocals)) (T39.setTop (mkF m 66 #[.val (.int p0), .val (.int p1), .val (.long p2), .second, .val (.int p3), .val (.ref v_GATE), .val (.ref b28), .val (.int (own_min p1 p0)), .val (.int z1), .unset, .unset] [(.int (if p0 < (own_min p1 p0) then (0 : Int32) else (1 : Int32)))])) := by
      by_cases hm44 : p0 < (own_min p1 p0)
      · simp only [if_pos hm44]
        refine s43.trans ?_
        show Steps p.tables e below (T39.setTop (mkF m 58 #[.val (.int p0), .val (.int p1), .val (.long p2), .second, .val (.int p3), .val (.ref v_GATE), .val (.ref b28), .val (.int (own_min p1 p0)), .val (.int z1), .unset, .unset] [(.int p0), (.int (own_min p1 p0))])) _
        refine XS.icmpYes X39.here hx rfl (pc0 := 58) (pc' := 65) rfl (hb hby at_58) rfl (tlt hm44).2.2.1 (by decide) (by decide) ?_
        show Steps p.tables e below (T39.setTop (mkF m 65 #[.val (.int p0), .val (.int p1), .val (.long p2), .second, .val (.int p3), .val (.ref v_GATE), .val (.ref b28), .val (.int (own_min p1 p0)), .val (.int z1), .unset, .unset] [])) _
        refine XS.iconst X39.here hx rfl (hb hby at_65) ?_
        exact Steps.refl _
      · simp only [if_neg hm44]
        refine s43.trans ?_
        show Steps p.tables e below (T39.setTop (mkF m 58 #[.val (.int p0), .val (.int p1), .val (.long p2), .second, .val (.int p3), .val (.ref v_GATE), .val (.ref b28), .val (.int (own_min p1 p0)), .val (.int z1), .unset, .unset] [(.int p0), (.int (own_min p1 p0))])) _
        refine XS.icmpNo X39.here hx rfl (hb hby at_58) rfl (flt hm44).2.2.1 ?_
        show Steps p.tables e below (T39.setTop (mkF m 61 #[.val (.int p0), .val (.int p1), .val (.long p2), .second, .val (.int p3), .val (.ref v_GATE), .val (.ref b28), .val (.int (own_min p1 p0)), .val (.int z1), .unset, .unset] [])) _
        refine XS.iconst X39.here hx rfl (hb hby at_61) ?_
        show Steps p.tables e below (T39.setTop (mkF m 62 #[.val (.int p0), .val (.int p1), .val (.long p2), .second, .val (.int p3), .val (.ref v_GATE), .val (.ref b28), .val (.int (own_min p1 p0)), .val (.int z1), .unset, .unset] [(.int (1 : Int32))])) _
        refine XS.goto X39.here hx rfl (pc0 := 62) (pc' := 66) rfl (hb hby at_62) (by decide) (by decide) ?_
        exact Steps.refl _
    obtain ⟨z2, hz2⟩ : ∃ z, z = (if p0 < (own_min p1 p0) then (0 : Int32) else (1 : Int32)) := ⟨_, rfl⟩
    rw [← hz2] at s45
    have s46 : Steps p.tables e below (s₁.setTop (entryFrame m #[(.int p0), (.int p1), (.long p2), (.int p3)] maxLocals)) (T39.setTop (mkF m 71 #[.val (.int p0), .val (.int p1), .val (.long p2), .second, .val (.int p3), .val (.ref v_GATE), .val (.ref b28), .val (.int (own_min p1 p0)), .val (.int z1), .val (.int z2), .unset] [(.int p1), (.int (own_min p1 p0))])) := by
      refine s45.trans ?_
      show Steps p.tables e below (T39.setTop (mkF m 66 #[.val (.int p0), .val (.int p1), .val (.long p2), .second, .val (.int p3), .val (.ref v_GATE), .val (.ref b28), .val (.int (own_min p1 p0)), .val (.int z1), .unset, .unset] [(.int z2)])) _
      refine XS.istore X39.here hx rfl (hb hby at_66) rfl (l' := #[.val (.int p0), .val (.int p1), .val (.long p2), .second, .val (.int p3), .val (.ref v_GATE), .val (.ref b28), .val (.int (own_min p1 p0)), .val (.int z1), .val (.int z2), .unset]) rfl ?_
      show Steps p.tables e below (T39.setTop (mkF m 68 #[.val (.int p0), .val (.int p1), .val (.long p2), .second, .val (.int p3), .val (.ref v_GATE), .val (.ref b28), .val (.int (own_min p1 p0)), .val (.int z1), .val (.int z2), .unset] [])) _
      refine XS.iload X39.here hx rfl (hb hby at_68) rfl ?_
      show Steps p.tables e below (T39.setTop (mkF m 70 #[.val (.int p0), .val (.int p1), .val (.long p2), .second, .val (.int p3), .val (.ref v_GATE), .val (.ref b28), .val (.int (own_min p1 p0)), .val (.int z1), .val (.int z2), .unset] [(.int (own_min p1 p0))])) _
      refine XS.iloadN X39.here hx rfl (hb hby at_70) rfl ?_
      exact Steps.refl _
    have s49 : Steps p.tables e below (s₁.setTop (entryFrame m #[(.int p0), (.int p1), (.long p2), (.int p3)] maxLocals)) (T39.setTop (mkF m 85 #[.val (.int p0), .val (.int p1), .val (.long p2), .second, .val (.int p3), .val (.ref v_GATE), .val (.ref b28), .val (.int (own_min p1 p0)), .val (.int z1), .val (.int z2), .unset] [(.int (if (own_min p1 p0) = p1 then (1 : Int32) else (if (own_min p1 p0) = p0 then (1 : Int32) else (0 : Int32))))])) := by
      by_cases hm47 : (own_min p1 p0) = p1
      · simp only [if_pos hm47]
        refine s46.trans ?_
        show Steps p.tables e below (T39.setTop (mkF m 71 #[.val (.int p0), .val (.int p1), .val (.long p2), .second, .val (.int p3), .val (.ref v_GATE), .val (.ref b28), .val (.int (own_min p1 p0)), .val (.int z1), .val (.int z2), .unset] [(.int p1), (.int (own_min p1 p0))])) _
        refine XS.icmpYes X39.here hx rfl (pc0 := 71) (pc' := 80) rfl (hb hby at_71) rfl (teq hm47).1 (by decide) (by decide) ?_
        show Steps p.tables e below (T39.setTop (mkF m 80 #[.val (.int p0), .val (.int p1), .val (.long p2), .second, .val (.int p3), .val (.ref v_GATE), .val (.ref b28), .val (.int (own_min p1 p0)), .val (.int z1), .val (.int z2), .unset] [])) _
        refine XS.iconst X39.here hx rfl (hb hby at_80) ?_
        show Steps p.tables e below (T39.setTop (mkF m 81 #[.val (.int p0), .val (.int p1), .val (.long p2), .second, .val (.int p3), .val (.ref v_GATE), .val (.ref b28), .val (.int (own_min p1 p0)), .val (.int z1), .val (.int z2), .unset] [(.int (1 : Int32))])) _
        refine XS.goto X39.here hx rfl (pc0 := 81) (pc' := 85) rfl (hb hby at_81) (by decide) (by decide) ?_
        exact Steps.refl _
      · simp only [if_neg hm47]
        by_cases hm48 : (own_min p1 p0) = p0
        · simp only [if_pos hm48]
          refine s46.trans ?_
          show Steps p.tables e below (T39.setTop (mkF m 71 #[.val (.int p0), .val (.int p1), .val (.long p2), .second, .val (.int p3), .val (.ref v_GATE), .val (.ref b28), .val (.int (own_min p1 p0)), .val (.int z1), .val (.int z2), .unset] [(.int p1), (.int (own_min p1 p0))])) _
          refine XS.icmpNo X39.here hx rfl (hb hby at_71) rfl (feq hm47).1 ?_
          show Steps p.tables e below (T39.setTop (mkF m 74 #[.val (.int p0), .val (.int p1), .val (.long p2), .second, .val (.int p3), .val (.ref v_GATE), .val (.ref b28), .val (.int (own_min p1 p0)), .val (.int z1), .val (.int z2), .unset] [])) _
          refine XS.iload X39.here hx rfl (hb hby at_74) rfl ?_
          show Steps p.tables e below (T39.setTop (mkF m 76 #[.val (.int p0), .val (.int p1), .val (.long p2), .second, .val (.int p3), .val (.ref v_GATE), .val (.ref b28), .val (.int (own_min p1 p0)), .val (.int z1), .val (.int z2), .unset] [(.int (own_min p1 p0))])) _
          refine XS.iloadN X39.here hx rfl (hb hby at_76) rfl ?_
          show Steps p.tables e below (T39.setTop (mkF m 77 #[.val (.int p0), .val (.int p1), .val (.long p2), .second, .val (.int p3), .val (.ref v_GATE), .val (.ref b28), .val (.int (own_min p1 p0)), .val (.int z1), .val (.int z2), .unset] [(.int p0), (.int (own_min p1 p0))])) _
          refine XS.icmpNo X39.here hx rfl (hb hby at_77) rfl (teq hm48).2 ?_
          show Steps p.tables e below (T39.setTop (mkF m 80 #[.val (.int p0), .val (.int p1), .val (.long p2), .second, .val (.int p3), .val (.ref v_GATE), .val (.ref b28), .val (.int (own_min p1 p0)), .val (.int z1), .val (.int z2), .unset] [])) _
          refine XS.iconst X39.here hx rfl (hb hby at_80) ?_
          show Steps p.tables e below (T39.setTop (mkF m 81 #[.val (.int p0), .val (.int p1), .val (.long p2), .second, .val (.int p3), .val (.ref v_GATE), .val (.ref b28), .val (.int (own_min p1 p0)), .val (.int z1), .val (.int z2), .unset] [(.int (1 : Int32))])) _
          refine XS.goto X39.here hx rfl (pc0 := 81) (pc' := 85) rfl (hb hby at_81) (by decide) (by decide) ?_
          exact Steps.refl _
        · simp only [if_neg hm48]
          refine s46.trans ?_
          show Steps p.tables e below (T39.setTop (mkF m 71 #[.val (.int p0), .val (.int p1), .val (.long p2), .second, .val (.int p3), .val (.ref v_GATE), .val (.ref b28), .val (.int (own_min p1 p0)), .val (.int z1), .val (.int z2), .unset] [(.int p1), (.int (own_min p1 p0))])) _
          refine XS.icmpNo X39.here hx rfl (hb hby at_71) rfl (feq hm47).1 ?_
          show Steps p.tables e below (T39.setTop (mkF m 74 #[.val (.int p0), .val (.int p1), .val (.long p2), .second, .val (.int p3), .val (.ref v_GATE), .val (.ref b28), .val (.int (own_min p1 p0)), .val (.int z1), .val (.int z2), .unset] [])) _
          refine XS.iload X39.here hx rfl (hb hby at_74) rfl ?_
          show Steps p.tables e below (T39.setTop (mkF m 76 #[.val (.int p0), .val (.int p1), .val (.long p2), .second, .val (.int p3), .val (.ref v_GATE), .val (.ref b28), .val (.int (own_min p1 p0)), .val (.int z1), .val (.int z2), .unset] [(.int (own_min p1 p0))])) _
          refine XS.iloadN X39.here hx rfl (hb hby at_76) rfl ?_
          show Steps p.tables e below (T39.setTop (mkF m 77 #[.val (.int p0), .val (.int p1), .val (.long p2), .second, .val (.int p3), .val (.ref v_GATE), .val (.ref b28), .val (.int (own_min p1 p0)), .val (.int z1), .val (.int z2), .unset] [(.int p0), (.int (own_min p1 p0))])) _
          refine XS.icmpYes X39.here hx rfl (pc0 := 77) (pc' := 84) rfl (hb hby at_77) rfl (feq hm48).2 (by decide) (by decide) ?_
          show Steps p.tables e below (T39.setTop (mkF m 84 #[.val (.int p0), .val (.int p1), .val (.long p2), .second, .val (.int p3), .val (.ref v_GATE), .val (.ref b28), .val (.int (own_min p1 p0)), .val (.int z1), .val (.int z2), .unset] [])) _
          refine XS.iconst X39.here hx rfl (hb hby at_84) ?_
          exact Steps.refl _
    obtain ⟨z3, hz3⟩ : ∃ z, z = (if (own_min p1 p0) = p1 then (1 : Int32) else (if (own_min p1 p0) = p0 then (1 : Int32) else (0 : Int32))) := ⟨_, rfl⟩
    rw [← hz3] at s49
    have s50 : Steps p.tables e below (s₁.setTop (entryFrame m #[(.int p0), (.int p1), (.long p2), (.int p3)] maxLocals)) (T39.setTop (mkF m 107 #[.val (.int p0), .val (.int p1), .val (.long p2), .second, .val (.int p3), .val (.ref v_GATE), .val (.ref b28), .val (.int (own_min p1 p0)), .val (.int z1), .val (.int z2), .val (.int z3)] [(.int (1 : Int32))])) := by
      refine s49.trans ?_
      show Steps p.tables e below (T39.setTop (mkF m 85 #[.val (.int p0), .val (.int p1), .val (.long p2), .second, .val (.int p3), .val (.ref v_GATE), .val (.ref b28), .val (.int (own_min p1 p0)), .val (.int z1), .val (.int z2), .unset] [(.int z3)])) _
      refine XS.istore X39.here hx rfl (hb hby at_85) rfl (l' := #[.val (.int p0), .val (.int p1), .val (.long p2), .second, .val (.int p3), .val (.ref v_GATE), .val (.ref b28), .val (.int (own_min p1 p0)), .val (.int z1), .val (.int z2), .val (.int z3)]) rfl ?_
      show Steps p.tables e below (T39.setTop (mkF m 87 #[.val (.int p0), .val (.int p1), .val (.long p2), .second, .val (.int p3), .val (.ref v_GATE), .val (.ref b28), .val (.int (own_min p1 p0)), .val (.int z1), .val (.int z2), .val (.int z3)] [])) _
      refine XS.iload X39.here hx rfl (hb hby at_87) rfl ?_
      show Steps p.tables e below (T39.setTop (mkF m 89 #[.val (.int p0), .val (.int p1), .val (.long p2), .second, .val (.int p3), .val (.ref v_GATE), .val (.ref b28), .val (.int (own_min p1 p0)), .val (.int z1), .val (.int z2), .val (.int z3)] [(.int z1)])) _
      refine XS.ifNo X39.here hx rfl (hb hby at_89) rfl ((if0 _ _).trans (feq (own_rm0_4 p0 p1 z1 hz1)).1) ?_
      show Steps p.tables e below (T39.setTop (mkF m 92 #[.val (.int p0), .val (.int p1), .val (.long p2), .second, .val (.int p3), .val (.ref v_GATE), .val (.ref b28), .val (.int (own_min p1 p0)), .val (.int z1), .val (.int z2), .val (.int z3)] [])) _
      refine XS.iload X39.here hx rfl (hb hby at_92) rfl ?_
      show Steps p.tables e below (T39.setTop (mkF m 94 #[.val (.int p0), .val (.int p1), .val (.long p2), .second, .val (.int p3), .val (.ref v_GATE), .val (.ref b28), .val (.int (own_min p1 p0)), .val (.int z1), .val (.int z2), .val (.int z3)] [(.int z2)])) _
      refine XS.ifNo X39.here hx rfl (hb hby at_94) rfl ((if0 _ _).trans (feq (own_rm0_5 p0 p1 z2 hz2)).1) ?_
      show Steps p.tables e below (T39.setTop (mkF m 97 #[.val (.int p0), .val (.int p1), .val (.long p2), .second, .val (.int p3), .val (.ref v_GATE), .val (.ref b28), .val (.int (own_min p1 p0)), .val (.int z1), .val (.int z2), .val (.int z3)] [])) _
      refine XS.iload X39.here hx rfl (hb hby at_97) rfl ?_
      show Steps p.tables e below (T39.setTop (mkF m 99 #[.val (.int p0), .val (.int p1), .val (.long p2), .second, .val (.int p3), .val (.ref v_GATE), .val (.ref b28), .val (.int (own_min p1 p0)), .val (.int z1), .val (.int z2), .val (.int z3)] [(.int z3)])) _
      refine XS.ifNo X39.here hx rfl (hb hby at_99) rfl ((if0 _ _).trans (feq (own_rm0_6 p0 p1 z3 hz3)).1) ?_
      show Steps p.tables e below (T39.setTop (mkF m 102 #[.val (.int p0), .val (.int p1), .val (.long p2), .second, .val (.int p3), .val (.ref v_GATE), .val (.ref b28), .val (.int (own_min p1 p0)), .val (.int z1), .val (.int z2), .val (.int z3)] [])) _
      refine XS.iconst X39.here hx rfl (hb hby at_102) ?_
      show Steps p.tables e below (T39.setTop (mkF m 103 #[.val (.int p0), .val (.int p1), .val (.long p2), .second, .val (.int p3), .val (.ref v_GATE), .val (.ref b28), .val (.int (own_min p1 p0)), .val (.int z1), .val (.int z2), .val (.int z3)] [(.int (1 : Int32))])) _
      refine XS.goto X39.here hx rfl (pc0 := 103) (pc' := 107) rfl (hb hby at_103) (by decide) (by decide) ?_
      exact Steps.refl _
    obtain ⟨fs, hr, hrun, hended, -, hW, hIn, hsame⟩ := X39.leaveW hS30 (by rw [e39]; exact hkk38) (v := some (.int (1 : Int32))) (fun h => by rw [Bd.returns] at h; cases h)
    refine ⟨_, _, s50.trans ?_, hrun, hended, _, _, rfl, ?_, ⟨_, rfl⟩, hW, hIn, hsame.mono (by decide) (by decide)⟩
    · show Steps p.tables e below (T39.setTop (mkF m 107 #[.val (.int p0), .val (.int p1), .val (.long p2), .second, .val (.int p3), .val (.ref v_GATE), .val (.ref b28), .val (.int (own_min p1 p0)), .val (.int z1), .val (.int z2), .val (.int z3)] [(.int (1 : Int32))])) _
      exact retN X39 hx (t := .boolean) Bd.returns (by simp) (hb hby at_107) hr
    · show Q0 Z p0 p1 p2 p3 v_ROW_LOCK v_GATE h0 n0 _ T39.heap _
      rw [e39]
      exact ⟨rfl, N39⟩
set_option maxRecDepth 65536 in
set_option maxHeartbeats 40000000 in
theorem comes_1 {Post : Tables → Env → Array Value → State → Outcome → State → Prop} (hpost : ∀ tb e args s v u, (limb_1_1.after args s (.returned v) u = true ∧ limb_1_2.after args s (.returned v) u = true ∧ True) → ReturnedEndW s (.returned v) u (Jvm.fieldLocs frame_1_writes args s ++ Jvm.arrayLocs frame_1_arrays args s ++ Jvm.staticLocs frame_1_statics s) 16 1152 → Post tb e args s (.returned v) u) :
    ArmFor flags0 classFile x code maxLocals ret World_1 tables_1 room_1 Calls_1 rest_1 Pre_1 Post := by
  intro l hfl _ _ p e ha hc hk s m args below hf hA hF happ hP
  obtain ⟨hcalls, hrest, hpre⟩ := hP
  obtain ⟨-, -, -, hnamed, -, -, -, hat⟩ := (Spec.applies_iff hf).mp happ
  obtain ⟨hg, hn⟩ := and_e (Cond.before_iff.mp (show (Jvm.Cond.and given_1 narrow_1).before args s = true from hpre))
  obtain ⟨gc, gk0⟩ := and_e hg
  obtain ⟨ga0, gk1⟩ := and_e gk0
  obtain ⟨ga1, gk2⟩ := and_e gk1
  obtain ⟨ga2, gk3⟩ := and_e gk2
  obtain ⟨w0, w1, w2, w3, rfl⟩ : ∃ w0 w1 w2 w3 : Value, args = #[w0, w1, w2, w3] := by
    have hs : args.size = 4 := by simpa [Cond.value, given_1] using gc
    obtain ⟨L⟩ := args
    match L, hs with
    | [w0, w1, w2, w3], _ => exact ⟨w0, w1, w2, w3, rfl⟩
  have hw := fun d (hd : d ∈ tables_1) => atoms_spec (ws := Jvm.Cond.code x code maxLocals ret :: tables_1) hat d (List.mem_cons_of_mem _ hd)
  have hfit : Fit s := fun {y c} hc i hi => by
    obtain ⟨ha, rfl⟩ := Array.getElem?_eq_some_iff.mp hc
    have q := List.all_eq_true.mp ((Array.all_eq_true_iff_forall_mem.mp hF) _ (Array.getElem_mem ha)) i (List.mem_range.mpr hi)
    simpa [Array.getElem?_eq_getElem hi] using q
  obtain ⟨i0, ei0⟩ := is_v ga0
  obtain rfl : w0 = (.int i0) := Option.some.inj ei0
  obtain ⟨i1, ei1⟩ := is_v ga1
  obtain rfl : w1 = (.int i1) := Option.some.inj ei1
  obtain ⟨i2, ei2⟩ := isL_v ga2
  obtain rfl : w2 = (.long i2) := Option.some.inj ei2
  obtain ⟨i3, ei3⟩ := is_v gk3
  obtain rfl : w3 = (.int i3) := Option.some.inj ei3
  obtain ⟨n_0, nr_0⟩ := and_e hn
  obtain ⟨v_ROW_LOCK, ev_v_ROW_LOCK⟩ := exa_v n_0
  have S_v_ROW_LOCK : Sta s s.heap "com/example/hot_gate/hotgate/bench/Mode" "ROW_LOCK" "Lcom/example/hot_gate/hotgate/bench/Mode;" (.ref v_ROW_LOCK) := Sta.start ev_v_ROW_LOCK (Or.inr ⟨(hw _ (List.mem_of_getElem? (i := 1) rfl)), (hw _ (List.mem_of_getElem? (i := 2) rfl))⟩)
  have E_v_ROW_LOCK : Exa s s.heap v_ROW_LOCK "com/example/hot_gate/hotgate/bench/Mode" := Exa.start ev_v_ROW_LOCK n_0
  obtain ⟨v_GATE, ev_v_GATE⟩ := exa_v nr_0
  have S_v_GATE : Sta s s.heap "com/example/hot_gate/hotgate/bench/Mode" "GATE" "Lcom/example/hot_gate/hotgate/bench/Mode;" (.ref v_GATE) := Sta.start ev_v_GATE (Or.inr ⟨(hw _ (List.mem_of_getElem? (i := 1) rfl)), (hw _ (List.mem_of_getElem? (i := 47) rfl))⟩)
  have E_v_GATE : Exa s s.heap v_GATE "com/example/hot_gate/hotgate/bench/Mode" := Exa.start ev_v_GATE nr_0
  obtain ⟨n, o, h1, h2, h3, _, L, rfl, ⟨rfl, N⟩, hq⟩ := rm0 l s _ hw tables_1 i0 i1 i2 i3 v_ROW_LOCK v_GATE s.heap s.heap.size (Old.start s) S_v_ROW_LOCK E_v_ROW_LOCK S_v_GATE E_v_GATE p e ha hc hk s m _ below hf ((Spec.applies_iff_loose hf).mp happ).1 ⟨rfl, State.Warmed39.refl s, rfl⟩ trivial
  refine ⟨n, _, h1, h2, h3, hpost _ _ _ _ _ _ ⟨Cond.after_iff.mpr rfl, Cond.after_iff.mpr (eq_i res_at (Term.int_eval (1)) rfl), trivial⟩ ⟨hq.1, hq.2.1, hq.2.2.1, (hq.2.2.2.sift fun y hy => Or.inr (N y hy)).mono (by decide) (by decide)⟩⟩
theorem main_1_1 : Claimed_1_1 := comes_1 fun _ _ _ _ _ _ h hF => ⟨h.1, hF⟩
theorem main_1_2 : Claimed_1_2 := comes_1 fun _ _ _ _ _ _ h hF => ⟨h.2.1, hF⟩
end Jvm.Pilot.@@N@@
namespace Jvm.Pilot.@@N@@
open Jvm Jvm.ClassFile Sem Op Lib Jvm.Free Jvm.Stand Jvm.Pilot.@@N@@.Jvm.D
/-! MADE BY PROGRAM (witnessworld.py) out of the Statement's table words and the real class files: 18 classes; the members and pool entries that the words name. The judged class is class 1, her method 1. -/
namespace start1
open Jvm.ClassFile
def u (s : String) : CpInfo := .utf8 (stringToUtf16 s)
/-- a pool by its gaps: so many unusable entries, then the entry; so many at the end -/
def gap : Nat → List CpInfo → List CpInfo
  | 0, r => r
  | n + 1, r => .unusable :: gap n r
def poolList (es : List (Nat × CpInfo)) (last : Nat) : List CpInfo := es.foldr (fun e r => gap e.1 (e.2 :: r)) (gap last [])
def pool (es : List (Nat × CpInfo)) (last : Nat) : Array CpInfo := ⟨poolList es last⟩
def fileOf (pool : Array CpInfo) (this : Nat) (attrs : Array Attribute := #[]) (ms : Array MethodInfo := #[]) (fl : Nat := 33) (sup : Nat := 0) (ifs : Array Nat := #[]) (fds : Array FieldInfo := #[]) : ClassFile where
  minorVersion := 0
  majorVersion := 65
  constantPool := pool
  accessFlags := fl
  thisClass := this
  superClass := sup
  interfaces := ifs
  fields := fds
  methods := ms
  attributes := attrs
def plain (name : String) (sup : Option ClassId) : Class where
  name := name
  kind := .ordinary
  loader := none
  accessFlags := 33
  super := sup
  interfaces := #[]
  cf := none
  fields := #[]
  methods := #[]
  instanceTypes := #[]
  staticTypes := #[]
  resolved := #[]
  callSites := []
  init := .initialized
  statics := none
  mirror := none

def pool0 : Array CpInfo := pool [(5, u "<init>"), (0, u "()V"), (1, .class_ 10), (1, u "java/lang/Object")] 113

def k0c0 : Code := { maxStack := 0, maxLocals := 1, code := object_method_1_code, exceptionTable := #[], attributes := #[] }
def k0m0 : Method := { name := "<init>", desc := "()V", sig := { parameters := [], returnType := none }, accessFlags := 1, code := some k0c0 }
/-- java/lang/Object -/
def k0 : Class := { plain "java/lang/Object" none with
  accessFlags := 33
  interfaces := #[]
  cf := some (fileOf pool0 8 #[] #[{ accessFlags := 1, nameIndex := 5, descriptorIndex := 6, attributes := #[] }] 33 0 #[] #[])
  fields := #[]
  methods := #[k0m0]
  instanceTypes := #[]
  staticTypes := #[]
  resolved := Array.replicate 124 none
  statics := none }

def pool1 : Array CpInfo := pool [(2, .class_ 4), (1, u "java/lang/Object"), (0, u "<init>"), (0, u "()V"), (0, .fieldref 8 9), (0, .class_ 10), (0, .nameAndType 11 12), (0, u "com/example/hot_gate/hotgate/bench/Mode"), (0, u "GATE"), (0, u "Lcom/example/hot_gate/hotgate/bench/Mode;"), (0, .fieldref 8 14), (0, .nameAndType 15 12), (0, u "ROW_LOCK"), (0, .class_ 17), (0, u "com/example/hot_gate/hotgate/bench/Options"), (0, .string 19), (0, u "d"), (0, .methodref 16 21), (0, .nameAndType 5 22), (0, u "(Lcom/example/hot_gate/hotgate/bench/Mode;Ljava/lang/String;Ljava/lang/String;JII)V"), (0, .methodref 16 24), (0, .nameAndType 25 26), (0, u "lanes"), (0, u "()I"), (0, .class_ 28), (0, u "com/example/hot_gate/hotgate/bench/OptionsLanesPinLaw"), (2, u "law"), (0, u "(IIJI)Z")] 3

def k1m0 : Method := { name := "<init>", desc := "()V", sig := { parameters := [], returnType := none }, accessFlags := 2, code := none }
def k1c1 : Code := { maxStack := 9, maxLocals := 11, code := code, exceptionTable := #[], attributes := #[] }
def k1m1 : Method := { name := "law", desc := "(IIJI)Z", sig := { parameters := [.int, .int, .long, .int], returnType := some .boolean }, accessFlags := 9, code := some k1c1 }
/-- com/example/hot_gate/hotgate/bench/OptionsLanesPinLaw -/
def k1 : Class := { plain "com/example/hot_gate/hotgate/bench/OptionsLanesPinLaw" (some 0) with
  accessFlags := 49
  interfaces := #[]
  cf := some (fileOf pool1 27 #[] #[{ accessFlags := 2, nameIndex := 5, descriptorIndex := 6, attributes := #[] }, { accessFlags := 9, nameIndex := 31, descriptorIndex := 32, attributes := #[] }] 49 2 #[] #[])
  fields := #[]
  methods := #[k1m0, k1m1]
  instanceTypes := #[]
  staticTypes := #[]
  resolved := Array.replicate 36 none
  statics := none }

def pool2 : Array CpInfo := pool [(1, .class_ 2), (0, u "java/lang/constant/Constable"), (0, .class_ 4), (0, u "java/lang/Object")] 6

/-- java/lang/constant/Constable -/
def k2 : Class := { plain "java/lang/constant/Constable" (some 0) with
  accessFlags := 1537
  interfaces := #[]
  cf := some (fileOf pool2 1 #[] #[] 1537 3 #[] #[])
  fields := #[]
  methods := #[]
  instanceTypes := #[]
  staticTypes := #[]
  resolved := Array.replicate 11 none
  statics := none }

def pool3 : Array CpInfo := pool [(1, .class_ 2), (0, u "java/lang/Comparable"), (0, .class_ 4), (0, u "java/lang/Object")] 7

/-- java/lang/Comparable -/
def k3 : Class := { plain "java/lang/Comparable" (some 0) with
  accessFlags := 1537
  interfaces := #[]
  cf := some (fileOf pool3 1 #[] #[] 1537 3 #[] #[])
  fields := #[]
  methods := #[]
  instanceTypes := #[]
  staticTypes := #[]
  resolved := Array.replicate 12 none
  statics := none }

def pool4 : Array CpInfo := pool [(1, .class_ 2), (0, u "java/io/Serializable"), (0, .class_ 4), (0, u "java/lang/Object")] 2

/-- java/io/Serializable -/
def k4 : Class := { plain "java/io/Serializable" (some 0) with
  accessFlags := 1537
  interfaces := #[]
  cf := some (fileOf pool4 1 #[] #[] 1537 3 #[] #[])
  fields := #[]
  methods := #[]
  instanceTypes := #[]
  staticTypes := #[]
  resolved := Array.replicate 7 none
  statics := none }

def pool5 : Array CpInfo := pool [(2, .class_ 4), (1, u "java/lang/Enum"), (0, u "name"), (0, u "Ljava/lang/String;"), (2, u "ordinal"), (0, u "I"), (1, .class_ 14), (1, u "java/lang/Object"), (4, u "hash"), (86, .class_ 108), (1, u "java/lang/Enum$EnumDesc"), (2, .class_ 112), (0, u "java/lang/constant/Constable"), (0, .class_ 114), (0, u "java/lang/Comparable"), (0, .class_ 116), (0, u "java/io/Serializable")] 87

/-- java/lang/Enum -/
def k5 : Class := { plain "java/lang/Enum" (some 0) with
  accessFlags := 1057
  interfaces := #[2, 3, 4]
  cf := some (fileOf pool5 2 #[.nestMembers #[106]] #[] 1057 12 #[111, 113, 115] #[{ accessFlags := 18, nameIndex := 5, descriptorIndex := 6, attributes := #[] }, { accessFlags := 18, nameIndex := 9, descriptorIndex := 10, attributes := #[] }, { accessFlags := 2, nameIndex := 19, descriptorIndex := 10, attributes := #[] }])
  fields := #[{ name := "name", type := (.object "java/lang/String"), accessFlags := 18, slot := 0, constantValue := 0 }, { name := "ordinal", type := .int, accessFlags := 18, slot := 1, constantValue := 0 }, { name := "hash", type := .int, accessFlags := 2, slot := 2, constantValue := 0 }]
  methods := #[]
  instanceTypes := #[(.object "java/lang/String"), .int, .int]
  staticTypes := #[]
  resolved := Array.replicate 204 none
  statics := none }

def pool6 : Array CpInfo := pool [(1, .class_ 2), (0, u "com/example/hot_gate/hotgate/bench/Mode"), (2, u "GATE"), (0, u "Lcom/example/hot_gate/hotgate/bench/Mode;"), (2, u "ROW_LOCK"), (2, u "$VALUES"), (0, u "[Lcom/example/hot_gate/hotgate/bench/Mode;"), (6, .class_ 22), (1, u "java/lang/Enum"), (8, u "word"), (0, u "Ljava/lang/String;"), (2, u "options"), (0, u "Ljava/util/List;")] 85

/-- com/example/hot_gate/hotgate/bench/Mode -/
def k6 : Class := { plain "com/example/hot_gate/hotgate/bench/Mode" (some 5) with
  accessFlags := 16432
  interfaces := #[]
  cf := some (fileOf pool6 1 #[] #[] 16432 20 #[] #[{ accessFlags := 16409, nameIndex := 5, descriptorIndex := 6, attributes := #[] }, { accessFlags := 16409, nameIndex := 9, descriptorIndex := 6, attributes := #[] }, { accessFlags := 18, nameIndex := 31, descriptorIndex := 32, attributes := #[] }, { accessFlags := 18, nameIndex := 35, descriptorIndex := 36, attributes := #[] }, { accessFlags := 4122, nameIndex := 12, descriptorIndex := 13, attributes := #[] }])
  fields := #[{ name := "GATE", type := (.object "com/example/hot_gate/hotgate/bench/Mode"), accessFlags := 16409, slot := 0, constantValue := 0 }, { name := "ROW_LOCK", type := (.object "com/example/hot_gate/hotgate/bench/Mode"), accessFlags := 16409, slot := 1, constantValue := 0 }, { name := "word", type := (.object "java/lang/String"), accessFlags := 18, slot := 3, constantValue := 0 }, { name := "options", type := (.object "java/util/List"), accessFlags := 18, slot := 4, constantValue := 0 }, { name := "$VALUES", type := (.array (.object "com/example/hot_gate/hotgate/bench/Mode")), accessFlags := 4122, slot := 2, constantValue := 0 }]
  methods := #[]
  instanceTypes := #[(.object "java/lang/String"), .int, .int, (.object "java/lang/String"), (.object "java/util/List")]
  staticTypes := #[(.object "com/example/hot_gate/hotgate/bench/Mode"), (.object "com/example/hot_gate/hotgate/bench/Mode"), (.array (.object "com/example/hot_gate/hotgate/bench/Mode"))]
  resolved := Array.replicate 122 none
  statics := some 0 }

def pool7 : Array CpInfo := pool [(1, .methodref 2 3), (0, .class_ 4), (0, .nameAndType 5 6), (0, u "java/lang/Object"), (0, u "<init>"), (0, u "()V"), (0, .class_ 8), (0, u "java/lang/Record")] 13

def k7c0 : Code := { maxStack := 1, maxLocals := 1, code := jdk_30_method_1_code, exceptionTable := #[], attributes := #[] }
def k7m0 : Method := { name := "<init>", desc := "()V", sig := { parameters := [], returnType := none }, accessFlags := 4, code := some k7c0 }
/-- java/lang/Record -/
def k7 : Class := { plain "java/lang/Record" (some 0) with
  accessFlags := 1057
  interfaces := #[]
  cf := some (fileOf pool7 7 #[] #[{ accessFlags := 4, nameIndex := 5, descriptorIndex := 6, attributes := #[] }] 1057 2 #[] #[])
  fields := #[]
  methods := #[k7m0]
  instanceTypes := #[]
  staticTypes := #[]
  resolved := Array.replicate 22 none
  statics := none }

def pool8 : Array CpInfo := pool [(1, .methodref 2 3), (0, .class_ 4), (0, .nameAndType 5 6), (0, u "java/lang/Record"), (0, u "<init>"), (0, u "()V"), (0, .fieldref 8 9), (0, .class_ 10), (0, .nameAndType 11 12), (0, u "com/example/hot_gate/hotgate/bench/Options"), (0, u "mode"), (0, u "Lcom/example/hot_gate/hotgate/bench/Mode;"), (0, .fieldref 8 14), (0, .nameAndType 15 16), (0, u "url"), (0, u "Ljava/lang/String;"), (0, .fieldref 8 18), (0, .nameAndType 19 16), (0, u "dropId"), (0, .fieldref 8 21), (0, .nameAndType 22 23), (0, u "stock"), (0, u "J"), (0, .fieldref 8 25), (0, .nameAndType 26 27), (0, u "claims"), (0, u "I"), (0, .fieldref 8 29), (0, .nameAndType 30 27), (0, u "connections"), (8, u "()I"), (114, u "(Lcom/example/hot_gate/hotgate/bench/Mode;Ljava/lang/String;Ljava/lang/String;JII)V"), (0, .methodref 156 157), (0, .class_ 158), (0, .nameAndType 159 160), (0, u "java/lang/Math"), (0, u "min"), (0, u "(II)I"), (40, u "DIGITS"), (0, u "Ljava/util/regex/Pattern;"), (37, u "MODE"), (1, u "URL"), (0, u "DROP"), (0, u "STOCK"), (0, u "CLAIMS"), (0, u "CONNECTIONS"), (0, u "MAX_CLAIMS"), (1, u "MAX_CONNECTIONS"), (9, u "lanes")] 50

def k8c0 : Code := { maxStack := 3, maxLocals := 8, code := prog_10_method_1_code, exceptionTable := #[], attributes := #[] }
def k8m0 : Method := { name := "<init>", desc := "(Lcom/example/hot_gate/hotgate/bench/Mode;Ljava/lang/String;Ljava/lang/String;JII)V", sig := { parameters := [(.object "com/example/hot_gate/hotgate/bench/Mode"), (.object "java/lang/String"), (.object "java/lang/String"), .long, .int, .int], returnType := none }, accessFlags := 0, code := some k8c0 }
def k8c1 : Code := { maxStack := 2, maxLocals := 1, code := prog_10_method_3_code, exceptionTable := #[], attributes := #[] }
def k8m1 : Method := { name := "lanes", desc := "()I", sig := { parameters := [], returnType := some .int }, accessFlags := 0, code := some k8c1 }
/-- com/example/hot_gate/hotgate/bench/Options -/
def k8 : Class := { plain "com/example/hot_gate/hotgate/bench/Options" (some 7) with
  accessFlags := 48
  interfaces := #[]
  cf := some (fileOf pool8 8 #[] #[{ accessFlags := 0, nameIndex := 5, descriptorIndex := 154, attributes := #[] }, { accessFlags := 0, nameIndex := 259, descriptorIndex := 39, attributes := #[] }] 48 2 #[] #[{ accessFlags := 18, nameIndex := 11, descriptorIndex := 12, attributes := #[] }, { accessFlags := 18, nameIndex := 15, descriptorIndex := 16, attributes := #[] }, { accessFlags := 18, nameIndex := 19, descriptorIndex := 16, attributes := #[] }, { accessFlags := 18, nameIndex := 22, descriptorIndex := 23, attributes := #[] }, { accessFlags := 18, nameIndex := 26, descriptorIndex := 27, attributes := #[] }, { accessFlags := 18, nameIndex := 30, descriptorIndex := 27, attributes := #[] }, { accessFlags := 24, nameIndex := 240, descriptorIndex := 16, attributes := #[] }, { accessFlags := 24, nameIndex := 242, descriptorIndex := 16, attributes := #[] }, { accessFlags := 24, nameIndex := 243, descriptorIndex := 16, attributes := #[] }, { accessFlags := 24, nameIndex := 244, descriptorIndex := 16, attributes := #[] }, { accessFlags := 24, nameIndex := 245, descriptorIndex := 16, attributes := #[] }, { accessFlags := 24, nameIndex := 246, descriptorIndex := 16, attributes := #[] }, { accessFlags := 24, nameIndex := 247, descriptorIndex := 27, attributes := #[] }, { accessFlags := 24, nameIndex := 249, descriptorIndex := 27, attributes := #[] }, { accessFlags := 26, nameIndex := 201, descriptorIndex := 202, attributes := #[] }])
  fields := #[{ name := "mode", type := (.object "com/example/hot_gate/hotgate/bench/Mode"), accessFlags := 18, slot := 0, constantValue := 0 }, { name := "url", type := (.object "java/lang/String"), accessFlags := 18, slot := 1, constantValue := 0 }, { name := "dropId", type := (.object "java/lang/String"), accessFlags := 18, slot := 2, constantValue := 0 }, { name := "stock", type := .long, accessFlags := 18, slot := 3, constantValue := 0 }, { name := "claims", type := .int, accessFlags := 18, slot := 4, constantValue := 0 }, { name := "connections", type := .int, accessFlags := 18, slot := 5, constantValue := 0 }, { name := "MODE", type := (.object "java/lang/String"), accessFlags := 24, slot := 0, constantValue := 0 }, { name := "URL", type := (.object "java/lang/String"), accessFlags := 24, slot := 1, constantValue := 0 }, { name := "DROP", type := (.object "java/lang/String"), accessFlags := 24, slot := 2, constantValue := 0 }, { name := "STOCK", type := (.object "java/lang/String"), accessFlags := 24, slot := 3, constantValue := 0 }, { name := "CLAIMS", type := (.object "java/lang/String"), accessFlags := 24, slot := 4, constantValue := 0 }, { name := "CONNECTIONS", type := (.object "java/lang/String"), accessFlags := 24, slot := 5, constantValue := 0 }, { name := "MAX_CLAIMS", type := .int, accessFlags := 24, slot := 6, constantValue := 0 }, { name := "MAX_CONNECTIONS", type := .int, accessFlags := 24, slot := 7, constantValue := 0 }, { name := "DIGITS", type := (.object "java/util/regex/Pattern"), accessFlags := 26, slot := 8, constantValue := 0 }]
  methods := #[k8m0, k8m1]
  instanceTypes := #[(.object "com/example/hot_gate/hotgate/bench/Mode"), (.object "java/lang/String"), (.object "java/lang/String"), .long, .int, .int]
  staticTypes := #[(.object "java/lang/String"), (.object "java/lang/String"), (.object "java/lang/String"), (.object "java/lang/String"), (.object "java/lang/String"), (.object "java/lang/String"), .int, .int, (.object "java/util/regex/Pattern")]
  resolved := Array.replicate 310 none
  statics := none }

def pool9 : Array CpInfo := pool [(2, .class_ 4), (1, u "java/lang/CharSequence"), (42, .class_ 48), (0, u "java/lang/CharSequence$1CodePointIterator"), (10, .class_ 60), (0, u "java/lang/CharSequence$1CharIterator"), (5, .class_ 67), (0, u "java/lang/Object")] 63

/-- java/lang/CharSequence -/
def k9 : Class := { plain "java/lang/CharSequence" (some 0) with
  accessFlags := 1537
  interfaces := #[]
  cf := some (fileOf pool9 2 #[.nestMembers #[47, 59]] #[] 1537 66 #[] #[])
  fields := #[]
  methods := #[]
  instanceTypes := #[]
  staticTypes := #[]
  resolved := Array.replicate 131 none
  statics := none }

def pool10 : Array CpInfo := pool [(1, .class_ 2), (0, u "java/lang/constant/ConstantDesc"), (0, .class_ 4), (0, u "java/lang/Object")] 32

/-- java/lang/constant/ConstantDesc -/
def k10 : Class := { plain "java/lang/constant/ConstantDesc" (some 0) with
  accessFlags := 1537
  interfaces := #[]
  cf := some (fileOf pool10 1 #[] #[] 1537 3 #[] #[])
  fields := #[]
  methods := #[]
  instanceTypes := #[]
  staticTypes := #[]
  resolved := Array.replicate 37 none
  statics := none }

def pool11 : Array CpInfo := pool [(2, .class_ 4), (1, u "java/lang/Object"), (0, u "<init>"), (0, u "()V"), (3, .class_ 12), (1, u "java/lang/String"), (0, u "value"), (0, u "[B"), (2, u "coder"), (0, u "B"), (2, u "hash"), (0, u "I"), (2, u "hashIsZero"), (0, u "Z"), (13, u "COMPACT_STRINGS"), (534, .class_ 576), (0, u "java/lang/CharSequence"), (22, u "CASE_INSENSITIVE_ORDER"), (0, u "Ljava/util/Comparator;"), (500, u "serialPersistentFields"), (0, u "[Ljava/io/ObjectStreamField;"), (0, .class_ 1104), (0, u "java/lang/String$CaseInsensitiveComparator"), (1, .class_ 1107), (0, u "java/io/Serializable"), (0, .class_ 1109), (0, u "java/lang/Comparable"), (0, .class_ 1111), (0, u "java/lang/constant/Constable"), (0, .class_ 1113), (0, u "java/lang/constant/ConstantDesc"), (2, u "serialVersionUID"), (0, u "J"), (3, u "REPL"), (0, u "C"), (2, u "LATIN1"), (1, u "UTF16")] 323

def k11m0 : Method := { name := "<init>", desc := "()V", sig := { parameters := [], returnType := none }, accessFlags := 1, code := none }
/-- java/lang/String -/
def k11 : Class := { plain "java/lang/String" (some 0) with
  accessFlags := 49
  interfaces := #[4, 3, 9, 2, 10]
  cf := some (fileOf pool11 10 #[.nestMembers #[1103]] #[{ accessFlags := 1, nameIndex := 5, descriptorIndex := 6, attributes := #[] }] 49 2 #[1106, 1108, 575, 1110, 1112] #[{ accessFlags := 18, nameIndex := 13, descriptorIndex := 14, attributes := #[] }, { accessFlags := 18, nameIndex := 17, descriptorIndex := 18, attributes := #[] }, { accessFlags := 2, nameIndex := 21, descriptorIndex := 22, attributes := #[] }, { accessFlags := 2, nameIndex := 25, descriptorIndex := 26, attributes := #[] }, { accessFlags := 26, nameIndex := 1116, descriptorIndex := 1117, attributes := #[] }, { accessFlags := 24, nameIndex := 40, descriptorIndex := 26, attributes := #[] }, { accessFlags := 26, nameIndex := 1101, descriptorIndex := 1102, attributes := #[] }, { accessFlags := 26, nameIndex := 1121, descriptorIndex := 1122, attributes := #[] }, { accessFlags := 25, nameIndex := 599, descriptorIndex := 600, attributes := #[] }, { accessFlags := 24, nameIndex := 1125, descriptorIndex := 18, attributes := #[] }, { accessFlags := 24, nameIndex := 1127, descriptorIndex := 18, attributes := #[] }])
  fields := #[{ name := "value", type := (.array .byte), accessFlags := 18, slot := 0, constantValue := 0 }, { name := "coder", type := .byte, accessFlags := 18, slot := 1, constantValue := 0 }, { name := "hash", type := .int, accessFlags := 2, slot := 2, constantValue := 0 }, { name := "hashIsZero", type := .boolean, accessFlags := 2, slot := 3, constantValue := 0 }, { name := "serialVersionUID", type := .long, accessFlags := 26, slot := 0, constantValue := 0 }, { name := "COMPACT_STRINGS", type := .boolean, accessFlags := 24, slot := 1, constantValue := 0 }, { name := "serialPersistentFields", type := (.array (.object "java/io/ObjectStreamField")), accessFlags := 26, slot := 2, constantValue := 0 }, { name := "REPL", type := .char, accessFlags := 26, slot := 3, constantValue := 0 }, { name := "CASE_INSENSITIVE_ORDER", type := (.object "java/util/Comparator"), accessFlags := 25, slot := 4, constantValue := 0 }, { name := "LATIN1", type := .byte, accessFlags := 24, slot := 5, constantValue := 0 }, { name := "UTF16", type := .byte, accessFlags := 24, slot := 6, constantValue := 0 }]
  methods := #[k11m0]
  instanceTypes := #[(.array .byte), .byte, .int, .boolean]
  staticTypes := #[.long, .boolean, (.array (.object "java/io/ObjectStreamField")), .char, (.object "java/util/Comparator"), .byte, .byte]
  resolved := Array.replicate 1451 none
  statics := none }

def pool12 : Array CpInfo := pool [(1, .class_ 2), (0, u "java/lang/Math"), (1, .class_ 6), (1, u "java/lang/Object"), (0, u "<init>"), (0, u "()V"), (89, .class_ 100), (1, u "java/lang/Math$RandomNumberGeneratorHolder"), (71, u "negativeZeroFloatBits"), (0, u "J"), (2, u "negativeZeroDoubleBits"), (24, u "min"), (43, u "$assertionsDisabled"), (0, u "Z"), (88, u "(II)I"), (2, u "twoToTheDoubleScaleDown"), (0, u "D"), (4, u "twoToTheDoubleScaleUp"), (9, u "E"), (3, u "PI"), (2, u "TAU"), (2, u "DEGREES_TO_RADIANS"), (0, u "RADIANS_TO_DEGREES")] 94

def k12m0 : Method := { name := "<init>", desc := "()V", sig := { parameters := [], returnType := none }, accessFlags := 2, code := none }
def k12c1 : Code := { maxStack := 2, maxLocals := 2, code := jdk_29_method_69_code, exceptionTable := #[], attributes := #[] }
def k12m1 : Method := { name := "min", desc := "(II)I", sig := { parameters := [.int, .int], returnType := some .int }, accessFlags := 9, code := some k12c1 }
/-- java/lang/Math -/
def k12 : Class := { plain "java/lang/Math" (some 0) with
  accessFlags := 49
  interfaces := #[]
  cf := some (fileOf pool12 1 #[.nestMembers #[98]] #[{ accessFlags := 2, nameIndex := 7, descriptorIndex := 8, attributes := #[] }, { accessFlags := 9, nameIndex := 201, descriptorIndex := 335, attributes := #[] }] 49 4 #[] #[{ accessFlags := 25, nameIndex := 354, descriptorIndex := 339, attributes := #[] }, { accessFlags := 25, nameIndex := 358, descriptorIndex := 339, attributes := #[] }, { accessFlags := 25, nameIndex := 361, descriptorIndex := 339, attributes := #[] }, { accessFlags := 26, nameIndex := 364, descriptorIndex := 339, attributes := #[] }, { accessFlags := 26, nameIndex := 365, descriptorIndex := 339, attributes := #[] }, { accessFlags := 26, nameIndex := 172, descriptorIndex := 173, attributes := #[] }, { accessFlags := 26, nameIndex := 176, descriptorIndex := 173, attributes := #[] }, { accessFlags := 8, nameIndex := 344, descriptorIndex := 339, attributes := #[] }, { accessFlags := 8, nameIndex := 338, descriptorIndex := 339, attributes := #[] }, { accessFlags := 4120, nameIndex := 245, descriptorIndex := 246, attributes := #[] }])
  fields := #[{ name := "E", type := .double, accessFlags := 25, slot := 0, constantValue := 0 }, { name := "PI", type := .double, accessFlags := 25, slot := 1, constantValue := 0 }, { name := "TAU", type := .double, accessFlags := 25, slot := 2, constantValue := 0 }, { name := "DEGREES_TO_RADIANS", type := .double, accessFlags := 26, slot := 3, constantValue := 0 }, { name := "RADIANS_TO_DEGREES", type := .double, accessFlags := 26, slot := 4, constantValue := 0 }, { name := "negativeZeroFloatBits", type := .long, accessFlags := 26, slot := 5, constantValue := 0 }, { name := "negativeZeroDoubleBits", type := .long, accessFlags := 26, slot := 6, constantValue := 0 }, { name := "twoToTheDoubleScaleUp", type := .double, accessFlags := 8, slot := 7, constantValue := 0 }, { name := "twoToTheDoubleScaleDown", type := .double, accessFlags := 8, slot := 8, constantValue := 0 }, { name := "$assertionsDisabled", type := .boolean, accessFlags := 4120, slot := 9, constantValue := 0 }]
  methods := #[k12m0, k12m1]
  instanceTypes := #[]
  staticTypes := #[.double, .double, .double, .double, .double, .long, .long, .double, .double, .boolean]
  resolved := Array.replicate 460 none
  statics := none }

def pool13 : Array CpInfo := pool [(1, u "java/lang/Cloneable"), (0, .class_ 1), (0, u "java/lang/Object"), (0, .class_ 3)] 3

/-- java/lang/Cloneable -/
def k13 : Class := { plain "java/lang/Cloneable" (some 0) with
  accessFlags := 1537
  interfaces := #[]
  cf := some (fileOf pool13 2 #[] #[] 1537 4 #[] #[])
  fields := #[]
  methods := #[]
  instanceTypes := #[]
  staticTypes := #[]
  resolved := Array.replicate 8 none
  statics := none }

/-- the primitive byte -/
def k14 : Class := { plain "byte" none with kind := .primitive 'B', accessFlags := 0x411 }
/-- [B -/
def k15 : Class := { plain "[B" (some 0) with kind := .array 14 .byte, interfaces := #[13, 4], accessFlags := 1041 }

/-- the primitive int -/
def k16 : Class := { plain "int" none with kind := .primitive 'I', accessFlags := 0x411 }
/-- [I -/
def k17 : Class := { plain "[I" (some 0) with kind := .array 16 .int, interfaces := #[13, 4], accessFlags := 1041 }

def heap : Heap := #[{ cls := 6, slots := #[.ref 1, .ref 1, .null], vm := .statics 6 },
  { cls := 6, slots := #[.null, .int 0, .int 0, .null, .null], vm := .none }]
def classes : Array Class := #[k0, k1, k2, k3, k4, k5, k6, k7, k8, k9, k10, k11, k12, k13, k14, k15, k16, k17]
def interned : List (Array UInt16 × Addr) := []
def slotsUsed : Nat := 8
def theMethod : MethodId := ⟨1, 1⟩
def args0 : Array Value := #[.int 5, .int 3, .long 5, .int 3]
def aboutOver (below : List Frame) : State where
  vm := { classes := classes, interned := interned.toArray }
  heap := heap
  slotsUsed := slotsUsed
  threads := #[{ frames := .invoking theMethod args0 :: below }]
def below0 : List Frame := [.native { method := ⟨0, 0⟩, args := #[] }]
def about1 : State := aboutOver below0
def p0 : Program := .bare "" "" ""
def e0 : Env := launch0.env 0 0 0
theorem w_frames : about1.frames = Frame.invoking theMethod args0 :: below0 := rfl
set_option maxRecDepth 65536 in
theorem w_args : argsFit about1.vm theMethod args0 = true := by decide +kernel
set_option maxRecDepth 65536 in
theorem w_heap : heapFits about1 = true := by decide +kernel
set_option maxRecDepth 65536 in
theorem w_runnable : about1.curStatus? = some .runnable := by decide +kernel
set_option maxRecDepth 65536 in
theorem w_alone : about1.alone = true := by decide +kernel
set_option maxRecDepth 65536 in
theorem w_named : about1.methodNamed? x = some theMethod := by decide +kernel
set_option maxRecDepth 65536 in
theorem w_hears : about1.hears theMethod below0 = true := by decide +kernel
set_option maxRecDepth 65536 in
theorem w_ripe : about1.ripe theMethod args0 below0 = true := by decide +kernel
theorem w_running : about1.status = .running := rfl
set_option maxRecDepth 65536 in
theorem w_room : about1.hasRoom e0.platform room_1 = true :=
  launch0.hasRoom_least _ room_1 (by decide +kernel) (by decide +kernel) (by decide +kernel) (by decide +kernel) (by decide +kernel) (by decide +kernel)
theorem allAtoms_all (ts : List Jvm.Cond) (a : Array Jvm.Value) (st : Jvm.State) : (allAtoms ts).before a st = ts.all (fun c => c.before a st) := by
  induction ts with
  | nil => rfl
  | cons c t ih =>
    show (Jvm.Cond.and c (allAtoms t)).before a st = _
    rw [Jvm.Cond.before_and, ih, List.all_cons]
def words1 : List Jvm.Cond := Jvm.Cond.code x code maxLocals ret :: tables_1
/-- a 'code' word, met by the world's own term for the bytes: nothing is compared byte by byte -/
theorem code_word {y : MethodName} {bytes : ByteArray} {mx : Nat} {rt : Option FieldType} {a : Array Value} {s : State} {m : MethodId} {meth : Method} {c : Code} (h1 : s.methodNamed? y = some m) (h2 : s.vm.method? m = some meth) (h3 : meth.code = some c) (h4 : c.code = bytes)
    (h5 : (c.maxLocals == mx && c.exceptionTable.isEmpty && decide (c.maxStack ≤ mostOperands) && decide (meth.sig.returnType = rt) && !meth.locks && decide (parseMethodDescriptor y.desc = some meth.sig)) = true) : (Jvm.Cond.code y bytes mx rt).before a s = true := by
  simp only [Bool.and_eq_true, beq_iff_eq, Bool.not_eq_true', decide_eq_true_eq] at h5
  obtain ⟨⟨⟨⟨⟨g1, g2⟩, g3⟩, g4⟩, g5⟩, g6⟩ := h5
  simp [Cond.before, Cond.holds, Cond.value, h1, h2, h3, h4, g1, g2, g3, g4, g5, g6]
def isCode : Jvm.Cond → Bool
  | .code _ _ _ _ => true
  | _ => false
theorem all_split {L : List Jvm.Cond} {P : Jvm.Cond → Bool} (h1 : L.all (fun c => isCode c || P c) = true) (h2 : ∀ c ∈ L.filter isCode, P c = true) : L.all P = true := by
  refine List.all_eq_true.mpr fun c hc => ?_
  have h := List.all_eq_true.mp h1 c hc
  rcases Bool.eq_false_or_eq_true (isCode c) with hi | hi
  · exact h2 c (List.mem_filter.mpr ⟨hc, hi⟩)
  · simpa [hi] using h
set_option maxRecDepth 65536 in
theorem w_c0 : (Jvm.Cond.code x code maxLocals ret).before args0 about1 = true := code_word (m := ⟨1, 1⟩) (meth := k1m1) (c := k1c1) (by decide +kernel) rfl rfl rfl (by decide +kernel)
set_option maxRecDepth 65536 in
theorem w_c1 : (Jvm.Cond.code ({ cls := "com/example/hot_gate/hotgate/bench/Options", name := "<init>", desc := "(Lcom/example/hot_gate/hotgate/bench/Mode;Ljava/lang/String;Ljava/lang/String;JII)V" } : Jvm.MethodName) prog_10_method_1_code (8 : Nat) (Option.none : Option Jvm.ClassFile.FieldType)).before args0 about1 = true := code_word (m := ⟨8, 0⟩) (meth := k8m0) (c := k8c0) (by decide +kernel) rfl rfl rfl (by decide +kernel)
set_option maxRecDepth 65536 in
theorem w_c2 : (Jvm.Cond.code ({ cls := "java/lang/Record", name := "<init>", desc := "()V" } : Jvm.MethodName) jdk_30_method_1_code (1 : Nat) (Option.none : Option Jvm.ClassFile.FieldType)).before args0 about1 = true := code_word (m := ⟨7, 0⟩) (meth := k7m0) (c := k7c0) (by decide +kernel) rfl rfl rfl (by decide +kernel)
set_option maxRecDepth 65536 in
theorem w_c3 : (Jvm.Cond.code ({ cls := "java/lang/Object", name := "<init>", desc := "()V" } : Jvm.MethodName) object_method_1_code (1 : Nat) (Option.none : Option Jvm.ClassFile.FieldType)).before args0 about1 = true := code_word (m := ⟨0, 0⟩) (meth := k0m0) (c := k0c0) (by decide +kernel) rfl rfl rfl (by decide +kernel)
set_option maxRecDepth 65536 in
theorem w_c4 : (Jvm.Cond.code ({ cls := "com/example/hot_gate/hotgate/bench/Options", name := "lanes", desc := "()I" } : Jvm.MethodName) prog_10_method_3_code (1 : Nat) (Option.some Jvm.ClassFile.FieldType.int)).before args0 about1 = true := code_word (m := ⟨8, 1⟩) (meth := k8m1) (c := k8c1) (by decide +kernel) rfl rfl rfl (by decide +kernel)
set_option maxRecDepth 65536 in
theorem w_c5 : (Jvm.Cond.code ({ cls := "java/lang/Math", name := "min", desc := "(II)I" } : Jvm.MethodName) jdk_29_method_69_code (2 : Nat) (Option.some Jvm.ClassFile.FieldType.int)).before args0 about1 = true := code_word (m := ⟨12, 1⟩) (meth := k12m1) (c := k12c1) (by decide +kernel) rfl rfl rfl (by decide +kernel)
def codes1 : List Jvm.Cond := [Jvm.Cond.code x code maxLocals ret, Jvm.Cond.code ({ cls := "com/example/hot_gate/hotgate/bench/Options", name := "<init>", desc := "(Lcom/example/hot_gate/hotgate/bench/Mode;Ljava/lang/String;Ljava/lang/String;JII)V" } : Jvm.MethodName) prog_10_method_1_code (8 : Nat) (Option.none : Option Jvm.ClassFile.FieldType), Jvm.Cond.code ({ cls := "java/lang/Record", name := "<init>", desc := "()V" } : Jvm.MethodName) jdk_30_method_1_code (1 : Nat) (Option.none : Option Jvm.ClassFile.FieldType), Jvm.Cond.code ({ cls := "java/lang/Object", name := "<init>", desc := "()V" } : Jvm.MethodName) object_method_1_code (1 : Nat) (Option.none : Option Jvm.ClassFile.FieldType), Jvm.Cond.code ({ cls := "com/example/hot_gate/hotgate/bench/Options", name := "lanes", desc := "()I" } : Jvm.MethodName) prog_10_method_3_code (1 : Nat) (Option.some Jvm.ClassFile.FieldType.int), Jvm.Cond.code ({ cls := "java/lang/Math", name := "min", desc := "(II)I" } : Jvm.MethodName) jdk_29_method_69_code (2 : Nat) (Option.some Jvm.ClassFile.FieldType.int)]
set_option maxRecDepth 65536 in
theorem codes_eq : words1.filter isCode = codes1 := rfl
theorem w_codes : ∀ c ∈ words1.filter isCode, c.before args0 about1 = true := by
  rw [codes_eq]
  intro c hc
  simp only [codes1, List.mem_cons, List.not_mem_nil, or_false] at hc
  rcases hc with rfl | rfl | rfl | rfl | rfl | rfl
  · exact w_c0
  · exact w_c1
  · exact w_c2
  · exact w_c3
  · exact w_c4
  · exact w_c5
set_option maxRecDepth 65536 in
theorem w_t1 : (words1.take 24).all (fun c => isCode c || c.before args0 about1) = true := by decide +kernel
set_option maxRecDepth 65536 in
theorem w_t2 : ((words1.drop 24).take 24).all (fun c => isCode c || c.before args0 about1) = true := by decide +kernel
set_option maxRecDepth 65536 in
theorem w_t3 : ((words1.drop 24).drop 24).all (fun c => isCode c || c.before args0 about1) = true := by decide +kernel
theorem w_tables : (allAtoms (Jvm.Cond.code x code maxLocals ret :: tables_1)).before args0 about1 = true := by
  rw [allAtoms_all]
  show words1.all (fun c => c.before args0 about1) = true
  refine all_split ?_ w_codes
  rw [← List.take_append_drop 24 words1, List.all_append, w_t1, ← List.take_append_drop 24 (words1.drop 24), List.all_append, w_t2, w_t3]
  rfl
set_option maxRecDepth 65536 in
theorem w_case : (Jvm.Cond.and given_1 narrow_1).before args0 about1 = true := by decide +kernel
theorem w_applies : (headSpec (Jvm.Cond.code x code maxLocals ret :: tables_1) room_1).applies x e0.platform about1 = true :=
  (Spec.applies_iff w_frames).mpr ⟨w_running, w_runnable, w_alone, w_named, w_hears, w_ripe, w_room, w_tables⟩
theorem atStart : AtStart classFile x code maxLocals ret World_1 tables_1 room_1 Calls_1 rest_1 Pre_1 launch0 p0 e0 about1 theMethod args0 below0 :=
  ⟨lists_1, trivial, launch0.admits_env _ _ _, launch0.least_env, fairChoices_fair.cas, fairChoices_fair.clock, w_frames, w_args, w_heap, w_applies, trivial, trivial, w_case⟩
end start1
theorem witness_1 : WitnessClaimed_1 := ⟨start1.p0, start1.e0, start1.about1, start1.theMethod, start1.args0, start1.below0, start1.atStart⟩
end Jvm.Pilot.@@N@@
