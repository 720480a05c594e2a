import JvmDerived
import JvmDerived.Pilot.@@N@@Statement
import JvmDerived.Pilot.@@N@@Code
set_option linter.unusedVariables false
set_option linter.unusedSimpArgs false
namespace Jvm.RoadKit
open Sem ClassFile Op Lib Jvm.Stand Jvm.Free Jvm.LawKit
section New
variable {p : Program} {l : Launch} {e : Env} {R : Room} {s : State} {m : MethodId} {args : Array Value} {below : List Frame} {meth : Method} {c : Code} {T : State} {locs : List Loc} {cells slots : Nat}
theorem retI (X : Stand p l e R s m args below meth c T locs cells slots) (hx : p.tables.exec = Jvm.exec) {pc : Nat} {Ls : Array Slot} {z : Int32} {rest : List Value} (hret : meth.sig.returnType = some .int) (hd : decode c.code pc = .ok (.ireturn, 1)) {fs : List Frame}
    (hl : ∀ (f : JFrame) (acts : List Action), f.method = m → f.locked = none → f.entered = [] → (doReturn e (T.setTop f) acts (some (.int z))).1 = T.setFrames fs) : Steps p.tables e below (T.setTop (mkF m pc Ls (.int z :: rest))) (T.setFrames fs) := by
  have hm' : T.vm.method? m = some meth := X.method'
  have hn : narrow .int (.int z) = .int z := rfl
  show Steps p.tables e below (T.setTop { method := m, pc := pc, locals := Ls, stack := _ :: rest, locked := none }) _
  jvm_step X.here [X.here.top, hx, hd, hm', hret, hn]
  first | (intro acts; rw [hl _ acts rfl rfl rfl]) | rw [hl _ _ rfl rfl rfl]
  exact Steps.refl _
end New
end Jvm.RoadKit
namespace Jvm.Pilot.@@N@@
open Jvm Jvm.ClassFile Sem Op Lib Jvm.Free Jvm.Stand Jvm.LawKit Jvm.RoadKit Bundle Jvm.Pilot.@@N@@.Jvm.D
def own_min (p0 p1 : Int64) : Int64 := (if (0 : Int32) < (lcmpW p0 p1) then p1 else p0)
theorem own_min_max (x : Int64) : own_min (9223372036854775807 : Int64) x = x := by
  unfold own_min
  split
  · rfl
  · rename_i h
    rw [lw_gt, Int64.lt_iff_toInt_lt] at h
    have k : (9223372036854775807 : Int64).toInt = 9223372036854775807 := rfl
    have r := rng64 x
    apply Int64.toInt_inj.mp
    omega
theorem own_k0 : (0 : Int32).toInt = 0 := rfl
theorem own_k1 : (1 : Int32).toInt = 1 := rfl
theorem own_k2 : (2 : Int32).toInt = 2 := rfl
theorem own_k3 : (3 : Int32).toInt = 3 := rfl
theorem own_and3 (p : Int32) : (p &&& (3 : Int32)) = (0 : Int32) ∨ (p &&& (3 : Int32)) = (1 : Int32) ∨ (p &&& (3 : Int32)) = (2 : Int32) ∨ (p &&& (3 : Int32)) = (3 : Int32) := by
  have h1 := c_mask p 3 2 (by decide) (by decide)
  simp only [← Int32.toInt_inj, own_k0, own_k1, own_k2, own_k3]
  omega
theorem d3_0 : decode jdk_2809_method_2_code 0 = .ok (.aload_n 0, 1) := by decide +kernel
theorem d3_1 : decode jdk_2809_method_2_code 1 = .ok (.invokespecial 1, 3) := by decide +kernel
theorem d3_4 : decode jdk_2809_method_2_code 4 = .ok (.return_, 1) := by decide +kernel
theorem pn_3 : plainName "java/util/concurrent/atomic/AtomicReference" = true := by first | (simp [plainName, overriddenIn]; done) | decide +kernel
theorem ef_rm3 (m : MethodId) (p0 : Addr) : entryFrame m #[(.ref p0)] 1 = mkF m 0 #[.val (.ref p0)] [] := by first | (simp [entryFrame, mkF, argsToLocals, Value.category]; done) | rfl
def Q3 (Z : State) (p0 : Addr) (h0 : Heap) (n0 : Nat) (v : Option Value) (h : Heap) (L : List Loc) : Prop := v = none ∧ Fr n0 L ∧ h = h0
set_option maxRecDepth 65536 in
set_option maxHeartbeats 40000000 in
theorem rm3 (l : Launch) (Z : State) (a0 : Array Value) (hw : ∀ d ∈ tables_1, d.before a0 Z = true) (ws : List Jvm.Cond) (p0 : Addr) (h0 : Heap) (n0 : Nat) (O0 : Old Z n0 h0) :
    MetFree l (⟨"java/util/concurrent/atomic/AtomicReference", "<init>", "()V"⟩ : MethodName) (head1 (Jvm.Cond.code (⟨"java/util/concurrent/atomic/AtomicReference", "<init>", "()V"⟩ : MethodName) jdk_2809_method_2_code 1 none :: ws) ({ frames := 1, cells := 0, slots := 0, locals := 12 } : Room)) (fun a U => a = #[(.ref p0)] ∧ Z.Warmed39 U.vm ∧ U.heap = h0) (fun _ _ _ _ _ => True) (fun _ U o U' => ∃ v L, o = .returned v ∧ Q3 Z p0 h0 n0 v U'.heap L ∧ FrameEnd U o U' L ({ frames := 1, cells := 0, slots := 0, locals := 12 } : Room).cells ({ frames := 1, cells := 0, slots := 0, locals := 12 } : Room).slots) := by
  refine MetFree.of_bodySF (plainFor_of_name pn_3) hisR ?_
  intro p e s m args below meth c s₁ Bd hml0 hP hK
  obtain ⟨rfl, hZ, hh⟩ := hP
  have hx := Bd.exec
  have hby := Bd.bytes
  have hml : c.maxLocals = 1 := hml0
  have hown : s.vm.findClass "java/util/concurrent/atomic/AtomicReference" = some m.cls := findClass_of_methodNamed Bd.named
  have hnm := (name_of_methodNamed Bd.named Bd.method).1
  have X0 : Stand p l e ({ frames := 1, cells := 0, slots := 0, locals := 12 } : Room) s m #[(.ref p0)] below meth c s₁ [] 0 0 := Stand.of_body Bd
  have e0 : s₁.heap = h0 := by rw [← hh, Bd.state]; rfl
  have N0 := Fr.nil n0
  have s0 : Steps p.tables e below (s₁.setTop (entryFrame m #[(.ref p0)] 1)) (s₁.setTop (mkF m 0 #[.val (.ref p0)] [])) := castTop (ef_rm3 m p0) (Steps.refl _)
  obtain ⟨T1, X1, e1, st1⟩ := initO X0 hx hZ hown (hw _ (List.mem_of_getElem? (i := 15) rfl)) (hw _ (List.mem_of_getElem? (i := 7) rfl)) (hw _ (List.mem_of_getElem? (i := 8) rfl)) e0 (g := (mkF m 1 #[.val (.ref p0)] [(.ref p0)])) rfl (by rw [hml]; rfl) rfl (hb hby d3_1) (by decide) (W := 0) (by show 2 * 0 + _ ≤ _; exact Nat.le_of_eq rfl) (by decide)
  have s2 : Steps p.tables e below (s₁.setTop (entryFrame m #[(.ref p0)] 1)) (T1.setTop (mkF m 4 #[.val (.ref p0)] [])) := by
    refine s0.trans ?_
    show Steps p.tables e below (s₁.setTop (mkF m 0 #[.val (.ref p0)] [])) _
    refine XS.aloadN X0.here hx rfl (hb hby d3_0) rfl rfl ?_
    show Steps p.tables e below (s₁.setTop (mkF m 1 #[.val (.ref p0)] [(.ref p0)])) _
    refine st1 _ ?_
    exact Steps.refl _
  obtain ⟨fs, hr, hrun, hended, hW, hsame⟩ := X1.leave (v := none) (fun _ => rfl)
  refine ⟨_, _, s2.trans ?_, hrun, hended, _, _, rfl, ?_, ⟨_, rfl⟩, hW, hsame.mono (by decide) (by decide)⟩
  · show Steps p.tables e below (T1.setTop (mkF m 4 #[.val (.ref p0)] [])) _
    exact X1.returnOut hx Bd.returns (hb hby d3_4) hr
  · show Q3 Z p0 h0 n0 _ T1.heap _
    rw [e1]
    exact ⟨rfl, N0, rfl⟩
theorem d6_0 : decode jdk_29_method_70_code 0 = .ok (.lload_n 0, 1) := by decide +kernel
theorem d6_1 : decode jdk_29_method_70_code 1 = .ok (.lload_n 2, 1) := by decide +kernel
theorem d6_2 : decode jdk_29_method_70_code 2 = .ok (.lcmp, 1) := by decide +kernel
theorem d6_3 : decode jdk_29_method_70_code 3 = .ok (.ifCond .gt 7, 3) := by decide +kernel
theorem d6_6 : decode jdk_29_method_70_code 6 = .ok (.lload_n 0, 1) := by decide +kernel
theorem d6_7 : decode jdk_29_method_70_code 7 = .ok (.goto 4, 3) := by decide +kernel
theorem d6_10 : decode jdk_29_method_70_code 10 = .ok (.lload_n 2, 1) := by decide +kernel
theorem d6_11 : decode jdk_29_method_70_code 11 = .ok (.lreturn, 1) := by decide +kernel
theorem ef_rm6 (m : MethodId) (p0 : Int64) (p1 : Int64) : entryFrame m #[(.long p0), (.long p1)] 4 = mkF m 0 #[.val (.long p0), .second, .val (.long p1), .second] [] := by first | (simp [entryFrame, mkF, argsToLocals, Value.category]; done) | rfl
def Q6 (Z : State) (p0 : Int64) (p1 : Int64) (h0 : Heap) (n0 : Nat) (v : Option Value) (h : Heap) (L : List Loc) : Prop := v = some (.long (own_min p0 p1)) ∧ Fr n0 L ∧ h = h0
set_option maxRecDepth 65536 in
set_option maxHeartbeats 40000000 in
theorem rm6 (l : Launch) (Z : State) (a0 : Array Value) (hw : ∀ d ∈ tables_1, d.before a0 Z = true) (ws : List Jvm.Cond) (p0 : Int64) (p1 : Int64) (h0 : Heap) (n0 : Nat) (O0 : Old Z n0 h0) :
    MetFree l (⟨"java/lang/Math", "min", "(JJ)J"⟩ : MethodName) (head1 (Jvm.Cond.code (⟨"java/lang/Math", "min", "(JJ)J"⟩ : MethodName) jdk_29_method_70_code 4 (some .long) :: ws) ({ frames := 0, cells := 0, slots := 0, locals := 0 } : Room)) (fun a U => a = #[(.long p0), (.long p1)] ∧ Z.Warmed39 U.vm ∧ U.heap = h0) (fun _ _ _ _ _ => True) (fun _ U o U' => ∃ v L, o = .returned v ∧ Q6 Z p0 p1 h0 n0 v U'.heap L ∧ FrameEnd U o U' L ({ frames := 0, cells := 0, slots := 0, locals := 0 } : Room).cells ({ frames := 0, cells := 0, slots := 0, locals := 0 } : Room).slots) := by
  refine MetFree.of_bodySF (Jvm.Free.JP.mathPlain rfl (by decide +kernel)) hisR ?_
  intro p e s m args below meth c s₁ Bd hml0 hP hK
  obtain ⟨rfl, hZ, hh⟩ := hP
  have hx := Bd.exec
  have hby := Bd.bytes
  have hml : c.maxLocals = 4 := hml0
  have hown : s.vm.findClass "java/lang/Math" = some m.cls := findClass_of_methodNamed Bd.named
  have hnm := (name_of_methodNamed Bd.named Bd.method).1
  have X0 : Stand p l e ({ frames := 0, cells := 0, slots := 0, locals := 0 } : Room) s m #[(.long p0), (.long p1)] below meth c s₁ [] 0 0 := Stand.of_body Bd
  have e0 : s₁.heap = h0 := by rw [← hh, Bd.state]; rfl
  have N0 := Fr.nil n0
  have s0 : Steps p.tables e below (s₁.setTop (entryFrame m #[(.long p0), (.long p1)] 4)) (s₁.setTop (mkF m 0 #[.val (.long p0), .second, .val (.long p1), .second] [])) := castTop (ef_rm6 m p0 p1) (Steps.refl _)
  have s1 : Steps p.tables e below (s₁.setTop (entryFrame m #[(.long p0), (.long p1)] 4)) (s₁.setTop (mkF m 3 #[.val (.long p0), .second, .val (.long p1), .second] [(.int (lcmpW p0 p1))])) := by
    refine s0.trans ?_
    show Steps p.tables e below (s₁.setTop (mkF m 0 #[.val (.long p0), .second, .val (.long p1), .second] [])) _
    refine XS.lloadN X0.here hx rfl (hb hby d6_0) rfl ?_
    show Steps p.tables e below (s₁.setTop (mkF m 1 #[.val (.long p0), .second, .val (.long p1), .second] [(.long p0)])) _
    refine XS.lloadN X0.here hx rfl (hb hby d6_1) rfl ?_
    show Steps p.tables e below (s₁.setTop (mkF m 2 #[.val (.long p0), .second, .val (.long p1), .second] [(.long p1), (.long p0)])) _
    refine XS.lcmp X0.here hx rfl (hb hby d6_2) rfl ?_
    exact Steps.refl _
  have s3 : Steps p.tables e below (s₁.setTop (entryFrame m #[(.long p0), (.long p1)] 4)) (s₁.setTop (mkF m 11 #[.val (.long p0), .second, .val (.long p1), .second] [(.long (if (0 : Int32) < (lcmpW p0 p1) then p1 else p0))])) := by
    by_cases hm2 : (0 : Int32) < (lcmpW p0 p1)
    · simp only [if_pos hm2]
      refine s1.trans ?_
      show Steps p.tables e below (s₁.setTop (mkF m 3 #[.val (.long p0), .second, .val (.long p1), .second] [(.int (lcmpW p0 p1))])) _
      refine XS.ifYes X0.here hx rfl (pc0 := 3) (pc' := 10) rfl (hb hby d6_3) rfl ((if0 _ _).trans (tlt hm2).2.2.1) (by decide) (by decide) ?_
      show Steps p.tables e below (s₁.setTop (mkF m 10 #[.val (.long p0), .second, .val (.long p1), .second] [])) _
      refine XS.lloadN X0.here hx rfl (hb hby d6_10) rfl ?_
      exact Steps.refl _
    · simp only [if_neg hm2]
      refine s1.trans ?_
      show Steps p.tables e below (s₁.setTop (mkF m 3 #[.val (.long p0), .second, .val (.long p1), .second] [(.int (lcmpW p0 p1))])) _
      refine XS.ifNo X0.here hx rfl (hb hby d6_3) rfl ((if0 _ _).trans (flt hm2).2.2.1) ?_
      show Steps p.tables e below (s₁.setTop (mkF m 6 #[.val (.long p0), .second, .val (.long p1), .second] [])) _
      refine XS.lloadN X0.here hx rfl (hb hby d6_6) rfl ?_
      show Steps p.tables e below (s₁.setTop (mkF m 7 #[.val (.long p0), .second, .val (.long p1), .second] [(.long p0)])) _
      refine XS.goto X0.here hx rfl (pc0 := 7) (pc' := 11) rfl (hb hby d6_7) (by decide) (by decide) ?_
      exact Steps.refl _
  obtain ⟨zz, hzz⟩ : ∃ z, z = (if (0 : Int32) < (lcmpW p0 p1) then p1 else p0) := ⟨_, rfl⟩
  rw [← hzz] at s3
  obtain ⟨fs, hr, hrun, hended, hW, hsame⟩ := X0.leave (v := some (.long zz)) (fun h => by rw [Bd.returns] at h; cases h)
  refine ⟨_, _, s3.trans ?_, hrun, hended, _, _, rfl, ?_, ⟨_, rfl⟩, hW, hsame.mono (by decide) (by decide)⟩
  · show Steps p.tables e below (s₁.setTop (mkF m 11 #[.val (.long p0), .second, .val (.long p1), .second] [(.long zz)])) _
    jvm_step X0.here [X0.here.top, hx, (hb hby d6_11), X0.method', Bd.returns, narrow]
    first | (intro acts; rw [hr _ acts rfl rfl rfl]) | rw [hr _ _ rfl rfl rfl]
    exact Steps.refl _
  · show Q6 Z p0 p1 h0 n0 _ s₁.heap _
    rw [e0]
    exact ⟨(by rw [hzz]; rfl), N0, rfl⟩
theorem d1_0 : decode prog_12_method_1_code 0 = .ok (.aload_n 0, 1) := by decide +kernel
theorem d1_1 : decode prog_12_method_1_code 1 = .ok (.invokespecial 1, 3) := by decide +kernel
theorem d1_4 : decode prog_12_method_1_code 4 = .ok (.aload_n 0, 1) := by decide +kernel
theorem d1_5 : decode prog_12_method_1_code 5 = .ok (.new 7, 3) := by decide +kernel
theorem d1_8 : decode prog_12_method_1_code 8 = .ok (.dup, 1) := by decide +kernel
theorem d1_9 : decode prog_12_method_1_code 9 = .ok (.invokespecial 9, 3) := by decide +kernel
theorem d1_12 : decode prog_12_method_1_code 12 = .ok (.putfield 10, 3) := by decide +kernel
theorem d1_15 : decode prog_12_method_1_code 15 = .ok (.aload_n 0, 1) := by decide +kernel
theorem d1_16 : decode prog_12_method_1_code 16 = .ok (.iload_n 1, 1) := by decide +kernel
theorem d1_17 : decode prog_12_method_1_code 17 = .ok (.newarray .long, 2) := by decide +kernel
theorem d1_19 : decode prog_12_method_1_code 19 = .ok (.putfield 16, 3) := by decide +kernel
theorem d1_22 : decode prog_12_method_1_code 22 = .ok (.aload_n 0, 1) := by decide +kernel
theorem d1_23 : decode prog_12_method_1_code 23 = .ok (.iload_n 1, 1) := by decide +kernel
theorem d1_24 : decode prog_12_method_1_code 24 = .ok (.newarray .long, 2) := by decide +kernel
theorem d1_26 : decode prog_12_method_1_code 26 = .ok (.putfield 20, 3) := by decide +kernel
theorem d1_29 : decode prog_12_method_1_code 29 = .ok (.aload_n 0, 1) := by decide +kernel
theorem d1_30 : decode prog_12_method_1_code 30 = .ok (.iload_n 1, 1) := by decide +kernel
theorem d1_31 : decode prog_12_method_1_code 31 = .ok (.anewarray 23, 3) := by decide +kernel
theorem d1_34 : decode prog_12_method_1_code 34 = .ok (.putfield 25, 3) := by decide +kernel
theorem d1_37 : decode prog_12_method_1_code 37 = .ok (.return_, 1) := by decide +kernel
theorem pn_1 : plainName "com/example/hot_gate/hotgate/bench/Replies" = true := by first | (simp [plainName, overriddenIn]; done) | decide +kernel
theorem pd_rmi0_0 : parseMethodDescriptor "()V" = some ⟨[], none⟩ := by decide +kernel
theorem ef_rmi0 (m : MethodId) (p0 : Addr) : entryFrame m #[(.ref p0), (.int (0 : Int32))] 2 = mkF m 0 #[.val (.ref p0), .val (.int (0 : Int32))] [] := by first | (simp [entryFrame, mkF, argsToLocals, Value.category]; done) | rfl
def Qi0 (Z : State) (p0 : Addr) (h0 : Heap) (n0 : Nat) (v : Option Value) (h : Heap) (L : List Loc) : Prop := ∃ b1 : Addr, ∃ b2 : Addr, ∃ b3 : Addr, ∃ k1 : ClassId, ∃ k2 : ClassId, ∃ k3 : ClassId, v = none ∧ Fr n0 L ∧ Keep h0 h [p0] ∧ (Exa Z h p0 "com/example/hot_gate/hotgate/bench/Replies") ∧ (Fld Z h p0 "com/example/hot_gate/hotgate/bench/Replies" "sentAt" "[J" (.ref b1)) ∧ (Fld Z h p0 "com/example/hot_gate/hotgate/bench/Replies" "answeredAt" "[J" (.ref b2)) ∧ (Fld Z h p0 "com/example/hot_gate/hotgate/bench/Replies" "outcomes" "[Lcom/example/hot_gate/hotgate/bench/Outcome;" (.ref b3)) ∧ (Arv Z h b1 k1 .long (0 : Int32) [] (.long (0 : Int64))) ∧ (Arv Z h b2 k2 .long (0 : Int32) [] (.long (0 : Int64))) ∧ (Arv Z h b3 k3 (.object "com/example/hot_gate/hotgate/bench/Outcome") (0 : Int32) [] .null) ∧ (h0.size ≤ b1) ∧ (h0.size ≤ b2) ∧ (h0.size ≤ b3) ∧ (b1 ≠ b2) ∧ (b1 ≠ b3) ∧ (b2 ≠ b3)
set_option maxRecDepth 65536 in
set_option maxHeartbeats 40000000 in
theorem rmi0 (l : Launch) (Z : State) (a0 : Array Value) (hw : ∀ d ∈ tables_1, d.before a0 Z = true) (ws : List Jvm.Cond) (p0 : Addr) (h0 : Heap) (n0 : Nat) (O0 : Old Z n0 h0) (F0_ : Exa Z h0 p0 "com/example/hot_gate/hotgate/bench/Replies") (F1_ : Fld Z h0 p0 "com/example/hot_gate/hotgate/bench/Replies" "firstError" "Ljava/util/concurrent/atomic/AtomicReference;" .null) (F2_ : Fld Z h0 p0 "com/example/hot_gate/hotgate/bench/Replies" "sentAt" "[J" .null) (F3_ : Fld Z h0 p0 "com/example/hot_gate/hotgate/bench/Replies" "answeredAt" "[J" .null) (F4_ : Fld Z h0 p0 "com/example/hot_gate/hotgate/bench/Replies" "outcomes" "[Lcom/example/hot_gate/hotgate/bench/Outcome;" .null) (F5_ : n0 ≤ p0) :
    MetFree l (⟨"com/example/hot_gate/hotgate/bench/Replies", "<init>", "(I)V"⟩ : MethodName) (head1 (Jvm.Cond.code (⟨"com/example/hot_gate/hotgate/bench/Replies", "<init>", "(I)V"⟩ : MethodName) prog_12_method_1_code 2 none :: ws) ({ frames := 2, cells := 4, slots := 1, locals := 26 } : Room)) (fun a U => a = #[(.ref p0), (.int (0 : Int32))] ∧ Z.Warmed39 U.vm ∧ U.heap = h0) (fun _ _ _ _ _ => True) (fun _ U o U' => ∃ v L, o = .returned v ∧ Qi0 Z p0 h0 n0 v U'.heap L ∧ FrameEnd U o U' L ({ frames := 2, cells := 4, slots := 1, locals := 26 } : Room).cells ({ frames := 2, cells := 4, slots := 1, locals := 26 } : Room).slots) := by
  refine MetFree.of_bodySF (plainFor_of_name pn_1) hisR ?_
  intro p e s m args below meth c s₁ Bd hml0 hP hK
  obtain ⟨rfl, hZ, hh⟩ := hP
  have hx := Bd.exec
  have hby := Bd.bytes
  have hml : c.maxLocals = 2 := hml0
  have hown : s.vm.findClass "com/example/hot_gate/hotgate/bench/Replies" = some m.cls := findClass_of_methodNamed Bd.named
  have hnm := (name_of_methodNamed Bd.named Bd.method).1
  have X0 : Stand p l e ({ frames := 2, cells := 4, slots := 1, locals := 26 } : Room) s m #[(.ref p0), (.int (0 : Int32))] below meth c s₁ [] 0 0 := Stand.of_body Bd
  have e0 : s₁.heap = h0 := by rw [← hh, Bd.state]; rfl
  have N0 := Fr.nil n0
  have s0 : Steps p.tables e below (s₁.setTop (entryFrame m #[(.ref p0), (.int (0 : Int32))] 2)) (s₁.setTop (mkF m 0 #[.val (.ref p0), .val (.int (0 : Int32))] [])) := castTop (ef_rmi0 m p0) (Steps.refl _)
  obtain ⟨T1, X1, e1, st1⟩ := initO X0 hx hZ hown (hw _ (List.mem_of_getElem? (i := 6) rfl)) (hw _ (List.mem_of_getElem? (i := 7) rfl)) (hw _ (List.mem_of_getElem? (i := 8) rfl)) e0 (g := (mkF m 1 #[.val (.ref p0), .val (.int (0 : Int32))] [(.ref p0)])) rfl (by rw [hml]; rfl) rfl (hb hby d1_1) (by decide) (W := 0) (by show 2 * 0 + _ ≤ _; exact Nat.le_of_eq rfl) (by decide)
  obtain ⟨T2, h2, X2, e2, E2, A2, D2, -, st2⟩ := newO X1 hx hZ hown (hw _ (List.mem_of_getElem? (i := 9) rfl)) (hw _ (List.mem_of_getElem? (i := 10) rfl)) (hw _ (List.mem_of_getElem? (i := 11) rfl)) e1 (g := (mkF m 5 #[.val (.ref p0), .val (.int (0 : Int32))] [(.ref p0)])) rfl (hb hby d1_5) (by decide) (by decide)
  obtain ⟨b2, g2⟩ : ∃ z, z = h0.size := ⟨_, rfl⟩
  rw [← g2] at A2 D2 st2
  have ne_p0_b2 : p0 ≠ b2 := Nat.ne_of_lt (Nat.lt_of_lt_of_le F0_.lt (Nat.le_of_eq g2.symm))
  have g_b2 : n0 ≤ b2 := Nat.le_trans (Nat.le_of_eq O0.1.symm) (Nat.le_trans O0.2.1 (Nat.le_of_eq g2.symm))
  have sz_b2 : h0.size ≤ b2 := Nat.le_trans (Keep.refl h0 [p0]).1 (Nat.le_of_eq g2.symm)
  have O2 := O0.ext E2
  have K2 : Keep h0 h2 [p0] := (Keep.refl h0 [p0]).ext E2
  obtain ⟨_, _, ⟨T3, L3, k3, n3⟩, -, X3, ⟨Lc3, hQ3, l3, y3, z3⟩, st3⟩ := X2.specialBack hx (y := (⟨"java/util/concurrent/atomic/AtomicReference", "<init>", "()V"⟩ : MethodName)) rfl hown (mvT hZ (hw _ (List.mem_of_getElem? (i := 12) rfl))) (mvT hZ (hw _ (List.mem_of_getElem? (i := 13) rfl))) (mvT hZ (hw _ (List.mem_of_getElem? (i := 14) rfl))) (by decide) (backOf (W := 2) (rm3 l Z a0 hw [] b2 h2 n0 O2 ) hZ (hw _ (List.mem_of_getElem? (i := 14) rfl)) (hw _ (List.mem_of_getElem? (i := 11) rfl)) (by decide) (by decide)) (g := (mkF m 9 #[.val (.ref p0), .val (.int (0 : Int32))] [(.ref b2), (.ref b2), (.ref p0)])) rfl (by rw [hml]; rfl) (Steps.refl _) (a := b2) (argsL := []) (rest := [(.ref b2), (.ref p0)]) (lenOf pd_rmi0_0 rfl) rfl (by show 2 * 0 + _ ≤ _; exact Nat.le_of_eq rfl) (hb hby d1_9) (fun _ _ => ⟨rfl, e2, (by decide : 1 + 0 ≤ _), (by decide : 1 + 0 ≤ _)⟩)
  dsimp only [Pt.U, Pt.locs, Pt.cells, Pt.slots] at X3 l3 y3 z3 st3 hQ3
  subst l3 y3 z3
  obtain ⟨rfl, Nq3, e3⟩ := hQ3
  have N3 := Fr.app N0 Nq3
  have c4 : Exa Z h2 p0 "com/example/hot_gate/hotgate/bench/Replies" := (F0_.ext E2)
  have c5 : Fld Z h2 p0 "com/example/hot_gate/hotgate/bench/Replies" "firstError" "Ljava/util/concurrent/atomic/AtomicReference;" .null := (F1_.ext E2)
  obtain ⟨T6, h6, X6, e6, W6, st6⟩ := putF X3 hx hZ hown (host := "") (Or.inl (hw _ (List.mem_of_getElem? (i := 16) rfl))) Via.refl e3 c5 c4 (Or.inr ⟨(hw _ (List.mem_of_getElem? (i := 17) rfl)), rfl, hnm⟩) (hw _ (List.mem_of_getElem? (i := 1) rfl)) (ty := (.object "java/util/concurrent/atomic/AtomicReference")) (by decide) rfl rfl (g := (mkF m 12 #[.val (.ref p0), .val (.int (0 : Int32))] [(.ref b2), (.ref p0)])) rfl rfl (hb hby d1_12)
  have Fw6 := c5.same W6
  have O6 := O2.wr W6 F5_
  have K6 : Keep h0 h6 [p0] := K2.wr W6 (Or.inl (List.mem_of_getElem? (i := 0) rfl))
  have N6 := Fr.snoc X6 N3 F5_
  obtain ⟨T7, h7, k7, X7, e7, E7, A7, st7⟩ := newP X6 hx hZ (hw _ (List.mem_of_getElem? (i := 18) rfl)) e6 (g := (mkF m 17 #[.val (.ref p0), .val (.int (0 : Int32))] [(.int (0 : Int32)), (.ref p0)])) rfl (hb hby d1_17) rfl (by decide) (cap := 0) (by decide) (by decide) (by decide) (by decide)
  obtain ⟨b7, g7⟩ : ∃ z, z = h6.size := ⟨_, rfl⟩
  rw [← g7] at A7 st7
  have c8 : Exa Z h6 p0 "com/example/hot_gate/hotgate/bench/Replies" := (c4.wr W6)
  have ne_p0_b7 : p0 ≠ b7 := Nat.ne_of_lt (Nat.lt_of_lt_of_le c8.lt (Nat.le_of_eq g7.symm))
  have c9 : Exa Z h6 b2 "java/util/concurrent/atomic/AtomicReference" := (A2.wr W6)
  have ne_b2_b7 : b2 ≠ b7 := Nat.ne_of_lt (Nat.lt_of_lt_of_le c9.lt (Nat.le_of_eq g7.symm))
  have g_b7 : n0 ≤ b7 := Nat.le_trans (Nat.le_of_eq O6.1.symm) (Nat.le_trans O6.2.1 (Nat.le_of_eq g7.symm))
  have sz_b7 : h0.size ≤ b7 := Nat.le_trans K6.1 (Nat.le_of_eq g7.symm)
  have O7 := O6.ext E7
  have K7 : Keep h0 h7 [p0] := K6.ext E7
  have V7 : Arv Z h7 b7 k7 .long (0 : Int32) [] (.long (0 : Int64)) := (Arv.new A7 (by decide)).pad (pad_rep [] (.long (0 : Int64)) 0)
  have c10 : Exa Z h7 p0 "com/example/hot_gate/hotgate/bench/Replies" := (c8.ext E7)
  have c11 : Fld Z h7 p0 "com/example/hot_gate/hotgate/bench/Replies" "sentAt" "[J" .null := (((F2_.ext E2).other W6 (Or.inr (slot_ne (Or.inr (hw _ (List.mem_of_getElem? (i := 20) rfl))) (Or.inr (hw _ (List.mem_of_getElem? (i := 17) rfl))) (by decide) (t := (.array .long)) (t' := (.object "java/util/concurrent/atomic/AtomicReference")) (by decide) (by decide)))).ext E7)
  obtain ⟨T12, h12, X12, e12, W12, st12⟩ := putF X7 hx hZ hown (host := "") (Or.inl (hw _ (List.mem_of_getElem? (i := 19) rfl))) Via.refl e7 c11 c10 (Or.inr ⟨(hw _ (List.mem_of_getElem? (i := 20) rfl)), rfl, hnm⟩) (hw _ (List.mem_of_getElem? (i := 1) rfl)) (ty := (.array .long)) (by decide) rfl rfl (g := (mkF m 19 #[.val (.ref p0), .val (.int (0 : Int32))] [(.ref b7), (.ref p0)])) rfl rfl (hb hby d1_19)
  have Fw12 := c11.same W12
  have O12 := O7.wr W12 F5_
  have K12 : Keep h0 h12 [p0] := K7.wr W12 (Or.inl (List.mem_of_getElem? (i := 0) rfl))
  have N12 := Fr.snoc X12 N6 F5_
  obtain ⟨T13, h13, k13, X13, e13, E13, A13, st13⟩ := newP X12 hx hZ (hw _ (List.mem_of_getElem? (i := 18) rfl)) e12 (g := (mkF m 24 #[.val (.ref p0), .val (.int (0 : Int32))] [(.int (0 : Int32)), (.ref p0)])) rfl (hb hby d1_24) rfl (by decide) (cap := 0) (by decide) (by decide) (by decide) (by decide)
  obtain ⟨b13, g13⟩ : ∃ z, z = h12.size := ⟨_, rfl⟩
  rw [← g13] at A13 st13
  have c14 : Exa Z h12 p0 "com/example/hot_gate/hotgate/bench/Replies" := (c10.wr W12)
  have ne_p0_b13 : p0 ≠ b13 := Nat.ne_of_lt (Nat.lt_of_lt_of_le c14.lt (Nat.le_of_eq g13.symm))
  have c15 : Exa Z h12 b2 "java/util/concurrent/atomic/AtomicReference" := ((c9.ext E7).wr W12)
  have ne_b2_b13 : b2 ≠ b13 := Nat.ne_of_lt (Nat.lt_of_lt_of_le c15.lt (Nat.le_of_eq g13.symm))
  have c16 : Arv Z h12 b7 k7 .long (0 : Int32) [] (.long (0 : Int64)) := (V7.other W12 (Ne.symm ne_p0_b7))
  have ne_b7_b13 : b7 ≠ b13 := Nat.ne_of_lt (Nat.lt_of_lt_of_le c16.lt (Nat.le_of_eq g13.symm))
  have g_b13 : n0 ≤ b13 := Nat.le_trans (Nat.le_of_eq O12.1.symm) (Nat.le_trans O12.2.1 (Nat.le_of_eq g13.symm))
  have sz_b13 : h0.size ≤ b13 := Nat.le_trans K12.1 (Nat.le_of_eq g13.symm)
  have O13 := O12.ext E13
  have K13 : Keep h0 h13 [p0] := K12.ext E13
  have V13 : Arv Z h13 b13 k13 .long (0 : Int32) [] (.long (0 : Int64)) := (Arv.new A13 (by decide)).pad (pad_rep [] (.long (0 : Int64)) 0)
  have c17 : Exa Z h13 p0 "com/example/hot_gate/hotgate/bench/Replies" := (c14.ext E13)
  have c18 : Fld Z h13 p0 "com/example/hot_gate/hotgate/bench/Replies" "answeredAt" "[J" .null := (((((F3_.ext E2).other W6 (Or.inr (slot_ne (Or.inr (hw _ (List.mem_of_getElem? (i := 22) rfl))) (Or.inr (hw _ (List.mem_of_getElem? (i := 17) rfl))) (by decide) (t := (.array .long)) (t' := (.object "java/util/concurrent/atomic/AtomicReference")) (by decide) (by decide)))).ext E7).other W12 (Or.inr (slot_ne (Or.inr (hw _ (List.mem_of_getElem? (i := 22) rfl))) (Or.inr (hw _ (List.mem_of_getElem? (i := 20) rfl))) (by decide) (t := (.array .long)) (t' := (.array .long)) (by decide) (by decide)))).ext E13)
  obtain ⟨T19, h19, X19, e19, W19, st19⟩ := putF X13 hx hZ hown (host := "") (Or.inl (hw _ (List.mem_of_getElem? (i := 21) rfl))) Via.refl e13 c18 c17 (Or.inr ⟨(hw _ (List.mem_of_getElem? (i := 22) rfl)), rfl, hnm⟩) (hw _ (List.mem_of_getElem? (i := 1) rfl)) (ty := (.array .long)) (by decide) rfl rfl (g := (mkF m 26 #[.val (.ref p0), .val (.int (0 : Int32))] [(.ref b13), (.ref p0)])) rfl rfl (hb hby d1_26)
  have Fw19 := c18.same W19
  have O19 := O13.wr W19 F5_
  have K19 : Keep h0 h19 [p0] := K13.wr W19 (Or.inl (List.mem_of_getElem? (i := 0) rfl))
  have N19 := Fr.snoc X19 N12 F5_
  obtain ⟨T20, h20, k20, X20, e20, E20, A20, Ov20, st20⟩ := newR X19 hx hZ hown (hw _ (List.mem_of_getElem? (i := 23) rfl)) (hw _ (List.mem_of_getElem? (i := 24) rfl)) e19 (g := (mkF m 31 #[.val (.ref p0), .val (.int (0 : Int32))] [(.int (0 : Int32)), (.ref p0)])) rfl (hb hby d1_31) rfl (by decide) (cap := 0) (by decide) (by decide) (by decide) (by decide)
  obtain ⟨b20, g20⟩ : ∃ z, z = h19.size := ⟨_, rfl⟩
  rw [← g20] at A20 st20
  have c21 : Exa Z h19 p0 "com/example/hot_gate/hotgate/bench/Replies" := (c17.wr W19)
  have ne_p0_b20 : p0 ≠ b20 := Nat.ne_of_lt (Nat.lt_of_lt_of_le c21.lt (Nat.le_of_eq g20.symm))
  have c22 : Exa Z h19 b2 "java/util/concurrent/atomic/AtomicReference" := ((c15.ext E13).wr W19)
  have ne_b2_b20 : b2 ≠ b20 := Nat.ne_of_lt (Nat.lt_of_lt_of_le c22.lt (Nat.le_of_eq g20.symm))
  have c23 : Arv Z h19 b7 k7 .long (0 : Int32) [] (.long (0 : Int64)) := ((c16.ext E13).other W19 (Ne.symm ne_p0_b7))
  have ne_b7_b20 : b7 ≠ b20 := Nat.ne_of_lt (Nat.lt_of_lt_of_le c23.lt (Nat.le_of_eq g20.symm))
  have c24 : Arv Z h19 b13 k13 .long (0 : Int32) [] (.long (0 : Int64)) := (V13.other W19 (Ne.symm ne_p0_b13))
  have ne_b13_b20 : b13 ≠ b20 := Nat.ne_of_lt (Nat.lt_of_lt_of_le c24.lt (Nat.le_of_eq g20.symm))
  have g_b20 : n0 ≤ b20 := Nat.le_trans (Nat.le_of_eq O19.1.symm) (Nat.le_trans O19.2.1 (Nat.le_of_eq g20.symm))
  have sz_b20 : h0.size ≤ b20 := Nat.le_trans K19.1 (Nat.le_of_eq g20.symm)
  have O20 := O19.ext E20
  have K20 : Keep h0 h20 [p0] := K19.ext E20
  have V20 : Arv Z h20 b20 k20 (.object "com/example/hot_gate/hotgate/bench/Outcome") (0 : Int32) [] .null := (Arv.new A20 (by decide)).pad (pad_rep [] .null 0)
  have c25 : Exa Z h20 p0 "com/example/hot_gate/hotgate/bench/Replies" := (c21.ext E20)
  have c26 : Fld Z h20 p0 "com/example/hot_gate/hotgate/bench/Replies" "outcomes" "[Lcom/example/hot_gate/hotgate/bench/Outcome;" .null := (((((((F4_.ext E2).other W6 (Or.inr (slot_ne (Or.inr (hw _ (List.mem_of_getElem? (i := 26) rfl))) (Or.inr (hw _ (List.mem_of_getElem? (i := 17) rfl))) (by decide) (t := (.array (.object "com/example/hot_gate/hotgate/bench/Outcome"))) (t' := (.object "java/util/concurrent/atomic/AtomicReference")) (by decide) (by decide)))).ext E7).other W12 (Or.inr (slot_ne (Or.inr (hw _ (List.mem_of_getElem? (i := 26) rfl))) (Or.inr (hw _ (List.mem_of_getElem? (i := 20) rfl))) (by decide) (t := (.array (.object "com/example/hot_gate/hotgate/bench/Outcome"))) (t' := (.array .long)) (by decide) (by decide)))).ext E13).other W19 (Or.inr (slot_ne (Or.inr (hw _ (List.mem_of_getElem? (i := 26) rfl))) (Or.inr (hw _ (List.mem_of_getElem? (i := 22) rfl))) (by decide) (t := (.array (.object "com/example/hot_gate/hotgate/bench/Outcome"))) (t' := (.array .long)) (by decide) (by decide)))).ext E20)
  obtain ⟨T27, h27, X27, e27, W27, st27⟩ := putF X20 hx hZ hown (host := "") (Or.inl (hw _ (List.mem_of_getElem? (i := 25) rfl))) Via.refl e20 c26 c25 (Or.inr ⟨(hw _ (List.mem_of_getElem? (i := 26) rfl)), rfl, hnm⟩) (hw _ (List.mem_of_getElem? (i := 1) rfl)) (ty := (.array (.object "com/example/hot_gate/hotgate/bench/Outcome"))) (by decide) rfl rfl (g := (mkF m 34 #[.val (.ref p0), .val (.int (0 : Int32))] [(.ref b20), (.ref p0)])) rfl rfl (hb hby d1_34)
  have Fw27 := c26.same W27
  have O27 := O20.wr W27 F5_
  have K27 : Keep h0 h27 [p0] := K20.wr W27 (Or.inl (List.mem_of_getElem? (i := 0) rfl))
  have N27 := Fr.snoc X27 N19 F5_
  have s28 : Steps p.tables e below (s₁.setTop (entryFrame m #[(.ref p0), (.int (0 : Int32))] 2)) (T27.setTop (mkF m 37 #[.val (.ref p0), .val (.int (0 : Int32))] [])) := by
    refine s0.trans ?_
    show Steps p.tables e below (s₁.setTop (mkF m 0 #[.val (.ref p0), .val (.int (0 : Int32))] [])) _
    refine XS.aloadN X0.here hx rfl (hb hby d1_0) rfl rfl ?_
    show Steps p.tables e below (s₁.setTop (mkF m 1 #[.val (.ref p0), .val (.int (0 : Int32))] [(.ref p0)])) _
    refine st1 _ ?_
    show Steps p.tables e below (T1.setTop (mkF m 4 #[.val (.ref p0), .val (.int (0 : Int32))] [])) _
    refine XS.aloadN X1.here hx rfl (hb hby d1_4) rfl rfl ?_
    show Steps p.tables e below (T1.setTop (mkF m 5 #[.val (.ref p0), .val (.int (0 : Int32))] [(.ref p0)])) _
    refine st2 _ ?_
    show Steps p.tables e below (T2.setTop (mkF m 8 #[.val (.ref p0), .val (.int (0 : Int32))] [(.ref b2), (.ref p0)])) _
    refine XS.dup X2.here hx rfl (hb hby d1_8) rfl rfl ?_
    show Steps p.tables e below (T2.setTop (mkF m 9 #[.val (.ref p0), .val (.int (0 : Int32))] [(.ref b2), (.ref b2), (.ref p0)])) _
    refine st3.trans ?_
    show Steps p.tables e below (T3.setTop (mkF m 12 #[.val (.ref p0), .val (.int (0 : Int32))] [(.ref b2), (.ref p0)])) _
    refine st6 _ ?_
    show Steps p.tables e below (T6.setTop (mkF m 15 #[.val (.ref p0), .val (.int (0 : Int32))] [])) _
    refine XS.aloadN X6.here hx rfl (hb hby d1_15) rfl rfl ?_
    show Steps p.tables e below (T6.setTop (mkF m 16 #[.val (.ref p0), .val (.int (0 : Int32))] [(.ref p0)])) _
    refine XS.iloadN X6.here hx rfl (hb hby d1_16) rfl ?_
    show Steps p.tables e below (T6.setTop (mkF m 17 #[.val (.ref p0), .val (.int (0 : Int32))] [(.int (0 : Int32)), (.ref p0)])) _
    refine st7 _ ?_
    show Steps p.tables e below (T7.setTop (mkF m 19 #[.val (.ref p0), .val (.int (0 : Int32))] [(.ref b7), (.ref p0)])) _
    refine st12 _ ?_
    show Steps p.tables e below (T12.setTop (mkF m 22 #[.val (.ref p0), .val (.int (0 : Int32))] [])) _
    refine XS.aloadN X12.here hx rfl (hb hby d1_22) rfl rfl ?_
    show Steps p.tables e below (T12.setTop (mkF m 23 #[.val (.ref p0), .val (.int (0 : Int32))] [(.ref p0)])) _
    refine XS.iloadN X12.here hx rfl (hb hby d1_23) rfl ?_
    show Steps p.tables e below (T12.setTop (mkF m 24 #[.val (.ref p0), .val (.int (0 : Int32))] [(.int (0 : Int32)), (.ref p0)])) _
    refine st13 _ ?_
    show Steps p.tables e below (T13.setTop (mkF m 26 #[.val (.ref p0), .val (.int (0 : Int32))] [(.ref b13), (.ref p0)])) _
    refine st19 _ ?_
    show Steps p.tables e below (T19.setTop (mkF m 29 #[.val (.ref p0), .val (.int (0 : Int32))] [])) _
    refine XS.aloadN X19.here hx rfl (hb hby d1_29) rfl rfl ?_
    show Steps p.tables e below (T19.setTop (mkF m 30 #[.val (.ref p0), .val (.int (0 : Int32))] [(.ref p0)])) _
    refine XS.iloadN X19.here hx rfl (hb hby d1_30) rfl ?_
    show Steps p.tables e below (T19.setTop (mkF m 31 #[.val (.ref p0), .val (.int (0 : Int32))] [(.int (0 : Int32)), (.ref p0)])) _
    refine st20 _ ?_
    show Steps p.tables e below (T20.setTop (mkF m 34 #[.val (.ref p0), .val (.int (0 : Int32))] [(.ref b20), (.ref p0)])) _
    refine st27 _ ?_
    exact Steps.refl _
  have c29 : Exa Z h27 p0 "com/example/hot_gate/hotgate/bench/Replies" := (c25.wr W27)
  have c30 : Fld Z h27 p0 "com/example/hot_gate/hotgate/bench/Replies" "sentAt" "[J" (.ref b7) := ((((Fw12.ext E13).other W19 (Or.inr (slot_ne (Or.inr (hw _ (List.mem_of_getElem? (i := 20) rfl))) (Or.inr (hw _ (List.mem_of_getElem? (i := 22) rfl))) (by decide) (t := (.array .long)) (t' := (.array .long)) (by decide) (by decide)))).ext E20).other W27 (Or.inr (slot_ne (Or.inr (hw _ (List.mem_of_getElem? (i := 20) rfl))) (Or.inr (hw _ (List.mem_of_getElem? (i := 26) rfl))) (by decide) (t := (.array .long)) (t' := (.array (.object "com/example/hot_gate/hotgate/bench/Outcome"))) (by decide) (by decide))))
  have c31 : Fld Z h27 p0 "com/example/hot_gate/hotgate/bench/Replies" "answeredAt" "[J" (.ref b13) := ((Fw19.ext E20).other W27 (Or.inr (slot_ne (Or.inr (hw _ (List.mem_of_getElem? (i := 22) rfl))) (Or.inr (hw _ (List.mem_of_getElem? (i := 26) rfl))) (by decide) (t := (.array .long)) (t' := (.array (.object "com/example/hot_gate/hotgate/bench/Outcome"))) (by decide) (by decide))))
  have c32 : Arv Z h27 b7 k7 .long (0 : Int32) [] (.long (0 : Int64)) := ((c23.ext E20).other W27 (Ne.symm ne_p0_b7))
  have c33 : Arv Z h27 b13 k13 .long (0 : Int32) [] (.long (0 : Int64)) := ((c24.ext E20).other W27 (Ne.symm ne_p0_b13))
  have c34 : Arv Z h27 b20 k20 (.object "com/example/hot_gate/hotgate/bench/Outcome") (0 : Int32) [] .null := (V20.other W27 (Ne.symm ne_p0_b20))
  obtain ⟨fs, hr, hrun, hended, hW, hsame⟩ := X27.leave (v := none) (fun _ => rfl)
  refine ⟨_, _, s28.trans ?_, hrun, hended, _, _, rfl, ?_, ⟨_, rfl⟩, hW, hsame.mono (by decide) (by decide)⟩
  · show Steps p.tables e below (T27.setTop (mkF m 37 #[.val (.ref p0), .val (.int (0 : Int32))] [])) _
    exact X27.returnOut hx Bd.returns (hb hby d1_37) hr
  · show Qi0 Z p0 h0 n0 _ T27.heap _
    rw [e27]
    exact ⟨b7, b13, b20, k7, k13, k20, rfl, N27, K27, c29, c30, c31, Fw27, c32, c33, c34, sz_b7, sz_b13, sz_b20, ne_b7_b13, ne_b7_b20, ne_b13_b20⟩
theorem d4_0 : decode prog_12_method_6_code 0 = .ok (.ldc2_w 41, 3) := by decide +kernel
theorem d4_3 : decode prog_12_method_6_code 3 = .ok (.lstore_n 1, 1) := by decide +kernel
theorem d4_4 : decode prog_12_method_6_code 4 = .ok (.aload_n 0, 1) := by decide +kernel
theorem d4_5 : decode prog_12_method_6_code 5 = .ok (.getfield 16, 3) := by decide +kernel
theorem d4_8 : decode prog_12_method_6_code 8 = .ok (.astore_n 3, 1) := by decide +kernel
theorem d4_9 : decode prog_12_method_6_code 9 = .ok (.aload_n 3, 1) := by decide +kernel
theorem d4_10 : decode prog_12_method_6_code 10 = .ok (.arraylength, 1) := by decide +kernel
theorem d4_11 : decode prog_12_method_6_code 11 = .ok (.istore 4, 2) := by decide +kernel
theorem d4_13 : decode prog_12_method_6_code 13 = .ok (.iconst 0, 1) := by decide +kernel
theorem d4_14 : decode prog_12_method_6_code 14 = .ok (.istore 5, 2) := by decide +kernel
theorem d4_16 : decode prog_12_method_6_code 16 = .ok (.iload 5, 2) := by decide +kernel
theorem d4_18 : decode prog_12_method_6_code 18 = .ok (.iload 4, 2) := by decide +kernel
theorem d4_20 : decode prog_12_method_6_code 20 = .ok (.if_icmp .ge 22, 3) := by decide +kernel
theorem d4_42 : decode prog_12_method_6_code 42 = .ok (.lload_n 1, 1) := by decide +kernel
theorem d4_43 : decode prog_12_method_6_code 43 = .ok (.lreturn, 1) := by decide +kernel
theorem ef_rmf0 (m : MethodId) (p0 : Addr) : entryFrame m #[(.ref p0)] 8 = mkF m 0 #[.val (.ref p0), .unset, .unset, .unset, .unset, .unset, .unset, .unset] [] := by first | (simp [entryFrame, mkF, argsToLocals, Value.category]; done) | rfl
def Qf0 (Z : State) (p0 : Addr) (b1 : Addr) (k1 : ClassId) (h0 : Heap) (n0 : Nat) (v : Option Value) (h : Heap) (L : List Loc) : Prop := v = some (.long (9223372036854775807 : Int64)) ∧ Fr n0 L ∧ h = h0
set_option maxRecDepth 65536 in
set_option maxHeartbeats 40000000 in
theorem rmf0 (l : Launch) (Z : State) (a0 : Array Value) (hw : ∀ d ∈ tables_1, d.before a0 Z = true) (ws : List Jvm.Cond) (p0 : Addr) (b1 : Addr) (k1 : ClassId) (h0 : Heap) (n0 : Nat) (O0 : Old Z n0 h0) (F0_ : Fld Z h0 p0 "com/example/hot_gate/hotgate/bench/Replies" "sentAt" "[J" (.ref b1)) (F1_ : Arv Z h0 b1 k1 .long (0 : Int32) [] (.long (0 : Int64))) :
    MetFree l (⟨"com/example/hot_gate/hotgate/bench/Replies", "firstSent", "()J"⟩ : MethodName) (head1 (Jvm.Cond.code (⟨"com/example/hot_gate/hotgate/bench/Replies", "firstSent", "()J"⟩ : MethodName) prog_12_method_6_code 8 (some .long) :: ws) ({ frames := 0, cells := 0, slots := 0, locals := 0 } : Room)) (fun a U => a = #[(.ref p0)] ∧ Z.Warmed39 U.vm ∧ U.heap = h0) (fun _ _ _ _ _ => True) (fun _ U o U' => ∃ v L, o = .returned v ∧ Qf0 Z p0 b1 k1 h0 n0 v U'.heap L ∧ FrameEnd U o U' L ({ frames := 0, cells := 0, slots := 0, locals := 0 } : Room).cells ({ frames := 0, cells := 0, slots := 0, locals := 0 } : Room).slots) := by
  refine MetFree.of_bodySF (plainFor_of_name pn_1) hisR ?_
  intro p e s m args below meth c s₁ Bd hml0 hP hK
  obtain ⟨rfl, hZ, hh⟩ := hP
  have hx := Bd.exec
  have hby := Bd.bytes
  have hml : c.maxLocals = 8 := hml0
  have hown : s.vm.findClass "com/example/hot_gate/hotgate/bench/Replies" = some m.cls := findClass_of_methodNamed Bd.named
  have hnm := (name_of_methodNamed Bd.named Bd.method).1
  have X0 : Stand p l e ({ frames := 0, cells := 0, slots := 0, locals := 0 } : Room) s m #[(.ref p0)] below meth c s₁ [] 0 0 := Stand.of_body Bd
  have e0 : s₁.heap = h0 := by rw [← hh, Bd.state]; rfl
  have N0 := Fr.nil n0
  have s0 : Steps p.tables e below (s₁.setTop (entryFrame m #[(.ref p0)] 8)) (s₁.setTop (mkF m 0 #[.val (.ref p0), .unset, .unset, .unset, .unset, .unset, .unset, .unset] [])) := castTop (ef_rmf0 m p0) (Steps.refl _)
  obtain ⟨T1, X1, e1, st1⟩ := getF X0 hx hZ hown (host := "") (Or.inl (hw _ (List.mem_of_getElem? (i := 19) rfl))) Via.refl e0 F0_ (g := (mkF m 5 #[.val (.ref p0), .val (.long (9223372036854775807 : Int64)), .second, .unset, .unset, .unset, .unset, .unset] [(.ref p0)])) rfl rfl (hb hby d4_5)
  obtain ⟨cla2, Ara2, qa2, Sa2, Za2, Ha2, Ga2⟩ := id F1_
  have s3 : Steps p.tables e below (s₁.setTop (entryFrame m #[(.ref p0)] 8)) (T1.setTop (mkF m 43 #[.val (.ref p0), .val (.long (9223372036854775807 : Int64)), .second, .val (.ref b1), .val (.int (0 : Int32)), .val (.int (0 : Int32)), .unset, .unset] [(.long (9223372036854775807 : Int64))])) := by
    refine s0.trans ?_
    show Steps p.tables e below (s₁.setTop (mkF m 0 #[.val (.ref p0), .unset, .unset, .unset, .unset, .unset, .unset, .unset] [])) _
    refine X0.ldc2Long hx hown (mvT hZ (hw _ (List.mem_of_getElem? (i := 33) rfl))) (g := (mkF m 0 #[.val (.ref p0), .unset, .unset, .unset, .unset, .unset, .unset, .unset] [])) rfl (hb hby d4_0) _ ?_
    show Steps p.tables e below (s₁.setTop (mkF m 3 #[.val (.ref p0), .unset, .unset, .unset, .unset, .unset, .unset, .unset] [(.long (9223372036854775807 : Int64))])) _
    refine XS.lstoreN X0.here hx rfl (hb hby d4_3) rfl (l' := #[.val (.ref p0), .val (.long (9223372036854775807 : Int64)), .second, .unset, .unset, .unset, .unset, .unset]) rfl ?_
    show Steps p.tables e below (s₁.setTop (mkF m 4 #[.val (.ref p0), .val (.long (9223372036854775807 : Int64)), .second, .unset, .unset, .unset, .unset, .unset] [])) _
    refine XS.aloadN X0.here hx rfl (hb hby d4_4) rfl rfl ?_
    show Steps p.tables e below (s₁.setTop (mkF m 5 #[.val (.ref p0), .val (.long (9223372036854775807 : Int64)), .second, .unset, .unset, .unset, .unset, .unset] [(.ref p0)])) _
    refine st1 _ ?_
    show Steps p.tables e below (T1.setTop (mkF m 8 #[.val (.ref p0), .val (.long (9223372036854775807 : Int64)), .second, .unset, .unset, .unset, .unset, .unset] [(.ref b1)])) _
    refine XS.astoreN X1.here hx rfl (hb hby d4_8) rfl rfl (l' := #[.val (.ref p0), .val (.long (9223372036854775807 : Int64)), .second, .val (.ref b1), .unset, .unset, .unset, .unset]) rfl ?_
    show Steps p.tables e below (T1.setTop (mkF m 9 #[.val (.ref p0), .val (.long (9223372036854775807 : Int64)), .second, .val (.ref b1), .unset, .unset, .unset, .unset] [])) _
    refine XS.aloadN X1.here hx rfl (hb hby d4_9) rfl rfl ?_
    show Steps p.tables e below (T1.setTop (mkF m 10 #[.val (.ref p0), .val (.long (9223372036854775807 : Int64)), .second, .val (.ref b1), .unset, .unset, .unset, .unset] [(.ref b1)])) _
    refine X1.arraylength hx (by rw [e1]; exact Ara2.1) (State.isArrayOf_alike hZ.alike Ara2.2.1) (g := (mkF m 10 #[.val (.ref p0), .val (.long (9223372036854775807 : Int64)), .second, .val (.ref b1), .unset, .unset, .unset, .unset] [(.ref b1)])) rfl rfl (hb hby d4_10) _ ?_
    rw [len_of Sa2 Za2]
    show Steps p.tables e below (T1.setTop (mkF m 11 #[.val (.ref p0), .val (.long (9223372036854775807 : Int64)), .second, .val (.ref b1), .unset, .unset, .unset, .unset] [(.int (0 : Int32))])) _
    refine XS.istore X1.here hx rfl (hb hby d4_11) rfl (l' := #[.val (.ref p0), .val (.long (9223372036854775807 : Int64)), .second, .val (.ref b1), .val (.int (0 : Int32)), .unset, .unset, .unset]) rfl ?_
    show Steps p.tables e below (T1.setTop (mkF m 13 #[.val (.ref p0), .val (.long (9223372036854775807 : Int64)), .second, .val (.ref b1), .val (.int (0 : Int32)), .unset, .unset, .unset] [])) _
    refine XS.iconst X1.here hx rfl (hb hby d4_13) ?_
    show Steps p.tables e below (T1.setTop (mkF m 14 #[.val (.ref p0), .val (.long (9223372036854775807 : Int64)), .second, .val (.ref b1), .val (.int (0 : Int32)), .unset, .unset, .unset] [(.int (0 : Int32))])) _
    refine XS.istore X1.here hx rfl (hb hby d4_14) rfl (l' := #[.val (.ref p0), .val (.long (9223372036854775807 : Int64)), .second, .val (.ref b1), .val (.int (0 : Int32)), .val (.int (0 : Int32)), .unset, .unset]) rfl ?_
    show Steps p.tables e below (T1.setTop (mkF m 16 #[.val (.ref p0), .val (.long (9223372036854775807 : Int64)), .second, .val (.ref b1), .val (.int (0 : Int32)), .val (.int (0 : Int32)), .unset, .unset] [])) _
    refine XS.iload X1.here hx rfl (hb hby d4_16) rfl ?_
    show Steps p.tables e below (T1.setTop (mkF m 18 #[.val (.ref p0), .val (.long (9223372036854775807 : Int64)), .second, .val (.ref b1), .val (.int (0 : Int32)), .val (.int (0 : Int32)), .unset, .unset] [(.int (0 : Int32))])) _
    refine XS.iload X1.here hx rfl (hb hby d4_18) rfl ?_
    show Steps p.tables e below (T1.setTop (mkF m 20 #[.val (.ref p0), .val (.long (9223372036854775807 : Int64)), .second, .val (.ref b1), .val (.int (0 : Int32)), .val (.int (0 : Int32)), .unset, .unset] [(.int (0 : Int32)), (.int (0 : Int32))])) _
    refine XS.icmpYes X1.here hx rfl (pc0 := 20) (pc' := 42) rfl (hb hby d4_20) rfl (flt (by decide)).2.1 (by decide) (by decide) ?_
    show Steps p.tables e below (T1.setTop (mkF m 42 #[.val (.ref p0), .val (.long (9223372036854775807 : Int64)), .second, .val (.ref b1), .val (.int (0 : Int32)), .val (.int (0 : Int32)), .unset, .unset] [])) _
    refine XS.lloadN X1.here hx rfl (hb hby d4_42) rfl ?_
    exact Steps.refl _
  obtain ⟨fs, hr, hrun, hended, hW, hsame⟩ := X1.leave (v := some (.long (9223372036854775807 : Int64))) (fun h => by rw [Bd.returns] at h; cases h)
  refine ⟨_, _, s3.trans ?_, hrun, hended, _, _, rfl, ?_, ⟨_, rfl⟩, hW, hsame.mono (by decide) (by decide)⟩
  · show Steps p.tables e below (T1.setTop (mkF m 43 #[.val (.ref p0), .val (.long (9223372036854775807 : Int64)), .second, .val (.ref b1), .val (.int (0 : Int32)), .val (.int (0 : Int32)), .unset, .unset] [(.long (9223372036854775807 : Int64))])) _
    jvm_step X1.here [X1.here.top, hx, (hb hby d4_43), X1.method', Bd.returns, narrow]
    first | (intro acts; rw [hr _ acts rfl rfl rfl]) | rw [hr _ _ rfl rfl rfl]
    exact Steps.refl _
  · show Qf0 Z p0 b1 k1 h0 n0 _ T1.heap _
    rw [e1]
    exact ⟨rfl, N0, rfl⟩
theorem pd_rmi1_0 : parseMethodDescriptor "()V" = some ⟨[], none⟩ := by decide +kernel
theorem ef_rmi1 (m : MethodId) (p0 : Addr) : entryFrame m #[(.ref p0), (.int (1 : Int32))] 2 = mkF m 0 #[.val (.ref p0), .val (.int (1 : Int32))] [] := by first | (simp [entryFrame, mkF, argsToLocals, Value.category]; done) | rfl
def Qi1 (Z : State) (p0 : Addr) (h0 : Heap) (n0 : Nat) (v : Option Value) (h : Heap) (L : List Loc) : Prop := ∃ b1 : Addr, ∃ b2 : Addr, ∃ b3 : Addr, ∃ k1 : ClassId, ∃ k2 : ClassId, ∃ k3 : ClassId, v = none ∧ Fr n0 L ∧ Keep h0 h [p0] ∧ (Exa Z h p0 "com/example/hot_gate/hotgate/bench/Replies") ∧ (Fld Z h p0 "com/example/hot_gate/hotgate/bench/Replies" "sentAt" "[J" (.ref b1)) ∧ (Fld Z h p0 "com/example/hot_gate/hotgate/bench/Replies" "answeredAt" "[J" (.ref b2)) ∧ (Fld Z h p0 "com/example/hot_gate/hotgate/bench/Replies" "outcomes" "[Lcom/example/hot_gate/hotgate/bench/Outcome;" (.ref b3)) ∧ (Arv Z h b1 k1 .long (1 : Int32) [(.long (0 : Int64))] (.long (0 : Int64))) ∧ (Arv Z h b2 k2 .long (1 : Int32) [(.long (0 : Int64))] (.long (0 : Int64))) ∧ (Arv Z h b3 k3 (.object "com/example/hot_gate/hotgate/bench/Outcome") (1 : Int32) [.null] .null) ∧ (h0.size ≤ b1) ∧ (h0.size ≤ b2) ∧ (h0.size ≤ b3) ∧ (b1 ≠ b2) ∧ (b1 ≠ b3) ∧ (b2 ≠ b3)
set_option maxRecDepth 65536 in
set_option maxHeartbeats 40000000 in
theorem rmi1 (l : Launch) (Z : State) (a0 : Array Value) (hw : ∀ d ∈ tables_1, d.before a0 Z = true) (ws : List Jvm.Cond) (p0 : Addr) (h0 : Heap) (n0 : Nat) (O0 : Old Z n0 h0) (F0_ : Exa Z h0 p0 "com/example/hot_gate/hotgate/bench/Replies") (F1_ : Fld Z h0 p0 "com/example/hot_gate/hotgate/bench/Replies" "firstError" "Ljava/util/concurrent/atomic/AtomicReference;" .null) (F2_ : Fld Z h0 p0 "com/example/hot_gate/hotgate/bench/Replies" "sentAt" "[J" .null) (F3_ : Fld Z h0 p0 "com/example/hot_gate/hotgate/bench/Replies" "answeredAt" "[J" .null) (F4_ : Fld Z h0 p0 "com/example/hot_gate/hotgate/bench/Replies" "outcomes" "[Lcom/example/hot_gate/hotgate/bench/Outcome;" .null) (F5_ : n0 ≤ p0) :
    MetFree l (⟨"com/example/hot_gate/hotgate/bench/Replies", "<init>", "(I)V"⟩ : MethodName) (head1 (Jvm.Cond.code (⟨"com/example/hot_gate/hotgate/bench/Replies", "<init>", "(I)V"⟩ : MethodName) prog_12_method_1_code 2 none :: ws) ({ frames := 2, cells := 4, slots := 4, locals := 26 } : Room)) (fun a U => a = #[(.ref p0), (.int (1 : Int32))] ∧ Z.Warmed39 U.vm ∧ U.heap = h0) (fun _ _ _ _ _ => True) (fun _ U o U' => ∃ v L, o = .returned v ∧ Qi1 Z p0 h0 n0 v U'.heap L ∧ FrameEnd U o U' L ({ frames := 2, cells := 4, slots := 4, locals := 26 } : Room).cells ({ frames := 2, cells := 4, slots := 4, locals := 26 } : Room).slots) := by
  refine MetFree.of_bodySF (plainFor_of_name pn_1) hisR ?_
  intro p e s m args below meth c s₁ Bd hml0 hP hK
  obtain ⟨rfl, hZ, hh⟩ := hP
  have hx := Bd.exec
  have hby := Bd.bytes
  have hml : c.maxLocals = 2 := hml0
  have hown : s.vm.findClass "com/example/hot_gate/hotgate/bench/Replies" = some m.cls := findClass_of_methodNamed Bd.named
  have hnm := (name_of_methodNamed Bd.named Bd.method).1
  have X0 : Stand p l e ({ frames := 2, cells := 4, slots := 4, locals := 26 } : Room) s m #[(.ref p0), (.int (1 : Int32))] below meth c s₁ [] 0 0 := Stand.of_body Bd
  have e0 : s₁.heap = h0 := by rw [← hh, Bd.state]; rfl
  have N0 := Fr.nil n0
  have s0 : Steps p.tables e below (s₁.setTop (entryFrame m #[(.ref p0), (.int (1 : Int32))] 2)) (s₁.setTop (mkF m 0 #[.val (.ref p0), .val (.int (1 : Int32))] [])) := castTop (ef_rmi1 m p0) (Steps.refl _)
  obtain ⟨T1, X1, e1, st1⟩ := initO X0 hx hZ hown (hw _ (List.mem_of_getElem? (i := 6) rfl)) (hw _ (List.mem_of_getElem? (i := 7) rfl)) (hw _ (List.mem_of_getElem? (i := 8) rfl)) e0 (g := (mkF m 1 #[.val (.ref p0), .val (.int (1 : Int32))] [(.ref p0)])) rfl (by rw [hml]; rfl) rfl (hb hby d1_1) (by decide) (W := 0) (by show 2 * 0 + _ ≤ _; exact Nat.le_of_eq rfl) (by decide)
  obtain ⟨T2, h2, X2, e2, E2, A2, D2, -, st2⟩ := newO X1 hx hZ hown (hw _ (List.mem_of_getElem? (i := 9) rfl)) (hw _ (List.mem_of_getElem? (i := 10) rfl)) (hw _ (List.mem_of_getElem? (i := 11) rfl)) e1 (g := (mkF m 5 #[.val (.ref p0), .val (.int (1 : Int32))] [(.ref p0)])) rfl (hb hby d1_5) (by decide) (by decide)
  obtain ⟨b2, g2⟩ : ∃ z, z = h0.size := ⟨_, rfl⟩
  rw [← g2] at A2 D2 st2
  have ne_p0_b2 : p0 ≠ b2 := Nat.ne_of_lt (Nat.lt_of_lt_of_le F0_.lt (Nat.le_of_eq g2.symm))
  have g_b2 : n0 ≤ b2 := Nat.le_trans (Nat.le_of_eq O0.1.symm) (Nat.le_trans O0.2.1 (Nat.le_of_eq g2.symm))
  have sz_b2 : h0.size ≤ b2 := Nat.le_trans (Keep.refl h0 [p0]).1 (Nat.le_of_eq g2.symm)
  have O2 := O0.ext E2
  have K2 : Keep h0 h2 [p0] := (Keep.refl h0 [p0]).ext E2
  obtain ⟨_, _, ⟨T3, L3, k3, n3⟩, -, X3, ⟨Lc3, hQ3, l3, y3, z3⟩, st3⟩ := X2.specialBack hx (y := (⟨"java/util/concurrent/atomic/AtomicReference", "<init>", "()V"⟩ : MethodName)) rfl hown (mvT hZ (hw _ (List.mem_of_getElem? (i := 12) rfl))) (mvT hZ (hw _ (List.mem_of_getElem? (i := 13) rfl))) (mvT hZ (hw _ (List.mem_of_getElem? (i := 14) rfl))) (by decide) (backOf (W := 2) (rm3 l Z a0 hw [] b2 h2 n0 O2 ) hZ (hw _ (List.mem_of_getElem? (i := 14) rfl)) (hw _ (List.mem_of_getElem? (i := 11) rfl)) (by decide) (by decide)) (g := (mkF m 9 #[.val (.ref p0), .val (.int (1 : Int32))] [(.ref b2), (.ref b2), (.ref p0)])) rfl (by rw [hml]; rfl) (Steps.refl _) (a := b2) (argsL := []) (rest := [(.ref b2), (.ref p0)]) (lenOf pd_rmi1_0 rfl) rfl (by show 2 * 0 + _ ≤ _; exact Nat.le_of_eq rfl) (hb hby d1_9) (fun _ _ => ⟨rfl, e2, (by decide : 1 + 0 ≤ _), (by decide : 1 + 0 ≤ _)⟩)
  dsimp only [Pt.U, Pt.locs, Pt.cells, Pt.slots] at X3 l3 y3 z3 st3 hQ3
  subst l3 y3 z3
  obtain ⟨rfl, Nq3, e3⟩ := hQ3
  have N3 := Fr.app N0 Nq3
  have c4 : Exa Z h2 p0 "com/example/hot_gate/hotgate/bench/Replies" := (F0_.ext E2)
  have c5 : Fld Z h2 p0 "com/example/hot_gate/hotgate/bench/Replies" "firstError" "Ljava/util/concurrent/atomic/AtomicReference;" .null := (F1_.ext E2)
  obtain ⟨T6, h6, X6, e6, W6, st6⟩ := putF X3 hx hZ hown (host := "") (Or.inl (hw _ (List.mem_of_getElem? (i := 16) rfl))) Via.refl e3 c5 c4 (Or.inr ⟨(hw _ (List.mem_of_getElem? (i := 17) rfl)), rfl, hnm⟩) (hw _ (List.mem_of_getElem? (i := 1) rfl)) (ty := (.object "java/util/concurrent/atomic/AtomicReference")) (by decide) rfl rfl (g := (mkF m 12 #[.val (.ref p0), .val (.int (1 : Int32))] [(.ref b2), (.ref p0)])) rfl rfl (hb hby d1_12)
  have Fw6 := c5.same W6
  have O6 := O2.wr W6 F5_
  have K6 : Keep h0 h6 [p0] := K2.wr W6 (Or.inl (List.mem_of_getElem? (i := 0) rfl))
  have N6 := Fr.snoc X6 N3 F5_
  obtain ⟨T7, h7, k7, X7, e7, E7, A7, st7⟩ := newP X6 hx hZ (hw _ (List.mem_of_getElem? (i := 18) rfl)) e6 (g := (mkF m 17 #[.val (.ref p0), .val (.int (1 : Int32))] [(.int (1 : Int32)), (.ref p0)])) rfl (hb hby d1_17) rfl (by decide) (cap := 1) (by decide) (by decide) (by decide) (by decide)
  obtain ⟨b7, g7⟩ : ∃ z, z = h6.size := ⟨_, rfl⟩
  rw [← g7] at A7 st7
  have c8 : Exa Z h6 p0 "com/example/hot_gate/hotgate/bench/Replies" := (c4.wr W6)
  have ne_p0_b7 : p0 ≠ b7 := Nat.ne_of_lt (Nat.lt_of_lt_of_le c8.lt (Nat.le_of_eq g7.symm))
  have c9 : Exa Z h6 b2 "java/util/concurrent/atomic/AtomicReference" := (A2.wr W6)
  have ne_b2_b7 : b2 ≠ b7 := Nat.ne_of_lt (Nat.lt_of_lt_of_le c9.lt (Nat.le_of_eq g7.symm))
  have g_b7 : n0 ≤ b7 := Nat.le_trans (Nat.le_of_eq O6.1.symm) (Nat.le_trans O6.2.1 (Nat.le_of_eq g7.symm))
  have sz_b7 : h0.size ≤ b7 := Nat.le_trans K6.1 (Nat.le_of_eq g7.symm)
  have O7 := O6.ext E7
  have K7 : Keep h0 h7 [p0] := K6.ext E7
  have V7 : Arv Z h7 b7 k7 .long (1 : Int32) [(.long (0 : Int64))] (.long (0 : Int64)) := (Arv.new A7 (by decide)).pad (pad_rep [] (.long (0 : Int64)) 1)
  have c10 : Exa Z h7 p0 "com/example/hot_gate/hotgate/bench/Replies" := (c8.ext E7)
  have c11 : Fld Z h7 p0 "com/example/hot_gate/hotgate/bench/Replies" "sentAt" "[J" .null := (((F2_.ext E2).other W6 (Or.inr (slot_ne (Or.inr (hw _ (List.mem_of_getElem? (i := 20) rfl))) (Or.inr (hw _ (List.mem_of_getElem? (i := 17) rfl))) (by decide) (t := (.array .long)) (t' := (.object "java/util/concurrent/atomic/AtomicReference")) (by decide) (by decide)))).ext E7)
  obtain ⟨T12, h12, X12, e12, W12, st12⟩ := putF X7 hx hZ hown (host := "") (Or.inl (hw _ (List.mem_of_getElem? (i := 19) rfl))) Via.refl e7 c11 c10 (Or.inr ⟨(hw _ (List.mem_of_getElem? (i := 20) rfl)), rfl, hnm⟩) (hw _ (List.mem_of_getElem? (i := 1) rfl)) (ty := (.array .long)) (by decide) rfl rfl (g := (mkF m 19 #[.val (.ref p0), .val (.int (1 : Int32))] [(.ref b7), (.ref p0)])) rfl rfl (hb hby d1_19)
  have Fw12 := c11.same W12
  have O12 := O7.wr W12 F5_
  have K12 : Keep h0 h12 [p0] := K7.wr W12 (Or.inl (List.mem_of_getElem? (i := 0) rfl))
  have N12 := Fr.snoc X12 N6 F5_
  obtain ⟨T13, h13, k13, X13, e13, E13, A13, st13⟩ := newP X12 hx hZ (hw _ (List.mem_of_getElem? (i := 18) rfl)) e12 (g := (mkF m 24 #[.val (.ref p0), .val (.int (1 : Int32))] [(.int (1 : Int32)), (.ref p0)])) rfl (hb hby d1_24) rfl (by decide) (cap := 1) (by decide) (by decide) (by decide) (by decide)
  obtain ⟨b13, g13⟩ : ∃ z, z = h12.size := ⟨_, rfl⟩
  rw [← g13] at A13 st13
  have c14 : Exa Z h12 p0 "com/example/hot_gate/hotgate/bench/Replies" := (c10.wr W12)
  have ne_p0_b13 : p0 ≠ b13 := Nat.ne_of_lt (Nat.lt_of_lt_of_le c14.lt (Nat.le_of_eq g13.symm))
  have c15 : Exa Z h12 b2 "java/util/concurrent/atomic/AtomicReference" := ((c9.ext E7).wr W12)
  have ne_b2_b13 : b2 ≠ b13 := Nat.ne_of_lt (Nat.lt_of_lt_of_le c15.lt (Nat.le_of_eq g13.symm))
  have c16 : Arv Z h12 b7 k7 .long (1 : Int32) [(.long (0 : Int64))] (.long (0 : Int64)) := (V7.other W12 (Ne.symm ne_p0_b7))
  have ne_b7_b13 : b7 ≠ b13 := Nat.ne_of_lt (Nat.lt_of_lt_of_le c16.lt (Nat.le_of_eq g13.symm))
  have g_b13 : n0 ≤ b13 := Nat.le_trans (Nat.le_of_eq O12.1.symm) (Nat.le_trans O12.2.1 (Nat.le_of_eq g13.symm))
  have sz_b13 : h0.size ≤ b13 := Nat.le_trans K12.1 (Nat.le_of_eq g13.symm)
  have O13 := O12.ext E13
  have K13 : Keep h0 h13 [p0] := K12.ext E13
  have V13 : Arv Z h13 b13 k13 .long (1 : Int32) [(.long (0 : Int64))] (.long (0 : Int64)) := (Arv.new A13 (by decide)).pad (pad_rep [] (.long (0 : Int64)) 1)
  have c17 : Exa Z h13 p0 "com/example/hot_gate/hotgate/bench/Replies" := (c14.ext E13)
  have c18 : Fld Z h13 p0 "com/example/hot_gate/hotgate/bench/Replies" "answeredAt" "[J" .null := (((((F3_.ext E2).other W6 (Or.inr (slot_ne (Or.inr (hw _ (List.mem_of_getElem? (i := 22) rfl))) (Or.inr (hw _ (List.mem_of_getElem? (i := 17) rfl))) (by decide) (t := (.array .long)) (t' := (.object "java/util/concurrent/atomic/AtomicReference")) (by decide) (by decide)))).ext E7).other W12 (Or.inr (slot_ne (Or.inr (hw _ (List.mem_of_getElem? (i := 22) rfl))) (Or.inr (hw _ (List.mem_of_getElem? (i := 20) rfl))) (by decide) (t := (.array .long)) (t' := (.array .long)) (by decide) (by decide)))).ext E13)
  obtain ⟨T19, h19, X19, e19, W19, st19⟩ := putF X13 hx hZ hown (host := "") (Or.inl (hw _ (List.mem_of_getElem? (i := 21) rfl))) Via.refl e13 c18 c17 (Or.inr ⟨(hw _ (List.mem_of_getElem? (i := 22) rfl)), rfl, hnm⟩) (hw _ (List.mem_of_getElem? (i := 1) rfl)) (ty := (.array .long)) (by decide) rfl rfl (g := (mkF m 26 #[.val (.ref p0), .val (.int (1 : Int32))] [(.ref b13), (.ref p0)])) rfl rfl (hb hby d1_26)
  have Fw19 := c18.same W19
  have O19 := O13.wr W19 F5_
  have K19 : Keep h0 h19 [p0] := K13.wr W19 (Or.inl (List.mem_of_getElem? (i := 0) rfl))
  have N19 := Fr.snoc X19 N12 F5_
  obtain ⟨T20, h20, k20, X20, e20, E20, A20, Ov20, st20⟩ := newR X19 hx hZ hown (hw _ (List.mem_of_getElem? (i := 23) rfl)) (hw _ (List.mem_of_getElem? (i := 24) rfl)) e19 (g := (mkF m 31 #[.val (.ref p0), .val (.int (1 : Int32))] [(.int (1 : Int32)), (.ref p0)])) rfl (hb hby d1_31) rfl (by decide) (cap := 1) (by decide) (by decide) (by decide) (by decide)
  obtain ⟨b20, g20⟩ : ∃ z, z = h19.size := ⟨_, rfl⟩
  rw [← g20] at A20 st20
  have c21 : Exa Z h19 p0 "com/example/hot_gate/hotgate/bench/Replies" := (c17.wr W19)
  have ne_p0_b20 : p0 ≠ b20 := Nat.ne_of_lt (Nat.lt_of_lt_of_le c21.lt (Nat.le_of_eq g20.symm))
  have c22 : Exa Z h19 b2 "java/util/concurrent/atomic/AtomicReference" := ((c15.ext E13).wr W19)
  have ne_b2_b20 : b2 ≠ b20 := Nat.ne_of_lt (Nat.lt_of_lt_of_le c22.lt (Nat.le_of_eq g20.symm))
  have c23 : Arv Z h19 b7 k7 .long (1 : Int32) [(.long (0 : Int64))] (.long (0 : Int64)) := ((c16.ext E13).other W19 (Ne.symm ne_p0_b7))
  have ne_b7_b20 : b7 ≠ b20 := Nat.ne_of_lt (Nat.lt_of_lt_of_le c23.lt (Nat.le_of_eq g20.symm))
  have c24 : Arv Z h19 b13 k13 .long (1 : Int32) [(.long (0 : Int64))] (.long (0 : Int64)) := (V13.other W19 (Ne.symm ne_p0_b13))
  have ne_b13_b20 : b13 ≠ b20 := Nat.ne_of_lt (Nat.lt_of_lt_of_le c24.lt (Nat.le_of_eq g20.symm))
  have g_b20 : n0 ≤ b20 := Nat.le_trans (Nat.le_of_eq O19.1.symm) (Nat.le_trans O19.2.1 (Nat.le_of_eq g20.symm))
  have sz_b20 : h0.size ≤ b20 := Nat.le_trans K19.1 (Nat.le_of_eq g20.symm)
  have O20 := O19.ext E20
  have K20 : Keep h0 h20 [p0] := K19.ext E20
  have V20 : Arv Z h20 b20 k20 (.object "com/example/hot_gate/hotgate/bench/Outcome") (1 : Int32) [.null] .null := (Arv.new A20 (by decide)).pad (pad_rep [] .null 1)
  have c25 : Exa Z h20 p0 "com/example/hot_gate/hotgate/bench/Replies" := (c21.ext E20)
  have c26 : Fld Z h20 p0 "com/example/hot_gate/hotgate/bench/Replies" "outcomes" "[Lcom/example/hot_gate/hotgate/bench/Outcome;" .null := (((((((F4_.ext E2).other W6 (Or.inr (slot_ne (Or.inr (hw _ (List.mem_of_getElem? (i := 26) rfl))) (Or.inr (hw _ (List.mem_of_getElem? (i := 17) rfl))) (by decide) (t := (.array (.object "com/example/hot_gate/hotgate/bench/Outcome"))) (t' := (.object "java/util/concurrent/atomic/AtomicReference")) (by decide) (by decide)))).ext E7).other W12 (Or.inr (slot_ne (Or.inr (hw _ (List.mem_of_getElem? (i := 26) rfl))) (Or.inr (hw _ (List.mem_of_getElem? (i := 20) rfl))) (by decide) (t := (.array (.object "com/example/hot_gate/hotgate/bench/Outcome"))) (t' := (.array .long)) (by decide) (by decide)))).ext E13).other W19 (Or.inr (slot_ne (Or.inr (hw _ (List.mem_of_getElem? (i := 26) rfl))) (Or.inr (hw _ (List.mem_of_getElem? (i := 22) rfl))) (by decide) (t := (.array (.object "com/example/hot_gate/hotgate/bench/Outcome"))) (t' := (.array .long)) (by decide) (by decide)))).ext E20)
  obtain ⟨T27, h27, X27, e27, W27, st27⟩ := putF X20 hx hZ hown (host := "") (Or.inl (hw _ (List.mem_of_getElem? (i := 25) rfl))) Via.refl e20 c26 c25 (Or.inr ⟨(hw _ (List.mem_of_getElem? (i := 26) rfl)), rfl, hnm⟩) (hw _ (List.mem_of_getElem? (i := 1) rfl)) (ty := (.array (.object "com/example/hot_gate/hotgate/bench/Outcome"))) (by decide) rfl rfl (g := (mkF m 34 #[.val (.ref p0), .val (.int (1 : Int32))] [(.ref b20), (.ref p0)])) rfl rfl (hb hby d1_34)
  have Fw27 := c26.same W27
  have O27 := O20.wr W27 F5_
  have K27 : Keep h0 h27 [p0] := K20.wr W27 (Or.inl (List.mem_of_getElem? (i := 0) rfl))
  have N27 := Fr.snoc X27 N19 F5_
  have s28 : Steps p.tables e below (s₁.setTop (entryFrame m #[(.ref p0), (.int (1 : Int32))] 2)) (T27.setTop (mkF m 37 #[.val (.ref p0), .val (.int (1 : Int32))] [])) := by
    refine s0.trans ?_
    show Steps p.tables e below (s₁.setTop (mkF m 0 #[.val (.ref p0), .val (.int (1 : Int32))] [])) _
    refine XS.aloadN X0.here hx rfl (hb hby d1_0) rfl rfl ?_
    show Steps p.tables e below (s₁.setTop (mkF m 1 #[.val (.ref p0), .val (.int (1 : Int32))] [(.ref p0)])) _
    refine st1 _ ?_
    show Steps p.tables e below (T1.setTop (mkF m 4 #[.val (.ref p0), .val (.int (1 : Int32))] [])) _
    refine XS.aloadN X1.here hx rfl (hb hby d1_4) rfl rfl ?_
    show Steps p.tables e below (T1.setTop (mkF m 5 #[.val (.ref p0), .val (.int (1 : Int32))] [(.ref p0)])) _
    refine st2 _ ?_
    show Steps p.tables e below (T2.setTop (mkF m 8 #[.val (.ref p0), .val (.int (1 : Int32))] [(.ref b2), (.ref p0)])) _
    refine XS.dup X2.here hx rfl (hb hby d1_8) rfl rfl ?_
    show Steps p.tables e below (T2.setTop (mkF m 9 #[.val (.ref p0), .val (.int (1 : Int32))] [(.ref b2), (.ref b2), (.ref p0)])) _
    refine st3.trans ?_
    show Steps p.tables e below (T3.setTop (mkF m 12 #[.val (.ref p0), .val (.int (1 : Int32))] [(.ref b2), (.ref p0)])) _
    refine st6 _ ?_
    show Steps p.tables e below (T6.setTop (mkF m 15 #[.val (.ref p0), .val (.int (1 : Int32))] [])) _
    refine XS.aloadN X6.here hx rfl (hb hby d1_15) rfl rfl ?_
    show Steps p.tables e below (T6.setTop (mkF m 16 #[.val (.ref p0), .val (.int (1 : Int32))] [(.ref p0)])) _
    refine XS.iloadN X6.here hx rfl (hb hby d1_16) rfl ?_
    show Steps p.tables e below (T6.setTop (mkF m 17 #[.val (.ref p0), .val (.int (1 : Int32))] [(.int (1 : Int32)), (.ref p0)])) _
    refine st7 _ ?_
    show Steps p.tables e below (T7.setTop (mkF m 19 #[.val (.ref p0), .val (.int (1 : Int32))] [(.ref b7), (.ref p0)])) _
    refine st12 _ ?_
    show Steps p.tables e below (T12.setTop (mkF m 22 #[.val (.ref p0), .val (.int (1 : Int32))] [])) _
    refine XS.aloadN X12.here hx rfl (hb hby d1_22) rfl rfl ?_
    show Steps p.tables e below (T12.setTop (mkF m 23 #[.val (.ref p0), .val (.int (1 : Int32))] [(.ref p0)])) _
    refine XS.iloadN X12.here hx rfl (hb hby d1_23) rfl ?_
    show Steps p.tables e below (T12.setTop (mkF m 24 #[.val (.ref p0), .val (.int (1 : Int32))] [(.int (1 : Int32)), (.ref p0)])) _
    refine st13 _ ?_
    show Steps p.tables e below (T13.setTop (mkF m 26 #[.val (.ref p0), .val (.int (1 : Int32))] [(.ref b13), (.ref p0)])) _
    refine st19 _ ?_
    show Steps p.tables e below (T19.setTop (mkF m 29 #[.val (.ref p0), .val (.int (1 : Int32))] [])) _
    refine XS.aloadN X19.here hx rfl (hb hby d1_29) rfl rfl ?_
    show Steps p.tables e below (T19.setTop (mkF m 30 #[.val (.ref p0), .val (.int (1 : Int32))] [(.ref p0)])) _
    refine XS.iloadN X19.here hx rfl (hb hby d1_30) rfl ?_
    show Steps p.tables e below (T19.setTop (mkF m 31 #[.val (.ref p0), .val (.int (1 : Int32))] [(.int (1 : Int32)), (.ref p0)])) _
    refine st20 _ ?_
    show Steps p.tables e below (T20.setTop (mkF m 34 #[.val (.ref p0), .val (.int (1 : Int32))] [(.ref b20), (.ref p0)])) _
    refine st27 _ ?_
    exact Steps.refl _
  have c29 : Exa Z h27 p0 "com/example/hot_gate/hotgate/bench/Replies" := (c25.wr W27)
  have c30 : Fld Z h27 p0 "com/example/hot_gate/hotgate/bench/Replies" "sentAt" "[J" (.ref b7) := ((((Fw12.ext E13).other W19 (Or.inr (slot_ne (Or.inr (hw _ (List.mem_of_getElem? (i := 20) rfl))) (Or.inr (hw _ (List.mem_of_getElem? (i := 22) rfl))) (by decide) (t := (.array .long)) (t' := (.array .long)) (by decide) (by decide)))).ext E20).other W27 (Or.inr (slot_ne (Or.inr (hw _ (List.mem_of_getElem? (i := 20) rfl))) (Or.inr (hw _ (List.mem_of_getElem? (i := 26) rfl))) (by decide) (t := (.array .long)) (t' := (.array (.object "com/example/hot_gate/hotgate/bench/Outcome"))) (by decide) (by decide))))
  have c31 : Fld Z h27 p0 "com/example/hot_gate/hotgate/bench/Replies" "answeredAt" "[J" (.ref b13) := ((Fw19.ext E20).other W27 (Or.inr (slot_ne (Or.inr (hw _ (List.mem_of_getElem? (i := 22) rfl))) (Or.inr (hw _ (List.mem_of_getElem? (i := 26) rfl))) (by decide) (t := (.array .long)) (t' := (.array (.object "com/example/hot_gate/hotgate/bench/Outcome"))) (by decide) (by decide))))
  have c32 : Arv Z h27 b7 k7 .long (1 : Int32) [(.long (0 : Int64))] (.long (0 : Int64)) := ((c23.ext E20).other W27 (Ne.symm ne_p0_b7))
  have c33 : Arv Z h27 b13 k13 .long (1 : Int32) [(.long (0 : Int64))] (.long (0 : Int64)) := ((c24.ext E20).other W27 (Ne.symm ne_p0_b13))
  have c34 : Arv Z h27 b20 k20 (.object "com/example/hot_gate/hotgate/bench/Outcome") (1 : Int32) [.null] .null := (V20.other W27 (Ne.symm ne_p0_b20))
  obtain ⟨fs, hr, hrun, hended, hW, hsame⟩ := X27.leave (v := none) (fun _ => rfl)
  refine ⟨_, _, s28.trans ?_, hrun, hended, _, _, rfl, ?_, ⟨_, rfl⟩, hW, hsame.mono (by decide) (by decide)⟩
  · show Steps p.tables e below (T27.setTop (mkF m 37 #[.val (.ref p0), .val (.int (1 : Int32))] [])) _
    exact X27.returnOut hx Bd.returns (hb hby d1_37) hr
  · show Qi1 Z p0 h0 n0 _ T27.heap _
    rw [e27]
    exact ⟨b7, b13, b20, k7, k13, k20, rfl, N27, K27, c29, c30, c31, Fw27, c32, c33, c34, sz_b7, sz_b13, sz_b20, ne_b7_b13, ne_b7_b20, ne_b13_b20⟩
theorem d5_0 : decode prog_12_method_3_code 0 = .ok (.aload_n 0, 1) := by decide +kernel
theorem d5_1 : decode prog_12_method_3_code 1 = .ok (.getfield 16, 3) := by decide +kernel
theorem d5_4 : decode prog_12_method_3_code 4 = .ok (.iload_n 1, 1) := by decide +kernel
theorem d5_5 : decode prog_12_method_3_code 5 = .ok (.lload_n 2, 1) := by decide +kernel
theorem d5_6 : decode prog_12_method_3_code 6 = .ok (.lastore, 1) := by decide +kernel
theorem d5_7 : decode prog_12_method_3_code 7 = .ok (.aload_n 0, 1) := by decide +kernel
theorem d5_8 : decode prog_12_method_3_code 8 = .ok (.getfield 20, 3) := by decide +kernel
theorem d5_11 : decode prog_12_method_3_code 11 = .ok (.iload_n 1, 1) := by decide +kernel
theorem d5_12 : decode prog_12_method_3_code 12 = .ok (.lload 4, 2) := by decide +kernel
theorem d5_14 : decode prog_12_method_3_code 14 = .ok (.lastore, 1) := by decide +kernel
theorem d5_15 : decode prog_12_method_3_code 15 = .ok (.aload_n 0, 1) := by decide +kernel
theorem d5_16 : decode prog_12_method_3_code 16 = .ok (.getfield 25, 3) := by decide +kernel
theorem d5_19 : decode prog_12_method_3_code 19 = .ok (.iload_n 1, 1) := by decide +kernel
theorem d5_20 : decode prog_12_method_3_code 20 = .ok (.aload 6, 2) := by decide +kernel
theorem d5_22 : decode prog_12_method_3_code 22 = .ok (.aastore, 1) := by decide +kernel
theorem d5_23 : decode prog_12_method_3_code 23 = .ok (.aload 7, 2) := by decide +kernel
theorem d5_25 : decode prog_12_method_3_code 25 = .ok (.ifnull 14, 3) := by decide +kernel
theorem d5_39 : decode prog_12_method_3_code 39 = .ok (.return_, 1) := by decide +kernel
theorem ef_rmr1_0 (m : MethodId) (p0 : Addr) (p2 : Int64) (p3 : Int64) : entryFrame m #[(.ref p0), (.int (0 : Int32)), (.long p2), (.long p3), .null, .null] 8 = mkF m 0 #[.val (.ref p0), .val (.int (0 : Int32)), .val (.long p2), .second, .val (.long p3), .second, .val .null, .val .null] [] := by first | (simp [entryFrame, mkF, argsToLocals, Value.category]; done) | rfl
def Qr1_0 (Z : State) (p0 : Addr) (p2 : Int64) (p3 : Int64) (b1 : Addr) (b2 : Addr) (b3 : Addr) (k1 : ClassId) (k2 : ClassId) (k3 : ClassId) (x0 : Int64) (y0 : Int64) (h0 : Heap) (n0 : Nat) (v : Option Value) (h : Heap) (L : List Loc) : Prop := v = none ∧ Fr n0 L ∧ Keep h0 h [b1, b2, b3] ∧ (Arv Z h b1 k1 .long (1 : Int32) [(.long p2)] (.long (0 : Int64))) ∧ (Arv Z h b2 k2 .long (1 : Int32) [(.long p3)] (.long (0 : Int64))) ∧ (Arv Z h b3 k3 (.object "com/example/hot_gate/hotgate/bench/Outcome") (1 : Int32) [.null] .null)
set_option maxRecDepth 65536 in
set_option maxHeartbeats 40000000 in
theorem rmr1_0 (l : Launch) (Z : State) (a0 : Array Value) (hw : ∀ d ∈ tables_1, d.before a0 Z = true) (ws : List Jvm.Cond) (p0 : Addr) (p2 : Int64) (p3 : Int64) (b1 : Addr) (b2 : Addr) (b3 : Addr) (k1 : ClassId) (k2 : ClassId) (k3 : ClassId) (x0 : Int64) (y0 : Int64) (h0 : Heap) (n0 : Nat) (O0 : Old Z n0 h0) (F0_ : Fld Z h0 p0 "com/example/hot_gate/hotgate/bench/Replies" "sentAt" "[J" (.ref b1)) (F1_ : Fld Z h0 p0 "com/example/hot_gate/hotgate/bench/Replies" "answeredAt" "[J" (.ref b2)) (F2_ : Fld Z h0 p0 "com/example/hot_gate/hotgate/bench/Replies" "outcomes" "[Lcom/example/hot_gate/hotgate/bench/Outcome;" (.ref b3)) (F3_ : Arv Z h0 b1 k1 .long (1 : Int32) [(.long x0)] (.long (0 : Int64))) (F4_ : Arv Z h0 b2 k2 .long (1 : Int32) [(.long y0)] (.long (0 : Int64))) (F5_ : Arv Z h0 b3 k3 (.object "com/example/hot_gate/hotgate/bench/Outcome") (1 : Int32) [.null] .null) (F6_ : n0 ≤ b1) (F7_ : n0 ≤ b2) (F8_ : n0 ≤ b3) (F9_ : b1 ≠ b2) (F10_ : b1 ≠ b3) (F11_ : b2 ≠ b3) (F12_ : p0 ≠ b1) (F13_ : p0 ≠ b2) (F14_ : p0 ≠ b3) :
    MetFree l (⟨"com/example/hot_gate/hotgate/bench/Replies", "record", "(IJJLcom/example/hot_gate/hotgate/bench/Outcome;Ljava/lang/String;)V"⟩ : MethodName) (head1 (Jvm.Cond.code (⟨"com/example/hot_gate/hotgate/bench/Replies", "record", "(IJJLcom/example/hot_gate/hotgate/bench/Outcome;Ljava/lang/String;)V"⟩ : MethodName) prog_12_method_3_code 8 none :: ws) ({ frames := 0, cells := 0, slots := 0, locals := 0 } : Room)) (fun a U => a = #[(.ref p0), (.int (0 : Int32)), (.long p2), (.long p3), .null, .null] ∧ Z.Warmed39 U.vm ∧ U.heap = h0) (fun _ _ _ _ _ => True) (fun _ U o U' => ∃ v L, o = .returned v ∧ Qr1_0 Z p0 p2 p3 b1 b2 b3 k1 k2 k3 x0 y0 h0 n0 v U'.heap L ∧ FrameEnd U o U' L ({ frames := 0, cells := 0, slots := 0, locals := 0 } : Room).cells ({ frames := 0, cells := 0, slots := 0, locals := 0 } : Room).slots) := by
  refine MetFree.of_bodySF (plainFor_of_name pn_1) hisR ?_
  intro p e s m args below meth c s₁ Bd hml0 hP hK
  obtain ⟨rfl, hZ, hh⟩ := hP
  have hx := Bd.exec
  have hby := Bd.bytes
  have hml : c.maxLocals = 8 := hml0
  have hown : s.vm.findClass "com/example/hot_gate/hotgate/bench/Replies" = some m.cls := findClass_of_methodNamed Bd.named
  have hnm := (name_of_methodNamed Bd.named Bd.method).1
  have X0 : Stand p l e ({ frames := 0, cells := 0, slots := 0, locals := 0 } : Room) s m #[(.ref p0), (.int (0 : Int32)), (.long p2), (.long p3), .null, .null] below meth c s₁ [] 0 0 := Stand.of_body Bd
  have e0 : s₁.heap = h0 := by rw [← hh, Bd.state]; rfl
  have N0 := Fr.nil n0
  have s0 : Steps p.tables e below (s₁.setTop (entryFrame m #[(.ref p0), (.int (0 : Int32)), (.long p2), (.long p3), .null, .null] 8)) (s₁.setTop (mkF m 0 #[.val (.ref p0), .val (.int (0 : Int32)), .val (.long p2), .second, .val (.long p3), .second, .val .null, .val .null] [])) := castTop (ef_rmr1_0 m p0 p2 p3) (Steps.refl _)
  obtain ⟨T1, X1, e1, st1⟩ := getF X0 hx hZ hown (host := "") (Or.inl (hw _ (List.mem_of_getElem? (i := 19) rfl))) Via.refl e0 F0_ (g := (mkF m 1 #[.val (.ref p0), .val (.int (0 : Int32)), .val (.long p2), .second, .val (.long p3), .second, .val .null, .val .null] [(.ref p0)])) rfl rfl (hb hby d5_1)
  obtain ⟨cla2, Ara2, qa2, Sa2, Za2, Ha2, Ga2⟩ := id F3_
  have hin3 : ¬ ((0 : Int32) < 0 ∨ cla2.slots.size ≤ ((0 : Int32)).toNatClampNeg) := inb_of Sa2 ⟨by decide, by decide⟩
  obtain ⟨T4, h4, X4, e4, W4, st4⟩ := stJ X1 hx hZ e1 Ara2 (j := (0 : Int32)) hin3 (g := (mkF m 6 #[.val (.ref p0), .val (.int (0 : Int32)), .val (.long p2), .second, .val (.long p3), .second, .val .null, .val .null] [(.long p2), (.int (0 : Int32)), (.ref b1)])) rfl rfl (hb hby d5_6)
  have O4 := O0.wr W4 F6_
  have K4 : Keep h0 h4 [b1, b2, b3] := (Keep.refl h0 [b1, b2, b3]).wr W4 (Or.inl (List.mem_of_getElem? (i := 0) rfl))
  have N4 := Fr.snoc X4 N0 F6_
  have V4 : Arv Z h4 b1 k1 .long (1 : Int32) [(.long p2)] (.long (0 : Int64)) := Arv.set Ara2 qa2 Sa2 Za2 Ha2 Ga2 rfl W4 0 rfl (Nat.le_of_ble_eq_true rfl)
  have c5 : Fld Z h4 p0 "com/example/hot_gate/hotgate/bench/Replies" "answeredAt" "[J" (.ref b2) := (F1_.other W4 (Or.inl F12_))
  obtain ⟨T6, X6, e6, st6⟩ := getF X4 hx hZ hown (host := "") (Or.inl (hw _ (List.mem_of_getElem? (i := 21) rfl))) Via.refl e4 c5 (g := (mkF m 8 #[.val (.ref p0), .val (.int (0 : Int32)), .val (.long p2), .second, .val (.long p3), .second, .val .null, .val .null] [(.ref p0)])) rfl rfl (hb hby d5_8)
  have c7 : Arv Z h4 b2 k2 .long (1 : Int32) [(.long y0)] (.long (0 : Int64)) := (F4_.other W4 (Ne.symm F9_))
  obtain ⟨cla8, Ara8, qa8, Sa8, Za8, Ha8, Ga8⟩ := id c7
  have hin9 : ¬ ((0 : Int32) < 0 ∨ cla8.slots.size ≤ ((0 : Int32)).toNatClampNeg) := inb_of Sa8 ⟨by decide, by decide⟩
  obtain ⟨T10, h10, X10, e10, W10, st10⟩ := stJ X6 hx hZ e6 Ara8 (j := (0 : Int32)) hin9 (g := (mkF m 14 #[.val (.ref p0), .val (.int (0 : Int32)), .val (.long p2), .second, .val (.long p3), .second, .val .null, .val .null] [(.long p3), (.int (0 : Int32)), (.ref b2)])) rfl rfl (hb hby d5_14)
  have O10 := O4.wr W10 F7_
  have K10 : Keep h0 h10 [b1, b2, b3] := K4.wr W10 (Or.inl (List.mem_of_getElem? (i := 1) rfl))
  have N10 := Fr.snoc X10 N4 F7_
  have V10 : Arv Z h10 b2 k2 .long (1 : Int32) [(.long p3)] (.long (0 : Int64)) := Arv.set Ara8 qa8 Sa8 Za8 Ha8 Ga8 rfl W10 0 rfl (Nat.le_of_ble_eq_true rfl)
  have c11 : Fld Z h10 p0 "com/example/hot_gate/hotgate/bench/Replies" "outcomes" "[Lcom/example/hot_gate/hotgate/bench/Outcome;" (.ref b3) := ((F2_.other W4 (Or.inl F12_)).other W10 (Or.inl F13_))
  obtain ⟨T12, X12, e12, st12⟩ := getF X10 hx hZ hown (host := "") (Or.inl (hw _ (List.mem_of_getElem? (i := 25) rfl))) Via.refl e10 c11 (g := (mkF m 16 #[.val (.ref p0), .val (.int (0 : Int32)), .val (.long p2), .second, .val (.long p3), .second, .val .null, .val .null] [(.ref p0)])) rfl rfl (hb hby d5_16)
  have c13 : Arv Z h10 b3 k3 (.object "com/example/hot_gate/hotgate/bench/Outcome") (1 : Int32) [.null] .null := ((F5_.other W4 (Ne.symm F10_)).other W10 (Ne.symm F11_))
  obtain ⟨cla14, Ara14, qa14, Sa14, Za14, Ha14, Ga14⟩ := id c13
  have hin15 : ¬ ((0 : Int32) < 0 ∨ cla14.slots.size ≤ ((0 : Int32)).toNatClampNeg) := inb_of Sa14 ⟨by decide, by decide⟩
  obtain ⟨T16, h16, X16, e16, W16, st16⟩ := stR X12 hx hZ e12 Ara14 (j := (0 : Int32)) hin15 rfl (Or.inl rfl) (g := (mkF m 22 #[.val (.ref p0), .val (.int (0 : Int32)), .val (.long p2), .second, .val (.long p3), .second, .val .null, .val .null] [.null, (.int (0 : Int32)), (.ref b3)])) rfl rfl (hb hby d5_22)
  have O16 := O10.wr W16 F8_
  have K16 : Keep h0 h16 [b1, b2, b3] := K10.wr W16 (Or.inl (List.mem_of_getElem? (i := 2) rfl))
  have N16 := Fr.snoc X16 N10 F8_
  have V16 : Arv Z h16 b3 k3 (.object "com/example/hot_gate/hotgate/bench/Outcome") (1 : Int32) [.null] .null := Arv.set Ara14 qa14 Sa14 Za14 Ha14 Ga14 rfl W16 0 rfl (Nat.le_of_ble_eq_true rfl)
  have s17 : Steps p.tables e below (s₁.setTop (entryFrame m #[(.ref p0), (.int (0 : Int32)), (.long p2), (.long p3), .null, .null] 8)) (T16.setTop (mkF m 39 #[.val (.ref p0), .val (.int (0 : Int32)), .val (.long p2), .second, .val (.long p3), .second, .val .null, .val .null] [])) := by
    refine s0.trans ?_
    show Steps p.tables e below (s₁.setTop (mkF m 0 #[.val (.ref p0), .val (.int (0 : Int32)), .val (.long p2), .second, .val (.long p3), .second, .val .null, .val .null] [])) _
    refine XS.aloadN X0.here hx rfl (hb hby d5_0) rfl rfl ?_
    show Steps p.tables e below (s₁.setTop (mkF m 1 #[.val (.ref p0), .val (.int (0 : Int32)), .val (.long p2), .second, .val (.long p3), .second, .val .null, .val .null] [(.ref p0)])) _
    refine st1 _ ?_
    show Steps p.tables e below (T1.setTop (mkF m 4 #[.val (.ref p0), .val (.int (0 : Int32)), .val (.long p2), .second, .val (.long p3), .second, .val .null, .val .null] [(.ref b1)])) _
    refine XS.iloadN X1.here hx rfl (hb hby d5_4) rfl ?_
    show Steps p.tables e below (T1.setTop (mkF m 5 #[.val (.ref p0), .val (.int (0 : Int32)), .val (.long p2), .second, .val (.long p3), .second, .val .null, .val .null] [(.int (0 : Int32)), (.ref b1)])) _
    refine XS.lloadN X1.here hx rfl (hb hby d5_5) rfl ?_
    show Steps p.tables e below (T1.setTop (mkF m 6 #[.val (.ref p0), .val (.int (0 : Int32)), .val (.long p2), .second, .val (.long p3), .second, .val .null, .val .null] [(.long p2), (.int (0 : Int32)), (.ref b1)])) _
    refine st4 _ ?_
    show Steps p.tables e below (T4.setTop (mkF m 7 #[.val (.ref p0), .val (.int (0 : Int32)), .val (.long p2), .second, .val (.long p3), .second, .val .null, .val .null] [])) _
    refine XS.aloadN X4.here hx rfl (hb hby d5_7) rfl rfl ?_
    show Steps p.tables e below (T4.setTop (mkF m 8 #[.val (.ref p0), .val (.int (0 : Int32)), .val (.long p2), .second, .val (.long p3), .second, .val .null, .val .null] [(.ref p0)])) _
    refine st6 _ ?_
    show Steps p.tables e below (T6.setTop (mkF m 11 #[.val (.ref p0), .val (.int (0 : Int32)), .val (.long p2), .second, .val (.long p3), .second, .val .null, .val .null] [(.ref b2)])) _
    refine XS.iloadN X6.here hx rfl (hb hby d5_11) rfl ?_
    show Steps p.tables e below (T6.setTop (mkF m 12 #[.val (.ref p0), .val (.int (0 : Int32)), .val (.long p2), .second, .val (.long p3), .second, .val .null, .val .null] [(.int (0 : Int32)), (.ref b2)])) _
    refine XS.lload X6.here hx rfl (hb hby d5_12) rfl ?_
    show Steps p.tables e below (T6.setTop (mkF m 14 #[.val (.ref p0), .val (.int (0 : Int32)), .val (.long p2), .second, .val (.long p3), .second, .val .null, .val .null] [(.long p3), (.int (0 : Int32)), (.ref b2)])) _
    refine st10 _ ?_
    show Steps p.tables e below (T10.setTop (mkF m 15 #[.val (.ref p0), .val (.int (0 : Int32)), .val (.long p2), .second, .val (.long p3), .second, .val .null, .val .null] [])) _
    refine XS.aloadN X10.here hx rfl (hb hby d5_15) rfl rfl ?_
    show Steps p.tables e below (T10.setTop (mkF m 16 #[.val (.ref p0), .val (.int (0 : Int32)), .val (.long p2), .second, .val (.long p3), .second, .val .null, .val .null] [(.ref p0)])) _
    refine st12 _ ?_
    show Steps p.tables e below (T12.setTop (mkF m 19 #[.val (.ref p0), .val (.int (0 : Int32)), .val (.long p2), .second, .val (.long p3), .second, .val .null, .val .null] [(.ref b3)])) _
    refine XS.iloadN X12.here hx rfl (hb hby d5_19) rfl ?_
    show Steps p.tables e below (T12.setTop (mkF m 20 #[.val (.ref p0), .val (.int (0 : Int32)), .val (.long p2), .second, .val (.long p3), .second, .val .null, .val .null] [(.int (0 : Int32)), (.ref b3)])) _
    refine XS.aload X12.here hx rfl (hb hby d5_20) rfl rfl ?_
    show Steps p.tables e below (T12.setTop (mkF m 22 #[.val (.ref p0), .val (.int (0 : Int32)), .val (.long p2), .second, .val (.long p3), .second, .val .null, .val .null] [.null, (.int (0 : Int32)), (.ref b3)])) _
    refine st16 _ ?_
    show Steps p.tables e below (T16.setTop (mkF m 23 #[.val (.ref p0), .val (.int (0 : Int32)), .val (.long p2), .second, .val (.long p3), .second, .val .null, .val .null] [])) _
    refine XS.aload X16.here hx rfl (hb hby d5_23) rfl rfl ?_
    show Steps p.tables e below (T16.setTop (mkF m 25 #[.val (.ref p0), .val (.int (0 : Int32)), .val (.long p2), .second, .val (.long p3), .second, .val .null, .val .null] [.null])) _
    refine XS.ifnullYes X16.here hx rfl (pc0 := 25) (pc' := 39) rfl (hb hby d5_25) rfl (by decide) (by decide) ?_
    exact Steps.refl _
  have c18 : Arv Z h16 b1 k1 .long (1 : Int32) [(.long p2)] (.long (0 : Int64)) := ((V4.other W10 F9_).other W16 F10_)
  have c19 : Arv Z h16 b2 k2 .long (1 : Int32) [(.long p3)] (.long (0 : Int64)) := (V10.other W16 F11_)
  obtain ⟨fs, hr, hrun, hended, hW, hsame⟩ := X16.leave (v := none) (fun _ => rfl)
  refine ⟨_, _, s17.trans ?_, hrun, hended, _, _, rfl, ?_, ⟨_, rfl⟩, hW, hsame.mono (by decide) (by decide)⟩
  · show Steps p.tables e below (T16.setTop (mkF m 39 #[.val (.ref p0), .val (.int (0 : Int32)), .val (.long p2), .second, .val (.long p3), .second, .val .null, .val .null] [])) _
    exact X16.returnOut hx Bd.returns (hb hby d5_39) hr
  · show Qr1_0 Z p0 p2 p3 b1 b2 b3 k1 k2 k3 x0 y0 h0 n0 _ T16.heap _
    rw [e16]
    exact ⟨rfl, N16, K16, c18, c19, V16⟩
theorem d4_23 : decode prog_12_method_6_code 23 = .ok (.aload_n 3, 1) := by decide +kernel
theorem d4_24 : decode prog_12_method_6_code 24 = .ok (.iload 5, 2) := by decide +kernel
theorem d4_26 : decode prog_12_method_6_code 26 = .ok (.laload, 1) := by decide +kernel
theorem d4_27 : decode prog_12_method_6_code 27 = .ok (.lstore 6, 2) := by decide +kernel
theorem d4_29 : decode prog_12_method_6_code 29 = .ok (.lload_n 1, 1) := by decide +kernel
theorem d4_30 : decode prog_12_method_6_code 30 = .ok (.lload 6, 2) := by decide +kernel
theorem d4_32 : decode prog_12_method_6_code 32 = .ok (.invokestatic 43, 3) := by decide +kernel
theorem d4_35 : decode prog_12_method_6_code 35 = .ok (.lstore_n 1, 1) := by decide +kernel
theorem d4_36 : decode prog_12_method_6_code 36 = .ok (.iinc 5 1, 3) := by decide +kernel
theorem d4_39 : decode prog_12_method_6_code 39 = .ok (.goto (-23), 3) := by decide +kernel
theorem pd_rmf1_0 : parseMethodDescriptor "(JJ)J" = some ⟨[.long, .long], some .long⟩ := by decide +kernel
theorem ef_rmf1 (m : MethodId) (p0 : Addr) : entryFrame m #[(.ref p0)] 8 = mkF m 0 #[.val (.ref p0), .unset, .unset, .unset, .unset, .unset, .unset, .unset] [] := by first | (simp [entryFrame, mkF, argsToLocals, Value.category]; done) | rfl
def Qf1 (Z : State) (p0 : Addr) (b1 : Addr) (k1 : ClassId) (x0 : Int64) (h0 : Heap) (n0 : Nat) (v : Option Value) (h : Heap) (L : List Loc) : Prop := v = some (.long (own_min (9223372036854775807 : Int64) x0)) ∧ Fr n0 L ∧ h = h0
set_option maxRecDepth 65536 in
set_option maxHeartbeats 40000000 in
theorem rmf1 (l : Launch) (Z : State) (a0 : Array Value) (hw : ∀ d ∈ tables_1, d.before a0 Z = true) (ws : List Jvm.Cond) (p0 : Addr) (b1 : Addr) (k1 : ClassId) (x0 : Int64) (h0 : Heap) (n0 : Nat) (O0 : Old Z n0 h0) (F0_ : Fld Z h0 p0 "com/example/hot_gate/hotgate/bench/Replies" "sentAt" "[J" (.ref b1)) (F1_ : Arv Z h0 b1 k1 .long (1 : Int32) [(.long x0)] (.long (0 : Int64))) :
    MetFree l (⟨"com/example/hot_gate/hotgate/bench/Replies", "firstSent", "()J"⟩ : MethodName) (head1 (Jvm.Cond.code (⟨"com/example/hot_gate/hotgate/bench/Replies", "firstSent", "()J"⟩ : MethodName) prog_12_method_6_code 8 (some .long) :: ws) ({ frames := 1, cells := 0, slots := 0, locals := 15 } : Room)) (fun a U => a = #[(.ref p0)] ∧ Z.Warmed39 U.vm ∧ U.heap = h0) (fun _ _ _ _ _ => True) (fun _ U o U' => ∃ v L, o = .returned v ∧ Qf1 Z p0 b1 k1 x0 h0 n0 v U'.heap L ∧ FrameEnd U o U' L ({ frames := 1, cells := 0, slots := 0, locals := 15 } : Room).cells ({ frames := 1, cells := 0, slots := 0, locals := 15 } : Room).slots) := by
  refine MetFree.of_bodySF (plainFor_of_name pn_1) hisR ?_
  intro p e s m args below meth c s₁ Bd hml0 hP hK
  obtain ⟨rfl, hZ, hh⟩ := hP
  have hx := Bd.exec
  have hby := Bd.bytes
  have hml : c.maxLocals = 8 := hml0
  have hown : s.vm.findClass "com/example/hot_gate/hotgate/bench/Replies" = some m.cls := findClass_of_methodNamed Bd.named
  have hnm := (name_of_methodNamed Bd.named Bd.method).1
  have X0 : Stand p l e ({ frames := 1, cells := 0, slots := 0, locals := 15 } : Room) s m #[(.ref p0)] below meth c s₁ [] 0 0 := Stand.of_body Bd
  have e0 : s₁.heap = h0 := by rw [← hh, Bd.state]; rfl
  have N0 := Fr.nil n0
  have s0 : Steps p.tables e below (s₁.setTop (entryFrame m #[(.ref p0)] 8)) (s₁.setTop (mkF m 0 #[.val (.ref p0), .unset, .unset, .unset, .unset, .unset, .unset, .unset] [])) := castTop (ef_rmf1 m p0) (Steps.refl _)
  obtain ⟨T1, X1, e1, st1⟩ := getF X0 hx hZ hown (host := "") (Or.inl (hw _ (List.mem_of_getElem? (i := 19) rfl))) Via.refl e0 F0_ (g := (mkF m 5 #[.val (.ref p0), .val (.long (9223372036854775807 : Int64)), .second, .unset, .unset, .unset, .unset, .unset] [(.ref p0)])) rfl rfl (hb hby d4_5)
  obtain ⟨cla2, Ara2, qa2, Sa2, Za2, Ha2, Ga2⟩ := id F1_
  have hin3 : ¬ ((0 : Int32) < 0 ∨ cla2.slots.size ≤ ((0 : Int32)).toNatClampNeg) := inb_of Sa2 ⟨by decide, by decide⟩
  have hat4 : cla2.slots[((0 : Int32)).toNatClampNeg]? = some (.long x0) := Has.at Ha2 hin3 rfl
  obtain ⟨_, _, ⟨T5, L5, k5, n5⟩, -, X5, ⟨Lc5, hQ5, l5, y5, z5⟩, st5⟩ := Jvm.LawKit.callS X1 hx (y := (⟨"java/lang/Math", "min", "(JJ)J"⟩ : MethodName)) hown (mvT hZ (hw _ (List.mem_of_getElem? (i := 43) rfl))) (mvT hZ (hw _ (List.mem_of_getElem? (i := 40) rfl))) (mvT hZ (hw _ (List.mem_of_getElem? (i := 41) rfl))) (mvT hZ (hw _ (List.mem_of_getElem? (i := 42) rfl))) (by decide) (backOf (W := 0) (rm6 l Z a0 hw [] (9223372036854775807 : Int64) x0 h0 n0 O0 ) hZ (hw _ (List.mem_of_getElem? (i := 42) rfl)) (hw _ (List.mem_of_getElem? (i := 41) rfl)) (by decide) (by decide)) (g := (mkF m 32 #[.val (.ref p0), .val (.long (9223372036854775807 : Int64)), .second, .val (.ref b1), .val (.int (1 : Int32)), .val (.int (0 : Int32)), .val (.long x0), .second] [(.long x0), (.long (9223372036854775807 : Int64))])) rfl (by rw [hml]; rfl) (argsL := [(.long (9223372036854775807 : Int64)), (.long x0)]) (rest := []) (lenOf pd_rmf1_0 rfl) rfl (by show 2 * 0 + _ ≤ _; exact Nat.le_of_eq rfl) (hb hby d4_32) (fun _ _ => ⟨rfl, e1, (by decide : 0 + 0 ≤ _), (by decide : 0 + 0 ≤ _)⟩)
  dsimp only [Pt.U, Pt.locs, Pt.cells, Pt.slots] at X5 l5 y5 z5 st5 hQ5
  subst l5 y5 z5
  obtain ⟨rfl, Nq5, e5⟩ := hQ5
  have N5 := Fr.app N0 Nq5
  have s6 : Steps p.tables e below (s₁.setTop (entryFrame m #[(.ref p0)] 8)) (T5.setTop (mkF m 43 #[.val (.ref p0), .val (.long (own_min (9223372036854775807 : Int64) x0)), .second, .val (.ref b1), .val (.int (1 : Int32)), .val (.int (1 : Int32)), .val (.long x0), .second] [(.long (own_min (9223372036854775807 : Int64) x0))])) := by
    refine s0.trans ?_
    show Steps p.tables e below (s₁.setTop (mkF m 0 #[.val (.ref p0), .unset, .unset, .unset, .unset, .unset, .unset, .unset] [])) _
    refine X0.ldc2Long hx hown (mvT hZ (hw _ (List.mem_of_getElem? (i := 33) rfl))) (g := (mkF m 0 #[.val (.ref p0), .unset, .unset, .unset, .unset, .unset, .unset, .unset] [])) rfl (hb hby d4_0) _ ?_
    show Steps p.tables e below (s₁.setTop (mkF m 3 #[.val (.ref p0), .unset, .unset, .unset, .unset, .unset, .unset, .unset] [(.long (9223372036854775807 : Int64))])) _
    refine XS.lstoreN X0.here hx rfl (hb hby d4_3) rfl (l' := #[.val (.ref p0), .val (.long (9223372036854775807 : Int64)), .second, .unset, .unset, .unset, .unset, .unset]) rfl ?_
    show Steps p.tables e below (s₁.setTop (mkF m 4 #[.val (.ref p0), .val (.long (9223372036854775807 : Int64)), .second, .unset, .unset, .unset, .unset, .unset] [])) _
    refine XS.aloadN X0.here hx rfl (hb hby d4_4) rfl rfl ?_
    show Steps p.tables e below (s₁.setTop (mkF m 5 #[.val (.ref p0), .val (.long (9223372036854775807 : Int64)), .second, .unset, .unset, .unset, .unset, .unset] [(.ref p0)])) _
    refine st1 _ ?_
    show Steps p.tables e below (T1.setTop (mkF m 8 #[.val (.ref p0), .val (.long (9223372036854775807 : Int64)), .second, .unset, .unset, .unset, .unset, .unset] [(.ref b1)])) _
    refine XS.astoreN X1.here hx rfl (hb hby d4_8) rfl rfl (l' := #[.val (.ref p0), .val (.long (9223372036854775807 : Int64)), .second, .val (.ref b1), .unset, .unset, .unset, .unset]) rfl ?_
    show Steps p.tables e below (T1.setTop (mkF m 9 #[.val (.ref p0), .val (.long (9223372036854775807 : Int64)), .second, .val (.ref b1), .unset, .unset, .unset, .unset] [])) _
    refine XS.aloadN X1.here hx rfl (hb hby d4_9) rfl rfl ?_
    show Steps p.tables e below (T1.setTop (mkF m 10 #[.val (.ref p0), .val (.long (9223372036854775807 : Int64)), .second, .val (.ref b1), .unset, .unset, .unset, .unset] [(.ref b1)])) _
    refine X1.arraylength hx (by rw [e1]; exact Ara2.1) (State.isArrayOf_alike hZ.alike Ara2.2.1) (g := (mkF m 10 #[.val (.ref p0), .val (.long (9223372036854775807 : Int64)), .second, .val (.ref b1), .unset, .unset, .unset, .unset] [(.ref b1)])) rfl rfl (hb hby d4_10) _ ?_
    rw [len_of Sa2 Za2]
    show Steps p.tables e below (T1.setTop (mkF m 11 #[.val (.ref p0), .val (.long (9223372036854775807 : Int64)), .second, .val (.ref b1), .unset, .unset, .unset, .unset] [(.int (1 : Int32))])) _
    refine XS.istore X1.here hx rfl (hb hby d4_11) rfl (l' := #[.val (.ref p0), .val (.long (9223372036854775807 : Int64)), .second, .val (.ref b1), .val (.int (1 : Int32)), .unset, .unset, .unset]) rfl ?_
    show Steps p.tables e below (T1.setTop (mkF m 13 #[.val (.ref p0), .val (.long (9223372036854775807 : Int64)), .second, .val (.ref b1), .val (.int (1 : Int32)), .unset, .unset, .unset] [])) _
    refine XS.iconst X1.here hx rfl (hb hby d4_13) ?_
    show Steps p.tables e below (T1.setTop (mkF m 14 #[.val (.ref p0), .val (.long (9223372036854775807 : Int64)), .second, .val (.ref b1), .val (.int (1 : Int32)), .unset, .unset, .unset] [(.int (0 : Int32))])) _
    refine XS.istore X1.here hx rfl (hb hby d4_14) rfl (l' := #[.val (.ref p0), .val (.long (9223372036854775807 : Int64)), .second, .val (.ref b1), .val (.int (1 : Int32)), .val (.int (0 : Int32)), .unset, .unset]) rfl ?_
    show Steps p.tables e below (T1.setTop (mkF m 16 #[.val (.ref p0), .val (.long (9223372036854775807 : Int64)), .second, .val (.ref b1), .val (.int (1 : Int32)), .val (.int (0 : Int32)), .unset, .unset] [])) _
    refine XS.iload X1.here hx rfl (hb hby d4_16) rfl ?_
    show Steps p.tables e below (T1.setTop (mkF m 18 #[.val (.ref p0), .val (.long (9223372036854775807 : Int64)), .second, .val (.ref b1), .val (.int (1 : Int32)), .val (.int (0 : Int32)), .unset, .unset] [(.int (0 : Int32))])) _
    refine XS.iload X1.here hx rfl (hb hby d4_18) rfl ?_
    show Steps p.tables e below (T1.setTop (mkF m 20 #[.val (.ref p0), .val (.long (9223372036854775807 : Int64)), .second, .val (.ref b1), .val (.int (1 : Int32)), .val (.int (0 : Int32)), .unset, .unset] [(.int (1 : Int32)), (.int (0 : Int32))])) _
    refine XS.icmpNo X1.here hx rfl (hb hby d4_20) rfl (tlt (by decide)).2.1 ?_
    show Steps p.tables e below (T1.setTop (mkF m 23 #[.val (.ref p0), .val (.long (9223372036854775807 : Int64)), .second, .val (.ref b1), .val (.int (1 : Int32)), .val (.int (0 : Int32)), .unset, .unset] [])) _
    refine XS.aloadN X1.here hx rfl (hb hby d4_23) rfl rfl ?_
    show Steps p.tables e below (T1.setTop (mkF m 24 #[.val (.ref p0), .val (.long (9223372036854775807 : Int64)), .second, .val (.ref b1), .val (.int (1 : Int32)), .val (.int (0 : Int32)), .unset, .unset] [(.ref b1)])) _
    refine XS.iload X1.here hx rfl (hb hby d4_24) rfl ?_
    show Steps p.tables e below (T1.setTop (mkF m 26 #[.val (.ref p0), .val (.long (9223372036854775807 : Int64)), .second, .val (.ref b1), .val (.int (1 : Int32)), .val (.int (0 : Int32)), .unset, .unset] [(.int (0 : Int32)), (.ref b1)])) _
    refine X1.laload hx (j := (0 : Int32)) (v := (.long x0)) (by rw [e1]; exact Ara2.1) (State.isArrayOf_alike hZ.alike Ara2.2.1) Ara2.2.2 hin3 hat4 (g := (mkF m 26 #[.val (.ref p0), .val (.long (9223372036854775807 : Int64)), .second, .val (.ref b1), .val (.int (1 : Int32)), .val (.int (0 : Int32)), .unset, .unset] [(.int (0 : Int32)), (.ref b1)])) rfl rfl (hb hby d4_26) _ ?_
    show Steps p.tables e below (T1.setTop (mkF m 27 #[.val (.ref p0), .val (.long (9223372036854775807 : Int64)), .second, .val (.ref b1), .val (.int (1 : Int32)), .val (.int (0 : Int32)), .unset, .unset] [(.long x0)])) _
    refine XS.lstore X1.here hx rfl (hb hby d4_27) rfl (l' := #[.val (.ref p0), .val (.long (9223372036854775807 : Int64)), .second, .val (.ref b1), .val (.int (1 : Int32)), .val (.int (0 : Int32)), .val (.long x0), .second]) rfl ?_
    show Steps p.tables e below (T1.setTop (mkF m 29 #[.val (.ref p0), .val (.long (9223372036854775807 : Int64)), .second, .val (.ref b1), .val (.int (1 : Int32)), .val (.int (0 : Int32)), .val (.long x0), .second] [])) _
    refine XS.lloadN X1.here hx rfl (hb hby d4_29) rfl ?_
    show Steps p.tables e below (T1.setTop (mkF m 30 #[.val (.ref p0), .val (.long (9223372036854775807 : Int64)), .second, .val (.ref b1), .val (.int (1 : Int32)), .val (.int (0 : Int32)), .val (.long x0), .second] [(.long (9223372036854775807 : Int64))])) _
    refine XS.lload X1.here hx rfl (hb hby d4_30) rfl ?_
    show Steps p.tables e below (T1.setTop (mkF m 32 #[.val (.ref p0), .val (.long (9223372036854775807 : Int64)), .second, .val (.ref b1), .val (.int (1 : Int32)), .val (.int (0 : Int32)), .val (.long x0), .second] [(.long x0), (.long (9223372036854775807 : Int64))])) _
    refine st5 _ ?_
    show Steps p.tables e below (T5.setTop (mkF m 35 #[.val (.ref p0), .val (.long (9223372036854775807 : Int64)), .second, .val (.ref b1), .val (.int (1 : Int32)), .val (.int (0 : Int32)), .val (.long x0), .second] [(.long (own_min (9223372036854775807 : Int64) x0))])) _
    refine XS.lstoreN X5.here hx rfl (hb hby d4_35) rfl (l' := #[.val (.ref p0), .val (.long (own_min (9223372036854775807 : Int64) x0)), .second, .val (.ref b1), .val (.int (1 : Int32)), .val (.int (0 : Int32)), .val (.long x0), .second]) rfl ?_
    show Steps p.tables e below (T5.setTop (mkF m 36 #[.val (.ref p0), .val (.long (own_min (9223372036854775807 : Int64) x0)), .second, .val (.ref b1), .val (.int (1 : Int32)), .val (.int (0 : Int32)), .val (.long x0), .second] [])) _
    refine XS.iinc X5.here hx rfl (hb hby d4_36) rfl (l' := #[.val (.ref p0), .val (.long (own_min (9223372036854775807 : Int64) x0)), .second, .val (.ref b1), .val (.int (1 : Int32)), .val (.int (1 : Int32)), .val (.long x0), .second]) rfl ?_
    show Steps p.tables e below (T5.setTop (mkF m 39 #[.val (.ref p0), .val (.long (own_min (9223372036854775807 : Int64) x0)), .second, .val (.ref b1), .val (.int (1 : Int32)), .val (.int (1 : Int32)), .val (.long x0), .second] [])) _
    refine XS.goto X5.here hx rfl (pc0 := 39) (pc' := 16) rfl (hb hby d4_39) (by decide) (by decide) ?_
    show Steps p.tables e below (T5.setTop (mkF m 16 #[.val (.ref p0), .val (.long (own_min (9223372036854775807 : Int64) x0)), .second, .val (.ref b1), .val (.int (1 : Int32)), .val (.int (1 : Int32)), .val (.long x0), .second] [])) _
    refine XS.iload X5.here hx rfl (hb hby d4_16) rfl ?_
    show Steps p.tables e below (T5.setTop (mkF m 18 #[.val (.ref p0), .val (.long (own_min (9223372036854775807 : Int64) x0)), .second, .val (.ref b1), .val (.int (1 : Int32)), .val (.int (1 : Int32)), .val (.long x0), .second] [(.int (1 : Int32))])) _
    refine XS.iload X5.here hx rfl (hb hby d4_18) rfl ?_
    show Steps p.tables e below (T5.setTop (mkF m 20 #[.val (.ref p0), .val (.long (own_min (9223372036854775807 : Int64) x0)), .second, .val (.ref b1), .val (.int (1 : Int32)), .val (.int (1 : Int32)), .val (.long x0), .second] [(.int (1 : Int32)), (.int (1 : Int32))])) _
    refine XS.icmpYes X5.here hx rfl (pc0 := 20) (pc' := 42) rfl (hb hby d4_20) rfl (flt (by decide)).2.1 (by decide) (by decide) ?_
    show Steps p.tables e below (T5.setTop (mkF m 42 #[.val (.ref p0), .val (.long (own_min (9223372036854775807 : Int64) x0)), .second, .val (.ref b1), .val (.int (1 : Int32)), .val (.int (1 : Int32)), .val (.long x0), .second] [])) _
    refine XS.lloadN X5.here hx rfl (hb hby d4_42) rfl ?_
    exact Steps.refl _
  obtain ⟨fs, hr, hrun, hended, hW, hsame⟩ := X5.leave (v := some (.long (own_min (9223372036854775807 : Int64) x0))) (fun h => by rw [Bd.returns] at h; cases h)
  refine ⟨_, _, s6.trans ?_, hrun, hended, _, _, rfl, ?_, ⟨_, rfl⟩, hW, hsame.mono (by decide) (by decide)⟩
  · show Steps p.tables e below (T5.setTop (mkF m 43 #[.val (.ref p0), .val (.long (own_min (9223372036854775807 : Int64) x0)), .second, .val (.ref b1), .val (.int (1 : Int32)), .val (.int (1 : Int32)), .val (.long x0), .second] [(.long (own_min (9223372036854775807 : Int64) x0))])) _
    jvm_step X5.here [X5.here.top, hx, (hb hby d4_43), X5.method', Bd.returns, narrow]
    first | (intro acts; rw [hr _ acts rfl rfl rfl]) | rw [hr _ _ rfl rfl rfl]
    exact Steps.refl _
  · show Qf1 Z p0 b1 k1 x0 h0 n0 _ T5.heap _
    rw [e5]
    exact ⟨rfl, N5, rfl⟩
theorem pd_rmi2_0 : parseMethodDescriptor "()V" = some ⟨[], none⟩ := by decide +kernel
theorem ef_rmi2 (m : MethodId) (p0 : Addr) : entryFrame m #[(.ref p0), (.int (2 : Int32))] 2 = mkF m 0 #[.val (.ref p0), .val (.int (2 : Int32))] [] := by first | (simp [entryFrame, mkF, argsToLocals, Value.category]; done) | rfl
def Qi2 (Z : State) (p0 : Addr) (h0 : Heap) (n0 : Nat) (v : Option Value) (h : Heap) (L : List Loc) : Prop := ∃ b1 : Addr, ∃ b2 : Addr, ∃ b3 : Addr, ∃ k1 : ClassId, ∃ k2 : ClassId, ∃ k3 : ClassId, v = none ∧ Fr n0 L ∧ Keep h0 h [p0] ∧ (Exa Z h p0 "com/example/hot_gate/hotgate/bench/Replies") ∧ (Fld Z h p0 "com/example/hot_gate/hotgate/bench/Replies" "sentAt" "[J" (.ref b1)) ∧ (Fld Z h p0 "com/example/hot_gate/hotgate/bench/Replies" "answeredAt" "[J" (.ref b2)) ∧ (Fld Z h p0 "com/example/hot_gate/hotgate/bench/Replies" "outcomes" "[Lcom/example/hot_gate/hotgate/bench/Outcome;" (.ref b3)) ∧ (Arv Z h b1 k1 .long (2 : Int32) [(.long (0 : Int64)), (.long (0 : Int64))] (.long (0 : Int64))) ∧ (Arv Z h b2 k2 .long (2 : Int32) [(.long (0 : Int64)), (.long (0 : Int64))] (.long (0 : Int64))) ∧ (Arv Z h b3 k3 (.object "com/example/hot_gate/hotgate/bench/Outcome") (2 : Int32) [.null, .null] .null) ∧ (h0.size ≤ b1) ∧ (h0.size ≤ b2) ∧ (h0.size ≤ b3) ∧ (b1 ≠ b2) ∧ (b1 ≠ b3) ∧ (b2 ≠ b3)
set_option maxRecDepth 65536 in
set_option maxHeartbeats 40000000 in
theorem rmi2 (l : Launch) (Z : State) (a0 : Array Value) (hw : ∀ d ∈ tables_1, d.before a0 Z = true) (ws : List Jvm.Cond) (p0 : Addr) (h0 : Heap) (n0 : Nat) (O0 : Old Z n0 h0) (F0_ : Exa Z h0 p0 "com/example/hot_gate/hotgate/bench/Replies") (F1_ : Fld Z h0 p0 "com/example/hot_gate/hotgate/bench/Replies" "firstError" "Ljava/util/concurrent/atomic/AtomicReference;" .null) (F2_ : Fld Z h0 p0 "com/example/hot_gate/hotgate/bench/Replies" "sentAt" "[J" .null) (F3_ : Fld Z h0 p0 "com/example/hot_gate/hotgate/bench/Replies" "answeredAt" "[J" .null) (F4_ : Fld Z h0 p0 "com/example/hot_gate/hotgate/bench/Replies" "outcomes" "[Lcom/example/hot_gate/hotgate/bench/Outcome;" .null) (F5_ : n0 ≤ p0) :
    MetFree l (⟨"com/example/hot_gate/hotgate/bench/Replies", "<init>", "(I)V"⟩ : MethodName) (head1 (Jvm.Cond.code (⟨"com/example/hot_gate/hotgate/bench/Replies", "<init>", "(I)V"⟩ : MethodName) prog_12_method_1_code 2 none :: ws) ({ frames := 2, cells := 4, slots := 7, locals := 26 } : Room)) (fun a U => a = #[(.ref p0), (.int (2 : Int32))] ∧ Z.Warmed39 U.vm ∧ U.heap = h0) (fun _ _ _ _ _ => True) (fun _ U o U' => ∃ v L, o = .returned v ∧ Qi2 Z p0 h0 n0 v U'.heap L ∧ FrameEnd U o U' L ({ frames := 2, cells := 4, slots := 7, locals := 26 } : Room).cells ({ frames := 2, cells := 4, slots := 7, locals := 26 } : Room).slots) := by
  refine MetFree.of_bodySF (plainFor_of_name pn_1) hisR ?_
  intro p e s m args below meth c s₁ Bd hml0 hP hK
  obtain ⟨rfl, hZ, hh⟩ := hP
  have hx := Bd.exec
  have hby := Bd.bytes
  have hml : c.maxLocals = 2 := hml0
  have hown : s.vm.findClass "com/example/hot_gate/hotgate/bench/Replies" = some m.cls := findClass_of_methodNamed Bd.named
  have hnm := (name_of_methodNamed Bd.named Bd.method).1
  have X0 : Stand p l e ({ frames := 2, cells := 4, slots := 7, locals := 26 } : Room) s m #[(.ref p0), (.int (2 : Int32))] below meth c s₁ [] 0 0 := Stand.of_body Bd
  have e0 : s₁.heap = h0 := by rw [← hh, Bd.state]; rfl
  have N0 := Fr.nil n0
  have s0 : Steps p.tables e below (s₁.setTop (entryFrame m #[(.ref p0), (.int (2 : Int32))] 2)) (s₁.setTop (mkF m 0 #[.val (.ref p0), .val (.int (2 : Int32))] [])) := castTop (ef_rmi2 m p0) (Steps.refl _)
  obtain ⟨T1, X1, e1, st1⟩ := initO X0 hx hZ hown (hw _ (List.mem_of_getElem? (i := 6) rfl)) (hw _ (List.mem_of_getElem? (i := 7) rfl)) (hw _ (List.mem_of_getElem? (i := 8) rfl)) e0 (g := (mkF m 1 #[.val (.ref p0), .val (.int (2 : Int32))] [(.ref p0)])) rfl (by rw [hml]; rfl) rfl (hb hby d1_1) (by decide) (W := 0) (by show 2 * 0 + _ ≤ _; exact Nat.le_of_eq rfl) (by decide)
  obtain ⟨T2, h2, X2, e2, E2, A2, D2, -, st2⟩ := newO X1 hx hZ hown (hw _ (List.mem_of_getElem? (i := 9) rfl)) (hw _ (List.mem_of_getElem? (i := 10) rfl)) (hw _ (List.mem_of_getElem? (i := 11) rfl)) e1 (g := (mkF m 5 #[.val (.ref p0), .val (.int (2 : Int32))] [(.ref p0)])) rfl (hb hby d1_5) (by decide) (by decide)
  obtain ⟨b2, g2⟩ : ∃ z, z = h0.size := ⟨_, rfl⟩
  rw [← g2] at A2 D2 st2
  have ne_p0_b2 : p0 ≠ b2 := Nat.ne_of_lt (Nat.lt_of_lt_of_le F0_.lt (Nat.le_of_eq g2.symm))
  have g_b2 : n0 ≤ b2 := Nat.le_trans (Nat.le_of_eq O0.1.symm) (Nat.le_trans O0.2.1 (Nat.le_of_eq g2.symm))
  have sz_b2 : h0.size ≤ b2 := Nat.le_trans (Keep.refl h0 [p0]).1 (Nat.le_of_eq g2.symm)
  have O2 := O0.ext E2
  have K2 : Keep h0 h2 [p0] := (Keep.refl h0 [p0]).ext E2
  obtain ⟨_, _, ⟨T3, L3, k3, n3⟩, -, X3, ⟨Lc3, hQ3, l3, y3, z3⟩, st3⟩ := X2.specialBack hx (y := (⟨"java/util/concurrent/atomic/AtomicReference", "<init>", "()V"⟩ : MethodName)) rfl hown (mvT hZ (hw _ (List.mem_of_getElem? (i := 12) rfl))) (mvT hZ (hw _ (List.mem_of_getElem? (i := 13) rfl))) (mvT hZ (hw _ (List.mem_of_getElem? (i := 14) rfl))) (by decide) (backOf (W := 2) (rm3 l Z a0 hw [] b2 h2 n0 O2 ) hZ (hw _ (List.mem_of_getElem? (i := 14) rfl)) (hw _ (List.mem_of_getElem? (i := 11) rfl)) (by decide) (by decide)) (g := (mkF m 9 #[.val (.ref p0), .val (.int (2 : Int32))] [(.ref b2), (.ref b2), (.ref p0)])) rfl (by rw [hml]; rfl) (Steps.refl _) (a := b2) (argsL := []) (rest := [(.ref b2), (.ref p0)]) (lenOf pd_rmi2_0 rfl) rfl (by show 2 * 0 + _ ≤ _; exact Nat.le_of_eq rfl) (hb hby d1_9) (fun _ _ => ⟨rfl, e2, (by decide : 1 + 0 ≤ _), (by decide : 1 + 0 ≤ _)⟩)
  dsimp only [Pt.U, Pt.locs, Pt.cells, Pt.slots] at X3 l3 y3 z3 st3 hQ3
  subst l3 y3 z3
  obtain ⟨rfl, Nq3, e3⟩ := hQ3
  have N3 := Fr.app N0 Nq3
  have c4 : Exa Z h2 p0 "com/example/hot_gate/hotgate/bench/Replies" := (F0_.ext E2)
  have c5 : Fld Z h2 p0 "com/example/hot_gate/hotgate/bench/Replies" "firstError" "Ljava/util/concurrent/atomic/AtomicReference;" .null := (F1_.ext E2)
  obtain ⟨T6, h6, X6, e6, W6, st6⟩ := putF X3 hx hZ hown (host := "") (Or.inl (hw _ (List.mem_of_getElem? (i := 16) rfl))) Via.refl e3 c5 c4 (Or.inr ⟨(hw _ (List.mem_of_getElem? (i := 17) rfl)), rfl, hnm⟩) (hw _ (List.mem_of_getElem? (i := 1) rfl)) (ty := (.object "java/util/concurrent/atomic/AtomicReference")) (by decide) rfl rfl (g := (mkF m 12 #[.val (.ref p0), .val (.int (2 : Int32))] [(.ref b2), (.ref p0)])) rfl rfl (hb hby d1_12)
  have Fw6 := c5.same W6
  have O6 := O2.wr W6 F5_
  have K6 : Keep h0 h6 [p0] := K2.wr W6 (Or.inl (List.mem_of_getElem? (i := 0) rfl))
  have N6 := Fr.snoc X6 N3 F5_
  obtain ⟨T7, h7, k7, X7, e7, E7, A7, st7⟩ := newP X6 hx hZ (hw _ (List.mem_of_getElem? (i := 18) rfl)) e6 (g := (mkF m 17 #[.val (.ref p0), .val (.int (2 : Int32))] [(.int (2 : Int32)), (.ref p0)])) rfl (hb hby d1_17) rfl (by decide) (cap := 2) (by decide) (by decide) (by decide) (by decide)
  obtain ⟨b7, g7⟩ : ∃ z, z = h6.size := ⟨_, rfl⟩
  rw [← g7] at A7 st7
  have c8 : Exa Z h6 p0 "com/example/hot_gate/hotgate/bench/Replies" := (c4.wr W6)
  have ne_p0_b7 : p0 ≠ b7 := Nat.ne_of_lt (Nat.lt_of_lt_of_le c8.lt (Nat.le_of_eq g7.symm))
  have c9 : Exa Z h6 b2 "java/util/concurrent/atomic/AtomicReference" := (A2.wr W6)
  have ne_b2_b7 : b2 ≠ b7 := Nat.ne_of_lt (Nat.lt_of_lt_of_le c9.lt (Nat.le_of_eq g7.symm))
  have g_b7 : n0 ≤ b7 := Nat.le_trans (Nat.le_of_eq O6.1.symm) (Nat.le_trans O6.2.1 (Nat.le_of_eq g7.symm))
  have sz_b7 : h0.size ≤ b7 := Nat.le_trans K6.1 (Nat.le_of_eq g7.symm)
  have O7 := O6.ext E7
  have K7 : Keep h0 h7 [p0] := K6.ext E7
  have V7 : Arv Z h7 b7 k7 .long (2 : Int32) [(.long (0 : Int64)), (.long (0 : Int64))] (.long (0 : Int64)) := (Arv.new A7 (by decide)).pad (pad_rep [] (.long (0 : Int64)) 2)
  have c10 : Exa Z h7 p0 "com/example/hot_gate/hotgate/bench/Replies" := (c8.ext E7)
  have c11 : Fld Z h7 p0 "com/example/hot_gate/hotgate/bench/Replies" "sentAt" "[J" .null := (((F2_.ext E2).other W6 (Or.inr (slot_ne (Or.inr (hw _ (List.mem_of_getElem? (i := 20) rfl))) (Or.inr (hw _ (List.mem_of_getElem? (i := 17) rfl))) (by decide) (t := (.array .long)) (t' := (.object "java/util/concurrent/atomic/AtomicReference")) (by decide) (by decide)))).ext E7)
  obtain ⟨T12, h12, X12, e12, W12, st12⟩ := putF X7 hx hZ hown (host := "") (Or.inl (hw _ (List.mem_of_getElem? (i := 19) rfl))) Via.refl e7 c11 c10 (Or.inr ⟨(hw _ (List.mem_of_getElem? (i := 20) rfl)), rfl, hnm⟩) (hw _ (List.mem_of_getElem? (i := 1) rfl)) (ty := (.array .long)) (by decide) rfl rfl (g := (mkF m 19 #[.val (.ref p0), .val (.int (2 : Int32))] [(.ref b7), (.ref p0)])) rfl rfl (hb hby d1_19)
  have Fw12 := c11.same W12
  have O12 := O7.wr W12 F5_
  have K12 : Keep h0 h12 [p0] := K7.wr W12 (Or.inl (List.mem_of_getElem? (i := 0) rfl))
  have N12 := Fr.snoc X12 N6 F5_
  obtain ⟨T13, h13, k13, X13, e13, E13, A13, st13⟩ := newP X12 hx hZ (hw _ (List.mem_of_getElem? (i := 18) rfl)) e12 (g := (mkF m 24 #[.val (.ref p0), .val (.int (2 : Int32))] [(.int (2 : Int32)), (.ref p0)])) rfl (hb hby d1_24) rfl (by decide) (cap := 2) (by decide) (by decide) (by decide) (by decide)
  obtain ⟨b13, g13⟩ : ∃ z, z = h12.size := ⟨_, rfl⟩
  rw [← g13] at A13 st13
  have c14 : Exa Z h12 p0 "com/example/hot_gate/hotgate/bench/Replies" := (c10.wr W12)
  have ne_p0_b13 : p0 ≠ b13 := Nat.ne_of_lt (Nat.lt_of_lt_of_le c14.lt (Nat.le_of_eq g13.symm))
  have c15 : Exa Z h12 b2 "java/util/concurrent/atomic/AtomicReference" := ((c9.ext E7).wr W12)
  have ne_b2_b13 : b2 ≠ b13 := Nat.ne_of_lt (Nat.lt_of_lt_of_le c15.lt (Nat.le_of_eq g13.symm))
  have c16 : Arv Z h12 b7 k7 .long (2 : Int32) [(.long (0 : Int64)), (.long (0 : Int64))] (.long (0 : Int64)) := (V7.other W12 (Ne.symm ne_p0_b7))
  have ne_b7_b13 : b7 ≠ b13 := Nat.ne_of_lt (Nat.lt_of_lt_of_le c16.lt (Nat.le_of_eq g13.symm))
  have g_b13 : n0 ≤ b13 := Nat.le_trans (Nat.le_of_eq O12.1.symm) (Nat.le_trans O12.2.1 (Nat.le_of_eq g13.symm))
  have sz_b13 : h0.size ≤ b13 := Nat.le_trans K12.1 (Nat.le_of_eq g13.symm)
  have O13 := O12.ext E13
  have K13 : Keep h0 h13 [p0] := K12.ext E13
  have V13 : Arv Z h13 b13 k13 .long (2 : Int32) [(.long (0 : Int64)), (.long (0 : Int64))] (.long (0 : Int64)) := (Arv.new A13 (by decide)).pad (pad_rep [] (.long (0 : Int64)) 2)
  have c17 : Exa Z h13 p0 "com/example/hot_gate/hotgate/bench/Replies" := (c14.ext E13)
  have c18 : Fld Z h13 p0 "com/example/hot_gate/hotgate/bench/Replies" "answeredAt" "[J" .null := (((((F3_.ext E2).other W6 (Or.inr (slot_ne (Or.inr (hw _ (List.mem_of_getElem? (i := 22) rfl))) (Or.inr (hw _ (List.mem_of_getElem? (i := 17) rfl))) (by decide) (t := (.array .long)) (t' := (.object "java/util/concurrent/atomic/AtomicReference")) (by decide) (by decide)))).ext E7).other W12 (Or.inr (slot_ne (Or.inr (hw _ (List.mem_of_getElem? (i := 22) rfl))) (Or.inr (hw _ (List.mem_of_getElem? (i := 20) rfl))) (by decide) (t := (.array .long)) (t' := (.array .long)) (by decide) (by decide)))).ext E13)
  obtain ⟨T19, h19, X19, e19, W19, st19⟩ := putF X13 hx hZ hown (host := "") (Or.inl (hw _ (List.mem_of_getElem? (i := 21) rfl))) Via.refl e13 c18 c17 (Or.inr ⟨(hw _ (List.mem_of_getElem? (i := 22) rfl)), rfl, hnm⟩) (hw _ (List.mem_of_getElem? (i := 1) rfl)) (ty := (.array .long)) (by decide) rfl rfl (g := (mkF m 26 #[.val (.ref p0), .val (.int (2 : Int32))] [(.ref b13), (.ref p0)])) rfl rfl (hb hby d1_26)
  have Fw19 := c18.same W19
  have O19 := O13.wr W19 F5_
  have K19 : Keep h0 h19 [p0] := K13.wr W19 (Or.inl (List.mem_of_getElem? (i := 0) rfl))
  have N19 := Fr.snoc X19 N12 F5_
  obtain ⟨T20, h20, k20, X20, e20, E20, A20, Ov20, st20⟩ := newR X19 hx hZ hown (hw _ (List.mem_of_getElem? (i := 23) rfl)) (hw _ (List.mem_of_getElem? (i := 24) rfl)) e19 (g := (mkF m 31 #[.val (.ref p0), .val (.int (2 : Int32))] [(.int (2 : Int32)), (.ref p0)])) rfl (hb hby d1_31) rfl (by decide) (cap := 2) (by decide) (by decide) (by decide) (by decide)
  obtain ⟨b20, g20⟩ : ∃ z, z = h19.size := ⟨_, rfl⟩
  rw [← g20] at A20 st20
  have c21 : Exa Z h19 p0 "com/example/hot_gate/hotgate/bench/Replies" := (c17.wr W19)
  have ne_p0_b20 : p0 ≠ b20 := Nat.ne_of_lt (Nat.lt_of_lt_of_le c21.lt (Nat.le_of_eq g20.symm))
  have c22 : Exa Z h19 b2 "java/util/concurrent/atomic/AtomicReference" := ((c15.ext E13).wr W19)
  have ne_b2_b20 : b2 ≠ b20 := Nat.ne_of_lt (Nat.lt_of_lt_of_le c22.lt (Nat.le_of_eq g20.symm))
  have c23 : Arv Z h19 b7 k7 .long (2 : Int32) [(.long (0 : Int64)), (.long (0 : Int64))] (.long (0 : Int64)) := ((c16.ext E13).other W19 (Ne.symm ne_p0_b7))
  have ne_b7_b20 : b7 ≠ b20 := Nat.ne_of_lt (Nat.lt_of_lt_of_le c23.lt (Nat.le_of_eq g20.symm))
  have c24 : Arv Z h19 b13 k13 .long (2 : Int32) [(.long (0 : Int64)), (.long (0 : Int64))] (.long (0 : Int64)) := (V13.other W19 (Ne.symm ne_p0_b13))
  have ne_b13_b20 : b13 ≠ b20 := Nat.ne_of_lt (Nat.lt_of_lt_of_le c24.lt (Nat.le_of_eq g20.symm))
  have g_b20 : n0 ≤ b20 := Nat.le_trans (Nat.le_of_eq O19.1.symm) (Nat.le_trans O19.2.1 (Nat.le_of_eq g20.symm))
  have sz_b20 : h0.size ≤ b20 := Nat.le_trans K19.1 (Nat.le_of_eq g20.symm)
  have O20 := O19.ext E20
  have K20 : Keep h0 h20 [p0] := K19.ext E20
  have V20 : Arv Z h20 b20 k20 (.object "com/example/hot_gate/hotgate/bench/Outcome") (2 : Int32) [.null, .null] .null := (Arv.new A20 (by decide)).pad (pad_rep [] .null 2)
  have c25 : Exa Z h20 p0 "com/example/hot_gate/hotgate/bench/Replies" := (c21.ext E20)
  have c26 : Fld Z h20 p0 "com/example/hot_gate/hotgate/bench/Replies" "outcomes" "[Lcom/example/hot_gate/hotgate/bench/Outcome;" .null := (((((((F4_.ext E2).other W6 (Or.inr (slot_ne (Or.inr (hw _ (List.mem_of_getElem? (i := 26) rfl))) (Or.inr (hw _ (List.mem_of_getElem? (i := 17) rfl))) (by decide) (t := (.array (.object "com/example/hot_gate/hotgate/bench/Outcome"))) (t' := (.object "java/util/concurrent/atomic/AtomicReference")) (by decide) (by decide)))).ext E7).other W12 (Or.inr (slot_ne (Or.inr (hw _ (List.mem_of_getElem? (i := 26) rfl))) (Or.inr (hw _ (List.mem_of_getElem? (i := 20) rfl))) (by decide) (t := (.array (.object "com/example/hot_gate/hotgate/bench/Outcome"))) (t' := (.array .long)) (by decide) (by decide)))).ext E13).other W19 (Or.inr (slot_ne (Or.inr (hw _ (List.mem_of_getElem? (i := 26) rfl))) (Or.inr (hw _ (List.mem_of_getElem? (i := 22) rfl))) (by decide) (t := (.array (.object "com/example/hot_gate/hotgate/bench/Outcome"))) (t' := (.array .long)) (by decide) (by decide)))).ext E20)
  obtain ⟨T27, h27, X27, e27, W27, st27⟩ := putF X20 hx hZ hown (host := "") (Or.inl (hw _ (List.mem_of_getElem? (i := 25) rfl))) Via.refl e20 c26 c25 (Or.inr ⟨(hw _ (List.mem_of_getElem? (i := 26) rfl)), rfl, hnm⟩) (hw _ (List.mem_of_getElem? (i := 1) rfl)) (ty := (.array (.object "com/example/hot_gate/hotgate/bench/Outcome"))) (by decide) rfl rfl (g := (mkF m 34 #[.val (.ref p0), .val (.int (2 : Int32))] [(.ref b20), (.ref p0)])) rfl rfl (hb hby d1_34)
  have Fw27 := c26.same W27
  have O27 := O20.wr W27 F5_
  have K27 : Keep h0 h27 [p0] := K20.wr W27 (Or.inl (List.mem_of_getElem? (i := 0) rfl))
  have N27 := Fr.snoc X27 N19 F5_
  have s28 : Steps p.tables e below (s₁.setTop (entryFrame m #[(.ref p0), (.int (2 : Int32))] 2)) (T27.setTop (mkF m 37 #[.val (.ref p0), .val (.int (2 : Int32))] [])) := by
    refine s0.trans ?_
    show Steps p.tables e below (s₁.setTop (mkF m 0 #[.val (.ref p0), .val (.int (2 : Int32))] [])) _
    refine XS.aloadN X0.here hx rfl (hb hby d1_0) rfl rfl ?_
    show Steps p.tables e below (s₁.setTop (mkF m 1 #[.val (.ref p0), .val (.int (2 : Int32))] [(.ref p0)])) _
    refine st1 _ ?_
    show Steps p.tables e below (T1.setTop (mkF m 4 #[.val (.ref p0), .val (.int (2 : Int32))] [])) _
    refine XS.aloadN X1.here hx rfl (hb hby d1_4) rfl rfl ?_
    show Steps p.tables e below (T1.setTop (mkF m 5 #[.val (.ref p0), .val (.int (2 : Int32))] [(.ref p0)])) _
    refine st2 _ ?_
    show Steps p.tables e below (T2.setTop (mkF m 8 #[.val (.ref p0), .val (.int (2 : Int32))] [(.ref b2), (.ref p0)])) _
    refine XS.dup X2.here hx rfl (hb hby d1_8) rfl rfl ?_
    show Steps p.tables e below (T2.setTop (mkF m 9 #[.val (.ref p0), .val (.int (2 : Int32))] [(.ref b2), (.ref b2), (.ref p0)])) _
    refine st3.trans ?_
    show Steps p.tables e below (T3.setTop (mkF m 12 #[.val (.ref p0), .val (.int (2 : Int32))] [(.ref b2), (.ref p0)])) _
    refine st6 _ ?_
    show Steps p.tables e below (T6.setTop (mkF m 15 #[.val (.ref p0), .val (.int (2 : Int32))] [])) _
    refine XS.aloadN X6.here hx rfl (hb hby d1_15) rfl rfl ?_
    show Steps p.tables e below (T6.setTop (mkF m 16 #[.val (.ref p0), .val (.int (2 : Int32))] [(.ref p0)])) _
    refine XS.iloadN X6.here hx rfl (hb hby d1_16) rfl ?_
    show Steps p.tables e below (T6.setTop (mkF m 17 #[.val (.ref p0), .val (.int (2 : Int32))] [(.int (2 : Int32)), (.ref p0)])) _
    refine st7 _ ?_
    show Steps p.tables e below (T7.setTop (mkF m 19 #[.val (.ref p0), .val (.int (2 : Int32))] [(.ref b7), (.ref p0)])) _
    refine st12 _ ?_
    show Steps p.tables e below (T12.setTop (mkF m 22 #[.val (.ref p0), .val (.int (2 : Int32))] [])) _
    refine XS.aloadN X12.here hx rfl (hb hby d1_22) rfl rfl ?_
    show Steps p.tables e below (T12.setTop (mkF m 23 #[.val (.ref p0), .val (.int (2 : Int32))] [(.ref p0)])) _
    refine XS.iloadN X12.here hx rfl (hb hby d1_23) rfl ?_
    show Steps p.tables e below (T12.setTop (mkF m 24 #[.val (.ref p0), .val (.int (2 : Int32))] [(.int (2 : Int32)), (.ref p0)])) _
    refine st13 _ ?_
    show Steps p.tables e below (T13.setTop (mkF m 26 #[.val (.ref p0), .val (.int (2 : Int32))] [(.ref b13), (.ref p0)])) _
    refine st19 _ ?_
    show Steps p.tables e below (T19.setTop (mkF m 29 #[.val (.ref p0), .val (.int (2 : Int32))] [])) _
    refine XS.aloadN X19.here hx rfl (hb hby d1_29) rfl rfl ?_
    show Steps p.tables e below (T19.setTop (mkF m 30 #[.val (.ref p0), .val (.int (2 : Int32))] [(.ref p0)])) _
    refine XS.iloadN X19.here hx rfl (hb hby d1_30) rfl ?_
    show Steps p.tables e below (T19.setTop (mkF m 31 #[.val (.ref p0), .val (.int (2 : Int32))] [(.int (2 : Int32)), (.ref p0)])) _
    refine st20 _ ?_
    show Steps p.tables e below (T20.setTop (mkF m 34 #[.val (.ref p0), .val (.int (2 : Int32))] [(.ref b20), (.ref p0)])) _
    refine st27 _ ?_
    exact Steps.refl _
  have c29 : Exa Z h27 p0 "com/example/hot_gate/hotgate/bench/Replies" := (c25.wr W27)
  have c30 : Fld Z h27 p0 "com/example/hot_gate/hotgate/bench/Replies" "sentAt" "[J" (.ref b7) := ((((Fw12.ext E13).other W19 (Or.inr (slot_ne (Or.inr (hw _ (List.mem_of_getElem? (i := 20) rfl))) (Or.inr (hw _ (List.mem_of_getElem? (i := 22) rfl))) (by decide) (t := (.array .long)) (t' := (.array .long)) (by decide) (by decide)))).ext E20).other W27 (Or.inr (slot_ne (Or.inr (hw _ (List.mem_of_getElem? (i := 20) rfl))) (Or.inr (hw _ (List.mem_of_getElem? (i := 26) rfl))) (by decide) (t := (.array .long)) (t' := (.array (.object "com/example/hot_gate/hotgate/bench/Outcome"))) (by decide) (by decide))))
  have c31 : Fld Z h27 p0 "com/example/hot_gate/hotgate/bench/Replies" "answeredAt" "[J" (.ref b13) := ((Fw19.ext E20).other W27 (Or.inr (slot_ne (Or.inr (hw _ (List.mem_of_getElem? (i := 22) rfl))) (Or.inr (hw _ (List.mem_of_getElem? (i := 26) rfl))) (by decide) (t := (.array .long)) (t' := (.array (.object "com/example/hot_gate/hotgate/bench/Outcome"))) (by decide) (by decide))))
  have c32 : Arv Z h27 b7 k7 .long (2 : Int32) [(.long (0 : Int64)), (.long (0 : Int64))] (.long (0 : Int64)) := ((c23.ext E20).other W27 (Ne.symm ne_p0_b7))
  have c33 : Arv Z h27 b13 k13 .long (2 : Int32) [(.long (0 : Int64)), (.long (0 : Int64))] (.long (0 : Int64)) := ((c24.ext E20).other W27 (Ne.symm ne_p0_b13))
  have c34 : Arv Z h27 b20 k20 (.object "com/example/hot_gate/hotgate/bench/Outcome") (2 : Int32) [.null, .null] .null := (V20.other W27 (Ne.symm ne_p0_b20))
  obtain ⟨fs, hr, hrun, hended, hW, hsame⟩ := X27.leave (v := none) (fun _ => rfl)
  refine ⟨_, _, s28.trans ?_, hrun, hended, _, _, rfl, ?_, ⟨_, rfl⟩, hW, hsame.mono (by decide) (by decide)⟩
  · show Steps p.tables e below (T27.setTop (mkF m 37 #[.val (.ref p0), .val (.int (2 : Int32))] [])) _
    exact X27.returnOut hx Bd.returns (hb hby d1_37) hr
  · show Qi2 Z p0 h0 n0 _ T27.heap _
    rw [e27]
    exact ⟨b7, b13, b20, k7, k13, k20, rfl, N27, K27, c29, c30, c31, Fw27, c32, c33, c34, sz_b7, sz_b13, sz_b20, ne_b7_b13, ne_b7_b20, ne_b13_b20⟩
theorem ef_rmr2_0 (m : MethodId) (p0 : Addr) (p2 : Int64) (p3 : Int64) : entryFrame m #[(.ref p0), (.int (0 : Int32)), (.long p2), (.long p3), .null, .null] 8 = mkF m 0 #[.val (.ref p0), .val (.int (0 : Int32)), .val (.long p2), .second, .val (.long p3), .second, .val .null, .val .null] [] := by first | (simp [entryFrame, mkF, argsToLocals, Value.category]; done) | rfl
def Qr2_0 (Z : State) (p0 : Addr) (p2 : Int64) (p3 : Int64) (b1 : Addr) (b2 : Addr) (b3 : Addr) (k1 : ClassId) (k2 : ClassId) (k3 : ClassId) (x0 : Int64) (x1 : Int64) (y0 : Int64) (y1 : Int64) (h0 : Heap) (n0 : Nat) (v : Option Value) (h : Heap) (L : List Loc) : Prop := v = none ∧ Fr n0 L ∧ Keep h0 h [b1, b2, b3] ∧ (Arv Z h b1 k1 .long (2 : Int32) [(.long p2), (.long x1)] (.long (0 : Int64))) ∧ (Arv Z h b2 k2 .long (2 : Int32) [(.long p3), (.long y1)] (.long (0 : Int64))) ∧ (Arv Z h b3 k3 (.object "com/example/hot_gate/hotgate/bench/Outcome") (2 : Int32) [.null, .null] .null)
set_option maxRecDepth 65536 in
set_option maxHeartbeats 40000000 in
theorem rmr2_0 (l : Launch) (Z : State) (a0 : Array Value) (hw : ∀ d ∈ tables_1, d.before a0 Z = true) (ws : List Jvm.Cond) (p0 : Addr) (p2 : Int64) (p3 : Int64) (b1 : Addr) (b2 : Addr) (b3 : Addr) (k1 : ClassId) (k2 : ClassId) (k3 : ClassId) (x0 : Int64) (x1 : Int64) (y0 : Int64) (y1 : Int64) (h0 : Heap) (n0 : Nat) (O0 : Old Z n0 h0) (F0_ : Fld Z h0 p0 "com/example/hot_gate/hotgate/bench/Replies" "sentAt" "[J" (.ref b1)) (F1_ : Fld Z h0 p0 "com/example/hot_gate/hotgate/bench/Replies" "answeredAt" "[J" (.ref b2)) (F2_ : Fld Z h0 p0 "com/example/hot_gate/hotgate/bench/Replies" "outcomes" "[Lcom/example/hot_gate/hotgate/bench/Outcome;" (.ref b3)) (F3_ : Arv Z h0 b1 k1 .long (2 : Int32) [(.long x0), (.long x1)] (.long (0 : Int64))) (F4_ : Arv Z h0 b2 k2 .long (2 : Int32) [(.long y0), (.long y1)] (.long (0 : Int64))) (F5_ : Arv Z h0 b3 k3 (.object "com/example/hot_gate/hotgate/bench/Outcome") (2 : Int32) [.null, .null] .null) (F6_ : n0 ≤ b1) (F7_ : n0 ≤ b2) (F8_ : n0 ≤ b3) (F9_ : b1 ≠ b2) (F10_ : b1 ≠ b3) (F11_ : b2 ≠ b3) (F12_ : p0 ≠ b1) (F13_ : p0 ≠ b2) (F14_ : p0 ≠ b3) :
    MetFree l (⟨"com/example/hot_gate/hotgate/bench/Replies", "record", "(IJJLcom/example/hot_gate/hotgate/bench/Outcome;Ljava/lang/String;)V"⟩ : MethodName) (head1 (Jvm.Cond.code (⟨"com/example/hot_gate/hotgate/bench/Replies", "record", "(IJJLcom/example/hot_gate/hotgate/bench/Outcome;Ljava/lang/String;)V"⟩ : MethodName) prog_12_method_3_code 8 none :: ws) ({ frames := 0, cells := 0, slots := 0, locals := 0 } : Room)) (fun a U => a = #[(.ref p0), (.int (0 : Int32)), (.long p2), (.long p3), .null, .null] ∧ Z.Warmed39 U.vm ∧ U.heap = h0) (fun _ _ _ _ _ => True) (fun _ U o U' => ∃ v L, o = .returned v ∧ Qr2_0 Z p0 p2 p3 b1 b2 b3 k1 k2 k3 x0 x1 y0 y1 h0 n0 v U'.heap L ∧ FrameEnd U o U' L ({ frames := 0, cells := 0, slots := 0, locals := 0 } : Room).cells ({ frames := 0, cells := 0, slots := 0, locals := 0 } : Room).slots) := by
  refine MetFree.of_bodySF (plainFor_of_name pn_1) hisR ?_
  intro p e s m args below meth c s₁ Bd hml0 hP hK
  obtain ⟨rfl, hZ, hh⟩ := hP
  have hx := Bd.exec
  have hby := Bd.bytes
  have hml : c.maxLocals = 8 := hml0
  have hown : s.vm.findClass "com/example/hot_gate/hotgate/bench/Replies" = some m.cls := findClass_of_methodNamed Bd.named
  have hnm := (name_of_methodNamed Bd.named Bd.method).1
  have X0 : Stand p l e ({ frames := 0, cells := 0, slots := 0, locals := 0 } : Room) s m #[(.ref p0), (.int (0 : Int32)), (.long p2), (.long p3), .null, .null] below meth c s₁ [] 0 0 := Stand.of_body Bd
  have e0 : s₁.heap = h0 := by rw [← hh, Bd.state]; rfl
  have N0 := Fr.nil n0
  have s0 : Steps p.tables e below (s₁.setTop (entryFrame m #[(.ref p0), (.int (0 : Int32)), (.long p2), (.long p3), .null, .null] 8)) (s₁.setTop (mkF m 0 #[.val (.ref p0), .val (.int (0 : Int32)), .val (.long p2), .second, .val (.long p3), .second, .val .null, .val .null] [])) := castTop (ef_rmr2_0 m p0 p2 p3) (Steps.refl _)
  obtain ⟨T1, X1, e1, st1⟩ := getF X0 hx hZ hown (host := "") (Or.inl (hw _ (List.mem_of_getElem? (i := 19) rfl))) Via.refl e0 F0_ (g := (mkF m 1 #[.val (.ref p0), .val (.int (0 : Int32)), .val (.long p2), .second, .val (.long p3), .second, .val .null, .val .null] [(.ref p0)])) rfl rfl (hb hby d5_1)
  obtain ⟨cla2, Ara2, qa2, Sa2, Za2, Ha2, Ga2⟩ := id F3_
  have hin3 : ¬ ((0 : Int32) < 0 ∨ cla2.slots.size ≤ ((0 : Int32)).toNatClampNeg) := inb_of Sa2 ⟨by decide, by decide⟩
  obtain ⟨T4, h4, X4, e4, W4, st4⟩ := stJ X1 hx hZ e1 Ara2 (j := (0 : Int32)) hin3 (g := (mkF m 6 #[.val (.ref p0), .val (.int (0 : Int32)), .val (.long p2), .second, .val (.long p3), .second, .val .null, .val .null] [(.long p2), (.int (0 : Int32)), (.ref b1)])) rfl rfl (hb hby d5_6)
  have O4 := O0.wr W4 F6_
  have K4 : Keep h0 h4 [b1, b2, b3] := (Keep.refl h0 [b1, b2, b3]).wr W4 (Or.inl (List.mem_of_getElem? (i := 0) rfl))
  have N4 := Fr.snoc X4 N0 F6_
  have V4 : Arv Z h4 b1 k1 .long (2 : Int32) [(.long p2), (.long x1)] (.long (0 : Int64)) := Arv.set Ara2 qa2 Sa2 Za2 Ha2 Ga2 rfl W4 0 rfl (Nat.le_of_ble_eq_true rfl)
  have c5 : Fld Z h4 p0 "com/example/hot_gate/hotgate/bench/Replies" "answeredAt" "[J" (.ref b2) := (F1_.other W4 (Or.inl F12_))
  obtain ⟨T6, X6, e6, st6⟩ := getF X4 hx hZ hown (host := "") (Or.inl (hw _ (List.mem_of_getElem? (i := 21) rfl))) Via.refl e4 c5 (g := (mkF m 8 #[.val (.ref p0), .val (.int (0 : Int32)), .val (.long p2), .second, .val (.long p3), .second, .val .null, .val .null] [(.ref p0)])) rfl rfl (hb hby d5_8)
  have c7 : Arv Z h4 b2 k2 .long (2 : Int32) [(.long y0), (.long y1)] (.long (0 : Int64)) := (F4_.other W4 (Ne.symm F9_))
  obtain ⟨cla8, Ara8, qa8, Sa8, Za8, Ha8, Ga8⟩ := id c7
  have hin9 : ¬ ((0 : Int32) < 0 ∨ cla8.slots.size ≤ ((0 : Int32)).toNatClampNeg) := inb_of Sa8 ⟨by decide, by decide⟩
  obtain ⟨T10, h10, X10, e10, W10, st10⟩ := stJ X6 hx hZ e6 Ara8 (j := (0 : Int32)) hin9 (g := (mkF m 14 #[.val (.ref p0), .val (.int (0 : Int32)), .val (.long p2), .second, .val (.long p3), .second, .val .null, .val .null] [(.long p3), (.int (0 : Int32)), (.ref b2)])) rfl rfl (hb hby d5_14)
  have O10 := O4.wr W10 F7_
  have K10 : Keep h0 h10 [b1, b2, b3] := K4.wr W10 (Or.inl (List.mem_of_getElem? (i := 1) rfl))
  have N10 := Fr.snoc X10 N4 F7_
  have V10 : Arv Z h10 b2 k2 .long (2 : Int32) [(.long p3), (.long y1)] (.long (0 : Int64)) := Arv.set Ara8 qa8 Sa8 Za8 Ha8 Ga8 rfl W10 0 rfl (Nat.le_of_ble_eq_true rfl)
  have c11 : Fld Z h10 p0 "com/example/hot_gate/hotgate/bench/Replies" "outcomes" "[Lcom/example/hot_gate/hotgate/bench/Outcome;" (.ref b3) := ((F2_.other W4 (Or.inl F12_)).other W10 (Or.inl F13_))
  obtain ⟨T12, X12, e12, st12⟩ := getF X10 hx hZ hown (host := "") (Or.inl (hw _ (List.mem_of_getElem? (i := 25) rfl))) Via.refl e10 c11 (g := (mkF m 16 #[.val (.ref p0), .val (.int (0 : Int32)), .val (.long p2), .second, .val (.long p3), .second, .val .null, .val .null] [(.ref p0)])) rfl rfl (hb hby d5_16)
  have c13 : Arv Z h10 b3 k3 (.object "com/example/hot_gate/hotgate/bench/Outcome") (2 : Int32) [.null, .null] .null := ((F5_.other W4 (Ne.symm F10_)).other W10 (Ne.symm F11_))
  obtain ⟨cla14, Ara14, qa14, Sa14, Za14, Ha14, Ga14⟩ := id c13
  have hin15 : ¬ ((0 : Int32) < 0 ∨ cla14.slots.size ≤ ((0 : Int32)).toNatClampNeg) := inb_of Sa14 ⟨by decide, by decide⟩
  obtain ⟨T16, h16, X16, e16, W16, st16⟩ := stR X12 hx hZ e12 Ara14 (j := (0 : Int32)) hin15 rfl (Or.inl rfl) (g := (mkF m 22 #[.val (.ref p0), .val (.int (0 : Int32)), .val (.long p2), .second, .val (.long p3), .second, .val .null, .val .null] [.null, (.int (0 : Int32)), (.ref b3)])) rfl rfl (hb hby d5_22)
  have O16 := O10.wr W16 F8_
  have K16 : Keep h0 h16 [b1, b2, b3] := K10.wr W16 (Or.inl (List.mem_of_getElem? (i := 2) rfl))
  have N16 := Fr.snoc X16 N10 F8_
  have V16 : Arv Z h16 b3 k3 (.object "com/example/hot_gate/hotgate/bench/Outcome") (2 : Int32) [.null, .null] .null := Arv.set Ara14 qa14 Sa14 Za14 Ha14 Ga14 rfl W16 0 rfl (Nat.le_of_ble_eq_true rfl)
  have s17 : Steps p.tables e below (s₁.setTop (entryFrame m #[(.ref p0), (.int (0 : Int32)), (.long p2), (.long p3), .null, .null] 8)) (T16.setTop (mkF m 39 #[.val (.ref p0), .val (.int (0 : Int32)), .val (.long p2), .second, .val (.long p3), .second, .val .null, .val .null] [])) := by
    refine s0.trans ?_
    show Steps p.tables e below (s₁.setTop (mkF m 0 #[.val (.ref p0), .val (.int (0 : Int32)), .val (.long p2), .second, .val (.long p3), .second, .val .null, .val .null] [])) _
    refine XS.aloadN X0.here hx rfl (hb hby d5_0) rfl rfl ?_
    show Steps p.tables e below (s₁.setTop (mkF m 1 #[.val (.ref p0), .val (.int (0 : Int32)), .val (.long p2), .second, .val (.long p3), .second, .val .null, .val .null] [(.ref p0)])) _
    refine st1 _ ?_
    show Steps p.tables e below (T1.setTop (mkF m 4 #[.val (.ref p0), .val (.int (0 : Int32)), .val (.long p2), .second, .val (.long p3), .second, .val .null, .val .null] [(.ref b1)])) _
    refine XS.iloadN X1.here hx rfl (hb hby d5_4) rfl ?_
    show Steps p.tables e below (T1.setTop (mkF m 5 #[.val (.ref p0), .val (.int (0 : Int32)), .val (.long p2), .second, .val (.long p3), .second, .val .null, .val .null] [(.int (0 : Int32)), (.ref b1)])) _
    refine XS.lloadN X1.here hx rfl (hb hby d5_5) rfl ?_
    show Steps p.tables e below (T1.setTop (mkF m 6 #[.val (.ref p0), .val (.int (0 : Int32)), .val (.long p2), .second, .val (.long p3), .second, .val .null, .val .null] [(.long p2), (.int (0 : Int32)), (.ref b1)])) _
    refine st4 _ ?_
    show Steps p.tables e below (T4.setTop (mkF m 7 #[.val (.ref p0), .val (.int (0 : Int32)), .val (.long p2), .second, .val (.long p3), .second, .val .null, .val .null] [])) _
    refine XS.aloadN X4.here hx rfl (hb hby d5_7) rfl rfl ?_
    show Steps p.tables e below (T4.setTop (mkF m 8 #[.val (.ref p0), .val (.int (0 : Int32)), .val (.long p2), .second, .val (.long p3), .second, .val .null, .val .null] [(.ref p0)])) _
    refine st6 _ ?_
    show Steps p.tables e below (T6.setTop (mkF m 11 #[.val (.ref p0), .val (.int (0 : Int32)), .val (.long p2), .second, .val (.long p3), .second, .val .null, .val .null] [(.ref b2)])) _
    refine XS.iloadN X6.here hx rfl (hb hby d5_11) rfl ?_
    show Steps p.tables e below (T6.setTop (mkF m 12 #[.val (.ref p0), .val (.int (0 : Int32)), .val (.long p2), .second, .val (.long p3), .second, .val .null, .val .null] [(.int (0 : Int32)), (.ref b2)])) _
    refine XS.lload X6.here hx rfl (hb hby d5_12) rfl ?_
    show Steps p.tables e below (T6.setTop (mkF m 14 #[.val (.ref p0), .val (.int (0 : Int32)), .val (.long p2), .second, .val (.long p3), .second, .val .null, .val .null] [(.long p3), (.int (0 : Int32)), (.ref b2)])) _
    refine st10 _ ?_
    show Steps p.tables e below (T10.setTop (mkF m 15 #[.val (.ref p0), .val (.int (0 : Int32)), .val (.long p2), .second, .val (.long p3), .second, .val .null, .val .null] [])) _
    refine XS.aloadN X10.here hx rfl (hb hby d5_15) rfl rfl ?_
    show Steps p.tables e below (T10.setTop (mkF m 16 #[.val (.ref p0), .val (.int (0 : Int32)), .val (.long p2), .second, .val (.long p3), .second, .val .null, .val .null] [(.ref p0)])) _
    refine st12 _ ?_
    show Steps p.tables e below (T12.setTop (mkF m 19 #[.val (.ref p0), .val (.int (0 : Int32)), .val (.long p2), .second, .val (.long p3), .second, .val .null, .val .null] [(.ref b3)])) _
    refine XS.iloadN X12.here hx rfl (hb hby d5_19) rfl ?_
    show Steps p.tables e below (T12.setTop (mkF m 20 #[.val (.ref p0), .val (.int (0 : Int32)), .val (.long p2), .second, .val (.long p3), .second, .val .null, .val .null] [(.int (0 : Int32)), (.ref b3)])) _
    refine XS.aload X12.here hx rfl (hb hby d5_20) rfl rfl ?_
    show Steps p.tables e below (T12.setTop (mkF m 22 #[.val (.ref p0), .val (.int (0 : Int32)), .val (.long p2), .second, .val (.long p3), .second, .val .null, .val .null] [.null, (.int (0 : Int32)), (.ref b3)])) _
    refine st16 _ ?_
    show Steps p.tables e below (T16.setTop (mkF m 23 #[.val (.ref p0), .val (.int (0 : Int32)), .val (.long p2), .second, .val (.long p3), .second, .val .null, .val .null] [])) _
    refine XS.aload X16.here hx rfl (hb hby d5_23) rfl rfl ?_
    show Steps p.tables e below (T16.setTop (mkF m 25 #[.val (.ref p0), .val (.int (0 : Int32)), .val (.long p2), .second, .val (.long p3), .second, .val .null, .val .null] [.null])) _
    refine XS.ifnullYes X16.here hx rfl (pc0 := 25) (pc' := 39) rfl (hb hby d5_25) rfl (by decide) (by decide) ?_
    exact Steps.refl _
  have c18 : Arv Z h16 b1 k1 .long (2 : Int32) [(.long p2), (.long x1)] (.long (0 : Int64)) := ((V4.other W10 F9_).other W16 F10_)
  have c19 : Arv Z h16 b2 k2 .long (2 : Int32) [(.long p3), (.long y1)] (.long (0 : Int64)) := (V10.other W16 F11_)
  obtain ⟨fs, hr, hrun, hended, hW, hsame⟩ := X16.leave (v := none) (fun _ => rfl)
  refine ⟨_, _, s17.trans ?_, hrun, hended, _, _, rfl, ?_, ⟨_, rfl⟩, hW, hsame.mono (by decide) (by decide)⟩
  · show Steps p.tables e below (T16.setTop (mkF m 39 #[.val (.ref p0), .val (.int (0 : Int32)), .val (.long p2), .second, .val (.long p3), .second, .val .null, .val .null] [])) _
    exact X16.returnOut hx Bd.returns (hb hby d5_39) hr
  · show Qr2_0 Z p0 p2 p3 b1 b2 b3 k1 k2 k3 x0 x1 y0 y1 h0 n0 _ T16.heap _
    rw [e16]
    exact ⟨rfl, N16, K16, c18, c19, V16⟩
theorem ef_rmr2_1 (m : MethodId) (p0 : Addr) (p2 : Int64) (p3 : Int64) : entryFrame m #[(.ref p0), (.int (1 : Int32)), (.long p2), (.long p3), .null, .null] 8 = mkF m 0 #[.val (.ref p0), .val (.int (1 : Int32)), .val (.long p2), .second, .val (.long p3), .second, .val .null, .val .null] [] := by first | (simp [entryFrame, mkF, argsToLocals, Value.category]; done) | rfl
def Qr2_1 (Z : State) (p0 : Addr) (p2 : Int64) (p3 : Int64) (b1 : Addr) (b2 : Addr) (b3 : Addr) (k1 : ClassId) (k2 : ClassId) (k3 : ClassId) (x0 : Int64) (x1 : Int64) (y0 : Int64) (y1 : Int64) (h0 : Heap) (n0 : Nat) (v : Option Value) (h : Heap) (L : List Loc) : Prop := v = none ∧ Fr n0 L ∧ Keep h0 h [b1, b2, b3] ∧ (Arv Z h b1 k1 .long (2 : Int32) [(.long x0), (.long p2)] (.long (0 : Int64))) ∧ (Arv Z h b2 k2 .long (2 : Int32) [(.long y0), (.long p3)] (.long (0 : Int64))) ∧ (Arv Z h b3 k3 (.object "com/example/hot_gate/hotgate/bench/Outcome") (2 : Int32) [.null, .null] .null)
set_option maxRecDepth 65536 in
set_option maxHeartbeats 40000000 in
theorem rmr2_1 (l : Launch) (Z : State) (a0 : Array Value) (hw : ∀ d ∈ tables_1, d.before a0 Z = true) (ws : List Jvm.Cond) (p0 : Addr) (p2 : Int64) (p3 : Int64) (b1 : Addr) (b2 : Addr) (b3 : Addr) (k1 : ClassId) (k2 : ClassId) (k3 : ClassId) (x0 : Int64) (x1 : Int64) (y0 : Int64) (y1 : Int64) (h0 : Heap) (n0 : Nat) (O0 : Old Z n0 h0) (F0_ : Fld Z h0 p0 "com/example/hot_gate/hotgate/bench/Replies" "sentAt" "[J" (.ref b1)) (F1_ : Fld Z h0 p0 "com/example/hot_gate/hotgate/bench/Replies" "answeredAt" "[J" (.ref b2)) (F2_ : Fld Z h0 p0 "com/example/hot_gate/hotgate/bench/Replies" "outcomes" "[Lcom/example/hot_gate/hotgate/bench/Outcome;" (.ref b3)) (F3_ : Arv Z h0 b1 k1 .long (2 : Int32) [(.long x0), (.long x1)] (.long (0 : Int64))) (F4_ : Arv Z h0 b2 k2 .long (2 : Int32) [(.long y0), (.long y1)] (.long (0 : Int64))) (F5_ : Arv Z h0 b3 k3 (.object "com/example/hot_gate/hotgate/bench/Outcome") (2 : Int32) [.null, .null] .null) (F6_ : n0 ≤ b1) (F7_ : n0 ≤ b2) (F8_ : n0 ≤ b3) (F9_ : b1 ≠ b2) (F10_ : b1 ≠ b3) (F11_ : b2 ≠ b3) (F12_ : p0 ≠ b1) (F13_ : p0 ≠ b2) (F14_ : p0 ≠ b3) :
    MetFree l (⟨"com/example/hot_gate/hotgate/bench/Replies", "record", "(IJJLcom/example/hot_gate/hotgate/bench/Outcome;Ljava/lang/String;)V"⟩ : MethodName) (head1 (Jvm.Cond.code (⟨"com/example/hot_gate/hotgate/bench/Replies", "record", "(IJJLcom/example/hot_gate/hotgate/bench/Outcome;Ljava/lang/String;)V"⟩ : MethodName) prog_12_method_3_code 8 none :: ws) ({ frames := 0, cells := 0, slots := 0, locals := 0 } : Room)) (fun a U => a = #[(.ref p0), (.int (1 : Int32)), (.long p2), (.long p3), .null, .null] ∧ Z.Warmed39 U.vm ∧ U.heap = h0) (fun _ _ _ _ _ => True) (fun _ U o U' => ∃ v L, o = .returned v ∧ Qr2_1 Z p0 p2 p3 b1 b2 b3 k1 k2 k3 x0 x1 y0 y1 h0 n0 v U'.heap L ∧ FrameEnd U o U' L ({ frames := 0, cells := 0, slots := 0, locals := 0 } : Room).cells ({ frames := 0, cells := 0, slots := 0, locals := 0 } : Room).slots) := by
  refine MetFree.of_bodySF (plainFor_of_name pn_1) hisR ?_
  intro p e s m args below meth c s₁ Bd hml0 hP hK
  obtain ⟨rfl, hZ, hh⟩ := hP
  have hx := Bd.exec
  have hby := Bd.bytes
  have hml : c.maxLocals = 8 := hml0
  have hown : s.vm.findClass "com/example/hot_gate/hotgate/bench/Replies" = some m.cls := findClass_of_methodNamed Bd.named
  have hnm := (name_of_methodNamed Bd.named Bd.method).1
  have X0 : Stand p l e ({ frames := 0, cells := 0, slots := 0, locals := 0 } : Room) s m #[(.ref p0), (.int (1 : Int32)), (.long p2), (.long p3), .null, .null] below meth c s₁ [] 0 0 := Stand.of_body Bd
  have e0 : s₁.heap = h0 := by rw [← hh, Bd.state]; rfl
  have N0 := Fr.nil n0
  have s0 : Steps p.tables e below (s₁.setTop (entryFrame m #[(.ref p0), (.int (1 : Int32)), (.long p2), (.long p3), .null, .null] 8)) (s₁.setTop (mkF m 0 #[.val (.ref p0), .val (.int (1 : Int32)), .val (.long p2), .second, .val (.long p3), .second, .val .null, .val .null] [])) := castTop (ef_rmr2_1 m p0 p2 p3) (Steps.refl _)
  obtain ⟨T1, X1, e1, st1⟩ := getF X0 hx hZ hown (host := "") (Or.inl (hw _ (List.mem_of_getElem? (i := 19) rfl))) Via.refl e0 F0_ (g := (mkF m 1 #[.val (.ref p0), .val (.int (1 : Int32)), .val (.long p2), .second, .val (.long p3), .second, .val .null, .val .null] [(.ref p0)])) rfl rfl (hb hby d5_1)
  obtain ⟨cla2, Ara2, qa2, Sa2, Za2, Ha2, Ga2⟩ := id F3_
  have hin3 : ¬ ((1 : Int32) < 0 ∨ cla2.slots.size ≤ ((1 : Int32)).toNatClampNeg) := inb_of Sa2 ⟨by decide, by decide⟩
  obtain ⟨T4, h4, X4, e4, W4, st4⟩ := stJ X1 hx hZ e1 Ara2 (j := (1 : Int32)) hin3 (g := (mkF m 6 #[.val (.ref p0), .val (.int (1 : Int32)), .val (.long p2), .second, .val (.long p3), .second, .val .null, .val .null] [(.long p2), (.int (1 : Int32)), (.ref b1)])) rfl rfl (hb hby d5_6)
  have O4 := O0.wr W4 F6_
  have K4 : Keep h0 h4 [b1, b2, b3] := (Keep.refl h0 [b1, b2, b3]).wr W4 (Or.inl (List.mem_of_getElem? (i := 0) rfl))
  have N4 := Fr.snoc X4 N0 F6_
  have V4 : Arv Z h4 b1 k1 .long (2 : Int32) [(.long x0), (.long p2)] (.long (0 : Int64)) := Arv.set Ara2 qa2 Sa2 Za2 Ha2 Ga2 rfl W4 1 rfl (Nat.le_of_ble_eq_true rfl)
  have c5 : Fld Z h4 p0 "com/example/hot_gate/hotgate/bench/Replies" "answeredAt" "[J" (.ref b2) := (F1_.other W4 (Or.inl F12_))
  obtain ⟨T6, X6, e6, st6⟩ := getF X4 hx hZ hown (host := "") (Or.inl (hw _ (List.mem_of_getElem? (i := 21) rfl))) Via.refl e4 c5 (g := (mkF m 8 #[.val (.ref p0), .val (.int (1 : Int32)), .val (.long p2), .second, .val (.long p3), .second, .val .null, .val .null] [(.ref p0)])) rfl rfl (hb hby d5_8)
  have c7 : Arv Z h4 b2 k2 .long (2 : Int32) [(.long y0), (.long y1)] (.long (0 : Int64)) := (F4_.other W4 (Ne.symm F9_))
  obtain ⟨cla8, Ara8, qa8, Sa8, Za8, Ha8, Ga8⟩ := id c7
  have hin9 : ¬ ((1 : Int32) < 0 ∨ cla8.slots.size ≤ ((1 : Int32)).toNatClampNeg) := inb_of Sa8 ⟨by decide, by decide⟩
  obtain ⟨T10, h10, X10, e10, W10, st10⟩ := stJ X6 hx hZ e6 Ara8 (j := (1 : Int32)) hin9 (g := (mkF m 14 #[.val (.ref p0), .val (.int (1 : Int32)), .val (.long p2), .second, .val (.long p3), .second, .val .null, .val .null] [(.long p3), (.int (1 : Int32)), (.ref b2)])) rfl rfl (hb hby d5_14)
  have O10 := O4.wr W10 F7_
  have K10 : Keep h0 h10 [b1, b2, b3] := K4.wr W10 (Or.inl (List.mem_of_getElem? (i := 1) rfl))
  have N10 := Fr.snoc X10 N4 F7_
  have V10 : Arv Z h10 b2 k2 .long (2 : Int32) [(.long y0), (.long p3)] (.long (0 : Int64)) := Arv.set Ara8 qa8 Sa8 Za8 Ha8 Ga8 rfl W10 1 rfl (Nat.le_of_ble_eq_true rfl)
  have c11 : Fld Z h10 p0 "com/example/hot_gate/hotgate/bench/Replies" "outcomes" "[Lcom/example/hot_gate/hotgate/bench/Outcome;" (.ref b3) := ((F2_.other W4 (Or.inl F12_)).other W10 (Or.inl F13_))
  obtain ⟨T12, X12, e12, st12⟩ := getF X10 hx hZ hown (host := "") (Or.inl (hw _ (List.mem_of_getElem? (i := 25) rfl))) Via.refl e10 c11 (g := (mkF m 16 #[.val (.ref p0), .val (.int (1 : Int32)), .val (.long p2), .second, .val (.long p3), .second, .val .null, .val .null] [(.ref p0)])) rfl rfl (hb hby d5_16)
  have c13 : Arv Z h10 b3 k3 (.object "com/example/hot_gate/hotgate/bench/Outcome") (2 : Int32) [.null, .null] .null := ((F5_.other W4 (Ne.symm F10_)).other W10 (Ne.symm F11_))
  obtain ⟨cla14, Ara14, qa14, Sa14, Za14, Ha14, Ga14⟩ := id c13
  have hin15 : ¬ ((1 : Int32) < 0 ∨ cla14.slots.size ≤ ((1 : Int32)).toNatClampNeg) := inb_of Sa14 ⟨by decide, by decide⟩
  obtain ⟨T16, h16, X16, e16, W16, st16⟩ := stR X12 hx hZ e12 Ara14 (j := (1 : Int32)) hin15 rfl (Or.inl rfl) (g := (mkF m 22 #[.val (.ref p0), .val (.int (1 : Int32)), .val (.long p2), .second, .val (.long p3), .second, .val .null, .val .null] [.null, (.int (1 : Int32)), (.ref b3)])) rfl rfl (hb hby d5_22)
  have O16 := O10.wr W16 F8_
  have K16 : Keep h0 h16 [b1, b2, b3] := K10.wr W16 (Or.inl (List.mem_of_getElem? (i := 2) rfl))
  have N16 := Fr.snoc X16 N10 F8_
  have V16 : Arv Z h16 b3 k3 (.object "com/example/hot_gate/hotgate/bench/Outcome") (2 : Int32) [.null, .null] .null := Arv.set Ara14 qa14 Sa14 Za14 Ha14 Ga14 rfl W16 1 rfl (Nat.le_of_ble_eq_true rfl)
  have s17 : Steps p.tables e below (s₁.setTop (entryFrame m #[(.ref p0), (.int (1 : Int32)), (.long p2), (.long p3), .null, .null] 8)) (T16.setTop (mkF m 39 #[.val (.ref p0), .val (.int (1 : Int32)), .val (.long p2), .second, .val (.long p3), .second, .val .null, .val .null] [])) := by
    refine s0.trans ?_
    show Steps p.tables e below (s₁.setTop (mkF m 0 #[.val (.ref p0), .val (.int (1 : Int32)), .val (.long p2), .second, .val (.long p3), .second, .val .null, .val .null] [])) _
    refine XS.aloadN X0.here hx rfl (hb hby d5_0) rfl rfl ?_
    show Steps p.tables e below (s₁.setTop (mkF m 1 #[.val (.ref p0), .val (.int (1 : Int32)), .val (.long p2), .second, .val (.long p3), .second, .val .null, .val .null] [(.ref p0)])) _
    refine st1 _ ?_
    show Steps p.tables e below (T1.setTop (mkF m 4 #[.val (.ref p0), .val (.int (1 : Int32)), .val (.long p2), .second, .val (.long p3), .second, .val .null, .val .null] [(.ref b1)])) _
    refine XS.iloadN X1.here hx rfl (hb hby d5_4) rfl ?_
    show Steps p.tables e below (T1.setTop (mkF m 5 #[.val (.ref p0), .val (.int (1 : Int32)), .val (.long p2), .second, .val (.long p3), .second, .val .null, .val .null] [(.int (1 : Int32)), (.ref b1)])) _
    refine XS.lloadN X1.here hx rfl (hb hby d5_5) rfl ?_
    show Steps p.tables e below (T1.setTop (mkF m 6 #[.val (.ref p0), .val (.int (1 : Int32)), .val (.long p2), .second, .val (.long p3), .second, .val .null, .val .null] [(.long p2), (.int (1 : Int32)), (.ref b1)])) _
    refine st4 _ ?_
    show Steps p.tables e below (T4.setTop (mkF m 7 #[.val (.ref p0), .val (.int (1 : Int32)), .val (.long p2), .second, .val (.long p3), .second, .val .null, .val .null] [])) _
    refine XS.aloadN X4.here hx rfl (hb hby d5_7) rfl rfl ?_
    show Steps p.tables e below (T4.setTop (mkF m 8 #[.val (.ref p0), .val (.int (1 : Int32)), .val (.long p2), .second, .val (.long p3), .second, .val .null, .val .null] [(.ref p0)])) _
    refine st6 _ ?_
    show Steps p.tables e below (T6.setTop (mkF m 11 #[.val (.ref p0), .val (.int (1 : Int32)), .val (.long p2), .second, .val (.long p3), .second, .val .null, .val .null] [(.ref b2)])) _
    refine XS.iloadN X6.here hx rfl (hb hby d5_11) rfl ?_
    show Steps p.tables e below (T6.setTop (mkF m 12 #[.val (.ref p0), .val (.int (1 : Int32)), .val (.long p2), .second, .val (.long p3), .second, .val .null, .val .null] [(.int (1 : Int32)), (.ref b2)])) _
    refine XS.lload X6.here hx rfl (hb hby d5_12) rfl ?_
    show Steps p.tables e below (T6.setTop (mkF m 14 #[.val (.ref p0), .val (.int (1 : Int32)), .val (.long p2), .second, .val (.long p3), .second, .val .null, .val .null] [(.long p3), (.int (1 : Int32)), (.ref b2)])) _
    refine st10 _ ?_
    show Steps p.tables e below (T10.setTop (mkF m 15 #[.val (.ref p0), .val (.int (1 : Int32)), .val (.long p2), .second, .val (.long p3), .second, .val .null, .val .null] [])) _
    refine XS.aloadN X10.here hx rfl (hb hby d5_15) rfl rfl ?_
    show Steps p.tables e below (T10.setTop (mkF m 16 #[.val (.ref p0), .val (.int (1 : Int32)), .val (.long p2), .second, .val (.long p3), .second, .val .null, .val .null] [(.ref p0)])) _
    refine st12 _ ?_
    show Steps p.tables e below (T12.setTop (mkF m 19 #[.val (.ref p0), .val (.int (1 : Int32)), .val (.long p2), .second, .val (.long p3), .second, .val .null, .val .null] [(.ref b3)])) _
    refine XS.iloadN X12.here hx rfl (hb hby d5_19) rfl ?_
    show Steps p.tables e below (T12.setTop (mkF m 20 #[.val (.ref p0), .val (.int (1 : Int32)), .val (.long p2), .second, .val (.long p3), .second, .val .null, .val .null] [(.int (1 : Int32)), (.ref b3)])) _
    refine XS.aload X12.here hx rfl (hb hby d5_20) rfl rfl ?_
    show Steps p.tables e below (T12.setTop (mkF m 22 #[.val (.ref p0), .val (.int (1 : Int32)), .val (.long p2), .second, .val (.long p3), .second, .val .null, .val .null] [.null, (.int (1 : Int32)), (.ref b3)])) _
    refine st16 _ ?_
    show Steps p.tables e below (T16.setTop (mkF m 23 #[.val (.ref p0), .val (.int (1 : Int32)), .val (.long p2), .second, .val (.long p3), .second, .val .null, .val .null] [])) _
    refine XS.aload X16.here hx rfl (hb hby d5_23) rfl rfl ?_
    show Steps p.tables e below (T16.setTop (mkF m 25 #[.val (.ref p0), .val (.int (1 : Int32)), .val (.long p2), .second, .val (.long p3), .second, .val .null, .val .null] [.null])) _
    refine XS.ifnullYes X16.here hx rfl (pc0 := 25) (pc' := 39) rfl (hb hby d5_25) rfl (by decide) (by decide) ?_
    exact Steps.refl _
  have c18 : Arv Z h16 b1 k1 .long (2 : Int32) [(.long x0), (.long p2)] (.long (0 : Int64)) := ((V4.other W10 F9_).other W16 F10_)
  have c19 : Arv Z h16 b2 k2 .long (2 : Int32) [(.long y0), (.long p3)] (.long (0 : Int64)) := (V10.other W16 F11_)
  obtain ⟨fs, hr, hrun, hended, hW, hsame⟩ := X16.leave (v := none) (fun _ => rfl)
  refine ⟨_, _, s17.trans ?_, hrun, hended, _, _, rfl, ?_, ⟨_, rfl⟩, hW, hsame.mono (by decide) (by decide)⟩
  · show Steps p.tables e below (T16.setTop (mkF m 39 #[.val (.ref p0), .val (.int (1 : Int32)), .val (.long p2), .second, .val (.long p3), .second, .val .null, .val .null] [])) _
    exact X16.returnOut hx Bd.returns (hb hby d5_39) hr
  · show Qr2_1 Z p0 p2 p3 b1 b2 b3 k1 k2 k3 x0 x1 y0 y1 h0 n0 _ T16.heap _
    rw [e16]
    exact ⟨rfl, N16, K16, c18, c19, V16⟩
theorem pd_rmf2_0 : parseMethodDescriptor "(JJ)J" = some ⟨[.long, .long], some .long⟩ := by decide +kernel
theorem ef_rmf2 (m : MethodId) (p0 : Addr) : entryFrame m #[(.ref p0)] 8 = mkF m 0 #[.val (.ref p0), .unset, .unset, .unset, .unset, .unset, .unset, .unset] [] := by first | (simp [entryFrame, mkF, argsToLocals, Value.category]; done) | rfl
def Qf2 (Z : State) (p0 : Addr) (b1 : Addr) (k1 : ClassId) (x0 : Int64) (x1 : Int64) (h0 : Heap) (n0 : Nat) (v : Option Value) (h : Heap) (L : List Loc) : Prop := v = some (.long (own_min (own_min (9223372036854775807 : Int64) x0) x1)) ∧ Fr n0 L ∧ h = h0
set_option maxRecDepth 65536 in
set_option maxHeartbeats 40000000 in
theorem rmf2 (l : Launch) (Z : State) (a0 : Array Value) (hw : ∀ d ∈ tables_1, d.before a0 Z = true) (ws : List Jvm.Cond) (p0 : Addr) (b1 : Addr) (k1 : ClassId) (x0 : Int64) (x1 : Int64) (h0 : Heap) (n0 : Nat) (O0 : Old Z n0 h0) (F0_ : Fld Z h0 p0 "com/example/hot_gate/hotgate/bench/Replies" "sentAt" "[J" (.ref b1)) (F1_ : Arv Z h0 b1 k1 .long (2 : Int32) [(.long x0), (.long x1)] (.long (0 : Int64))) :
    MetFree l (⟨"com/example/hot_gate/hotgate/bench/Replies", "firstSent", "()J"⟩ : MethodName) (head1 (Jvm.Cond.code (⟨"com/example/hot_gate/hotgate/bench/Replies", "firstSent", "()J"⟩ : MethodName) prog_12_method_6_code 8 (some .long) :: ws) ({ frames := 1, cells := 0, slots := 0, locals := 15 } : Room)) (fun a U => a = #[(.ref p0)] ∧ Z.Warmed39 U.vm ∧ U.heap = h0) (fun _ _ _ _ _ => True) (fun _ U o U' => ∃ v L, o = .returned v ∧ Qf2 Z p0 b1 k1 x0 x1 h0 n0 v U'.heap L ∧ FrameEnd U o U' L ({ frames := 1, cells := 0, slots := 0, locals := 15 } : Room).cells ({ frames := 1, cells := 0, slots := 0, locals := 15 } : Room).slots) := by
  refine MetFree.of_bodySF (plainFor_of_name pn_1) hisR ?_
  intro p e s m args below meth c s₁ Bd hml0 hP hK
  obtain ⟨rfl, hZ, hh⟩ := hP
  have hx := Bd.exec
  have hby := Bd.bytes
  have hml : c.maxLocals = 8 := hml0
  have hown : s.vm.findClass "com/example/hot_gate/hotgate/bench/Replies" = some m.cls := findClass_of_methodNamed Bd.named
  have hnm := (name_of_methodNamed Bd.named Bd.method).1
  have X0 : Stand p l e ({ frames := 1, cells := 0, slots := 0, locals := 15 } : Room) s m #[(.ref p0)] below meth c s₁ [] 0 0 := Stand.of_body Bd
  have e0 : s₁.heap = h0 := by rw [← hh, Bd.state]; rfl
  have N0 := Fr.nil n0
  have s0 : Steps p.tables e below (s₁.setTop (entryFrame m #[(.ref p0)] 8)) (s₁.setTop (mkF m 0 #[.val (.ref p0), .unset, .unset, .unset, .unset, .unset, .unset, .unset] [])) := castTop (ef_rmf2 m p0) (Steps.refl _)
  obtain ⟨T1, X1, e1, st1⟩ := getF X0 hx hZ hown (host := "") (Or.inl (hw _ (List.mem_of_getElem? (i := 19) rfl))) Via.refl e0 F0_ (g := (mkF m 5 #[.val (.ref p0), .val (.long (9223372036854775807 : Int64)), .second, .unset, .unset, .unset, .unset, .unset] [(.ref p0)])) rfl rfl (hb hby d4_5)
  obtain ⟨cla2, Ara2, qa2, Sa2, Za2, Ha2, Ga2⟩ := id F1_
  have hin3 : ¬ ((0 : Int32) < 0 ∨ cla2.slots.size ≤ ((0 : Int32)).toNatClampNeg) := inb_of Sa2 ⟨by decide, by decide⟩
  have hat4 : cla2.slots[((0 : Int32)).toNatClampNeg]? = some (.long x0) := Has.at Ha2 hin3 rfl
  obtain ⟨_, _, ⟨T5, L5, k5, n5⟩, -, X5, ⟨Lc5, hQ5, l5, y5, z5⟩, st5⟩ := Jvm.LawKit.callS X1 hx (y := (⟨"java/lang/Math", "min", "(JJ)J"⟩ : MethodName)) hown (mvT hZ (hw _ (List.mem_of_getElem? (i := 43) rfl))) (mvT hZ (hw _ (List.mem_of_getElem? (i := 40) rfl))) (mvT hZ (hw _ (List.mem_of_getElem? (i := 41) rfl))) (mvT hZ (hw _ (List.mem_of_getElem? (i := 42) rfl))) (by decide) (backOf (W := 0) (rm6 l Z a0 hw [] (9223372036854775807 : Int64) x0 h0 n0 O0 ) hZ (hw _ (List.mem_of_getElem? (i := 42) rfl)) (hw _ (List.mem_of_getElem? (i := 41) rfl)) (by decide) (by decide)) (g := (mkF m 32 #[.val (.ref p0), .val (.long (9223372036854775807 : Int64)), .second, .val (.ref b1), .val (.int (2 : Int32)), .val (.int (0 : Int32)), .val (.long x0), .second] [(.long x0), (.long (9223372036854775807 : Int64))])) rfl (by rw [hml]; rfl) (argsL := [(.long (9223372036854775807 : Int64)), (.long x0)]) (rest := []) (lenOf pd_rmf2_0 rfl) rfl (by show 2 * 0 + _ ≤ _; exact Nat.le_of_eq rfl) (hb hby d4_32) (fun _ _ => ⟨rfl, e1, (by decide : 0 + 0 ≤ _), (by decide : 0 + 0 ≤ _)⟩)
  dsimp only [Pt.U, Pt.locs, Pt.cells, Pt.slots] at X5 l5 y5 z5 st5 hQ5
  subst l5 y5 z5
  obtain ⟨rfl, Nq5, e5⟩ := hQ5
  have N5 := Fr.app N0 Nq5
  have hin6 : ¬ ((1 : Int32) < 0 ∨ cla2.slots.size ≤ ((1 : Int32)).toNatClampNeg) := inb_of Sa2 ⟨by decide, by decide⟩
  have hat7 : cla2.slots[((1 : Int32)).toNatClampNeg]? = some (.long x1) := Has.at Ha2 hin6 rfl
  obtain ⟨_, _, ⟨T8, L8, k8, n8⟩, -, X8, ⟨Lc8, hQ8, l8, y8, z8⟩, st8⟩ := Jvm.LawKit.callS X5 hx (y := (⟨"java/lang/Math", "min", "(JJ)J"⟩ : MethodName)) hown (mvT hZ (hw _ (List.mem_of_getElem? (i := 43) rfl))) (mvT hZ (hw _ (List.mem_of_getElem? (i := 40) rfl))) (mvT hZ (hw _ (List.mem_of_getElem? (i := 41) rfl))) (mvT hZ (hw _ (List.mem_of_getElem? (i := 42) rfl))) (by decide) (backOf (W := 0) (rm6 l Z a0 hw [] (own_min (9223372036854775807 : Int64) x0) x1 h0 n0 O0 ) hZ (hw _ (List.mem_of_getElem? (i := 42) rfl)) (hw _ (List.mem_of_getElem? (i := 41) rfl)) (by decide) (by decide)) (g := (mkF m 32 #[.val (.ref p0), .val (.long (own_min (9223372036854775807 : Int64) x0)), .second, .val (.ref b1), .val (.int (2 : Int32)), .val (.int (1 : Int32)), .val (.long x1), .second] [(.long x1), (.long (own_min (9223372036854775807 : Int64) x0))])) rfl (by rw [hml]; rfl) (argsL := [(.long (own_min (9223372036854775807 : Int64) x0)), (.long x1)]) (rest := []) (lenOf pd_rmf2_0 rfl) rfl (by show 2 * 0 + _ ≤ _; exact Nat.le_of_eq rfl) (hb hby d4_32) (fun _ _ => ⟨rfl, e5, (by decide : 0 + 0 ≤ _), (by decide : 0 + 0 ≤ _)⟩)
  dsimp only [Pt.U, Pt.locs, Pt.cells, Pt.slots] at X8 l8 y8 z8 st8 hQ8
  subst l8 y8 z8
  obtain ⟨rfl, Nq8, e8⟩ := hQ8
  have N8 := Fr.app N5 Nq8
  have s9 : Steps p.tables e below (s₁.setTop (entryFrame m #[(.ref p0)] 8)) (T8.setTop (mkF m 43 #[.val (.ref p0), .val (.long (own_min (own_min (9223372036854775807 : Int64) x0) x1)), .second, .val (.ref b1), .val (.int (2 : Int32)), .val (.int (2 : Int32)), .val (.long x1), .second] [(.long (own_min (own_min (9223372036854775807 : Int64) x0) x1))])) := by
    refine s0.trans ?_
    show Steps p.tables e below (s₁.setTop (mkF m 0 #[.val (.ref p0), .unset, .unset, .unset, .unset, .unset, .unset, .unset] [])) _
    refine X0.ldc2Long hx hown (mvT hZ (hw _ (List.mem_of_getElem? (i := 33) rfl))) (g := (mkF m 0 #[.val (.ref p0), .unset, .unset, .unset, .unset, .unset, .unset, .unset] [])) rfl (hb hby d4_0) _ ?_
    show Steps p.tables e below (s₁.setTop (mkF m 3 #[.val (.ref p0), .unset, .unset, .unset, .unset, .unset, .unset, .unset] [(.long (9223372036854775807 : Int64))])) _
    refine XS.lstoreN X0.here hx rfl (hb hby d4_3) rfl (l' := #[.val (.ref p0), .val (.long (9223372036854775807 : Int64)), .second, .unset, .unset, .unset, .unset, .unset]) rfl ?_
    show Steps p.tables e below (s₁.setTop (mkF m 4 #[.val (.ref p0), .val (.long (9223372036854775807 : Int64)), .second, .unset, .unset, .unset, .unset, .unset] [])) _
    refine XS.aloadN X0.here hx rfl (hb hby d4_4) rfl rfl ?_
    show Steps p.tables e below (s₁.setTop (mkF m 5 #[.val (.ref p0), .val (.long (9223372036854775807 : Int64)), .second, .unset, .unset, .unset, .unset, .unset] [(.ref p0)])) _
    refine st1 _ ?_
    show Steps p.tables e below (T1.setTop (mkF m 8 #[.val (.ref p0), .val (.long (9223372036854775807 : Int64)), .second, .unset, .unset, .unset, .unset, .unset] [(.ref b1)])) _
    refine XS.astoreN X1.here hx rfl (hb hby d4_8) rfl rfl (l' := #[.val (.ref p0), .val (.long (9223372036854775807 : Int64)), .second, .val (.ref b1), .unset, .unset, .unset, .unset]) rfl ?_
    show Steps p.tables e below (T1.setTop (mkF m 9 #[.val (.ref p0), .val (.long (9223372036854775807 : Int64)), .second, .val (.ref b1), .unset, .unset, .unset, .unset] [])) _
    refine XS.aloadN X1.here hx rfl (hb hby d4_9) rfl rfl ?_
    show Steps p.tables e below (T1.setTop (mkF m 10 #[.val (.ref p0), .val (.long (9223372036854775807 : Int64)), .second, .val (.ref b1), .unset, .unset, .unset, .unset] [(.ref b1)])) _
    refine X1.arraylength hx (by rw [e1]; exact Ara2.1) (State.isArrayOf_alike hZ.alike Ara2.2.1) (g := (mkF m 10 #[.val (.ref p0), .val (.long (9223372036854775807 : Int64)), .second, .val (.ref b1), .unset, .unset, .unset, .unset] [(.ref b1)])) rfl rfl (hb hby d4_10) _ ?_
    rw [len_of Sa2 Za2]
    show Steps p.tables e below (T1.setTop (mkF m 11 #[.val (.ref p0), .val (.long (9223372036854775807 : Int64)), .second, .val (.ref b1), .unset, .unset, .unset, .unset] [(.int (2 : Int32))])) _
    refine XS.istore X1.here hx rfl (hb hby d4_11) rfl (l' := #[.val (.ref p0), .val (.long (9223372036854775807 : Int64)), .second, .val (.ref b1), .val (.int (2 : Int32)), .unset, .unset, .unset]) rfl ?_
    show Steps p.tables e below (T1.setTop (mkF m 13 #[.val (.ref p0), .val (.long (9223372036854775807 : Int64)), .second, .val (.ref b1), .val (.int (2 : Int32)), .unset, .unset, .unset] [])) _
    refine XS.iconst X1.here hx rfl (hb hby d4_13) ?_
    show Steps p.tables e below (T1.setTop (mkF m 14 #[.val (.ref p0), .val (.long (9223372036854775807 : Int64)), .second, .val (.ref b1), .val (.int (2 : Int32)), .unset, .unset, .unset] [(.int (0 : Int32))])) _
    refine XS.istore X1.here hx rfl (hb hby d4_14) rfl (l' := #[.val (.ref p0), .val (.long (9223372036854775807 : Int64)), .second, .val (.ref b1), .val (.int (2 : Int32)), .val (.int (0 : Int32)), .unset, .unset]) rfl ?_
    show Steps p.tables e below (T1.setTop (mkF m 16 #[.val (.ref p0), .val (.long (9223372036854775807 : Int64)), .second, .val (.ref b1), .val (.int (2 : Int32)), .val (.int (0 : Int32)), .unset, .unset] [])) _
    refine XS.iload X1.here hx rfl (hb hby d4_16) rfl ?_
    show Steps p.tables e below (T1.setTop (mkF m 18 #[.val (.ref p0), .val (.long (9223372036854775807 : Int64)), .second, .val (.ref b1), .val (.int (2 : Int32)), .val (.int (0 : Int32)), .unset, .unset] [(.int (0 : Int32))])) _
    refine XS.iload X1.here hx rfl (hb hby d4_18) rfl ?_
    show Steps p.tables e below (T1.setTop (mkF m 20 #[.val (.ref p0), .val (.long (9223372036854775807 : Int64)), .second, .val (.ref b1), .val (.int (2 : Int32)), .val (.int (0 : Int32)), .unset, .unset] [(.int (2 : Int32)), (.int (0 : Int32))])) _
    refine XS.icmpNo X1.here hx rfl (hb hby d4_20) rfl (tlt (by decide)).2.1 ?_
    show Steps p.tables e below (T1.setTop (mkF m 23 #[.val (.ref p0), .val (.long (9223372036854775807 : Int64)), .second, .val (.ref b1), .val (.int (2 : Int32)), .val (.int (0 : Int32)), .unset, .unset] [])) _
    refine XS.aloadN X1.here hx rfl (hb hby d4_23) rfl rfl ?_
    show Steps p.tables e below (T1.setTop (mkF m 24 #[.val (.ref p0), .val (.long (9223372036854775807 : Int64)), .second, .val (.ref b1), .val (.int (2 : Int32)), .val (.int (0 : Int32)), .unset, .unset] [(.ref b1)])) _
    refine XS.iload X1.here hx rfl (hb hby d4_24) rfl ?_
    show Steps p.tables e below (T1.setTop (mkF m 26 #[.val (.ref p0), .val (.long (9223372036854775807 : Int64)), .second, .val (.ref b1), .val (.int (2 : Int32)), .val (.int (0 : Int32)), .unset, .unset] [(.int (0 : Int32)), (.ref b1)])) _
    refine X1.laload hx (j := (0 : Int32)) (v := (.long x0)) (by rw [e1]; exact Ara2.1) (State.isArrayOf_alike hZ.alike Ara2.2.1) Ara2.2.2 hin3 hat4 (g := (mkF m 26 #[.val (.ref p0), .val (.long (9223372036854775807 : Int64)), .second, .val (.ref b1), .val (.int (2 : Int32)), .val (.int (0 : Int32)), .unset, .unset] [(.int (0 : Int32)), (.ref b1)])) rfl rfl (hb hby d4_26) _ ?_
    show Steps p.tables e below (T1.setTop (mkF m 27 #[.val (.ref p0), .val (.long (9223372036854775807 : Int64)), .second, .val (.ref b1), .val (.int (2 : Int32)), .val (.int (0 : Int32)), .unset, .unset] [(.long x0)])) _
    refine XS.lstore X1.here hx rfl (hb hby d4_27) rfl (l' := #[.val (.ref p0), .val (.long (9223372036854775807 : Int64)), .second, .val (.ref b1), .val (.int (2 : Int32)), .val (.int (0 : Int32)), .val (.long x0), .second]) rfl ?_
    show Steps p.tables e below (T1.setTop (mkF m 29 #[.val (.ref p0), .val (.long (9223372036854775807 : Int64)), .second, .val (.ref b1), .val (.int (2 : Int32)), .val (.int (0 : Int32)), .val (.long x0), .second] [])) _
    refine XS.lloadN X1.here hx rfl (hb hby d4_29) rfl ?_
    show Steps p.tables e below (T1.setTop (mkF m 30 #[.val (.ref p0), .val (.long (9223372036854775807 : Int64)), .second, .val (.ref b1), .val (.int (2 : Int32)), .val (.int (0 : Int32)), .val (.long x0), .second] [(.long (9223372036854775807 : Int64))])) _
    refine XS.lload X1.here hx rfl (hb hby d4_30) rfl ?_
    show Steps p.tables e below (T1.setTop (mkF m 32 #[.val (.ref p0), .val (.long (9223372036854775807 : Int64)), .second, .val (.ref b1), .val (.int (2 : Int32)), .val (.int (0 : Int32)), .val (.long x0), .second] [(.long x0), (.long (9223372036854775807 : Int64))])) _
    refine st5 _ ?_
    show Steps p.tables e below (T5.setTop (mkF m 35 #[.val (.ref p0), .val (.long (9223372036854775807 : Int64)), .second, .val (.ref b1), .val (.int (2 : Int32)), .val (.int (0 : Int32)), .val (.long x0), .second] [(.long (own_min (9223372036854775807 : Int64) x0))])) _
    refine XS.lstoreN X5.here hx rfl (hb hby d4_35) rfl (l' := #[.val (.ref p0), .val (.long (own_min (9223372036854775807 : Int64) x0)), .second, .val (.ref b1), .val (.int (2 : Int32)), .val (.int (0 : Int32)), .val (.long x0), .second]) rfl ?_
    show Steps p.tables e below (T5.setTop (mkF m 36 #[.val (.ref p0), .val (.long (own_min (9223372036854775807 : Int64) x0)), .second, .val (.ref b1), .val (.int (2 : Int32)), .val (.int (0 : Int32)), .val (.long x0), .second] [])) _
    refine XS.iinc X5.here hx rfl (hb hby d4_36) rfl (l' := #[.val (.ref p0), .val (.long (own_min (9223372036854775807 : Int64) x0)), .second, .val (.ref b1), .val (.int (2 : Int32)), .val (.int (1 : Int32)), .val (.long x0), .second]) rfl ?_
    show Steps p.tables e below (T5.setTop (mkF m 39 #[.val (.ref p0), .val (.long (own_min (9223372036854775807 : Int64) x0)), .second, .val (.ref b1), .val (.int (2 : Int32)), .val (.int (1 : Int32)), .val (.long x0), .second] [])) _
    refine XS.goto X5.here hx rfl (pc0 := 39) (pc' := 16) rfl (hb hby d4_39) (by decide) (by decide) ?_
    show Steps p.tables e below (T5.setTop (mkF m 16 #[.val (.ref p0), .val (.long (own_min (9223372036854775807 : Int64) x0)), .second, .val (.ref b1), .val (.int (2 : Int32)), .val (.int (1 : Int32)), .val (.long x0), .second] [])) _
    refine XS.iload X5.here hx rfl (hb hby d4_16) rfl ?_
    show Steps p.tables e below (T5.setTop (mkF m 18 #[.val (.ref p0), .val (.long (own_min (9223372036854775807 : Int64) x0)), .second, .val (.ref b1), .val (.int (2 : Int32)), .val (.int (1 : Int32)), .val (.long x0), .second] [(.int (1 : Int32))])) _
    refine XS.iload X5.here hx rfl (hb hby d4_18) rfl ?_
    show Steps p.tables e below (T5.setTop (mkF m 20 #[.val (.ref p0), .val (.long (own_min (9223372036854775807 : Int64) x0)), .second, .val (.ref b1), .val (.int (2 : Int32)), .val (.int (1 : Int32)), .val (.long x0), .second] [(.int (2 : Int32)), (.int (1 : Int32))])) _
    refine XS.icmpNo X5.here hx rfl (hb hby d4_20) rfl (tlt (by decide)).2.1 ?_
    show Steps p.tables e below (T5.setTop (mkF m 23 #[.val (.ref p0), .val (.long (own_min (9223372036854775807 : Int64) x0)), .second, .val (.ref b1), .val (.int (2 : Int32)), .val (.int (1 : Int32)), .val (.long x0), .second] [])) _
    refine XS.aloadN X5.here hx rfl (hb hby d4_23) rfl rfl ?_
    show Steps p.tables e below (T5.setTop (mkF m 24 #[.val (.ref p0), .val (.long (own_min (9223372036854775807 : Int64) x0)), .second, .val (.ref b1), .val (.int (2 : Int32)), .val (.int (1 : Int32)), .val (.long x0), .second] [(.ref b1)])) _
    refine XS.iload X5.here hx rfl (hb hby d4_24) rfl ?_
    show Steps p.tables e below (T5.setTop (mkF m 26 #[.val (.ref p0), .val (.long (own_min (9223372036854775807 : Int64) x0)), .second, .val (.ref b1), .val (.int (2 : Int32)), .val (.int (1 : Int32)), .val (.long x0), .second] [(.int (1 : Int32)), (.ref b1)])) _
    refine X5.laload hx (j := (1 : Int32)) (v := (.long x1)) (by rw [e5]; exact Ara2.1) (State.isArrayOf_alike hZ.alike Ara2.2.1) Ara2.2.2 hin6 hat7 (g := (mkF m 26 #[.val (.ref p0), .val (.long (own_min (9223372036854775807 : Int64) x0)), .second, .val (.ref b1), .val (.int (2 : Int32)), .val (.int (1 : Int32)), .val (.long x0), .second] [(.int (1 : Int32)), (.ref b1)])) rfl rfl (hb hby d4_26) _ ?_
    show Steps p.tables e below (T5.setTop (mkF m 27 #[.val (.ref p0), .val (.long (own_min (9223372036854775807 : Int64) x0)), .second, .val (.ref b1), .val (.int (2 : Int32)), .val (.int (1 : Int32)), .val (.long x0), .second] [(.long x1)])) _
    refine XS.lstore X5.here hx rfl (hb hby d4_27) rfl (l' := #[.val (.ref p0), .val (.long (own_min (9223372036854775807 : Int64) x0)), .second, .val (.ref b1), .val (.int (2 : Int32)), .val (.int (1 : Int32)), .val (.long x1), .second]) rfl ?_
    show Steps p.tables e below (T5.setTop (mkF m 29 #[.val (.ref p0), .val (.long (own_min (9223372036854775807 : Int64) x0)), .second, .val (.ref b1), .val (.int (2 : Int32)), .val (.int (1 : Int32)), .val (.long x1), .second] [])) _
    refine XS.lloadN X5.here hx rfl (hb hby d4_29) rfl ?_
    show Steps p.tables e below (T5.setTop (mkF m 30 #[.val (.ref p0), .val (.long (own_min (9223372036854775807 : Int64) x0)), .second, .val (.ref b1), .val (.int (2 : Int32)), .val (.int (1 : Int32)), .val (.long x1), .second] [(.long (own_min (9223372036854775807 : Int64) x0))])) _
    refine XS.lload X5.here hx rfl (hb hby d4_30) rfl ?_
    show Steps p.tables e below (T5.setTop (mkF m 32 #[.val (.ref p0), .val (.long (own_min (9223372036854775807 : Int64) x0)), .second, .val (.ref b1), .val (.int (2 : Int32)), .val (.int (1 : Int32)), .val (.long x1), .second] [(.long x1), (.long (own_min (9223372036854775807 : Int64) x0))])) _
    refine st8 _ ?_
    show Steps p.tables e below (T8.setTop (mkF m 35 #[.val (.ref p0), .val (.long (own_min (9223372036854775807 : Int64) x0)), .second, .val (.ref b1), .val (.int (2 : Int32)), .val (.int (1 : Int32)), .val (.long x1), .second] [(.long (own_min (own_min (9223372036854775807 : Int64) x0) x1))])) _
    refine XS.lstoreN X8.here hx rfl (hb hby d4_35) rfl (l' := #[.val (.ref p0), .val (.long (own_min (own_min (9223372036854775807 : Int64) x0) x1)), .second, .val (.ref b1), .val (.int (2 : Int32)), .val (.int (1 : Int32)), .val (.long x1), .second]) rfl ?_
    show Steps p.tables e below (T8.setTop (mkF m 36 #[.val (.ref p0), .val (.long (own_min (own_min (9223372036854775807 : Int64) x0) x1)), .second, .val (.ref b1), .val (.int (2 : Int32)), .val (.int (1 : Int32)), .val (.long x1), .second] [])) _
    refine XS.iinc X8.here hx rfl (hb hby d4_36) rfl (l' := #[.val (.ref p0), .val (.long (own_min (own_min (9223372036854775807 : Int64) x0) x1)), .second, .val (.ref b1), .val (.int (2 : Int32)), .val (.int (2 : Int32)), .val (.long x1), .second]) rfl ?_
    show Steps p.tables e below (T8.setTop (mkF m 39 #[.val (.ref p0), .val (.long (own_min (own_min (9223372036854775807 : Int64) x0) x1)), .second, .val (.ref b1), .val (.int (2 : Int32)), .val (.int (2 : Int32)), .val (.long x1), .second] [])) _
    refine XS.goto X8.here hx rfl (pc0 := 39) (pc' := 16) rfl (hb hby d4_39) (by decide) (by decide) ?_
    show Steps p.tables e below (T8.setTop (mkF m 16 #[.val (.ref p0), .val (.long (own_min (own_min (9223372036854775807 : Int64) x0) x1)), .second, .val (.ref b1), .val (.int (2 : Int32)), .val (.int (2 : Int32)), .val (.long x1), .second] [])) _
    refine XS.iload X8.here hx rfl (hb hby d4_16) rfl ?_
    show Steps p.tables e below (T8.setTop (mkF m 18 #[.val (.ref p0), .val (.long (own_min (own_min (9223372036854775807 : Int64) x0) x1)), .second, .val (.ref b1), .val (.int (2 : Int32)), .val (.int (2 : Int32)), .val (.long x1), .second] [(.int (2 : Int32))])) _
    refine XS.iload X8.here hx rfl (hb hby d4_18) rfl ?_
    show Steps p.tables e below (T8.setTop (mkF m 20 #[.val (.ref p0), .val (.long (own_min (own_min (9223372036854775807 : Int64) x0) x1)), .second, .val (.ref b1), .val (.int (2 : Int32)), .val (.int (2 : Int32)), .val (.long x1), .second] [(.int (2 : Int32)), (.int (2 : Int32))])) _
    refine XS.icmpYes X8.here hx rfl (pc0 := 20) (pc' := 42) rfl (hb hby d4_20) rfl (flt (by decide)).2.1 (by decide) (by decide) ?_
    show Steps p.tables e below (T8.setTop (mkF m 42 #[.val (.ref p0), .val (.long (own_min (own_min (9223372036854775807 : Int64) x0) x1)), .second, .val (.ref b1), .val (.int (2 : Int32)), .val (.int (2 : Int32)), .val (.long x1), .second] [])) _
    refine XS.lloadN X8.here hx rfl (hb hby d4_42) rfl ?_
    exact Steps.refl _
  obtain ⟨fs, hr, hrun, hended, hW, hsame⟩ := X8.leave (v := some (.long (own_min (own_min (9223372036854775807 : Int64) x0) x1))) (fun h => by rw [Bd.returns] at h; cases h)
  refine ⟨_, _, s9.trans ?_, hrun, hended, _, _, rfl, ?_, ⟨_, rfl⟩, hW, hsame.mono (by decide) (by decide)⟩
  · show Steps p.tables e below (T8.setTop (mkF m 43 #[.val (.ref p0), .val (.long (own_min (own_min (9223372036854775807 : Int64) x0) x1)), .second, .val (.ref b1), .val (.int (2 : Int32)), .val (.int (2 : Int32)), .val (.long x1), .second] [(.long (own_min (own_min (9223372036854775807 : Int64) x0) x1))])) _
    jvm_step X8.here [X8.here.top, hx, (hb hby d4_43), X8.method', Bd.returns, narrow]
    first | (intro acts; rw [hr _ acts rfl rfl rfl]) | rw [hr _ _ rfl rfl rfl]
    exact Steps.refl _
  · show Qf2 Z p0 b1 k1 x0 x1 h0 n0 _ T8.heap _
    rw [e8]
    exact ⟨rfl, N8, rfl⟩
theorem pd_rmi3_0 : parseMethodDescriptor "()V" = some ⟨[], none⟩ := by decide +kernel
theorem ef_rmi3 (m : MethodId) (p0 : Addr) : entryFrame m #[(.ref p0), (.int (3 : Int32))] 2 = mkF m 0 #[.val (.ref p0), .val (.int (3 : Int32))] [] := by first | (simp [entryFrame, mkF, argsToLocals, Value.category]; done) | rfl
def Qi3 (Z : State) (p0 : Addr) (h0 : Heap) (n0 : Nat) (v : Option Value) (h : Heap) (L : List Loc) : Prop := ∃ b1 : Addr, ∃ b2 : Addr, ∃ b3 : Addr, ∃ k1 : ClassId, ∃ k2 : ClassId, ∃ k3 : ClassId, v = none ∧ Fr n0 L ∧ Keep h0 h [p0] ∧ (Exa Z h p0 "com/example/hot_gate/hotgate/bench/Replies") ∧ (Fld Z h p0 "com/example/hot_gate/hotgate/bench/Replies" "sentAt" "[J" (.ref b1)) ∧ (Fld Z h p0 "com/example/hot_gate/hotgate/bench/Replies" "answeredAt" "[J" (.ref b2)) ∧ (Fld Z h p0 "com/example/hot_gate/hotgate/bench/Replies" "outcomes" "[Lcom/example/hot_gate/hotgate/bench/Outcome;" (.ref b3)) ∧ (Arv Z h b1 k1 .long (3 : Int32) [(.long (0 : Int64)), (.long (0 : Int64)), (.long (0 : Int64))] (.long (0 : Int64))) ∧ (Arv Z h b2 k2 .long (3 : Int32) [(.long (0 : Int64)), (.long (0 : Int64)), (.long (0 : Int64))] (.long (0 : Int64))) ∧ (Arv Z h b3 k3 (.object "com/example/hot_gate/hotgate/bench/Outcome") (3 : Int32) [.null, .null, .null] .null) ∧ (h0.size ≤ b1) ∧ (h0.size ≤ b2) ∧ (h0.size ≤ b3) ∧ (b1 ≠ b2) ∧ (b1 ≠ b3) ∧ (b2 ≠ b3)
set_option maxRecDepth 65536 in
set_option maxHeartbeats 40000000 in
theorem rmi3 (l : Launch) (Z : State) (a0 : Array Value) (hw : ∀ d ∈ tables_1, d.before a0 Z = true) (ws : List Jvm.Cond) (p0 : Addr) (h0 : Heap) (n0 : Nat) (O0 : Old Z n0 h0) (F0_ : Exa Z h0 p0 "com/example/hot_gate/hotgate/bench/Replies") (F1_ : Fld Z h0 p0 "com/example/hot_gate/hotgate/bench/Replies" "firstError" "Ljava/util/concurrent/atomic/AtomicReference;" .null) (F2_ : Fld Z h0 p0 "com/example/hot_gate/hotgate/bench/Replies" "sentAt" "[J" .null) (F3_ : Fld Z h0 p0 "com/example/hot_gate/hotgate/bench/Replies" "answeredAt" "[J" .null) (F4_ : Fld Z h0 p0 "com/example/hot_gate/hotgate/bench/Replies" "outcomes" "[Lcom/example/hot_gate/hotgate/bench/Outcome;" .null) (F5_ : n0 ≤ p0) :
    MetFree l (⟨"com/example/hot_gate/hotgate/bench/Replies", "<init>", "(I)V"⟩ : MethodName) (head1 (Jvm.Cond.code (⟨"com/example/hot_gate/hotgate/bench/Replies", "<init>", "(I)V"⟩ : MethodName) prog_12_method_1_code 2 none :: ws) ({ frames := 2, cells := 4, slots := 10, locals := 26 } : Room)) (fun a U => a = #[(.ref p0), (.int (3 : Int32))] ∧ Z.Warmed39 U.vm ∧ U.heap = h0) (fun _ _ _ _ _ => True) (fun _ U o U' => ∃ v L, o = .returned v ∧ Qi3 Z p0 h0 n0 v U'.heap L ∧ FrameEnd U o U' L ({ frames := 2, cells := 4, slots := 10, locals := 26 } : Room).cells ({ frames := 2, cells := 4, slots := 10, locals := 26 } : Room).slots) := by
  refine MetFree.of_bodySF (plainFor_of_name pn_1) hisR ?_
  intro p e s m args below meth c s₁ Bd hml0 hP hK
  obtain ⟨rfl, hZ, hh⟩ := hP
  have hx := Bd.exec
  have hby := Bd.bytes
  have hml : c.maxLocals = 2 := hml0
  have hown : s.vm.findClass "com/example/hot_gate/hotgate/bench/Replies" = some m.cls := findClass_of_methodNamed Bd.named
  have hnm := (name_of_methodNamed Bd.named Bd.method).1
  have X0 : Stand p l e ({ frames := 2, cells := 4, slots := 10, locals := 26 } : Room) s m #[(.ref p0), (.int (3 : Int32))] below meth c s₁ [] 0 0 := Stand.of_body Bd
  have e0 : s₁.heap = h0 := by rw [← hh, Bd.state]; rfl
  have N0 := Fr.nil n0
  have s0 : Steps p.tables e below (s₁.setTop (entryFrame m #[(.ref p0), (.int (3 : Int32))] 2)) (s₁.setTop (mkF m 0 #[.val (.ref p0), .val (.int (3 : Int32))] [])) := castTop (ef_rmi3 m p0) (Steps.refl _)
  obtain ⟨T1, X1, e1, st1⟩ := initO X0 hx hZ hown (hw _ (List.mem_of_getElem? (i := 6) rfl)) (hw _ (List.mem_of_getElem? (i := 7) rfl)) (hw _ (List.mem_of_getElem? (i := 8) rfl)) e0 (g := (mkF m 1 #[.val (.ref p0), .val (.int (3 : Int32))] [(.ref p0)])) rfl (by rw [hml]; rfl) rfl (hb hby d1_1) (by decide) (W := 0) (by show 2 * 0 + _ ≤ _; exact Nat.le_of_eq rfl) (by decide)
  obtain ⟨T2, h2, X2, e2, E2, A2, D2, -, st2⟩ := newO X1 hx hZ hown (hw _ (List.mem_of_getElem? (i := 9) rfl)) (hw _ (List.mem_of_getElem? (i := 10) rfl)) (hw _ (List.mem_of_getElem? (i := 11) rfl)) e1 (g := (mkF m 5 #[.val (.ref p0), .val (.int (3 : Int32))] [(.ref p0)])) rfl (hb hby d1_5) (by decide) (by decide)
  obtain ⟨b2, g2⟩ : ∃ z, z = h0.size := ⟨_, rfl⟩
  rw [← g2] at A2 D2 st2
  have ne_p0_b2 : p0 ≠ b2 := Nat.ne_of_lt (Nat.lt_of_lt_of_le F0_.lt (Nat.le_of_eq g2.symm))
  have g_b2 : n0 ≤ b2 := Nat.le_trans (Nat.le_of_eq O0.1.symm) (Nat.le_trans O0.2.1 (Nat.le_of_eq g2.symm))
  have sz_b2 : h0.size ≤ b2 := Nat.le_trans (Keep.refl h0 [p0]).1 (Nat.le_of_eq g2.symm)
  have O2 := O0.ext E2
  have K2 : Keep h0 h2 [p0] := (Keep.refl h0 [p0]).ext E2
  obtain ⟨_, _, ⟨T3, L3, k3, n3⟩, -, X3, ⟨Lc3, hQ3, l3, y3, z3⟩, st3⟩ := X2.specialBack hx (y := (⟨"java/util/concurrent/atomic/AtomicReference", "<init>", "()V"⟩ : MethodName)) rfl hown (mvT hZ (hw _ (List.mem_of_getElem? (i := 12) rfl))) (mvT hZ (hw _ (List.mem_of_getElem? (i := 13) rfl))) (mvT hZ (hw _ (List.mem_of_getElem? (i := 14) rfl))) (by decide) (backOf (W := 2) (rm3 l Z a0 hw [] b2 h2 n0 O2 ) hZ (hw _ (List.mem_of_getElem? (i := 14) rfl)) (hw _ (List.mem_of_getElem? (i := 11) rfl)) (by decide) (by decide)) (g := (mkF m 9 #[.val (.ref p0), .val (.int (3 : Int32))] [(.ref b2), (.ref b2), (.ref p0)])) rfl (by rw [hml]; rfl) (Steps.refl _) (a := b2) (argsL := []) (rest := [(.ref b2), (.ref p0)]) (lenOf pd_rmi3_0 rfl) rfl (by show 2 * 0 + _ ≤ _; exact Nat.le_of_eq rfl) (hb hby d1_9) (fun _ _ => ⟨rfl, e2, (by decide : 1 + 0 ≤ _), (by decide : 1 + 0 ≤ _)⟩)
  dsimp only [Pt.U, Pt.locs, Pt.cells, Pt.slots] at X3 l3 y3 z3 st3 hQ3
  subst l3 y3 z3
  obtain ⟨rfl, Nq3, e3⟩ := hQ3
  have N3 := Fr.app N0 Nq3
  have c4 : Exa Z h2 p0 "com/example/hot_gate/hotgate/bench/Replies" := (F0_.ext E2)
  have c5 : Fld Z h2 p0 "com/example/hot_gate/hotgate/bench/Replies" "firstError" "Ljava/util/concurrent/atomic/AtomicReference;" .null := (F1_.ext E2)
  obtain ⟨T6, h6, X6, e6, W6, st6⟩ := putF X3 hx hZ hown (host := "") (Or.inl (hw _ (List.mem_of_getElem? (i := 16) rfl))) Via.refl e3 c5 c4 (Or.inr ⟨(hw _ (List.mem_of_getElem? (i := 17) rfl)), rfl, hnm⟩) (hw _ (List.mem_of_getElem? (i := 1) rfl)) (ty := (.object "java/util/concurrent/atomic/AtomicReference")) (by decide) rfl rfl (g := (mkF m 12 #[.val (.ref p0), .val (.int (3 : Int32))] [(.ref b2), (.ref p0)])) rfl rfl (hb hby d1_12)
  have Fw6 := c5.same W6
  have O6 := O2.wr W6 F5_
  have K6 : Keep h0 h6 [p0] := K2.wr W6 (Or.inl (List.mem_of_getElem? (i := 0) rfl))
  have N6 := Fr.snoc X6 N3 F5_
  obtain ⟨T7, h7, k7, X7, e7, E7, A7, st7⟩ := newP X6 hx hZ (hw _ (List.mem_of_getElem? (i := 18) rfl)) e6 (g := (mkF m 17 #[.val (.ref p0), .val (.int (3 : Int32))] [(.int (3 : Int32)), (.ref p0)])) rfl (hb hby d1_17) rfl (by decide) (cap := 3) (by decide) (by decide) (by decide) (by decide)
  obtain ⟨b7, g7⟩ : ∃ z, z = h6.size := ⟨_, rfl⟩
  rw [← g7] at A7 st7
  have c8 : Exa Z h6 p0 "com/example/hot_gate/hotgate/bench/Replies" := (c4.wr W6)
  have ne_p0_b7 : p0 ≠ b7 := Nat.ne_of_lt (Nat.lt_of_lt_of_le c8.lt (Nat.le_of_eq g7.symm))
  have c9 : Exa Z h6 b2 "java/util/concurrent/atomic/AtomicReference" := (A2.wr W6)
  have ne_b2_b7 : b2 ≠ b7 := Nat.ne_of_lt (Nat.lt_of_lt_of_le c9.lt (Nat.le_of_eq g7.symm))
  have g_b7 : n0 ≤ b7 := Nat.le_trans (Nat.le_of_eq O6.1.symm) (Nat.le_trans O6.2.1 (Nat.le_of_eq g7.symm))
  have sz_b7 : h0.size ≤ b7 := Nat.le_trans K6.1 (Nat.le_of_eq g7.symm)
  have O7 := O6.ext E7
  have K7 : Keep h0 h7 [p0] := K6.ext E7
  have V7 : Arv Z h7 b7 k7 .long (3 : Int32) [(.long (0 : Int64)), (.long (0 : Int64)), (.long (0 : Int64))] (.long (0 : Int64)) := (Arv.new A7 (by decide)).pad (pad_rep [] (.long (0 : Int64)) 3)
  have c10 : Exa Z h7 p0 "com/example/hot_gate/hotgate/bench/Replies" := (c8.ext E7)
  have c11 : Fld Z h7 p0 "com/example/hot_gate/hotgate/bench/Replies" "sentAt" "[J" .null := (((F2_.ext E2).other W6 (Or.inr (slot_ne (Or.inr (hw _ (List.mem_of_getElem? (i := 20) rfl))) (Or.inr (hw _ (List.mem_of_getElem? (i := 17) rfl))) (by decide) (t := (.array .long)) (t' := (.object "java/util/concurrent/atomic/AtomicReference")) (by decide) (by decide)))).ext E7)
  obtain ⟨T12, h12, X12, e12, W12, st12⟩ := putF X7 hx hZ hown (host := "") (Or.inl (hw _ (List.mem_of_getElem? (i := 19) rfl))) Via.refl e7 c11 c10 (Or.inr ⟨(hw _ (List.mem_of_getElem? (i := 20) rfl)), rfl, hnm⟩) (hw _ (List.mem_of_getElem? (i := 1) rfl)) (ty := (.array .long)) (by decide) rfl rfl (g := (mkF m 19 #[.val (.ref p0), .val (.int (3 : Int32))] [(.ref b7), (.ref p0)])) rfl rfl (hb hby d1_19)
  have Fw12 := c11.same W12
  have O12 := O7.wr W12 F5_
  have K12 : Keep h0 h12 [p0] := K7.wr W12 (Or.inl (List.mem_of_getElem? (i := 0) rfl))
  have N12 := Fr.snoc X12 N6 F5_
  obtain ⟨T13, h13, k13, X13, e13, E13, A13, st13⟩ := newP X12 hx hZ (hw _ (List.mem_of_getElem? (i := 18) rfl)) e12 (g := (mkF m 24 #[.val (.ref p0), .val (.int (3 : Int32))] [(.int (3 : Int32)), (.ref p0)])) rfl (hb hby d1_24) rfl (by decide) (cap := 3) (by decide) (by decide) (by decide) (by decide)
  obtain ⟨b13, g13⟩ : ∃ z, z = h12.size := ⟨_, rfl⟩
  rw [← g13] at A13 st13
  have c14 : Exa Z h12 p0 "com/example/hot_gate/hotgate/bench/Replies" := (c10.wr W12)
  have ne_p0_b13 : p0 ≠ b13 := Nat.ne_of_lt (Nat.lt_of_lt_of_le c14.lt (Nat.le_of_eq g13.symm))
  have c15 : Exa Z h12 b2 "java/util/concurrent/atomic/AtomicReference" := ((c9.ext E7).wr W12)
  have ne_b2_b13 : b2 ≠ b13 := Nat.ne_of_lt (Nat.lt_of_lt_of_le c15.lt (Nat.le_of_eq g13.symm))
  have c16 : Arv Z h12 b7 k7 .long (3 : Int32) [(.long (0 : Int64)), (.long (0 : Int64)), (.long (0 : Int64))] (.long (0 : Int64)) := (V7.other W12 (Ne.symm ne_p0_b7))
  have ne_b7_b13 : b7 ≠ b13 := Nat.ne_of_lt (Nat.lt_of_lt_of_le c16.lt (Nat.le_of_eq g13.symm))
  have g_b13 : n0 ≤ b13 := Nat.le_trans (Nat.le_of_eq O12.1.symm) (Nat.le_trans O12.2.1 (Nat.le_of_eq g13.symm))
  have sz_b13 : h0.size ≤ b13 := Nat.le_trans K12.1 (Nat.le_of_eq g13.symm)
  have O13 := O12.ext E13
  have K13 : Keep h0 h13 [p0] := K12.ext E13
  have V13 : Arv Z h13 b13 k13 .long (3 : Int32) [(.long (0 : Int64)), (.long (0 : Int64)), (.long (0 : Int64))] (.long (0 : Int64)) := (Arv.new A13 (by decide)).pad (pad_rep [] (.long (0 : Int64)) 3)
  have c17 : Exa Z h13 p0 "com/example/hot_gate/hotgate/bench/Replies" := (c14.ext E13)
  have c18 : Fld Z h13 p0 "com/example/hot_gate/hotgate/bench/Replies" "answeredAt" "[J" .null := (((((F3_.ext E2).other W6 (Or.inr (slot_ne (Or.inr (hw _ (List.mem_of_getElem? (i := 22) rfl))) (Or.inr (hw _ (List.mem_of_getElem? (i := 17) rfl))) (by decide) (t := (.array .long)) (t' := (.object "java/util/concurrent/atomic/AtomicReference")) (by decide) (by decide)))).ext E7).other W12 (Or.inr (slot_ne (Or.inr (hw _ (List.mem_of_getElem? (i := 22) rfl))) (Or.inr (hw _ (List.mem_of_getElem? (i := 20) rfl))) (by decide) (t := (.array .long)) (t' := (.array .long)) (by decide) (by decide)))).ext E13)
  obtain ⟨T19, h19, X19, e19, W19, st19⟩ := putF X13 hx hZ hown (host := "") (Or.inl (hw _ (List.mem_of_getElem? (i := 21) rfl))) Via.refl e13 c18 c17 (Or.inr ⟨(hw _ (List.mem_of_getElem? (i := 22) rfl)), rfl, hnm⟩) (hw _ (List.mem_of_getElem? (i := 1) rfl)) (ty := (.array .long)) (by decide) rfl rfl (g := (mkF m 26 #[.val (.ref p0), .val (.int (3 : Int32))] [(.ref b13), (.ref p0)])) rfl rfl (hb hby d1_26)
  have Fw19 := c18.same W19
  have O19 := O13.wr W19 F5_
  have K19 : Keep h0 h19 [p0] := K13.wr W19 (Or.inl (List.mem_of_getElem? (i := 0) rfl))
  have N19 := Fr.snoc X19 N12 F5_
  obtain ⟨T20, h20, k20, X20, e20, E20, A20, Ov20, st20⟩ := newR X19 hx hZ hown (hw _ (List.mem_of_getElem? (i := 23) rfl)) (hw _ (List.mem_of_getElem? (i := 24) rfl)) e19 (g := (mkF m 31 #[.val (.ref p0), .val (.int (3 : Int32))] [(.int (3 : Int32)), (.ref p0)])) rfl (hb hby d1_31) rfl (by decide) (cap := 3) (by decide) (by decide) (by decide) (by decide)
  obtain ⟨b20, g20⟩ : ∃ z, z = h19.size := ⟨_, rfl⟩
  rw [← g20] at A20 st20
  have c21 : Exa Z h19 p0 "com/example/hot_gate/hotgate/bench/Replies" := (c17.wr W19)
  have ne_p0_b20 : p0 ≠ b20 := Nat.ne_of_lt (Nat.lt_of_lt_of_le c21.lt (Nat.le_of_eq g20.symm))
  have c22 : Exa Z h19 b2 "java/util/concurrent/atomic/AtomicReference" := ((c15.ext E13).wr W19)
  have ne_b2_b20 : b2 ≠ b20 := Nat.ne_of_lt (Nat.lt_of_lt_of_le c22.lt (Nat.le_of_eq g20.symm))
  have c23 : Arv Z h19 b7 k7 .long (3 : Int32) [(.long (0 : Int64)), (.long (0 : Int64)), (.long (0 : Int64))] (.long (0 : Int64)) := ((c16.ext E13).other W19 (Ne.symm ne_p0_b7))
  have ne_b7_b20 : b7 ≠ b20 := Nat.ne_of_lt (Nat.lt_of_lt_of_le c23.lt (Nat.le_of_eq g20.symm))
  have c24 : Arv Z h19 b13 k13 .long (3 : Int32) [(.long (0 : Int64)), (.long (0 : Int64)), (.long (0 : Int64))] (.long (0 : Int64)) := (V13.other W19 (Ne.symm ne_p0_b13))
  have ne_b13_b20 : b13 ≠ b20 := Nat.ne_of_lt (Nat.lt_of_lt_of_le c24.lt (Nat.le_of_eq g20.symm))
  have g_b20 : n0 ≤ b20 := Nat.le_trans (Nat.le_of_eq O19.1.symm) (Nat.le_trans O19.2.1 (Nat.le_of_eq g20.symm))
  have sz_b20 : h0.size ≤ b20 := Nat.le_trans K19.1 (Nat.le_of_eq g20.symm)
  have O20 := O19.ext E20
  have K20 : Keep h0 h20 [p0] := K19.ext E20
  have V20 : Arv Z h20 b20 k20 (.object "com/example/hot_gate/hotgate/bench/Outcome") (3 : Int32) [.null, .null, .null] .null := (Arv.new A20 (by decide)).pad (pad_rep [] .null 3)
  have c25 : Exa Z h20 p0 "com/example/hot_gate/hotgate/bench/Replies" := (c21.ext E20)
  have c26 : Fld Z h20 p0 "com/example/hot_gate/hotgate/bench/Replies" "outcomes" "[Lcom/example/hot_gate/hotgate/bench/Outcome;" .null := (((((((F4_.ext E2).other W6 (Or.inr (slot_ne (Or.inr (hw _ (List.mem_of_getElem? (i := 26) rfl))) (Or.inr (hw _ (List.mem_of_getElem? (i := 17) rfl))) (by decide) (t := (.array (.object "com/example/hot_gate/hotgate/bench/Outcome"))) (t' := (.object "java/util/concurrent/atomic/AtomicReference")) (by decide) (by decide)))).ext E7).other W12 (Or.inr (slot_ne (Or.inr (hw _ (List.mem_of_getElem? (i := 26) rfl))) (Or.inr (hw _ (List.mem_of_getElem? (i := 20) rfl))) (by decide) (t := (.array (.object "com/example/hot_gate/hotgate/bench/Outcome"))) (t' := (.array .long)) (by decide) (by decide)))).ext E13).other W19 (Or.inr (slot_ne (Or.inr (hw _ (List.mem_of_getElem? (i := 26) rfl))) (Or.inr (hw _ (List.mem_of_getElem? (i := 22) rfl))) (by decide) (t := (.array (.object "com/example/hot_gate/hotgate/bench/Outcome"))) (t' := (.array .long)) (by decide) (by decide)))).ext E20)
  obtain ⟨T27, h27, X27, e27, W27, st27⟩ := putF X20 hx hZ hown (host := "") (Or.inl (hw _ (List.mem_of_getElem? (i := 25) rfl))) Via.refl e20 c26 c25 (Or.inr ⟨(hw _ (List.mem_of_getElem? (i := 26) rfl)), rfl, hnm⟩) (hw _ (List.mem_of_getElem? (i := 1) rfl)) (ty := (.array (.object "com/example/hot_gate/hotgate/bench/Outcome"))) (by decide) rfl rfl (g := (mkF m 34 #[.val (.ref p0), .val (.int (3 : Int32))] [(.ref b20), (.ref p0)])) rfl rfl (hb hby d1_34)
  have Fw27 := c26.same W27
  have O27 := O20.wr W27 F5_
  have K27 : Keep h0 h27 [p0] := K20.wr W27 (Or.inl (List.mem_of_getElem? (i := 0) rfl))
  have N27 := Fr.snoc X27 N19 F5_
  have s28 : Steps p.tables e below (s₁.setTop (entryFrame m #[(.ref p0), (.int (3 : Int32))] 2)) (T27.setTop (mkF m 37 #[.val (.ref p0), .val (.int (3 : Int32))] [])) := by
    refine s0.trans ?_
    show Steps p.tables e below (s₁.setTop (mkF m 0 #[.val (.ref p0), .val (.int (3 : Int32))] [])) _
    refine XS.aloadN X0.here hx rfl (hb hby d1_0) rfl rfl ?_
    show Steps p.tables e below (s₁.setTop (mkF m 1 #[.val (.ref p0), .val (.int (3 : Int32))] [(.ref p0)])) _
    refine st1 _ ?_
    show Steps p.tables e below (T1.setTop (mkF m 4 #[.val (.ref p0), .val (.int (3 : Int32))] [])) _
    refine XS.aloadN X1.here hx rfl (hb hby d1_4) rfl rfl ?_
    show Steps p.tables e below (T1.setTop (mkF m 5 #[.val (.ref p0), .val (.int (3 : Int32))] [(.ref p0)])) _
    refine st2 _ ?_
    show Steps p.tables e below (T2.setTop (mkF m 8 #[.val (.ref p0), .val (.int (3 : Int32))] [(.ref b2), (.ref p0)])) _
    refine XS.dup X2.here hx rfl (hb hby d1_8) rfl rfl ?_
    show Steps p.tables e below (T2.setTop (mkF m 9 #[.val (.ref p0), .val (.int (3 : Int32))] [(.ref b2), (.ref b2), (.ref p0)])) _
    refine st3.trans ?_
    show Steps p.tables e below (T3.setTop (mkF m 12 #[.val (.ref p0), .val (.int (3 : Int32))] [(.ref b2), (.ref p0)])) _
    refine st6 _ ?_
    show Steps p.tables e below (T6.setTop (mkF m 15 #[.val (.ref p0), .val (.int (3 : Int32))] [])) _
    refine XS.aloadN X6.here hx rfl (hb hby d1_15) rfl rfl ?_
    show Steps p.tables e below (T6.setTop (mkF m 16 #[.val (.ref p0), .val (.int (3 : Int32))] [(.ref p0)])) _
    refine XS.iloadN X6.here hx rfl (hb hby d1_16) rfl ?_
    show Steps p.tables e below (T6.setTop (mkF m 17 #[.val (.ref p0), .val (.int (3 : Int32))] [(.int (3 : Int32)), (.ref p0)])) _
    refine st7 _ ?_
    show Steps p.tables e below (T7.setTop (mkF m 19 #[.val (.ref p0), .val (.int (3 : Int32))] [(.ref b7), (.ref p0)])) _
    refine st12 _ ?_
    show Steps p.tables e below (T12.setTop (mkF m 22 #[.val (.ref p0), .val (.int (3 : Int32))] [])) _
    refine XS.aloadN X12.here hx rfl (hb hby d1_22) rfl rfl ?_
    show Steps p.tables e below (T12.setTop (mkF m 23 #[.val (.ref p0), .val (.int (3 : Int32))] [(.ref p0)])) _
    refine XS.iloadN X12.here hx rfl (hb hby d1_23) rfl ?_
    show Steps p.tables e below (T12.setTop (mkF m 24 #[.val (.ref p0), .val (.int (3 : Int32))] [(.int (3 : Int32)), (.ref p0)])) _
    refine st13 _ ?_
    show Steps p.tables e below (T13.setTop (mkF m 26 #[.val (.ref p0), .val (.int (3 : Int32))] [(.ref b13), (.ref p0)])) _
    refine st19 _ ?_
    show Steps p.tables e below (T19.setTop (mkF m 29 #[.val (.ref p0), .val (.int (3 : Int32))] [])) _
    refine XS.aloadN X19.here hx rfl (hb hby d1_29) rfl rfl ?_
    show Steps p.tables e below (T19.setTop (mkF m 30 #[.val (.ref p0), .val (.int (3 : Int32))] [(.ref p0)])) _
    refine XS.iloadN X19.here hx rfl (hb hby d1_30) rfl ?_
    show Steps p.tables e below (T19.setTop (mkF m 31 #[.val (.ref p0), .val (.int (3 : Int32))] [(.int (3 : Int32)), (.ref p0)])) _
    refine st20 _ ?_
    show Steps p.tables e below (T20.setTop (mkF m 34 #[.val (.ref p0), .val (.int (3 : Int32))] [(.ref b20), (.ref p0)])) _
    refine st27 _ ?_
    exact Steps.refl _
  have c29 : Exa Z h27 p0 "com/example/hot_gate/hotgate/bench/Replies" := (c25.wr W27)
  have c30 : Fld Z h27 p0 "com/example/hot_gate/hotgate/bench/Replies" "sentAt" "[J" (.ref b7) := ((((Fw12.ext E13).other W19 (Or.inr (slot_ne (Or.inr (hw _ (List.mem_of_getElem? (i := 20) rfl))) (Or.inr (hw _ (List.mem_of_getElem? (i := 22) rfl))) (by decide) (t := (.array .long)) (t' := (.array .long)) (by decide) (by decide)))).ext E20).other W27 (Or.inr (slot_ne (Or.inr (hw _ (List.mem_of_getElem? (i := 20) rfl))) (Or.inr (hw _ (List.mem_of_getElem? (i := 26) rfl))) (by decide) (t := (.array .long)) (t' := (.array (.object "com/example/hot_gate/hotgate/bench/Outcome"))) (by decide) (by decide))))
  have c31 : Fld Z h27 p0 "com/example/hot_gate/hotgate/bench/Replies" "answeredAt" "[J" (.ref b13) := ((Fw19.ext E20).other W27 (Or.inr (slot_ne (Or.inr (hw _ (List.mem_of_getElem? (i := 22) rfl))) (Or.inr (hw _ (List.mem_of_getElem? (i := 26) rfl))) (by decide) (t := (.array .long)) (t' := (.array (.object "com/example/hot_gate/hotgate/bench/Outcome"))) (by decide) (by decide))))
  have c32 : Arv Z h27 b7 k7 .long (3 : Int32) [(.long (0 : Int64)), (.long (0 : Int64)), (.long (0 : Int64))] (.long (0 : Int64)) := ((c23.ext E20).other W27 (Ne.symm ne_p0_b7))
  have c33 : Arv Z h27 b13 k13 .long (3 : Int32) [(.long (0 : Int64)), (.long (0 : Int64)), (.long (0 : Int64))] (.long (0 : Int64)) := ((c24.ext E20).other W27 (Ne.symm ne_p0_b13))
  have c34 : Arv Z h27 b20 k20 (.object "com/example/hot_gate/hotgate/bench/Outcome") (3 : Int32) [.null, .null, .null] .null := (V20.other W27 (Ne.symm ne_p0_b20))
  obtain ⟨fs, hr, hrun, hended, hW, hsame⟩ := X27.leave (v := none) (fun _ => rfl)
  refine ⟨_, _, s28.trans ?_, hrun, hended, _, _, rfl, ?_, ⟨_, rfl⟩, hW, hsame.mono (by decide) (by decide)⟩
  · show Steps p.tables e below (T27.setTop (mkF m 37 #[.val (.ref p0), .val (.int (3 : Int32))] [])) _
    exact X27.returnOut hx Bd.returns (hb hby d1_37) hr
  · show Qi3 Z p0 h0 n0 _ T27.heap _
    rw [e27]
    exact ⟨b7, b13, b20, k7, k13, k20, rfl, N27, K27, c29, c30, c31, Fw27, c32, c33, c34, sz_b7, sz_b13, sz_b20, ne_b7_b13, ne_b7_b20, ne_b13_b20⟩
theorem ef_rmr3_0 (m : MethodId) (p0 : Addr) (p2 : Int64) (p3 : Int64) : entryFrame m #[(.ref p0), (.int (0 : Int32)), (.long p2), (.long p3), .null, .null] 8 = mkF m 0 #[.val (.ref p0), .val (.int (0 : Int32)), .val (.long p2), .second, .val (.long p3), .second, .val .null, .val .null] [] := by first | (simp [entryFrame, mkF, argsToLocals, Value.category]; done) | rfl
def Qr3_0 (Z : State) (p0 : Addr) (p2 : Int64) (p3 : Int64) (b1 : Addr) (b2 : Addr) (b3 : Addr) (k1 : ClassId) (k2 : ClassId) (k3 : ClassId) (x0 : Int64) (x1 : Int64) (x2 : Int64) (y0 : Int64) (y1 : Int64) (y2 : Int64) (h0 : Heap) (n0 : Nat) (v : Option Value) (h : Heap) (L : List Loc) : Prop := v = none ∧ Fr n0 L ∧ Keep h0 h [b1, b2, b3] ∧ (Arv Z h b1 k1 .long (3 : Int32) [(.long p2), (.long x1), (.long x2)] (.long (0 : Int64))) ∧ (Arv Z h b2 k2 .long (3 : Int32) [(.long p3), (.long y1), (.long y2)] (.long (0 : Int64))) ∧ (Arv Z h b3 k3 (.object "com/example/hot_gate/hotgate/bench/Outcome") (3 : Int32) [.null, .null, .null] .null)
set_option maxRecDepth 65536 in
set_option maxHeartbeats 40000000 in
theorem rmr3_0 (l : Launch) (Z : State) (a0 : Array Value) (hw : ∀ d ∈ tables_1, d.before a0 Z = true) (ws : List Jvm.Cond) (p0 : Addr) (p2 : Int64) (p3 : Int64) (b1 : Addr) (b2 : Addr) (b3 : Addr) (k1 : ClassId) (k2 : ClassId) (k3 : ClassId) (x0 : Int64) (x1 : Int64) (x2 : Int64) (y0 : Int64) (y1 : Int64) (y2 : Int64) (h0 : Heap) (n0 : Nat) (O0 : Old Z n0 h0) (F0_ : Fld Z h0 p0 "com/example/hot_gate/hotgate/bench/Replies" "sentAt" "[J" (.ref b1)) (F1_ : Fld Z h0 p0 "com/example/hot_gate/hotgate/bench/Replies" "answeredAt" "[J" (.ref b2)) (F2_ : Fld Z h0 p0 "com/example/hot_gate/hotgate/bench/Replies" "outcomes" "[Lcom/example/hot_gate/hotgate/bench/Outcome;" (.ref b3)) (F3_ : Arv Z h0 b1 k1 .long (3 : Int32) [(.long x0), (.long x1), (.long x2)] (.long (0 : Int64))) (F4_ : Arv Z h0 b2 k2 .long (3 : Int32) [(.long y0), (.long y1), (.long y2)] (.long (0 : Int64))) (F5_ : Arv Z h0 b3 k3 (.object "com/example/hot_gate/hotgate/bench/Outcome") (3 : Int32) [.null, .null, .null] .null) (F6_ : n0 ≤ b1) (F7_ : n0 ≤ b2) (F8_ : n0 ≤ b3) (F9_ : b1 ≠ b2) (F10_ : b1 ≠ b3) (F11_ : b2 ≠ b3) (F12_ : p0 ≠ b1) (F13_ : p0 ≠ b2) (F14_ : p0 ≠ b3) :
    MetFree l (⟨"com/example/hot_gate/hotgate/bench/Replies", "record", "(IJJLcom/example/hot_gate/hotgate/bench/Outcome;Ljava/lang/String;)V"⟩ : MethodName) (head1 (Jvm.Cond.code (⟨"com/example/hot_gate/hotgate/bench/Replies", "record", "(IJJLcom/example/hot_gate/hotgate/bench/Outcome;Ljava/lang/String;)V"⟩ : MethodName) prog_12_method_3_code 8 none :: ws) ({ frames := 0, cells := 0, slots := 0, locals := 0 } : Room)) (fun a U => a = #[(.ref p0), (.int (0 : Int32)), (.long p2), (.long p3), .null, .null] ∧ Z.Warmed39 U.vm ∧ U.heap = h0) (fun _ _ _ _ _ => True) (fun _ U o U' => ∃ v L, o = .returned v ∧ Qr3_0 Z p0 p2 p3 b1 b2 b3 k1 k2 k3 x0 x1 x2 y0 y1 y2 h0 n0 v U'.heap L ∧ FrameEnd U o U' L ({ frames := 0, cells := 0, slots := 0, locals := 0 } : Room).cells ({ frames := 0, cells := 0, slots := 0, locals := 0 } : Room).slots) := by
  refine MetFree.of_bodySF (plainFor_of_name pn_1) hisR ?_
  intro p e s m args below meth c s₁ Bd hml0 hP hK
  obtain ⟨rfl, hZ, hh⟩ := hP
  have hx := Bd.exec
  have hby := Bd.bytes
  have hml : c.maxLocals = 8 := hml0
  have hown : s.vm.findClass "com/example/hot_gate/hotgate/bench/Replies" = some m.cls := findClass_of_methodNamed Bd.named
  have hnm := (name_of_methodNamed Bd.named Bd.method).1
  have X0 : Stand p l e ({ frames := 0, cells := 0, slots := 0, locals := 0 } : Room) s m #[(.ref p0), (.int (0 : Int32)), (.long p2), (.long p3), .null, .null] below meth c s₁ [] 0 0 := Stand.of_body Bd
  have e0 : s₁.heap = h0 := by rw [← hh, Bd.state]; rfl
  have N0 := Fr.nil n0
  have s0 : Steps p.tables e below (s₁.setTop (entryFrame m #[(.ref p0), (.int (0 : Int32)), (.long p2), (.long p3), .null, .null] 8)) (s₁.setTop (mkF m 0 #[.val (.ref p0), .val (.int (0 : Int32)), .val (.long p2), .second, .val (.long p3), .second, .val .null, .val .null] [])) := castTop (ef_rmr3_0 m p0 p2 p3) (Steps.refl _)
  obtain ⟨T1, X1, e1, st1⟩ := getF X0 hx hZ hown (host := "") (Or.inl (hw _ (List.mem_of_getElem? (i := 19) rfl))) Via.refl e0 F0_ (g := (mkF m 1 #[.val (.ref p0), .val (.int (0 : Int32)), .val (.long p2), .second, .val (.long p3), .second, .val .null, .val .null] [(.ref p0)])) rfl rfl (hb hby d5_1)
  obtain ⟨cla2, Ara2, qa2, Sa2, Za2, Ha2, Ga2⟩ := id F3_
  have hin3 : ¬ ((0 : Int32) < 0 ∨ cla2.slots.size ≤ ((0 : Int32)).toNatClampNeg) := inb_of Sa2 ⟨by decide, by decide⟩
  obtain ⟨T4, h4, X4, e4, W4, st4⟩ := stJ X1 hx hZ e1 Ara2 (j := (0 : Int32)) hin3 (g := (mkF m 6 #[.val (.ref p0), .val (.int (0 : Int32)), .val (.long p2), .second, .val (.long p3), .second, .val .null, .val .null] [(.long p2), (.int (0 : Int32)), (.ref b1)])) rfl rfl (hb hby d5_6)
  have O4 := O0.wr W4 F6_
  have K4 : Keep h0 h4 [b1, b2, b3] := (Keep.refl h0 [b1, b2, b3]).wr W4 (Or.inl (List.mem_of_getElem? (i := 0) rfl))
  have N4 := Fr.snoc X4 N0 F6_
  have V4 : Arv Z h4 b1 k1 .long (3 : Int32) [(.long p2), (.long x1), (.long x2)] (.long (0 : Int64)) := Arv.set Ara2 qa2 Sa2 Za2 Ha2 Ga2 rfl W4 0 rfl (Nat.le_of_ble_eq_true rfl)
  have c5 : Fld Z h4 p0 "com/example/hot_gate/hotgate/bench/Replies" "answeredAt" "[J" (.ref b2) := (F1_.other W4 (Or.inl F12_))
  obtain ⟨T6, X6, e6, st6⟩ := getF X4 hx hZ hown (host := "") (Or.inl (hw _ (List.mem_of_getElem? (i := 21) rfl))) Via.refl e4 c5 (g := (mkF m 8 #[.val (.ref p0), .val (.int (0 : Int32)), .val (.long p2), .second, .val (.long p3), .second, .val .null, .val .null] [(.ref p0)])) rfl rfl (hb hby d5_8)
  have c7 : Arv Z h4 b2 k2 .long (3 : Int32) [(.long y0), (.long y1), (.long y2)] (.long (0 : Int64)) := (F4_.other W4 (Ne.symm F9_))
  obtain ⟨cla8, Ara8, qa8, Sa8, Za8, Ha8, Ga8⟩ := id c7
  have hin9 : ¬ ((0 : Int32) < 0 ∨ cla8.slots.size ≤ ((0 : Int32)).toNatClampNeg) := inb_of Sa8 ⟨by decide, by decide⟩
  obtain ⟨T10, h10, X10, e10, W10, st10⟩ := stJ X6 hx hZ e6 Ara8 (j := (0 : Int32)) hin9 (g := (mkF m 14 #[.val (.ref p0), .val (.int (0 : Int32)), .val (.long p2), .second, .val (.long p3), .second, .val .null, .val .null] [(.long p3), (.int (0 : Int32)), (.ref b2)])) rfl rfl (hb hby d5_14)
  have O10 := O4.wr W10 F7_
  have K10 : Keep h0 h10 [b1, b2, b3] := K4.wr W10 (Or.inl (List.mem_of_getElem? (i := 1) rfl))
  have N10 := Fr.snoc X10 N4 F7_
  have V10 : Arv Z h10 b2 k2 .long (3 : Int32) [(.long p3), (.long y1), (.long y2)] (.long (0 : Int64)) := Arv.set Ara8 qa8 Sa8 Za8 Ha8 Ga8 rfl W10 0 rfl (Nat.le_of_ble_eq_true rfl)
  have c11 : Fld Z h10 p0 "com/example/hot_gate/hotgate/bench/Replies" "outcomes" "[Lcom/example/hot_gate/hotgate/bench/Outcome;" (.ref b3) := ((F2_.other W4 (Or.inl F12_)).other W10 (Or.inl F13_))
  obtain ⟨T12, X12, e12, st12⟩ := getF X10 hx hZ hown (host := "") (Or.inl (hw _ (List.mem_of_getElem? (i := 25) rfl))) Via.refl e10 c11 (g := (mkF m 16 #[.val (.ref p0), .val (.int (0 : Int32)), .val (.long p2), .second, .val (.long p3), .second, .val .null, .val .null] [(.ref p0)])) rfl rfl (hb hby d5_16)
  have c13 : Arv Z h10 b3 k3 (.object "com/example/hot_gate/hotgate/bench/Outcome") (3 : Int32) [.null, .null, .null] .null := ((F5_.other W4 (Ne.symm F10_)).other W10 (Ne.symm F11_))
  obtain ⟨cla14, Ara14, qa14, Sa14, Za14, Ha14, Ga14⟩ := id c13
  have hin15 : ¬ ((0 : Int32) < 0 ∨ cla14.slots.size ≤ ((0 : Int32)).toNatClampNeg) := inb_of Sa14 ⟨by decide, by decide⟩
  obtain ⟨T16, h16, X16, e16, W16, st16⟩ := stR X12 hx hZ e12 Ara14 (j := (0 : Int32)) hin15 rfl (Or.inl rfl) (g := (mkF m 22 #[.val (.ref p0), .val (.int (0 : Int32)), .val (.long p2), .second, .val (.long p3), .second, .val .null, .val .null] [.null, (.int (0 : Int32)), (.ref b3)])) rfl rfl (hb hby d5_22)
  have O16 := O10.wr W16 F8_
  have K16 : Keep h0 h16 [b1, b2, b3] := K10.wr W16 (Or.inl (List.mem_of_getElem? (i := 2) rfl))
  have N16 := Fr.snoc X16 N10 F8_
  have V16 : Arv Z h16 b3 k3 (.object "com/example/hot_gate/hotgate/bench/Outcome") (3 : Int32) [.null, .null, .null] .null := Arv.set Ara14 qa14 Sa14 Za14 Ha14 Ga14 rfl W16 0 rfl (Nat.le_of_ble_eq_true rfl)
  have s17 : Steps p.tables e below (s₁.setTop (entryFrame m #[(.ref p0), (.int (0 : Int32)), (.long p2), (.long p3), .null, .null] 8)) (T16.setTop (mkF m 39 #[.val (.ref p0), .val (.int (0 : Int32)), .val (.long p2), .second, .val (.long p3), .second, .val .null, .val .null] [])) := by
    refine s0.trans ?_
    show Steps p.tables e below (s₁.setTop (mkF m 0 #[.val (.ref p0), .val (.int (0 : Int32)), .val (.long p2), .second, .val (.long p3), .second, .val .null, .val .null] [])) _
    refine XS.aloadN X0.here hx rfl (hb hby d5_0) rfl rfl ?_
    show Steps p.tables e below (s₁.setTop (mkF m 1 #[.val (.ref p0), .val (.int (0 : Int32)), .val (.long p2), .second, .val (.long p3), .second, .val .null, .val .null] [(.ref p0)])) _
    refine st1 _ ?_
    show Steps p.tables e below (T1.setTop (mkF m 4 #[.val (.ref p0), .val (.int (0 : Int32)), .val (.long p2), .second, .val (.long p3), .second, .val .null, .val .null] [(.ref b1)])) _
    refine XS.iloadN X1.here hx rfl (hb hby d5_4) rfl ?_
    show Steps p.tables e below (T1.setTop (mkF m 5 #[.val (.ref p0), .val (.int (0 : Int32)), .val (.long p2), .second, .val (.long p3), .second, .val .null, .val .null] [(.int (0 : Int32)), (.ref b1)])) _
    refine XS.lloadN X1.here hx rfl (hb hby d5_5) rfl ?_
    show Steps p.tables e below (T1.setTop (mkF m 6 #[.val (.ref p0), .val (.int (0 : Int32)), .val (.long p2), .second, .val (.long p3), .second, .val .null, .val .null] [(.long p2), (.int (0 : Int32)), (.ref b1)])) _
    refine st4 _ ?_
    show Steps p.tables e below (T4.setTop (mkF m 7 #[.val (.ref p0), .val (.int (0 : Int32)), .val (.long p2), .second, .val (.long p3), .second, .val .null, .val .null] [])) _
    refine XS.aloadN X4.here hx rfl (hb hby d5_7) rfl rfl ?_
    show Steps p.tables e below (T4.setTop (mkF m 8 #[.val (.ref p0), .val (.int (0 : Int32)), .val (.long p2), .second, .val (.long p3), .second, .val .null, .val .null] [(.ref p0)])) _
    refine st6 _ ?_
    show Steps p.tables e below (T6.setTop (mkF m 11 #[.val (.ref p0), .val (.int (0 : Int32)), .val (.long p2), .second, .val (.long p3), .second, .val .null, .val .null] [(.ref b2)])) _
    refine XS.iloadN X6.here hx rfl (hb hby d5_11) rfl ?_
    show Steps p.tables e below (T6.setTop (mkF m 12 #[.val (.ref p0), .val (.int (0 : Int32)), .val (.long p2), .second, .val (.long p3), .second, .val .null, .val .null] [(.int (0 : Int32)), (.ref b2)])) _
    refine XS.lload X6.here hx rfl (hb hby d5_12) rfl ?_
    show Steps p.tables e below (T6.setTop (mkF m 14 #[.val (.ref p0), .val (.int (0 : Int32)), .val (.long p2), .second, .val (.long p3), .second, .val .null, .val .null] [(.long p3), (.int (0 : Int32)), (.ref b2)])) _
    refine st10 _ ?_
    show Steps p.tables e below (T10.setTop (mkF m 15 #[.val (.ref p0), .val (.int (0 : Int32)), .val (.long p2), .second, .val (.long p3), .second, .val .null, .val .null] [])) _
    refine XS.aloadN X10.here hx rfl (hb hby d5_15) rfl rfl ?_
    show Steps p.tables e below (T10.setTop (mkF m 16 #[.val (.ref p0), .val (.int (0 : Int32)), .val (.long p2), .second, .val (.long p3), .second, .val .null, .val .null] [(.ref p0)])) _
    refine st12 _ ?_
    show Steps p.tables e below (T12.setTop (mkF m 19 #[.val (.ref p0), .val (.int (0 : Int32)), .val (.long p2), .second, .val (.long p3), .second, .val .null, .val .null] [(.ref b3)])) _
    refine XS.iloadN X12.here hx rfl (hb hby d5_19) rfl ?_
    show Steps p.tables e below (T12.setTop (mkF m 20 #[.val (.ref p0), .val (.int (0 : Int32)), .val (.long p2), .second, .val (.long p3), .second, .val .null, .val .null] [(.int (0 : Int32)), (.ref b3)])) _
    refine XS.aload X12.here hx rfl (hb hby d5_20) rfl rfl ?_
    show Steps p.tables e below (T12.setTop (mkF m 22 #[.val (.ref p0), .val (.int (0 : Int32)), .val (.long p2), .second, .val (.long p3), .second, .val .null, .val .null] [.null, (.int (0 : Int32)), (.ref b3)])) _
    refine st16 _ ?_
    show Steps p.tables e below (T16.setTop (mkF m 23 #[.val (.ref p0), .val (.int (0 : Int32)), .val (.long p2), .second, .val (.long p3), .second, .val .null, .val .null] [])) _
    refine XS.aload X16.here hx rfl (hb hby d5_23) rfl rfl ?_
    show Steps p.tables e below (T16.setTop (mkF m 25 #[.val (.ref p0), .val (.int (0 : Int32)), .val (.long p2), .second, .val (.long p3), .second, .val .null, .val .null] [.null])) _
    refine XS.ifnullYes X16.here hx rfl (pc0 := 25) (pc' := 39) rfl (hb hby d5_25) rfl (by decide) (by decide) ?_
    exact Steps.refl _
  have c18 : Arv Z h16 b1 k1 .long (3 : Int32) [(.long p2), (.long x1), (.long x2)] (.long (0 : Int64)) := ((V4.other W10 F9_).other W16 F10_)
  have c19 : Arv Z h16 b2 k2 .long (3 : Int32) [(.long p3), (.long y1), (.long y2)] (.long (0 : Int64)) := (V10.other W16 F11_)
  obtain ⟨fs, hr, hrun, hended, hW, hsame⟩ := X16.leave (v := none) (fun _ => rfl)
  refine ⟨_, _, s17.trans ?_, hrun, hended, _, _, rfl, ?_, ⟨_, rfl⟩, hW, hsame.mono (by decide) (by decide)⟩
  · show Steps p.tables e below (T16.setTop (mkF m 39 #[.val (.ref p0), .val (.int (0 : Int32)), .val (.long p2), .second, .val (.long p3), .second, .val .null, .val .null] [])) _
    exact X16.returnOut hx Bd.returns (hb hby d5_39) hr
  · show Qr3_0 Z p0 p2 p3 b1 b2 b3 k1 k2 k3 x0 x1 x2 y0 y1 y2 h0 n0 _ T16.heap _
    rw [e16]
    exact ⟨rfl, N16, K16, c18, c19, V16⟩
theorem ef_rmr3_1 (m : MethodId) (p0 : Addr) (p2 : Int64) (p3 : Int64) : entryFrame m #[(.ref p0), (.int (1 : Int32)), (.long p2), (.long p3), .null, .null] 8 = mkF m 0 #[.val (.ref p0), .val (.int (1 : Int32)), .val (.long p2), .second, .val (.long p3), .second, .val .null, .val .null] [] := by first | (simp [entryFrame, mkF, argsToLocals, Value.category]; done) | rfl
def Qr3_1 (Z : State) (p0 : Addr) (p2 : Int64) (p3 : Int64) (b1 : Addr) (b2 : Addr) (b3 : Addr) (k1 : ClassId) (k2 : ClassId) (k3 : ClassId) (x0 : Int64) (x1 : Int64) (x2 : Int64) (y0 : Int64) (y1 : Int64) (y2 : Int64) (h0 : Heap) (n0 : Nat) (v : Option Value) (h : Heap) (L : List Loc) : Prop := v = none ∧ Fr n0 L ∧ Keep h0 h [b1, b2, b3] ∧ (Arv Z h b1 k1 .long (3 : Int32) [(.long x0), (.long p2), (.long x2)] (.long (0 : Int64))) ∧ (Arv Z h b2 k2 .long (3 : Int32) [(.long y0), (.long p3), (.long y2)] (.long (0 : Int64))) ∧ (Arv Z h b3 k3 (.object "com/example/hot_gate/hotgate/bench/Outcome") (3 : Int32) [.null, .null, .null] .null)
set_option maxRecDepth 65536 in
set_option maxHeartbeats 40000000 in
theorem rmr3_1 (l : Launch) (Z : State) (a0 : Array Value) (hw : ∀ d ∈ tables_1, d.before a0 Z = true) (ws : List Jvm.Cond) (p0 : Addr) (p2 : Int64) (p3 : Int64) (b1 : Addr) (b2 : Addr) (b3 : Addr) (k1 : ClassId) (k2 : ClassId) (k3 : ClassId) (x0 : Int64) (x1 : Int64) (x2 : Int64) (y0 : Int64) (y1 : Int64) (y2 : Int64) (h0 : Heap) (n0 : Nat) (O0 : Old Z n0 h0) (F0_ : Fld Z h0 p0 "com/example/hot_gate/hotgate/bench/Replies" "sentAt" "[J" (.ref b1)) (F1_ : Fld Z h0 p0 "com/example/hot_gate/hotgate/bench/Replies" "answeredAt" "[J" (.ref b2)) (F2_ : Fld Z h0 p0 "com/example/hot_gate/hotgate/bench/Replies" "outcomes" "[Lcom/example/hot_gate/hotgate/bench/Outcome;" (.ref b3)) (F3_ : Arv Z h0 b1 k1 .long (3 : Int32) [(.long x0), (.long x1), (.long x2)] (.long (0 : Int64))) (F4_ : Arv Z h0 b2 k2 .long (3 : Int32) [(.long y0), (.long y1), (.long y2)] (.long (0 : Int64))) (F5_ : Arv Z h0 b3 k3 (.object "com/example/hot_gate/hotgate/bench/Outcome") (3 : Int32) [.null, .null, .null] .null) (F6_ : n0 ≤ b1) (F7_ : n0 ≤ b2) (F8_ : n0 ≤ b3) (F9_ : b1 ≠ b2) (F10_ : b1 ≠ b3) (F11_ : b2 ≠ b3) (F12_ : p0 ≠ b1) (F13_ : p0 ≠ b2) (F14_ : p0 ≠ b3) :
    MetFree l (⟨"com/example/hot_gate/hotgate/bench/Replies", "record", "(IJJLcom/example/hot_gate/hotgate/bench/Outcome;Ljava/lang/String;)V"⟩ : MethodName) (head1 (Jvm.Cond.code (⟨"com/example/hot_gate/hotgate/bench/Replies", "record", "(IJJLcom/example/hot_gate/hotgate/bench/Outcome;Ljava/lang/String;)V"⟩ : MethodName) prog_12_method_3_code 8 none :: ws) ({ frames := 0, cells := 0, slots := 0, locals := 0 } : Room)) (fun a U => a = #[(.ref p0), (.int (1 : Int32)), (.long p2), (.long p3), .null, .null] ∧ Z.Warmed39 U.vm ∧ U.heap = h0) (fun _ _ _ _ _ => True) (fun _ U o U' => ∃ v L, o = .returned v ∧ Qr3_1 Z p0 p2 p3 b1 b2 b3 k1 k2 k3 x0 x1 x2 y0 y1 y2 h0 n0 v U'.heap L ∧ FrameEnd U o U' L ({ frames := 0, cells := 0, slots := 0, locals := 0 } : Room).cells ({ frames := 0, cells := 0, slots := 0, locals := 0 } : Room).slots) := by
  refine MetFree.of_bodySF (plainFor_of_name pn_1) hisR ?_
  intro p e s m args below meth c s₁ Bd hml0 hP hK
  obtain ⟨rfl, hZ, hh⟩ := hP
  have hx := Bd.exec
  have hby := Bd.bytes
  have hml : c.maxLocals = 8 := hml0
  have hown : s.vm.findClass "com/example/hot_gate/hotgate/bench/Replies" = some m.cls := findClass_of_methodNamed Bd.named
  have hnm := (name_of_methodNamed Bd.named Bd.method).1
  have X0 : Stand p l e ({ frames := 0, cells := 0, slots := 0, locals := 0 } : Room) s m #[(.ref p0), (.int (1 : Int32)), (.long p2), (.long p3), .null, .null] below meth c s₁ [] 0 0 := Stand.of_body Bd
  have e0 : s₁.heap = h0 := by rw [← hh, Bd.state]; rfl
  have N0 := Fr.nil n0
  have s0 : Steps p.tables e below (s₁.setTop (entryFrame m #[(.ref p0), (.int (1 : Int32)), (.long p2), (.long p3), .null, .null] 8)) (s₁.setTop (mkF m 0 #[.val (.ref p0), .val (.int (1 : Int32)), .val (.long p2), .second, .val (.long p3), .second, .val .null, .val .null] [])) := castTop (ef_rmr3_1 m p0 p2 p3) (Steps.refl _)
  obtain ⟨T1, X1, e1, st1⟩ := getF X0 hx hZ hown (host := "") (Or.inl (hw _ (List.mem_of_getElem? (i := 19) rfl))) Via.refl e0 F0_ (g := (mkF m 1 #[.val (.ref p0), .val (.int (1 : Int32)), .val (.long p2), .second, .val (.long p3), .second, .val .null, .val .null] [(.ref p0)])) rfl rfl (hb hby d5_1)
  obtain ⟨cla2, Ara2, qa2, Sa2, Za2, Ha2, Ga2⟩ := id F3_
  have hin3 : ¬ ((1 : Int32) < 0 ∨ cla2.slots.size ≤ ((1 : Int32)).toNatClampNeg) := inb_of Sa2 ⟨by decide, by decide⟩
  obtain ⟨T4, h4, X4, e4, W4, st4⟩ := stJ X1 hx hZ e1 Ara2 (j := (1 : Int32)) hin3 (g := (mkF m 6 #[.val (.ref p0), .val (.int (1 : Int32)), .val (.long p2), .second, .val (.long p3), .second, .val .null, .val .null] [(.long p2), (.int (1 : Int32)), (.ref b1)])) rfl rfl (hb hby d5_6)
  have O4 := O0.wr W4 F6_
  have K4 : Keep h0 h4 [b1, b2, b3] := (Keep.refl h0 [b1, b2, b3]).wr W4 (Or.inl (List.mem_of_getElem? (i := 0) rfl))
  have N4 := Fr.snoc X4 N0 F6_
  have V4 : Arv Z h4 b1 k1 .long (3 : Int32) [(.long x0), (.long p2), (.long x2)] (.long (0 : Int64)) := Arv.set Ara2 qa2 Sa2 Za2 Ha2 Ga2 rfl W4 1 rfl (Nat.le_of_ble_eq_true rfl)
  have c5 : Fld Z h4 p0 "com/example/hot_gate/hotgate/bench/Replies" "answeredAt" "[J" (.ref b2) := (F1_.other W4 (Or.inl F12_))
  obtain ⟨T6, X6, e6, st6⟩ := getF X4 hx hZ hown (host := "") (Or.inl (hw _ (List.mem_of_getElem? (i := 21) rfl))) Via.refl e4 c5 (g := (mkF m 8 #[.val (.ref p0), .val (.int (1 : Int32)), .val (.long p2), .second, .val (.long p3), .second, .val .null, .val .null] [(.ref p0)])) rfl rfl (hb hby d5_8)
  have c7 : Arv Z h4 b2 k2 .long (3 : Int32) [(.long y0), (.long y1), (.long y2)] (.long (0 : Int64)) := (F4_.other W4 (Ne.symm F9_))
  obtain ⟨cla8, Ara8, qa8, Sa8, Za8, Ha8, Ga8⟩ := id c7
  have hin9 : ¬ ((1 : Int32) < 0 ∨ cla8.slots.size ≤ ((1 : Int32)).toNatClampNeg) := inb_of Sa8 ⟨by decide, by decide⟩
  obtain ⟨T10, h10, X10, e10, W10, st10⟩ := stJ X6 hx hZ e6 Ara8 (j := (1 : Int32)) hin9 (g := (mkF m 14 #[.val (.ref p0), .val (.int (1 : Int32)), .val (.long p2), .second, .val (.long p3), .second, .val .null, .val .null] [(.long p3), (.int (1 : Int32)), (.ref b2)])) rfl rfl (hb hby d5_14)
  have O10 := O4.wr W10 F7_
  have K10 : Keep h0 h10 [b1, b2, b3] := K4.wr W10 (Or.inl (List.mem_of_getElem? (i := 1) rfl))
  have N10 := Fr.snoc X10 N4 F7_
  have V10 : Arv Z h10 b2 k2 .long (3 : Int32) [(.long y0), (.long p3), (.long y2)] (.long (0 : Int64)) := Arv.set Ara8 qa8 Sa8 Za8 Ha8 Ga8 rfl W10 1 rfl (Nat.le_of_ble_eq_true rfl)
  have c11 : Fld Z h10 p0 "com/example/hot_gate/hotgate/bench/Replies" "outcomes" "[Lcom/example/hot_gate/hotgate/bench/Outcome;" (.ref b3) := ((F2_.other W4 (Or.inl F12_)).other W10 (Or.inl F13_))
  obtain ⟨T12, X12, e12, st12⟩ := getF X10 hx hZ hown (host := "") (Or.inl (hw _ (List.mem_of_getElem? (i := 25) rfl))) Via.refl e10 c11 (g := (mkF m 16 #[.val (.ref p0), .val (.int (1 : Int32)), .val (.long p2), .second, .val (.long p3), .second, .val .null, .val .null] [(.ref p0)])) rfl rfl (hb hby d5_16)
  have c13 : Arv Z h10 b3 k3 (.object "com/example/hot_gate/hotgate/bench/Outcome") (3 : Int32) [.null, .null, .null] .null := ((F5_.other W4 (Ne.symm F10_)).other W10 (Ne.symm F11_))
  obtain ⟨cla14, Ara14, qa14, Sa14, Za14, Ha14, Ga14⟩ := id c13
  have hin15 : ¬ ((1 : Int32) < 0 ∨ cla14.slots.size ≤ ((1 : Int32)).toNatClampNeg) := inb_of Sa14 ⟨by decide, by decide⟩
  obtain ⟨T16, h16, X16, e16, W16, st16⟩ := stR X12 hx hZ e12 Ara14 (j := (1 : Int32)) hin15 rfl (Or.inl rfl) (g := (mkF m 22 #[.val (.ref p0), .val (.int (1 : Int32)), .val (.long p2), .second, .val (.long p3), .second, .val .null, .val .null] [.null, (.int (1 : Int32)), (.ref b3)])) rfl rfl (hb hby d5_22)
  have O16 := O10.wr W16 F8_
  have K16 : Keep h0 h16 [b1, b2, b3] := K10.wr W16 (Or.inl (List.mem_of_getElem? (i := 2) rfl))
  have N16 := Fr.snoc X16 N10 F8_
  have V16 : Arv Z h16 b3 k3 (.object "com/example/hot_gate/hotgate/bench/Outcome") (3 : Int32) [.null, .null, .null] .null := Arv.set Ara14 qa14 Sa14 Za14 Ha14 Ga14 rfl W16 1 rfl (Nat.le_of_ble_eq_true rfl)
  have s17 : Steps p.tables e below (s₁.setTop (entryFrame m #[(.ref p0), (.int (1 : Int32)), (.long p2), (.long p3), .null, .null] 8)) (T16.setTop (mkF m 39 #[.val (.ref p0), .val (.int (1 : Int32)), .val (.long p2), .second, .val (.long p3), .second, .val .null, .val .null] [])) := by
    refine s0.trans ?_
    show Steps p.tables e below (s₁.setTop (mkF m 0 #[.val (.ref p0), .val (.int (1 : Int32)), .val (.long p2), .second, .val (.long p3), .second, .val .null, .val .null] [])) _
    refine XS.aloadN X0.here hx rfl (hb hby d5_0) rfl rfl ?_
    show Steps p.tables e below (s₁.setTop (mkF m 1 #[.val (.ref p0), .val (.int (1 : Int32)), .val (.long p2), .second, .val (.long p3), .second, .val .null, .val .null] [(.ref p0)])) _
    refine st1 _ ?_
    show Steps p.tables e below (T1.setTop (mkF m 4 #[.val (.ref p0), .val (.int (1 : Int32)), .val (.long p2), .second, .val (.long p3), .second, .val .null, .val .null] [(.ref b1)])) _
    refine XS.iloadN X1.here hx rfl (hb hby d5_4) rfl ?_
    show Steps p.tables e below (T1.setTop (mkF m 5 #[.val (.ref p0), .val (.int (1 : Int32)), .val (.long p2), .second, .val (.long p3), .second, .val .null, .val .null] [(.int (1 : Int32)), (.ref b1)])) _
    refine XS.lloadN X1.here hx rfl (hb hby d5_5) rfl ?_
    show Steps p.tables e below (T1.setTop (mkF m 6 #[.val (.ref p0), .val (.int (1 : Int32)), .val (.long p2), .second, .val (.long p3), .second, .val .null, .val .null] [(.long p2), (.int (1 : Int32)), (.ref b1)])) _
    refine st4 _ ?_
    show Steps p.tables e below (T4.setTop (mkF m 7 #[.val (.ref p0), .val (.int (1 : Int32)), .val (.long p2), .second, .val (.long p3), .second, .val .null, .val .null] [])) _
    refine XS.aloadN X4.here hx rfl (hb hby d5_7) rfl rfl ?_
    show Steps p.tables e below (T4.setTop (mkF m 8 #[.val (.ref p0), .val (.int (1 : Int32)), .val (.long p2), .second, .val (.long p3), .second, .val .null, .val .null] [(.ref p0)])) _
    refine st6 _ ?_
    show Steps p.tables e below (T6.setTop (mkF m 11 #[.val (.ref p0), .val (.int (1 : Int32)), .val (.long p2), .second, .val (.long p3), .second, .val .null, .val .null] [(.ref b2)])) _
    refine XS.iloadN X6.here hx rfl (hb hby d5_11) rfl ?_
    show Steps p.tables e below (T6.setTop (mkF m 12 #[.val (.ref p0), .val (.int (1 : Int32)), .val (.long p2), .second, .val (.long p3), .second, .val .null, .val .null] [(.int (1 : Int32)), (.ref b2)])) _
    refine XS.lload X6.here hx rfl (hb hby d5_12) rfl ?_
    show Steps p.tables e below (T6.setTop (mkF m 14 #[.val (.ref p0), .val (.int (1 : Int32)), .val (.long p2), .second, .val (.long p3), .second, .val .null, .val .null] [(.long p3), (.int (1 : Int32)), (.ref b2)])) _
    refine st10 _ ?_
    show Steps p.tables e below (T10.setTop (mkF m 15 #[.val (.ref p0), .val (.int (1 : Int32)), .val (.long p2), .second, .val (.long p3), .second, .val .null, .val .null] [])) _
    refine XS.aloadN X10.here hx rfl (hb hby d5_15) rfl rfl ?_
    show Steps p.tables e below (T10.setTop (mkF m 16 #[.val (.ref p0), .val (.int (1 : Int32)), .val (.long p2), .second, .val (.long p3), .second, .val .null, .val .null] [(.ref p0)])) _
    refine st12 _ ?_
    show Steps p.tables e below (T12.setTop (mkF m 19 #[.val (.ref p0), .val (.int (1 : Int32)), .val (.long p2), .second, .val (.long p3), .second, .val .null, .val .null] [(.ref b3)])) _
    refine XS.iloadN X12.here hx rfl (hb hby d5_19) rfl ?_
    show Steps p.tables e below (T12.setTop (mkF m 20 #[.val (.ref p0), .val (.int (1 : Int32)), .val (.long p2), .second, .val (.long p3), .second, .val .null, .val .null] [(.int (1 : Int32)), (.ref b3)])) _
    refine XS.aload X12.here hx rfl (hb hby d5_20) rfl rfl ?_
    show Steps p.tables e below (T12.setTop (mkF m 22 #[.val (.ref p0), .val (.int (1 : Int32)), .val (.long p2), .second, .val (.long p3), .second, .val .null, .val .null] [.null, (.int (1 : Int32)), (.ref b3)])) _
    refine st16 _ ?_
    show Steps p.tables e below (T16.setTop (mkF m 23 #[.val (.ref p0), .val (.int (1 : Int32)), .val (.long p2), .second, .val (.long p3), .second, .val .null, .val .null] [])) _
    refine XS.aload X16.here hx rfl (hb hby d5_23) rfl rfl ?_
    show Steps p.tables e below (T16.setTop (mkF m 25 #[.val (.ref p0), .val (.int (1 : Int32)), .val (.long p2), .second, .val (.long p3), .second, .val .null, .val .null] [.null])) _
    refine XS.ifnullYes X16.here hx rfl (pc0 := 25) (pc' := 39) rfl (hb hby d5_25) rfl (by decide) (by decide) ?_
    exact Steps.refl _
  have c18 : Arv Z h16 b1 k1 .long (3 : Int32) [(.long x0), (.long p2), (.long x2)] (.long (0 : Int64)) := ((V4.other W10 F9_).other W16 F10_)
  have c19 : Arv Z h16 b2 k2 .long (3 : Int32) [(.long y0), (.long p3), (.long y2)] (.long (0 : Int64)) := (V10.other W16 F11_)
  obtain ⟨fs, hr, hrun, hended, hW, hsame⟩ := X16.leave (v := none) (fun _ => rfl)
  refine ⟨_, _, s17.trans ?_, hrun, hended, _, _, rfl, ?_, ⟨_, rfl⟩, hW, hsame.mono (by decide) (by decide)⟩
  · show Steps p.tables e below (T16.setTop (mkF m 39 #[.val (.ref p0), .val (.int (1 : Int32)), .val (.long p2), .second, .val (.long p3), .second, .val .null, .val .null] [])) _
    exact X16.returnOut hx Bd.returns (hb hby d5_39) hr
  · show Qr3_1 Z p0 p2 p3 b1 b2 b3 k1 k2 k3 x0 x1 x2 y0 y1 y2 h0 n0 _ T16.heap _
    rw [e16]
    exact ⟨rfl, N16, K16, c18, c19, V16⟩
theorem ef_rmr3_2 (m : MethodId) (p0 : Addr) (p2 : Int64) (p3 : Int64) : entryFrame m #[(.ref p0), (.int (2 : Int32)), (.long p2), (.long p3), .null, .null] 8 = mkF m 0 #[.val (.ref p0), .val (.int (2 : Int32)), .val (.long p2), .second, .val (.long p3), .second, .val .null, .val .null] [] := by first | (simp [entryFrame, mkF, argsToLocals, Value.category]; done) | rfl
def Qr3_2 (Z : State) (p0 : Addr) (p2 : Int64) (p3 : Int64) (b1 : Addr) (b2 : Addr) (b3 : Addr) (k1 : ClassId) (k2 : ClassId) (k3 : ClassId) (x0 : Int64) (x1 : Int64) (x2 : Int64) (y0 : Int64) (y1 : Int64) (y2 : Int64) (h0 : Heap) (n0 : Nat) (v : Option Value) (h : Heap) (L : List Loc) : Prop := v = none ∧ Fr n0 L ∧ Keep h0 h [b1, b2, b3] ∧ (Arv Z h b1 k1 .long (3 : Int32) [(.long x0), (.long x1), (.long p2)] (.long (0 : Int64))) ∧ (Arv Z h b2 k2 .long (3 : Int32) [(.long y0), (.long y1), (.long p3)] (.long (0 : Int64))) ∧ (Arv Z h b3 k3 (.object "com/example/hot_gate/hotgate/bench/Outcome") (3 : Int32) [.null, .null, .null] .null)
set_option maxRecDepth 65536 in
set_option maxHeartbeats 40000000 in
theorem rmr3_2 (l : Launch) (Z : State) (a0 : Array Value) (hw : ∀ d ∈ tables_1, d.before a0 Z = true) (ws : List Jvm.Cond) (p0 : Addr) (p2 : Int64) (p3 : Int64) (b1 : Addr) (b2 : Addr) (b3 : Addr) (k1 : ClassId) (k2 : ClassId) (k3 : ClassId) (x0 : Int64) (x1 : Int64) (x2 : Int64) (y0 : Int64) (y1 : Int64) (y2 : Int64) (h0 : Heap) (n0 : Nat) (O0 : Old Z n0 h0) (F0_ : Fld Z h0 p0 "com/example/hot_gate/hotgate/bench/Replies" "sentAt" "[J" (.ref b1)) (F1_ : Fld Z h0 p0 "com/example/hot_gate/hotgate/bench/Replies" "answeredAt" "[J" (.ref b2)) (F2_ : Fld Z h0 p0 "com/example/hot_gate/hotgate/bench/Replies" "outcomes" "[Lcom/example/hot_gate/hotgate/bench/Outcome;" (.ref b3)) (F3_ : Arv Z h0 b1 k1 .long (3 : Int32) [(.long x0), (.long x1), (.long x2)] (.long (0 : Int64))) (F4_ : Arv Z h0 b2 k2 .long (3 : Int32) [(.long y0), (.long y1), (.long y2)] (.long (0 : Int64))) (F5_ : Arv Z h0 b3 k3 (.object "com/example/hot_gate/hotgate/bench/Outcome") (3 : Int32) [.null, .null, .null] .null) (F6_ : n0 ≤ b1) (F7_ : n0 ≤ b2) (F8_ : n0 ≤ b3) (F9_ : b1 ≠ b2) (F10_ : b1 ≠ b3) (F11_ : b2 ≠ b3) (F12_ : p0 ≠ b1) (F13_ : p0 ≠ b2) (F14_ : p0 ≠ b3) :
    MetFree l (⟨"com/example/hot_gate/hotgate/bench/Replies", "record", "(IJJLcom/example/hot_gate/hotgate/bench/Outcome;Ljava/lang/String;)V"⟩ : MethodName) (head1 (Jvm.Cond.code (⟨"com/example/hot_gate/hotgate/bench/Replies", "record", "(IJJLcom/example/hot_gate/hotgate/bench/Outcome;Ljava/lang/String;)V"⟩ : MethodName) prog_12_method_3_code 8 none :: ws) ({ frames := 0, cells := 0, slots := 0, locals := 0 } : Room)) (fun a U => a = #[(.ref p0), (.int (2 : Int32)), (.long p2), (.long p3), .null, .null] ∧ Z.Warmed39 U.vm ∧ U.heap = h0) (fun _ _ _ _ _ => True) (fun _ U o U' => ∃ v L, o = .returned v ∧ Qr3_2 Z p0 p2 p3 b1 b2 b3 k1 k2 k3 x0 x1 x2 y0 y1 y2 h0 n0 v U'.heap L ∧ FrameEnd U o U' L ({ frames := 0, cells := 0, slots := 0, locals := 0 } : Room).cells ({ frames := 0, cells := 0, slots := 0, locals := 0 } : Room).slots) := by
  refine MetFree.of_bodySF (plainFor_of_name pn_1) hisR ?_
  intro p e s m args below meth c s₁ Bd hml0 hP hK
  obtain ⟨rfl, hZ, hh⟩ := hP
  have hx := Bd.exec
  have hby := Bd.bytes
  have hml : c.maxLocals = 8 := hml0
  have hown : s.vm.findClass "com/example/hot_gate/hotgate/bench/Replies" = some m.cls := findClass_of_methodNamed Bd.named
  have hnm := (name_of_methodNamed Bd.named Bd.method).1
  have X0 : Stand p l e ({ frames := 0, cells := 0, slots := 0, locals := 0 } : Room) s m #[(.ref p0), (.int (2 : Int32)), (.long p2), (.long p3), .null, .null] below meth c s₁ [] 0 0 := Stand.of_body Bd
  have e0 : s₁.heap = h0 := by rw [← hh, Bd.state]; rfl
  have N0 := Fr.nil n0
  have s0 : Steps p.tables e below (s₁.setTop (entryFrame m #[(.ref p0), (.int (2 : Int32)), (.long p2), (.long p3), .null, .null] 8)) (s₁.setTop (mkF m 0 #[.val (.ref p0), .val (.int (2 : Int32)), .val (.long p2), .second, .val (.long p3), .second, .val .null, .val .null] [])) := castTop (ef_rmr3_2 m p0 p2 p3) (Steps.refl _)
  obtain ⟨T1, X1, e1, st1⟩ := getF X0 hx hZ hown (host := "") (Or.inl (hw _ (List.mem_of_getElem? (i := 19) rfl))) Via.refl e0 F0_ (g := (mkF m 1 #[.val (.ref p0), .val (.int (2 : Int32)), .val (.long p2), .second, .val (.long p3), .second, .val .null, .val .null] [(.ref p0)])) rfl rfl (hb hby d5_1)
  obtain ⟨cla2, Ara2, qa2, Sa2, Za2, Ha2, Ga2⟩ := id F3_
  have hin3 : ¬ ((2 : Int32) < 0 ∨ cla2.slots.size ≤ ((2 : Int32)).toNatClampNeg) := inb_of Sa2 ⟨by decide, by decide⟩
  obtain ⟨T4, h4, X4, e4, W4, st4⟩ := stJ X1 hx hZ e1 Ara2 (j := (2 : Int32)) hin3 (g := (mkF m 6 #[.val (.ref p0), .val (.int (2 : Int32)), .val (.long p2), .second, .val (.long p3), .second, .val .null, .val .null] [(.long p2), (.int (2 : Int32)), (.ref b1)])) rfl rfl (hb hby d5_6)
  have O4 := O0.wr W4 F6_
  have K4 : Keep h0 h4 [b1, b2, b3] := (Keep.refl h0 [b1, b2, b3]).wr W4 (Or.inl (List.mem_of_getElem? (i := 0) rfl))
  have N4 := Fr.snoc X4 N0 F6_
  have V4 : Arv Z h4 b1 k1 .long (3 : Int32) [(.long x0), (.long x1), (.long p2)] (.long (0 : Int64)) := Arv.set Ara2 qa2 Sa2 Za2 Ha2 Ga2 rfl W4 2 rfl (Nat.le_of_ble_eq_true rfl)
  have c5 : Fld Z h4 p0 "com/example/hot_gate/hotgate/bench/Replies" "answeredAt" "[J" (.ref b2) := (F1_.other W4 (Or.inl F12_))
  obtain ⟨T6, X6, e6, st6⟩ := getF X4 hx hZ hown (host := "") (Or.inl (hw _ (List.mem_of_getElem? (i := 21) rfl))) Via.refl e4 c5 (g := (mkF m 8 #[.val (.ref p0), .val (.int (2 : Int32)), .val (.long p2), .second, .val (.long p3), .second, .val .null, .val .null] [(.ref p0)])) rfl rfl (hb hby d5_8)
  have c7 : Arv Z h4 b2 k2 .long (3 : Int32) [(.long y0), (.long y1), (.long y2)] (.long (0 : Int64)) := (F4_.other W4 (Ne.symm F9_))
  obtain ⟨cla8, Ara8, qa8, Sa8, Za8, Ha8, Ga8⟩ := id c7
  have hin9 : ¬ ((2 : Int32) < 0 ∨ cla8.slots.size ≤ ((2 : Int32)).toNatClampNeg) := inb_of Sa8 ⟨by decide, by decide⟩
  obtain ⟨T10, h10, X10, e10, W10, st10⟩ := stJ X6 hx hZ e6 Ara8 (j := (2 : Int32)) hin9 (g := (mkF m 14 #[.val (.ref p0), .val (.int (2 : Int32)), .val (.long p2), .second, .val (.long p3), .second, .val .null, .val .null] [(.long p3), (.int (2 : Int32)), (.ref b2)])) rfl rfl (hb hby d5_14)
  have O10 := O4.wr W10 F7_
  have K10 : Keep h0 h10 [b1, b2, b3] := K4.wr W10 (Or.inl (List.mem_of_getElem? (i := 1) rfl))
  have N10 := Fr.snoc X10 N4 F7_
  have V10 : Arv Z h10 b2 k2 .long (3 : Int32) [(.long y0), (.long y1), (.long p3)] (.long (0 : Int64)) := Arv.set Ara8 qa8 Sa8 Za8 Ha8 Ga8 rfl W10 2 rfl (Nat.le_of_ble_eq_true rfl)
  have c11 : Fld Z h10 p0 "com/example/hot_gate/hotgate/bench/Replies" "outcomes" "[Lcom/example/hot_gate/hotgate/bench/Outcome;" (.ref b3) := ((F2_.other W4 (Or.inl F12_)).other W10 (Or.inl F13_))
  obtain ⟨T12, X12, e12, st12⟩ := getF X10 hx hZ hown (host := "") (Or.inl (hw _ (List.mem_of_getElem? (i := 25) rfl))) Via.refl e10 c11 (g := (mkF m 16 #[.val (.ref p0), .val (.int (2 : Int32)), .val (.long p2), .second, .val (.long p3), .second, .val .null, .val .null] [(.ref p0)])) rfl rfl (hb hby d5_16)
  have c13 : Arv Z h10 b3 k3 (.object "com/example/hot_gate/hotgate/bench/Outcome") (3 : Int32) [.null, .null, .null] .null := ((F5_.other W4 (Ne.symm F10_)).other W10 (Ne.symm F11_))
  obtain ⟨cla14, Ara14, qa14, Sa14, Za14, Ha14, Ga14⟩ := id c13
  have hin15 : ¬ ((2 : Int32) < 0 ∨ cla14.slots.size ≤ ((2 : Int32)).toNatClampNeg) := inb_of Sa14 ⟨by decide, by decide⟩
  obtain ⟨T16, h16, X16, e16, W16, st16⟩ := stR X12 hx hZ e12 Ara14 (j := (2 : Int32)) hin15 rfl (Or.inl rfl) (g := (mkF m 22 #[.val (.ref p0), .val (.int (2 : Int32)), .val (.long p2), .second, .val (.long p3), .second, .val .null, .val .null] [.null, (.int (2 : Int32)), (.ref b3)])) rfl rfl (hb hby d5_22)
  have O16 := O10.wr W16 F8_
  have K16 : Keep h0 h16 [b1, b2, b3] := K10.wr W16 (Or.inl (List.mem_of_getElem? (i := 2) rfl))
  have N16 := Fr.snoc X16 N10 F8_
  have V16 : Arv Z h16 b3 k3 (.object "com/example/hot_gate/hotgate/bench/Outcome") (3 : Int32) [.null, .null, .null] .null := Arv.set Ara14 qa14 Sa14 Za14 Ha14 Ga14 rfl W16 2 rfl (Nat.le_of_ble_eq_true rfl)
  have s17 : Steps p.tables e below (s₁.setTop (entryFrame m #[(.ref p0), (.int (2 : Int32)), (.long p2), (.long p3), .null, .null] 8)) (T16.setTop (mkF m 39 #[.val (.ref p0), .val (.int (2 : Int32)), .val (.long p2), .second, .val (.long p3), .second, .val .null, .val .null] [])) := by
    refine s0.trans ?_
    show Steps p.tables e below (s₁.setTop (mkF m 0 #[.val (.ref p0), .val (.int (2 : Int32)), .val (.long p2), .second, .val (.long p3), .second, .val .null, .val .null] [])) _
    refine XS.aloadN X0.here hx rfl (hb hby d5_0) rfl rfl ?_
    show Steps p.tables e below (s₁.setTop (mkF m 1 #[.val (.ref p0), .val (.int (2 : Int32)), .val (.long p2), .second, .val (.long p3), .second, .val .null, .val .null] [(.ref p0)])) _
    refine st1 _ ?_
    show Steps p.tables e below (T1.setTop (mkF m 4 #[.val (.ref p0), .val (.int (2 : Int32)), .val (.long p2), .second, .val (.long p3), .second, .val .null, .val .null] [(.ref b1)])) _
    refine XS.iloadN X1.here hx rfl (hb hby d5_4) rfl ?_
    show Steps p.tables e below (T1.setTop (mkF m 5 #[.val (.ref p0), .val (.int (2 : Int32)), .val (.long p2), .second, .val (.long p3), .second, .val .null, .val .null] [(.int (2 : Int32)), (.ref b1)])) _
    refine XS.lloadN X1.here hx rfl (hb hby d5_5) rfl ?_
    show Steps p.tables e below (T1.setTop (mkF m 6 #[.val (.ref p0), .val (.int (2 : Int32)), .val (.long p2), .second, .val (.long p3), .second, .val .null, .val .null] [(.long p2), (.int (2 : Int32)), (.ref b1)])) _
    refine st4 _ ?_
    show Steps p.tables e below (T4.setTop (mkF m 7 #[.val (.ref p0), .val (.int (2 : Int32)), .val (.long p2), .second, .val (.long p3), .second, .val .null, .val .null] [])) _
    refine XS.aloadN X4.here hx rfl (hb hby d5_7) rfl rfl ?_
    show Steps p.tables e below (T4.setTop (mkF m 8 #[.val (.ref p0), .val (.int (2 : Int32)), .val (.long p2), .second, .val (.long p3), .second, .val .null, .val .null] [(.ref p0)])) _
    refine st6 _ ?_
    show Steps p.tables e below (T6.setTop (mkF m 11 #[.val (.ref p0), .val (.int (2 : Int32)), .val (.long p2), .second, .val (.long p3), .second, .val .null, .val .null] [(.ref b2)])) _
    refine XS.iloadN X6.here hx rfl (hb hby d5_11) rfl ?_
    show Steps p.tables e below (T6.setTop (mkF m 12 #[.val (.ref p0), .val (.int (2 : Int32)), .val (.long p2), .second, .val (.long p3), .second, .val .null, .val .null] [(.int (2 : Int32)), (.ref b2)])) _
    refine XS.lload X6.here hx rfl (hb hby d5_12) rfl ?_
    show Steps p.tables e below (T6.setTop (mkF m 14 #[.val (.ref p0), .val (.int (2 : Int32)), .val (.long p2), .second, .val (.long p3), .second, .val .null, .val .null] [(.long p3), (.int (2 : Int32)), (.ref b2)])) _
    refine st10 _ ?_
    show Steps p.tables e below (T10.setTop (mkF m 15 #[.val (.ref p0), .val (.int (2 : Int32)), .val (.long p2), .second, .val (.long p3), .second, .val .null, .val .null] [])) _
    refine XS.aloadN X10.here hx rfl (hb hby d5_15) rfl rfl ?_
    show Steps p.tables e below (T10.setTop (mkF m 16 #[.val (.ref p0), .val (.int (2 : Int32)), .val (.long p2), .second, .val (.long p3), .second, .val .null, .val .null] [(.ref p0)])) _
    refine st12 _ ?_
    show Steps p.tables e below (T12.setTop (mkF m 19 #[.val (.ref p0), .val (.int (2 : Int32)), .val (.long p2), .second, .val (.long p3), .second, .val .null, .val .null] [(.ref b3)])) _
    refine XS.iloadN X12.here hx rfl (hb hby d5_19) rfl ?_
    show Steps p.tables e below (T12.setTop (mkF m 20 #[.val (.ref p0), .val (.int (2 : Int32)), .val (.long p2), .second, .val (.long p3), .second, .val .null, .val .null] [(.int (2 : Int32)), (.ref b3)])) _
    refine XS.aload X12.here hx rfl (hb hby d5_20) rfl rfl ?_
    show Steps p.tables e below (T12.setTop (mkF m 22 #[.val (.ref p0), .val (.int (2 : Int32)), .val (.long p2), .second, .val (.long p3), .second, .val .null, .val .null] [.null, (.int (2 : Int32)), (.ref b3)])) _
    refine st16 _ ?_
    show Steps p.tables e below (T16.setTop (mkF m 23 #[.val (.ref p0), .val (.int (2 : Int32)), .val (.long p2), .second, .val (.long p3), .second, .val .null, .val .null] [])) _
    refine XS.aload X16.here hx rfl (hb hby d5_23) rfl rfl ?_
    show Steps p.tables e below (T16.setTop (mkF m 25 #[.val (.ref p0), .val (.int (2 : Int32)), .val (.long p2), .second, .val (.long p3), .second, .val .null, .val .null] [.null])) _
    refine XS.ifnullYes X16.here hx rfl (pc0 := 25) (pc' := 39) rfl (hb hby d5_25) rfl (by decide) (by decide) ?_
    exact Steps.refl _
  have c18 : Arv Z h16 b1 k1 .long (3 : Int32) [(.long x0), (.long x1), (.long p2)] (.long (0 : Int64)) := ((V4.other W10 F9_).other W16 F10_)
  have c19 : Arv Z h16 b2 k2 .long (3 : Int32) [(.long y0), (.long y1), (.long p3)] (.long (0 : Int64)) := (V10.other W16 F11_)
  obtain ⟨fs, hr, hrun, hended, hW, hsame⟩ := X16.leave (v := none) (fun _ => rfl)
  refine ⟨_, _, s17.trans ?_, hrun, hended, _, _, rfl, ?_, ⟨_, rfl⟩, hW, hsame.mono (by decide) (by decide)⟩
  · show Steps p.tables e below (T16.setTop (mkF m 39 #[.val (.ref p0), .val (.int (2 : Int32)), .val (.long p2), .second, .val (.long p3), .second, .val .null, .val .null] [])) _
    exact X16.returnOut hx Bd.returns (hb hby d5_39) hr
  · show Qr3_2 Z p0 p2 p3 b1 b2 b3 k1 k2 k3 x0 x1 x2 y0 y1 y2 h0 n0 _ T16.heap _
    rw [e16]
    exact ⟨rfl, N16, K16, c18, c19, V16⟩
theorem pd_rmf3_0 : parseMethodDescriptor "(JJ)J" = some ⟨[.long, .long], some .long⟩ := by decide +kernel
theorem ef_rmf3 (m : MethodId) (p0 : Addr) : entryFrame m #[(.ref p0)] 8 = mkF m 0 #[.val (.ref p0), .unset, .unset, .unset, .unset, .unset, .unset, .unset] [] := by first | (simp [entryFrame, mkF, argsToLocals, Value.category]; done) | rfl
def Qf3 (Z : State) (p0 : Addr) (b1 : Addr) (k1 : ClassId) (x0 : Int64) (x1 : Int64) (x2 : Int64) (h0 : Heap) (n0 : Nat) (v : Option Value) (h : Heap) (L : List Loc) : Prop := v = some (.long (own_min (own_min (own_min (9223372036854775807 : Int64) x0) x1) x2)) ∧ Fr n0 L ∧ h = h0
set_option maxRecDepth 65536 in
set_option maxHeartbeats 40000000 in
theorem rmf3 (l : Launch) (Z : State) (a0 : Array Value) (hw : ∀ d ∈ tables_1, d.before a0 Z = true) (ws : List Jvm.Cond) (p0 : Addr) (b1 : Addr) (k1 : ClassId) (x0 : Int64) (x1 : Int64) (x2 : Int64) (h0 : Heap) (n0 : Nat) (O0 : Old Z n0 h0) (F0_ : Fld Z h0 p0 "com/example/hot_gate/hotgate/bench/Replies" "sentAt" "[J" (.ref b1)) (F1_ : Arv Z h0 b1 k1 .long (3 : Int32) [(.long x0), (.long x1), (.long x2)] (.long (0 : Int64))) :
    MetFree l (⟨"com/example/hot_gate/hotgate/bench/Replies", "firstSent", "()J"⟩ : MethodName) (head1 (Jvm.Cond.code (⟨"com/example/hot_gate/hotgate/bench/Replies", "firstSent", "()J"⟩ : MethodName) prog_12_method_6_code 8 (some .long) :: ws) ({ frames := 1, cells := 0, slots := 0, locals := 15 } : Room)) (fun a U => a = #[(.ref p0)] ∧ Z.Warmed39 U.vm ∧ U.heap = h0) (fun _ _ _ _ _ => True) (fun _ U o U' => ∃ v L, o = .returned v ∧ Qf3 Z p0 b1 k1 x0 x1 x2 h0 n0 v U'.heap L ∧ FrameEnd U o U' L ({ frames := 1, cells := 0, slots := 0, locals := 15 } : Room).cells ({ frames := 1, cells := 0, slots := 0, locals := 15 } : Room).slots) := by
  refine MetFree.of_bodySF (plainFor_of_name pn_1) hisR ?_
  intro p e s m args below meth c s₁ Bd hml0 hP hK
  obtain ⟨rfl, hZ, hh⟩ := hP
  have hx := Bd.exec
  have hby := Bd.bytes
  have hml : c.maxLocals = 8 := hml0
  have hown : s.vm.findClass "com/example/hot_gate/hotgate/bench/Replies" = some m.cls := findClass_of_methodNamed Bd.named
  have hnm := (name_of_methodNamed Bd.named Bd.method).1
  have X0 : Stand p l e ({ frames := 1, cells := 0, slots := 0, locals := 15 } : Room) s m #[(.ref p0)] below meth c s₁ [] 0 0 := Stand.of_body Bd
  have e0 : s₁.heap = h0 := by rw [← hh, Bd.state]; rfl
  have N0 := Fr.nil n0
  have s0 : Steps p.tables e below (s₁.setTop (entryFrame m #[(.ref p0)] 8)) (s₁.setTop (mkF m 0 #[.val (.ref p0), .unset, .unset, .unset, .unset, .unset, .unset, .unset] [])) := castTop (ef_rmf3 m p0) (Steps.refl _)
  obtain ⟨T1, X1, e1, st1⟩ := getF X0 hx hZ hown (host := "") (Or.inl (hw _ (List.mem_of_getElem? (i := 19) rfl))) Via.refl e0 F0_ (g := (mkF m 5 #[.val (.ref p0), .val (.long (9223372036854775807 : Int64)), .second, .unset, .unset, .unset, .unset, .unset] [(.ref p0)])) rfl rfl (hb hby d4_5)
  obtain ⟨cla2, Ara2, qa2, Sa2, Za2, Ha2, Ga2⟩ := id F1_
  have hin3 : ¬ ((0 : Int32) < 0 ∨ cla2.slots.size ≤ ((0 : Int32)).toNatClampNeg) := inb_of Sa2 ⟨by decide, by decide⟩
  have hat4 : cla2.slots[((0 : Int32)).toNatClampNeg]? = some (.long x0) := Has.at Ha2 hin3 rfl
  obtain ⟨_, _, ⟨T5, L5, k5, n5⟩, -, X5, ⟨Lc5, hQ5, l5, y5, z5⟩, st5⟩ := Jvm.LawKit.callS X1 hx (y := (⟨"java/lang/Math", "min", "(JJ)J"⟩ : MethodName)) hown (mvT hZ (hw _ (List.mem_of_getElem? (i := 43) rfl))) (mvT hZ (hw _ (List.mem_of_getElem? (i := 40) rfl))) (mvT hZ (hw _ (List.mem_of_getElem? (i := 41) rfl))) (mvT hZ (hw _ (List.mem_of_getElem? (i := 42) rfl))) (by decide) (backOf (W := 0) (rm6 l Z a0 hw [] (9223372036854775807 : Int64) x0 h0 n0 O0 ) hZ (hw _ (List.mem_of_getElem? (i := 42) rfl)) (hw _ (List.mem_of_getElem? (i := 41) rfl)) (by decide) (by decide)) (g := (mkF m 32 #[.val (.ref p0), .val (.long (9223372036854775807 : Int64)), .second, .val (.ref b1), .val (.int (3 : Int32)), .val (.int (0 : Int32)), .val (.long x0), .second] [(.long x0), (.long (9223372036854775807 : Int64))])) rfl (by rw [hml]; rfl) (argsL := [(.long (9223372036854775807 : Int64)), (.long x0)]) (rest := []) (lenOf pd_rmf3_0 rfl) rfl (by show 2 * 0 + _ ≤ _; exact Nat.le_of_eq rfl) (hb hby d4_32) (fun _ _ => ⟨rfl, e1, (by decide : 0 + 0 ≤ _), (by decide : 0 + 0 ≤ _)⟩)
  dsimp only [Pt.U, Pt.locs, Pt.cells, Pt.slots] at X5 l5 y5 z5 st5 hQ5
  subst l5 y5 z5
  obtain ⟨rfl, Nq5, e5⟩ := hQ5
  have N5 := Fr.app N0 Nq5
  have hin6 : ¬ ((1 : Int32) < 0 ∨ cla2.slots.size ≤ ((1 : Int32)).toNatClampNeg) := inb_of Sa2 ⟨by decide, by decide⟩
  have hat7 : cla2.slots[((1 : Int32)).toNatClampNeg]? = some (.long x1) := Has.at Ha2 hin6 rfl
  obtain ⟨_, _, ⟨T8, L8, k8, n8⟩, -, X8, ⟨Lc8, hQ8, l8, y8, z8⟩, st8⟩ := Jvm.LawKit.callS X5 hx (y := (⟨"java/lang/Math", "min", "(JJ)J"⟩ : MethodName)) hown (mvT hZ (hw _ (List.mem_of_getElem? (i := 43) rfl))) (mvT hZ (hw _ (List.mem_of_getElem? (i := 40) rfl))) (mvT hZ (hw _ (List.mem_of_getElem? (i := 41) rfl))) (mvT hZ (hw _ (List.mem_of_getElem? (i := 42) rfl))) (by decide) (backOf (W := 0) (rm6 l Z a0 hw [] (own_min (9223372036854775807 : Int64) x0) x1 h0 n0 O0 ) hZ (hw _ (List.mem_of_getElem? (i := 42) rfl)) (hw _ (List.mem_of_getElem? (i := 41) rfl)) (by decide) (by decide)) (g := (mkF m 32 #[.val (.ref p0), .val (.long (own_min (9223372036854775807 : Int64) x0)), .second, .val (.ref b1), .val (.int (3 : Int32)), .val (.int (1 : Int32)), .val (.long x1), .second] [(.long x1), (.long (own_min (9223372036854775807 : Int64) x0))])) rfl (by rw [hml]; rfl) (argsL := [(.long (own_min (9223372036854775807 : Int64) x0)), (.long x1)]) (rest := []) (lenOf pd_rmf3_0 rfl) rfl (by show 2 * 0 + _ ≤ _; exact Nat.le_of_eq rfl) (hb hby d4_32) (fun _ _ => ⟨rfl, e5, (by decide : 0 + 0 ≤ _), (by decide : 0 + 0 ≤ _)⟩)
  dsimp only [Pt.U, Pt.locs, Pt.cells, Pt.slots] at X8 l8 y8 z8 st8 hQ8
  subst l8 y8 z8
  obtain ⟨rfl, Nq8, e8⟩ := hQ8
  have N8 := Fr.app N5 Nq8
  have hin9 : ¬ ((2 : Int32) < 0 ∨ cla2.slots.size ≤ ((2 : Int32)).toNatClampNeg) := inb_of Sa2 ⟨by decide, by decide⟩
  have hat10 : cla2.slots[((2 : Int32)).toNatClampNeg]? = some (.long x2) := Has.at Ha2 hin9 rfl
  obtain ⟨_, _, ⟨T11, L11, k11, n11⟩, -, X11, ⟨Lc11, hQ11, l11, y11, z11⟩, st11⟩ := Jvm.LawKit.callS X8 hx (y := (⟨"java/lang/Math", "min", "(JJ)J"⟩ : MethodName)) hown (mvT hZ (hw _ (List.mem_of_getElem? (i := 43) rfl))) (mvT hZ (hw _ (List.mem_of_getElem? (i := 40) rfl))) (mvT hZ (hw _ (List.mem_of_getElem? (i := 41) rfl))) (mvT hZ (hw _ (List.mem_of_getElem? (i := 42) rfl))) (by decide) (backOf (W := 0) (rm6 l Z a0 hw [] (own_min (own_min (9223372036854775807 : Int64) x0) x1) x2 h0 n0 O0 ) hZ (hw _ (List.mem_of_getElem? (i := 42) rfl)) (hw _ (List.mem_of_getElem? (i := 41) rfl)) (by decide) (by decide)) (g := (mkF m 32 #[.val (.ref p0), .val (.long (own_min (own_min (9223372036854775807 : Int64) x0) x1)), .second, .val (.ref b1), .val (.int (3 : Int32)), .val (.int (2 : Int32)), .val (.long x2), .second] [(.long x2), (.long (own_min (own_min (9223372036854775807 : Int64) x0) x1))])) rfl (by rw [hml]; rfl) (argsL := [(.long (own_min (own_min (9223372036854775807 : Int64) x0) x1)), (.long x2)]) (rest := []) (lenOf pd_rmf3_0 rfl) rfl (by show 2 * 0 + _ ≤ _; exact Nat.le_of_eq rfl) (hb hby d4_32) (fun _ _ => ⟨rfl, e8, (by decide : 0 + 0 ≤ _), (by decide : 0 + 0 ≤ _)⟩)
  dsimp only [Pt.U, Pt.locs, Pt.cells, Pt.slots] at X11 l11 y11 z11 st11 hQ11
  subst l11 y11 z11
  obtain ⟨rfl, Nq11, e11⟩ := hQ11
  have N11 := Fr.app N8 Nq11
  have s12 : Steps p.tables e below (s₁.setTop (entryFrame m #[(.ref p0)] 8)) (T11.setTop (mkF m 43 #[.val (.ref p0), .val (.long (own_min (own_min (own_min (9223372036854775807 : Int64) x0) x1) x2)), .second, .val (.ref b1), .val (.int (3 : Int32)), .val (.int (3 : Int32)), .val (.long x2), .second] [(.long (own_min (own_min (own_min (9223372036854775807 : Int64) x0) x1) x2))])) := by
    refine s0.trans ?_
    show Steps p.tables e below (s₁.setTop (mkF m 0 #[.val (.ref p0), .unset, .unset, .unset, .unset, .unset, .unset, .unset] [])) _
    refine X0.ldc2Long hx hown (mvT hZ (hw _ (List.mem_of_getElem? (i := 33) rfl))) (g := (mkF m 0 #[.val (.ref p0), .unset, .unset, .unset, .unset, .unset, .unset, .unset] [])) rfl (hb hby d4_0) _ ?_
    show Steps p.tables e below (s₁.setTop (mkF m 3 #[.val (.ref p0), .unset, .unset, .unset, .unset, .unset, .unset, .unset] [(.long (9223372036854775807 : Int64))])) _
    refine XS.lstoreN X0.here hx rfl (hb hby d4_3) rfl (l' := #[.val (.ref p0), .val (.long (9223372036854775807 : Int64)), .second, .unset, .unset, .unset, .unset, .unset]) rfl ?_
    show Steps p.tables e below (s₁.setTop (mkF m 4 #[.val (.ref p0), .val (.long (9223372036854775807 : Int64)), .second, .unset, .unset, .unset, .unset, .unset] [])) _
    refine XS.aloadN X0.here hx rfl (hb hby d4_4) rfl rfl ?_
    show Steps p.tables e below (s₁.setTop (mkF m 5 #[.val (.ref p0), .val (.long (9223372036854775807 : Int64)), .second, .unset, .unset, .unset, .unset, .unset] [(.ref p0)])) _
    refine st1 _ ?_
    show Steps p.tables e below (T1.setTop (mkF m 8 #[.val (.ref p0), .val (.long (9223372036854775807 : Int64)), .second, .unset, .unset, .unset, .unset, .unset] [(.ref b1)])) _
    refine XS.astoreN X1.here hx rfl (hb hby d4_8) rfl rfl (l' := #[.val (.ref p0), .val (.long (9223372036854775807 : Int64)), .second, .val (.ref b1), .unset, .unset, .unset, .unset]) rfl ?_
    show Steps p.tables e below (T1.setTop (mkF m 9 #[.val (.ref p0), .val (.long (9223372036854775807 : Int64)), .second, .val (.ref b1), .unset, .unset, .unset, .unset] [])) _
    refine XS.aloadN X1.here hx rfl (hb hby d4_9) rfl rfl ?_
    show Steps p.tables e below (T1.setTop (mkF m 10 #[.val (.ref p0), .val (.long (9223372036854775807 : Int64)), .second, .val (.ref b1), .unset, .unset, .unset, .unset] [(.ref b1)])) _
    refine X1.arraylength hx (by rw [e1]; exact Ara2.1) (State.isArrayOf_alike hZ.alike Ara2.2.1) (g := (mkF m 10 #[.val (.ref p0), .val (.long (9223372036854775807 : Int64)), .second, .val (.ref b1), .unset, .unset, .unset, .unset] [(.ref b1)])) rfl rfl (hb hby d4_10) _ ?_
    rw [len_of Sa2 Za2]
    show Steps p.tables e below (T1.setTop (mkF m 11 #[.val (.ref p0), .val (.long (9223372036854775807 : Int64)), .second, .val (.ref b1), .unset, .unset, .unset, .unset] [(.int (3 : Int32))])) _
    refine XS.istore X1.here hx rfl (hb hby d4_11) rfl (l' := #[.val (.ref p0), .val (.long (9223372036854775807 : Int64)), .second, .val (.ref b1), .val (.int (3 : Int32)), .unset, .unset, .unset]) rfl ?_
    show Steps p.tables e below (T1.setTop (mkF m 13 #[.val (.ref p0), .val (.long (9223372036854775807 : Int64)), .second, .val (.ref b1), .val (.int (3 : Int32)), .unset, .unset, .unset] [])) _
    refine XS.iconst X1.here hx rfl (hb hby d4_13) ?_
    show Steps p.tables e below (T1.setTop (mkF m 14 #[.val (.ref p0), .val (.long (9223372036854775807 : Int64)), .second, .val (.ref b1), .val (.int (3 : Int32)), .unset, .unset, .unset] [(.int (0 : Int32))])) _
    refine XS.istore X1.here hx rfl (hb hby d4_14) rfl (l' := #[.val (.ref p0), .val (.long (9223372036854775807 : Int64)), .second, .val (.ref b1), .val (.int (3 : Int32)), .val (.int (0 : Int32)), .unset, .unset]) rfl ?_
    show Steps p.tables e below (T1.setTop (mkF m 16 #[.val (.ref p0), .val (.long (9223372036854775807 : Int64)), .second, .val (.ref b1), .val (.int (3 : Int32)), .val (.int (0 : Int32)), .unset, .unset] [])) _
    refine XS.iload X1.here hx rfl (hb hby d4_16) rfl ?_
    show Steps p.tables e below (T1.setTop (mkF m 18 #[.val (.ref p0), .val (.long (9223372036854775807 : Int64)), .second, .val (.ref b1), .val (.int (3 : Int32)), .val (.int (0 : Int32)), .unset, .unset] [(.int (0 : Int32))])) _
    refine XS.iload X1.here hx rfl (hb hby d4_18) rfl ?_
    show Steps p.tables e below (T1.setTop (mkF m 20 #[.val (.ref p0), .val (.long (9223372036854775807 : Int64)), .second, .val (.ref b1), .val (.int (3 : Int32)), .val (.int (0 : Int32)), .unset, .unset] [(.int (3 : Int32)), (.int (0 : Int32))])) _
    refine XS.icmpNo X1.here hx rfl (hb hby d4_20) rfl (tlt (by decide)).2.1 ?_
    show Steps p.tables e below (T1.setTop (mkF m 23 #[.val (.ref p0), .val (.long (9223372036854775807 : Int64)), .second, .val (.ref b1), .val (.int (3 : Int32)), .val (.int (0 : Int32)), .unset, .unset] [])) _
    refine XS.aloadN X1.here hx rfl (hb hby d4_23) rfl rfl ?_
    show Steps p.tables e below (T1.setTop (mkF m 24 #[.val (.ref p0), .val (.long (9223372036854775807 : Int64)), .second, .val (.ref b1), .val (.int (3 : Int32)), .val (.int (0 : Int32)), .unset, .unset] [(.ref b1)])) _
    refine XS.iload X1.here hx rfl (hb hby d4_24) rfl ?_
    show Steps p.tables e below (T1.setTop (mkF m 26 #[.val (.ref p0), .val (.long (9223372036854775807 : Int64)), .second, .val (.ref b1), .val (.int (3 : Int32)), .val (.int (0 : Int32)), .unset, .unset] [(.int (0 : Int32)), (.ref b1)])) _
    refine X1.laload hx (j := (0 : Int32)) (v := (.long x0)) (by rw [e1]; exact Ara2.1) (State.isArrayOf_alike hZ.alike Ara2.2.1) Ara2.2.2 hin3 hat4 (g := (mkF m 26 #[.val (.ref p0), .val (.long (9223372036854775807 : Int64)), .second, .val (.ref b1), .val (.int (3 : Int32)), .val (.int (0 : Int32)), .unset, .unset] [(.int (0 : Int32)), (.ref b1)])) rfl rfl (hb hby d4_26) _ ?_
    show Steps p.tables e below (T1.setTop (mkF m 27 #[.val (.ref p0), .val (.long (9223372036854775807 : Int64)), .second, .val (.ref b1), .val (.int (3 : Int32)), .val (.int (0 : Int32)), .unset, .unset] [(.long x0)])) _
    refine XS.lstore X1.here hx rfl (hb hby d4_27) rfl (l' := #[.val (.ref p0), .val (.long (9223372036854775807 : Int64)), .second, .val (.ref b1), .val (.int (3 : Int32)), .val (.int (0 : Int32)), .val (.long x0), .second]) rfl ?_
    show Steps p.tables e below (T1.setTop (mkF m 29 #[.val (.ref p0), .val (.long (9223372036854775807 : Int64)), .second, .val (.ref b1), .val (.int (3 : Int32)), .val (.int (0 : Int32)), .val (.long x0), .second] [])) _
    refine XS.lloadN X1.here hx rfl (hb hby d4_29) rfl ?_
    show Steps p.tables e below (T1.setTop (mkF m 30 #[.val (.ref p0), .val (.long (9223372036854775807 : Int64)), .second, .val (.ref b1), .val (.int (3 : Int32)), .val (.int (0 : Int32)), .val (.long x0), .second] [(.long (9223372036854775807 : Int64))])) _
    refine XS.lload X1.here hx rfl (hb hby d4_30) rfl ?_
    show Steps p.tables e below (T1.setTop (mkF m 32 #[.val (.ref p0), .val (.long (9223372036854775807 : Int64)), .second, .val (.ref b1), .val (.int (3 : Int32)), .val (.int (0 : Int32)), .val (.long x0), .second] [(.long x0), (.long (9223372036854775807 : Int64))])) _
    refine st5 _ ?_
    show Steps p.tables e below (T5.setTop (mkF m 35 #[.val (.ref p0), .val (.long (9223372036854775807 : Int64)), .second, .val (.ref b1), .val (.int (3 : Int32)), .val (.int (0 : Int32)), .val (.long x0), .second] [(.long (own_min (9223372036854775807 : Int64) x0))])) _
    refine XS.lstoreN X5.here hx rfl (hb hby d4_35) rfl (l' := #[.val (.ref p0), .val (.long (own_min (9223372036854775807 : Int64) x0)), .second, .val (.ref b1), .val (.int (3 : Int32)), .val (.int (0 : Int32)), .val (.long x0), .second]) rfl ?_
    show Steps p.tables e below (T5.setTop (mkF m 36 #[.val (.ref p0), .val (.long (own_min (9223372036854775807 : Int64) x0)), .second, .val (.ref b1), .val (.int (3 : Int32)), .val (.int (0 : Int32)), .val (.long x0), .second] [])) _
    refine XS.iinc X5.here hx rfl (hb hby d4_36) rfl (l' := #[.val (.ref p0), .val (.long (own_min (9223372036854775807 : Int64) x0)), .second, .val (.ref b1), .val (.int (3 : Int32)), .val (.int (1 : Int32)), .val (.long x0), .second]) rfl ?_
    show Steps p.tables e below (T5.setTop (mkF m 39 #[.val (.ref p0), .val (.long (own_min (9223372036854775807 : Int64) x0)), .second, .val (.ref b1), .val (.int (3 : Int32)), .val (.int (1 : Int32)), .val (.long x0), .second] [])) _
    refine XS.goto X5.here hx rfl (pc0 := 39) (pc' := 16) rfl (hb hby d4_39) (by decide) (by decide) ?_
    show Steps p.tables e below (T5.setTop (mkF m 16 #[.val (.ref p0), .val (.long (own_min (9223372036854775807 : Int64) x0)), .second, .val (.ref b1), .val (.int (3 : Int32)), .val (.int (1 : Int32)), .val (.long x0), .second] [])) _
    refine XS.iload X5.here hx rfl (hb hby d4_16) rfl ?_
    show Steps p.tables e below (T5.setTop (mkF m 18 #[.val (.ref p0), .val (.long (own_min (9223372036854775807 : Int64) x0)), .second, .val (.ref b1), .val (.int (3 : Int32)), .val (.int (1 : Int32)), .val (.long x0), .second] [(.int (1 : Int32))])) _
    refine XS.iload X5.here hx rfl (hb hby d4_18) rfl ?_
    show Steps p.tables e below (T5.setTop (mkF m 20 #[.val (.ref p0), .val (.long (own_min (9223372036854775807 : Int64) x0)), .second, .val (.ref b1), .val (.int (3 : Int32)), .val (.int (1 : Int32)), .val (.long x0), .second] [(.int (3 : Int32)), (.int (1 : Int32))])) _
    refine XS.icmpNo X5.here hx rfl (hb hby d4_20) rfl (tlt (by decide)).2.1 ?_
    show Steps p.tables e below (T5.setTop (mkF m 23 #[.val (.ref p0), .val (.long (own_min (9223372036854775807 : Int64) x0)), .second, .val (.ref b1), .val (.int (3 : Int32)), .val (.int (1 : Int32)), .val (.long x0), .second] [])) _
    refine XS.aloadN X5.here hx rfl (hb hby d4_23) rfl rfl ?_
    show Steps p.tables e below (T5.setTop (mkF m 24 #[.val (.ref p0), .val (.long (own_min (9223372036854775807 : Int64) x0)), .second, .val (.ref b1), .val (.int (3 : Int32)), .val (.int (1 : Int32)), .val (.long x0), .second] [(.ref b1)])) _
    refine XS.iload X5.here hx rfl (hb hby d4_24) rfl ?_
    show Steps p.tables e below (T5.setTop (mkF m 26 #[.val (.ref p0), .val (.long (own_min (9223372036854775807 : Int64) x0)), .second, .val (.ref b1), .val (.int (3 : Int32)), .val (.int (1 : Int32)), .val (.long x0), .second] [(.int (1 : Int32)), (.ref b1)])) _
    refine X5.laload hx (j := (1 : Int32)) (v := (.long x1)) (by rw [e5]; exact Ara2.1) (State.isArrayOf_alike hZ.alike Ara2.2.1) Ara2.2.2 hin6 hat7 (g := (mkF m 26 #[.val (.ref p0), .val (.long (own_min (9223372036854775807 : Int64) x0)), .second, .val (.ref b1), .val (.int (3 : Int32)), .val (.int (1 : Int32)), .val (.long x0), .second] [(.int (1 : Int32)), (.ref b1)])) rfl rfl (hb hby d4_26) _ ?_
    show Steps p.tables e below (T5.setTop (mkF m 27 #[.val (.ref p0), .val (.long (own_min (9223372036854775807 : Int64) x0)), .second, .val (.ref b1), .val (.int (3 : Int32)), .val (.int (1 : Int32)), .val (.long x0), .second] [(.long x1)])) _
    refine XS.lstore X5.here hx rfl (hb hby d4_27) rfl (l' := #[.val (.ref p0), .val (.long (own_min (9223372036854775807 : Int64) x0)), .second, .val (.ref b1), .val (.int (3 : Int32)), .val (.int (1 : Int32)), .val (.long x1), .second]) rfl ?_
    show Steps p.tables e below (T5.setTop (mkF m 29 #[.val (.ref p0), .val (.long (own_min (9223372036854775807 : Int64) x0)), .second, .val (.ref b1), .val (.int (3 : Int32)), .val (.int (1 : Int32)), .val (.long x1), .second] [])) _
    refine XS.lloadN X5.here hx rfl (hb hby d4_29) rfl ?_
    show Steps p.tables e below (T5.setTop (mkF m 30 #[.val (.ref p0), .val (.long (own_min (9223372036854775807 : Int64) x0)), .second, .val (.ref b1), .val (.int (3 : Int32)), .val (.int (1 : Int32)), .val (.long x1), .second] [(.long (own_min (9223372036854775807 : Int64) x0))])) _
    refine XS.lload X5.here hx rfl (hb hby d4_30) rfl ?_
    show Steps p.tables e below (T5.setTop (mkF m 32 #[.val (.ref p0), .val (.long (own_min (9223372036854775807 : Int64) x0)), .second, .val (.ref b1), .val (.int (3 : Int32)), .val (.int (1 : Int32)), .val (.long x1), .second] [(.long x1), (.long (own_min (9223372036854775807 : Int64) x0))])) _
    refine st8 _ ?_
    show Steps p.tables e below (T8.setTop (mkF m 35 #[.val (.ref p0), .val (.long (own_min (9223372036854775807 : Int64) x0)), .second, .val (.ref b1), .val (.int (3 : Int32)), .val (.int (1 : Int32)), .val (.long x1), .second] [(.long (own_min (own_min (9223372036854775807 : Int64) x0) x1))])) _
    refine XS.lstoreN X8.here hx rfl (hb hby d4_35) rfl (l' := #[.val (.ref p0), .val (.long (own_min (own_min (9223372036854775807 : Int64) x0) x1)), .second, .val (.ref b1), .val (.int (3 : Int32)), .val (.int (1 : Int32)), .val (.long x1), .second]) rfl ?_
    show Steps p.tables e below (T8.setTop (mkF m 36 #[.val (.ref p0), .val (.long (own_min (own_min (9223372036854775807 : Int64) x0) x1)), .second, .val (.ref b1), .val (.int (3 : Int32)), .val (.int (1 : Int32)), .val (.long x1), .second] [])) _
    refine XS.iinc X8.here hx rfl (hb hby d4_36) rfl (l' := #[.val (.ref p0), .val (.long (own_min (own_min (9223372036854775807 : Int64) x0) x1)), .second, .val (.ref b1), .val (.int (3 : Int32)), .val (.int (2 : Int32)), .val (.long x1), .second]) rfl ?_
    show Steps p.tables e below (T8.setTop (mkF m 39 #[.val (.ref p0), .val (.long (own_min (own_min (9223372036854775807 : Int64) x0) x1)), .second, .val (.ref b1), .val (.int (3 : Int32)), .val (.int (2 : Int32)), .val (.long x1), .second] [])) _
    refine XS.goto X8.here hx rfl (pc0 := 39) (pc' := 16) rfl (hb hby d4_39) (by decide) (by decide) ?_
    show Steps p.tables e below (T8.setTop (mkF m 16 #[.val (.ref p0), .val (.long (own_min (own_min (9223372036854775807 : Int64) x0) x1)), .second, .val (.ref b1), .val (.int (3 : Int32)), .val (.int (2 : Int32)), .val (.long x1), .second] [])) _
    refine XS.iload X8.here hx rfl (hb hby d4_16) rfl ?_
    show Steps p.tables e below (T8.setTop (mkF m 18 #[.val (.ref p0), .val (.long (own_min (own_min (9223372036854775807 : Int64) x0) x1)), .second, .val (.ref b1), .val (.int (3 : Int32)), .val (.int (2 : Int32)), .val (.long x1), .second] [(.int (2 : Int32))])) _
    refine XS.iload X8.here hx rfl (hb hby d4_18) rfl ?_
    show Steps p.tables e below (T8.setTop (mkF m 20 #[.val (.ref p0), .val (.long (own_min (own_min (9223372036854775807 : Int64) x0) x1)), .second, .val (.ref b1), .val (.int (3 : Int32)), .val (.int (2 : Int32)), .val (.long x1), .second] [(.int (3 : Int32)), (.int (2 : Int32))])) _
    refine XS.icmpNo X8.here hx rfl (hb hby d4_20) rfl (tlt (by decide)).2.1 ?_
    show Steps p.tables e below (T8.setTop (mkF m 23 #[.val (.ref p0), .val (.long (own_min (own_min (9223372036854775807 : Int64) x0) x1)), .second, .val (.ref b1), .val (.int (3 : Int32)), .val (.int (2 : Int32)), .val (.long x1), .second] [])) _
    refine XS.aloadN X8.here hx rfl (hb hby d4_23) rfl rfl ?_
    show Steps p.tables e below (T8.setTop (mkF m 24 #[.val (.ref p0), .val (.long (own_min (own_min (9223372036854775807 : Int64) x0) x1)), .second, .val (.ref b1), .val (.int (3 : Int32)), .val (.int (2 : Int32)), .val (.long x1), .second] [(.ref b1)])) _
    refine XS.iload X8.here hx rfl (hb hby d4_24) rfl ?_
    show Steps p.tables e below (T8.setTop (mkF m 26 #[.val (.ref p0), .val (.long (own_min (own_min (9223372036854775807 : Int64) x0) x1)), .second, .val (.ref b1), .val (.int (3 : Int32)), .val (.int (2 : Int32)), .val (.long x1), .second] [(.int (2 : Int32)), (.ref b1)])) _
    refine X8.laload hx (j := (2 : Int32)) (v := (.long x2)) (by rw [e8]; exact Ara2.1) (State.isArrayOf_alike hZ.alike Ara2.2.1) Ara2.2.2 hin9 hat10 (g := (mkF m 26 #[.val (.ref p0), .val (.long (own_min (own_min (9223372036854775807 : Int64) x0) x1)), .second, .val (.ref b1), .val (.int (3 : Int32)), .val (.int (2 : Int32)), .val (.long x1), .second] [(.int (2 : Int32)), (.ref b1)])) rfl rfl (hb hby d4_26) _ ?_
    show Steps p.tables e below (T8.setTop (mkF m 27 #[.val (.ref p0), .val (.long (own_min (own_min (9223372036854775807 : Int64) x0) x1)), .second, .val (.ref b1), .val (.int (3 : Int32)), .val (.int (2 : Int32)), .val (.long x1), .second] [(.long x2)])) _
    refine XS.lstore X8.here hx rfl (hb hby d4_27) rfl (l' := #[.val (.ref p0), .val (.long (own_min (own_min (9223372036854775807 : Int64) x0) x1)), .second, .val (.ref b1), .val (.int (3 : Int32)), .val (.int (2 : Int32)), .val (.long x2), .second]) rfl ?_
    show Steps p.tables e below (T8.setTop (mkF m 29 #[.val (.ref p0), .val (.long (own_min (own_min (9223372036854775807 : Int64) x0) x1)), .second, .val (.ref b1), .val (.int (3 : Int32)), .val (.int (2 : Int32)), .val (.long x2), .second] [])) _
    refine XS.lloadN X8.here hx rfl (hb hby d4_29) rfl ?_
    show Steps p.tables e below (T8.setTop (mkF m 30 #[.val (.ref p0), .val (.long (own_min (own_min (9223372036854775807 : Int64) x0) x1)), .second, .val (.ref b1), .val (.int (3 : Int32)), .val (.int (2 : Int32)), .val (.long x2), .second] [(.long (own_min (own_min (9223372036854775807 : Int64) x0) x1))])) _
    refine XS.lload X8.here hx rfl (hb hby d4_30) rfl ?_
    show Steps p.tables e below (T8.setTop (mkF m 32 #[.val (.ref p0), .val (.long (own_min (own_min (9223372036854775807 : Int64) x0) x1)), .second, .val (.ref b1), .val (.int (3 : Int32)), .val (.int (2 : Int32)), .val (.long x2), .second] [(.long x2), (.long (own_min (own_min (9223372036854775807 : Int64) x0) x1))])) _
    refine st11 _ ?_
    show Steps p.tables e below (T11.setTop (mkF m 35 #[.val (.ref p0), .val (.long (own_min (own_min (9223372036854775807 : Int64) x0) x1)), .second, .val (.ref b1), .val (.int (3 : Int32)), .val (.int (2 : Int32)), .val (.long x2), .second] [(.long (own_min (own_min (own_min (9223372036854775807 : Int64) x0) x1) x2))])) _
    refine XS.lstoreN X11.here hx rfl (hb hby d4_35) rfl (l' := #[.val (.ref p0), .val (.long (own_min (own_min (own_min (9223372036854775807 : Int64) x0) x1) x2)), .second, .val (.ref b1), .val (.int (3 : Int32)), .val (.int (2 : Int32)), .val (.long x2), .second]) rfl ?_
    show Steps p.tables e below (T11.setTop (mkF m 36 #[.val (.ref p0), .val (.long (own_min (own_min (own_min (9223372036854775807 : Int64) x0) x1) x2)), .second, .val (.ref b1), .val (.int (3 : Int32)), .val (.int (2 : Int32)), .val (.long x2), .second] [])) _
    refine XS.iinc X11.here hx rfl (hb hby d4_36) rfl (l' := #[.val (.ref p0), .val (.long (own_min (own_min (own_min (9223372036854775807 : Int64) x0) x1) x2)), .second, .val (.ref b1), .val (.int (3 : Int32)), .val (.int (3 : Int32)), .val (.long x2), .second]) rfl ?_
    show Steps p.tables e below (T11.setTop (mkF m 39 #[.val (.ref p0), .val (.long (own_min (own_min (own_min (9223372036854775807 : Int64) x0) x1) x2)), .second, .val (.ref b1), .val (.int (3 : Int32)), .val (.int (3 : Int32)), .val (.long x2), .second] [])) _
    refine XS.goto X11.here hx rfl (pc0 := 39) (pc' := 16) rfl (hb hby d4_39) (by decide) (by decide) ?_
    show Steps p.tables e below (T11.setTop (mkF m 16 #[.val (.ref p0), .val (.long (own_min (own_min (own_min (9223372036854775807 : Int64) x0) x1) x2)), .second, .val (.ref b1), .val (.int (3 : Int32)), .val (.int (3 : Int32)), .val (.long x2), .second] [])) _
    refine XS.iload X11.here hx rfl (hb hby d4_16) rfl ?_
    show Steps p.tables e below (T11.setTop (mkF m 18 #[.val (.ref p0), .val (.long (own_min (own_min (own_min (9223372036854775807 : Int64) x0) x1) x2)), .second, .val (.ref b1), .val (.int (3 : Int32)), .val (.int (3 : Int32)), .val (.long x2), .second] [(.int (3 : Int32))])) _
    refine XS.iload X11.here hx rfl (hb hby d4_18) rfl ?_
    show Steps p.tables e below (T11.setTop (mkF m 20 #[.val (.ref p0), .val (.long (own_min (own_min (own_min (9223372036854775807 : Int64) x0) x1) x2)), .second, .val (.ref b1), .val (.int (3 : Int32)), .val (.int (3 : Int32)), .val (.long x2), .second] [(.int (3 : Int32)), (.int (3 : Int32))])) _
    refine XS.icmpYes X11.here hx rfl (pc0 := 20) (pc' := 42) rfl (hb hby d4_20) rfl (flt (by decide)).2.1 (by decide) (by decide) ?_
    show Steps p.tables e below (T11.setTop (mkF m 42 #[.val (.ref p0), .val (.long (own_min (own_min (own_min (9223372036854775807 : Int64) x0) x1) x2)), .second, .val (.ref b1), .val (.int (3 : Int32)), .val (.int (3 : Int32)), .val (.long x2), .second] [])) _
    refine XS.lloadN X11.here hx rfl (hb hby d4_42) rfl ?_
    exact Steps.refl _
  obtain ⟨fs, hr, hrun, hended, hW, hsame⟩ := X11.leave (v := some (.long (own_min (own_min (own_min (9223372036854775807 : Int64) x0) x1) x2))) (fun h => by rw [Bd.returns] at h; cases h)
  refine ⟨_, _, s12.trans ?_, hrun, hended, _, _, rfl, ?_, ⟨_, rfl⟩, hW, hsame.mono (by decide) (by decide)⟩
  · show Steps p.tables e below (T11.setTop (mkF m 43 #[.val (.ref p0), .val (.long (own_min (own_min (own_min (9223372036854775807 : Int64) x0) x1) x2)), .second, .val (.ref b1), .val (.int (3 : Int32)), .val (.int (3 : Int32)), .val (.long x2), .second] [(.long (own_min (own_min (own_min (9223372036854775807 : Int64) x0) x1) x2))])) _
    jvm_step X11.here [X11.here.top, hx, (hb hby d4_43), X11.method', Bd.returns, narrow]
    first | (intro acts; rw [hr _ acts rfl rfl rfl]) | rw [hr _ _ rfl rfl rfl]
    exact Steps.refl _
  · show Qf3 Z p0 b1 k1 x0 x1 x2 h0 n0 _ T11.heap _
    rw [e11]
    exact ⟨rfl, N11, rfl⟩
theorem pn_0 : plainName "com/example/hot_gate/hotgate/bench/RepliesFirstSentPinLaw" = true := by first | (simp [plainName, overriddenIn]; done) | decide +kernel
theorem pd_rm0_0 : parseMethodDescriptor "(I)V" = some ⟨[.int], none⟩ := by decide +kernel
theorem pd_rm0_1 : parseMethodDescriptor "()J" = some ⟨[], some .long⟩ := by decide +kernel
theorem pd_rm0_2 : parseMethodDescriptor "(IJJLcom/example/hot_gate/hotgate/bench/Outcome;Ljava/lang/String;)V" = some ⟨[.int, .long, .long, (.object "com/example/hot_gate/hotgate/bench/Outcome"), (.object "java/lang/String")], none⟩ := by decide +kernel
theorem pd_rm0_3 : parseMethodDescriptor "(JJ)J" = some ⟨[.long, .long], some .long⟩ := by decide +kernel
theorem ef_rm0 (m : MethodId) (p0 : Int32) (p1 : Int64) (p2 : Int64) (p3 : Int64) (p4 : Int64) (p5 : Int64) : entryFrame m #[(.int p0), (.long p1), (.long p2), (.long p3), (.long p4), (.long p5)] maxLocals = mkF m 0 #[.val (.int p0), .val (.long p1), .second, .val (.long p2), .second, .val (.long p3), .second, .val (.long p4), .second, .val (.long p5), .second, .unset, .unset, .unset, .unset, .unset, .unset, .unset, .unset, .unset, .unset] [] := by first | (simp [entryFrame, mkF, argsToLocals, Value.category, maxLocals]; done) | rfl
def Q0 (Z : State) (p0 : Int32) (p1 : Int64) (p2 : Int64) (p3 : Int64) (p4 : Int64) (p5 : Int64) (h0 : Heap) (n0 : Nat) (v : Option Value) (h : Heap) (L : List Loc) : Prop := v = some (.int (1 : Int32)) ∧ Fr n0 L
set_option maxRecDepth 65536 in
set_option maxHeartbeats 40000000 in
theorem rm0 (l : Launch) (Z : State) (a0 : Array Value) (hw : ∀ d ∈ tables_1, d.before a0 Z = true) (ws : List Jvm.Cond) (p0 : Int32) (p1 : Int64) (p2 : Int64) (p3 : Int64) (p4 : Int64) (p5 : Int64) (h0 : Heap) (n0 : Nat) (O0 : Old Z n0 h0) :
    MetFree l x (head1 (Jvm.Cond.code x code maxLocals ret :: ws) room_1) (fun a U => a = #[(.int p0), (.long p1), (.long p2), (.long p3), (.long p4), (.long p5)] ∧ Z.Warmed39 U.vm ∧ U.heap = h0) (fun _ _ _ _ _ => True) (fun _ U o U' => ∃ v L, o = .returned v ∧ Q0 Z p0 p1 p2 p3 p4 p5 h0 n0 v U'.heap L ∧ FrameEnd U o U' L room_1.cells room_1.slots) := by
  refine MetFree.of_bodySF (plainFor_of_name pn_0) hisR ?_
  intro p e s m args below meth c s₁ Bd hml0 hP hK
  obtain ⟨rfl, hZ, hh⟩ := hP
  have hx := Bd.exec
  have hby := Bd.bytes
  have hml : c.maxLocals = 21 := hml0
  have hown : s.vm.findClass "com/example/hot_gate/hotgate/bench/RepliesFirstSentPinLaw" = some m.cls := findClass_of_methodNamed Bd.named
  have hnm := (name_of_methodNamed Bd.named Bd.method).1
  have X0 : Stand p l e room_1 s m #[(.int p0), (.long p1), (.long p2), (.long p3), (.long p4), (.long p5)] below meth c s₁ [] 0 0 := Stand.of_body Bd
  have e0 : s₁.heap = h0 := by rw [← hh, Bd.state]; rfl
  have N0 := Fr.nil n0
  have s0 : Steps p.tables e below (s₁.setTop (entryFrame m #[(.int p0), (.long p1), (.long p2), (.long p3), (.long p4), (.long p5)] maxLocals)) (s₁.setTop (mkF m 0 #[.val (.int p0), .val (.long p1), .second, .val (.long p2), .second, .val (.long p3), .second, .val (.long p4), .second, .val (.long p5), .second, .unset, .unset, .unset, .unset, .unset, .unset, .unset, .unset, .unset, .unset] [])) := castTop (ef_rm0 m p0 p1 p2 p3 p4 p5) (Steps.refl _)
  have s1 : Steps p.tables e below (s₁.setTop (entryFrame m #[(.int p0), (.long p1), (.long p2), (.long p3), (.long p4), (.long p5)] maxLocals)) (s₁.setTop (mkF m 3 #[.val (.int p0), .val (.long p1), .second, .val (.long p2), .second, .val (.long p3), .second, .val (.long p4), .second, .val (.long p5), .second, .unset, .unset, .unset, .unset, .unset, .unset, .unset, .unset, .unset, .unset] [(.int (p0 &&& (3 : Int32)))])) := by
    refine s0.trans ?_
    show Steps p.tables e below (s₁.setTop (mkF m 0 #[.val (.int p0), .val (.long p1), .second, .val (.long p2), .second, .val (.long p3), .second, .val (.long p4), .second, .val (.long p5), .second, .unset, .unset, .unset, .unset, .unset, .unset, .unset, .unset, .unset, .unset] [])) _
    refine XS.iloadN X0.here hx rfl (hb hby at_0) rfl ?_
    show Steps p.tables e below (s₁.setTop (mkF m 1 #[.val (.int p0), .val (.long p1), .second, .val (.long p2), .second, .val (.long p3), .second, .val (.long p4), .second, .val (.long p5), .second, .unset, .unset, .unset, .unset, .unset, .unset, .unset, .unset, .unset, .unset] [(.int p0)])) _
    refine XS.iconst X0.here hx rfl (hb hby at_1) ?_
    show Steps p.tables e below (s₁.setTop (mkF m 2 #[.val (.int p0), .val (.long p1), .second, .val (.long p2), .second, .val (.long p3), .second, .val (.long p4), .second, .val (.long p5), .second, .unset, .unset, .unset, .unset, .unset, .unset, .unset, .unset, .unset, .unset] [(.int (3 : Int32)), (.int p0)])) _
    refine XS.iand X0.here hx rfl (hb hby at_2) rfl ?_
    exact Steps.refl _
  rcases own_and3 p0 with hk2 | hk2 | hk2 | hk2
  · have s3 := s1
    rw [hk2] at s3
    obtain ⟨T4, h4, X4, e4, E4, A4, D4, -, st4⟩ := newO X0 hx hZ hown (hw _ (List.mem_of_getElem? (i := 0) rfl)) (hw _ (List.mem_of_getElem? (i := 1) rfl)) (hw _ (List.mem_of_getElem? (i := 2) rfl)) e0 (g := (mkF m 5 #[.val (.int p0), .val (.long p1), .second, .val (.long p2), .second, .val (.long p3), .second, .val (.long p4), .second, .val (.long p5), .second, .val (.int (0 : Int32)), .unset, .unset, .unset, .unset, .unset, .unset, .unset, .unset, .unset] [])) rfl (hb hby at_5) (by decide) (by decide)
    obtain ⟨b4, g4⟩ : ∃ z, z = h0.size := ⟨_, rfl⟩
    rw [← g4] at A4 D4 st4
    have g_b4 : n0 ≤ b4 := Nat.le_trans (Nat.le_of_eq O0.1.symm) (Nat.le_trans O0.2.1 (Nat.le_of_eq g4.symm))
    have O4 := O0.ext E4
    have F4_firstError : Fld Z h4 b4 "com/example/hot_gate/hotgate/bench/Replies" "firstError" "Ljava/util/concurrent/atomic/AtomicReference;" .null := D4 (Or.inr (hw _ (List.mem_of_getElem? (i := 17) rfl))) (ty := (.object "java/util/concurrent/atomic/AtomicReference")) (by decide)
    have F4_sentAt : Fld Z h4 b4 "com/example/hot_gate/hotgate/bench/Replies" "sentAt" "[J" .null := D4 (Or.inr (hw _ (List.mem_of_getElem? (i := 20) rfl))) (ty := (.array .long)) (by decide)
    have F4_answeredAt : Fld Z h4 b4 "com/example/hot_gate/hotgate/bench/Replies" "answeredAt" "[J" .null := D4 (Or.inr (hw _ (List.mem_of_getElem? (i := 22) rfl))) (ty := (.array .long)) (by decide)
    have F4_outcomes : Fld Z h4 b4 "com/example/hot_gate/hotgate/bench/Replies" "outcomes" "[Lcom/example/hot_gate/hotgate/bench/Outcome;" .null := D4 (Or.inr (hw _ (List.mem_of_getElem? (i := 26) rfl))) (ty := (.array (.object "com/example/hot_gate/hotgate/bench/Outcome"))) (by decide)
    obtain ⟨_, _, ⟨T5, L5, k5, n5⟩, -, X5, ⟨Lc5, hQ5, l5, y5, z5⟩, st5⟩ := X4.specialBack hx (y := (⟨"com/example/hot_gate/hotgate/bench/Replies", "<init>", "(I)V"⟩ : MethodName)) rfl hown (mvT hZ (hw _ (List.mem_of_getElem? (i := 3) rfl))) (mvT hZ (hw _ (List.mem_of_getElem? (i := 4) rfl))) (mvT hZ (hw _ (List.mem_of_getElem? (i := 5) rfl))) (by decide) (backOf (W := 1) (rmi0 l Z a0 hw [] b4 h4 n0 O4 A4 F4_firstError F4_sentAt F4_answeredAt F4_outcomes g_b4) hZ (hw _ (List.mem_of_getElem? (i := 5) rfl)) (hw _ (List.mem_of_getElem? (i := 2) rfl)) (by decide) (by decide)) (g := (mkF m 11 #[.val (.int p0), .val (.long p1), .second, .val (.long p2), .second, .val (.long p3), .second, .val (.long p4), .second, .val (.long p5), .second, .val (.int (0 : Int32)), .unset, .unset, .unset, .unset, .unset, .unset, .unset, .unset, .unset] [(.int (0 : Int32)), (.ref b4), (.ref b4)])) rfl (by rw [hml]; rfl) (Steps.refl _) (a := b4) (argsL := [(.int (0 : Int32))]) (rest := [(.ref b4)]) (lenOf pd_rm0_0 rfl) rfl (by show 2 * 0 + _ ≤ _; exact Nat.le_of_eq rfl) (hb hby at_11) (fun _ _ => ⟨rfl, e4, (by decide : 1 + 4 ≤ _), (by decide : 4 + 1 ≤ _)⟩)
    dsimp only [Pt.U, Pt.locs, Pt.cells, Pt.slots] at X5 l5 y5 z5 st5 hQ5
    subst l5 y5 z5
    obtain ⟨u6, u7, u8, u9, u10, u11, rfl, Nq5, Kc5, f5_0, f5_1, f5_2, f5_3, f5_4, f5_5, f5_6, f5_7, f5_8, f5_9, f5_10, f5_11, f5_12⟩ := hQ5
    have N5 := Fr.app N0 Nq5
    have ne_b4_u6 : b4 ≠ u6 := Nat.ne_of_lt (Nat.lt_of_lt_of_le A4.lt f5_7)
    have ne_b4_u7 : b4 ≠ u7 := Nat.ne_of_lt (Nat.lt_of_lt_of_le A4.lt f5_8)
    have ne_b4_u8 : b4 ≠ u8 := Nat.ne_of_lt (Nat.lt_of_lt_of_le A4.lt f5_9)
    have g_u6 : n0 ≤ u6 := Nat.le_trans (Nat.le_of_eq O4.1.symm) (Nat.le_trans O4.2.1 f5_7)
    have g_u7 : n0 ≤ u7 := Nat.le_trans (Nat.le_of_eq O4.1.symm) (Nat.le_trans O4.2.1 f5_8)
    have g_u8 : n0 ≤ u8 := Nat.le_trans (Nat.le_of_eq O4.1.symm) (Nat.le_trans O4.2.1 f5_9)
    have O5 := O4.keep Kc5 (allS g_b4 all0)
    obtain ⟨cq12, kq12, q12a, q12b, q12c⟩ := isOf hZ (rfl : T5.heap = T5.heap) f5_0
    obtain ⟨_, _, ⟨T12, L12, k12, n12⟩, -, X12, ⟨Lc12, hQ12, l12, y12, z12⟩, st12⟩ := X5.virtualBack hx (y := (⟨"com/example/hot_gate/hotgate/bench/Replies", "firstSent", "()J"⟩ : MethodName)) (z := (⟨"com/example/hot_gate/hotgate/bench/Replies", "firstSent", "()J"⟩ : MethodName)) hown (mvT hZ (hw _ (List.mem_of_getElem? (i := 28) rfl))) (mvT hZ (hw _ (List.mem_of_getElem? (i := 29) rfl))) (notFace_of_selects (args := #[]) (mvT hZ (hw _ (List.mem_of_getElem? (i := 31) rfl)))) (mvT hZ (hw _ (List.mem_of_getElem? (i := 31) rfl))) (mvT hZ (hw _ (List.mem_of_getElem? (i := 30) rfl))) (by decide) (backOf (W := 0) (rmf0 l Z a0 hw [] b4 u6 u9 T5.heap n0 O5 f5_1 f5_4) hZ (hw _ (List.mem_of_getElem? (i := 32) rfl)) (hw _ (List.mem_of_getElem? (i := 2) rfl)) (by decide) (by decide)) q12a q12c (g := (mkF m 185 #[.val (.int p0), .val (.long p1), .second, .val (.long p2), .second, .val (.long p3), .second, .val (.long p4), .second, .val (.long p5), .second, .val (.int (0 : Int32)), .val (.ref b4), .val (.long (0 : Int64)), .second, .val (.long (0 : Int64)), .second, .val (.long (0 : Int64)), .second, .val (.long (9223372036854775807 : Int64)), .second] [(.ref b4)])) rfl (by rw [hml]; rfl) (Steps.refl _) (argsL := []) (rest := []) (lenOf pd_rm0_1 rfl) rfl (by show 2 * 0 + _ ≤ _; exact Nat.le_of_eq rfl) (hb hby at_185) (fun _ _ => ⟨rfl, (rfl : T5.heap = T5.heap), (by decide : 5 + 0 ≤ _), (by decide : 5 + 0 ≤ _)⟩)
    dsimp only [Pt.U, Pt.locs, Pt.cells, Pt.slots] at X12 l12 y12 z12 st12 hQ12
    subst l12 y12 z12
    obtain ⟨rfl, Nq12, e12⟩ := hQ12
    have N12 := Fr.app N5 Nq12
    have s13 : Steps p.tables e below (s₁.setTop (entryFrame m #[(.int p0), (.long p1), (.long p2), (.long p3), (.long p4), (.long p5)] maxLocals)) (T12.setTop (mkF m 199 #[.val (.int p0), .val (.long p1), .second, .val (.long p2), .second, .val (.long p3), .second, .val (.long p4), .second, .val (.long p5), .second, .val (.int (0 : Int32)), .val (.ref b4), .val (.long (0 : Int64)), .second, .val (.long (0 : Int64)), .second, .val (.long (0 : Int64)), .second, .val (.long (9223372036854775807 : Int64)), .second] [(.int (1 : Int32))])) := by
      refine s3.trans ?_
      show Steps p.tables e below (s₁.setTop (mkF m 3 #[.val (.int p0), .val (.long p1), .second, .val (.long p2), .second, .val (.long p3), .second, .val (.long p4), .second, .val (.long p5), .second, .unset, .unset, .unset, .unset, .unset, .unset, .unset, .unset, .unset, .unset] [(.int (0 : Int32))])) _
      refine XS.istore X0.here hx rfl (hb hby at_3) rfl (l' := #[.val (.int p0), .val (.long p1), .second, .val (.long p2), .second, .val (.long p3), .second, .val (.long p4), .second, .val (.long p5), .second, .val (.int (0 : Int32)), .unset, .unset, .unset, .unset, .unset, .unset, .unset, .unset, .unset]) rfl ?_
      show Steps p.tables e below (s₁.setTop (mkF m 5 #[.val (.int p0), .val (.long p1), .second, .val (.long p2), .second, .val (.long p3), .second, .val (.long p4), .second, .val (.long p5), .second, .val (.int (0 : Int32)), .unset, .unset, .unset, .unset, .unset, .unset, .unset, .unset, .unset] [])) _
      refine st4 _ ?_
      show Steps p.tables e below (T4.setTop (mkF m 8 #[.val (.int p0), .val (.long p1), .second, .val (.long p2), .second, .val (.long p3), .second, .val (.long p4), .second, .val (.long p5), .second, .val (.int (0 : Int32)), .unset, .unset, .unset, .unset, .unset, .unset, .unset, .unset, .unset] [(.ref b4)])) _
      refine XS.dup X4.here hx rfl (hb hby at_8) rfl rfl ?_
      show Steps p.tables e below (T4.setTop (mkF m 9 #[.val (.int p0), .val (.long p1), .second, .val (.long p2), .second, .val (.long p3), .second, .val (.long p4), .second, .val (.long p5), .second, .val (.int (0 : Int32)), .unset, .unset, .unset, .unset, .unset, .unset, .unset, .unset, .unset] [(.ref b4), (.ref b4)])) _
      refine XS.iload X4.here hx rfl (hb hby at_9) rfl ?_
      show Steps p.tables e below (T4.setTop (mkF m 11 #[.val (.int p0), .val (.long p1), .second, .val (.long p2), .second, .val (.long p3), .second, .val (.long p4), .second, .val (.long p5), .second, .val (.int (0 : Int32)), .unset, .unset, .unset, .unset, .unset, .unset, .unset, .unset, .unset] [(.int (0 : Int32)), (.ref b4), (.ref b4)])) _
      refine st5.trans ?_
      show Steps p.tables e below (T5.setTop (mkF m 14 #[.val (.int p0), .val (.long p1), .second, .val (.long p2), .second, .val (.long p3), .second, .val (.long p4), .second, .val (.long p5), .second, .val (.int (0 : Int32)), .unset, .unset, .unset, .unset, .unset, .unset, .unset, .unset, .unset] [(.ref b4)])) _
      refine XS.astore X5.here hx rfl (hb hby at_14) rfl rfl (l' := #[.val (.int p0), .val (.long p1), .second, .val (.long p2), .second, .val (.long p3), .second, .val (.long p4), .second, .val (.long p5), .second, .val (.int (0 : Int32)), .val (.ref b4), .unset, .unset, .unset, .unset, .unset, .unset, .unset, .unset]) rfl ?_
      show Steps p.tables e below (T5.setTop (mkF m 16 #[.val (.int p0), .val (.long p1), .second, .val (.long p2), .second, .val (.long p3), .second, .val (.long p4), .second, .val (.long p5), .second, .val (.int (0 : Int32)), .val (.ref b4), .unset, .unset, .unset, .unset, .unset, .unset, .unset, .unset] [])) _
      refine XS.lconst X5.here hx rfl (hb hby at_16) ?_
      show Steps p.tables e below (T5.setTop (mkF m 17 #[.val (.int p0), .val (.long p1), .second, .val (.long p2), .second, .val (.long p3), .second, .val (.long p4), .second, .val (.long p5), .second, .val (.int (0 : Int32)), .val (.ref b4), .unset, .unset, .unset, .unset, .unset, .unset, .unset, .unset] [(.long (0 : Int64))])) _
      refine XS.lstore X5.here hx rfl (hb hby at_17) rfl (l' := #[.val (.int p0), .val (.long p1), .second, .val (.long p2), .second, .val (.long p3), .second, .val (.long p4), .second, .val (.long p5), .second, .val (.int (0 : Int32)), .val (.ref b4), .val (.long (0 : Int64)), .second, .unset, .unset, .unset, .unset, .unset, .unset]) rfl ?_
      show Steps p.tables e below (T5.setTop (mkF m 19 #[.val (.int p0), .val (.long p1), .second, .val (.long p2), .second, .val (.long p3), .second, .val (.long p4), .second, .val (.long p5), .second, .val (.int (0 : Int32)), .val (.ref b4), .val (.long (0 : Int64)), .second, .unset, .unset, .unset, .unset, .unset, .unset] [])) _
      refine XS.lconst X5.here hx rfl (hb hby at_19) ?_
      show Steps p.tables e below (T5.setTop (mkF m 20 #[.val (.int p0), .val (.long p1), .second, .val (.long p2), .second, .val (.long p3), .second, .val (.long p4), .second, .val (.long p5), .second, .val (.int (0 : Int32)), .val (.ref b4), .val (.long (0 : Int64)), .second, .unset, .unset, .unset, .unset, .unset, .unset] [(.long (0 : Int64))])) _
      refine XS.lstore X5.here hx rfl (hb hby at_20) rfl (l' := #[.val (.int p0), .val (.long p1), .second, .val (.long p2), .second, .val (.long p3), .second, .val (.long p4), .second, .val (.long p5), .second, .val (.int (0 : Int32)), .val (.ref b4), .val (.long (0 : Int64)), .second, .val (.long (0 : Int64)), .second, .unset, .unset, .unset, .unset]) rfl ?_
      show Steps p.tables e below (T5.setTop (mkF m 22 #[.val (.int p0), .val (.long p1), .second, .val (.long p2), .second, .val (.long p3), .second, .val (.long p4), .second, .val (.long p5), .second, .val (.int (0 : Int32)), .val (.ref b4), .val (.long (0 : Int64)), .second, .val (.long (0 : Int64)), .second, .unset, .unset, .unset, .unset] [])) _
      refine XS.lconst X5.here hx rfl (hb hby at_22) ?_
      show Steps p.tables e below (T5.setTop (mkF m 23 #[.val (.int p0), .val (.long p1), .second, .val (.long p2), .second, .val (.long p3), .second, .val (.long p4), .second, .val (.long p5), .second, .val (.int (0 : Int32)), .val (.ref b4), .val (.long (0 : Int64)), .second, .val (.long (0 : Int64)), .second, .unset, .unset, .unset, .unset] [(.long (0 : Int64))])) _
      refine XS.lstore X5.here hx rfl (hb hby at_23) rfl (l' := #[.val (.int p0), .val (.long p1), .second, .val (.long p2), .second, .val (.long p3), .second, .val (.long p4), .second, .val (.long p5), .second, .val (.int (0 : Int32)), .val (.ref b4), .val (.long (0 : Int64)), .second, .val (.long (0 : Int64)), .second, .val (.long (0 : Int64)), .second, .unset, .unset]) rfl ?_
      show Steps p.tables e below (T5.setTop (mkF m 25 #[.val (.int p0), .val (.long p1), .second, .val (.long p2), .second, .val (.long p3), .second, .val (.long p4), .second, .val (.long p5), .second, .val (.int (0 : Int32)), .val (.ref b4), .val (.long (0 : Int64)), .second, .val (.long (0 : Int64)), .second, .val (.long (0 : Int64)), .second, .unset, .unset] [])) _
      refine XS.iload X5.here hx rfl (hb hby at_25) rfl ?_
      show Steps p.tables e below (T5.setTop (mkF m 27 #[.val (.int p0), .val (.long p1), .second, .val (.long p2), .second, .val (.long p3), .second, .val (.long p4), .second, .val (.long p5), .second, .val (.int (0 : Int32)), .val (.ref b4), .val (.long (0 : Int64)), .second, .val (.long (0 : Int64)), .second, .val (.long (0 : Int64)), .second, .unset, .unset] [(.int (0 : Int32))])) _
      refine XS.ifYes X5.here hx rfl (pc0 := 27) (pc' := 54) rfl (hb hby at_27) rfl ((if0 _ _).trans (flt (by decide)).2.2.2) (by decide) (by decide) ?_
      show Steps p.tables e below (T5.setTop (mkF m 54 #[.val (.int p0), .val (.long p1), .second, .val (.long p2), .second, .val (.long p3), .second, .val (.long p4), .second, .val (.long p5), .second, .val (.int (0 : Int32)), .val (.ref b4), .val (.long (0 : Int64)), .second, .val (.long (0 : Int64)), .second, .val (.long (0 : Int64)), .second, .unset, .unset] [])) _
      refine XS.iload X5.here hx rfl (hb hby at_54) rfl ?_
      show Steps p.tables e below (T5.setTop (mkF m 56 #[.val (.int p0), .val (.long p1), .second, .val (.long p2), .second, .val (.long p3), .second, .val (.long p4), .second, .val (.long p5), .second, .val (.int (0 : Int32)), .val (.ref b4), .val (.long (0 : Int64)), .second, .val (.long (0 : Int64)), .second, .val (.long (0 : Int64)), .second, .unset, .unset] [(.int (0 : Int32))])) _
      refine XS.ifYes X5.here hx rfl (pc0 := 56) (pc' := 81) rfl (hb hby at_56) rfl ((if0 _ _).trans (flt (by decide)).2.2.2) (by decide) (by decide) ?_
      show Steps p.tables e below (T5.setTop (mkF m 81 #[.val (.int p0), .val (.long p1), .second, .val (.long p2), .second, .val (.long p3), .second, .val (.long p4), .second, .val (.long p5), .second, .val (.int (0 : Int32)), .val (.ref b4), .val (.long (0 : Int64)), .second, .val (.long (0 : Int64)), .second, .val (.long (0 : Int64)), .second, .unset, .unset] [])) _
      refine XS.iload X5.here hx rfl (hb hby at_81) rfl ?_
      show Steps p.tables e below (T5.setTop (mkF m 83 #[.val (.int p0), .val (.long p1), .second, .val (.long p2), .second, .val (.long p3), .second, .val (.long p4), .second, .val (.long p5), .second, .val (.int (0 : Int32)), .val (.ref b4), .val (.long (0 : Int64)), .second, .val (.long (0 : Int64)), .second, .val (.long (0 : Int64)), .second, .unset, .unset] [(.int (0 : Int32))])) _
      refine XS.iconst X5.here hx rfl (hb hby at_83) ?_
      show Steps p.tables e below (T5.setTop (mkF m 84 #[.val (.int p0), .val (.long p1), .second, .val (.long p2), .second, .val (.long p3), .second, .val (.long p4), .second, .val (.long p5), .second, .val (.int (0 : Int32)), .val (.ref b4), .val (.long (0 : Int64)), .second, .val (.long (0 : Int64)), .second, .val (.long (0 : Int64)), .second, .unset, .unset] [(.int (1 : Int32)), (.int (0 : Int32))])) _
      refine XS.icmpYes X5.here hx rfl (pc0 := 84) (pc' := 109) rfl (hb hby at_84) rfl (flt (by decide)).2.2.2 (by decide) (by decide) ?_
      show Steps p.tables e below (T5.setTop (mkF m 109 #[.val (.int p0), .val (.long p1), .second, .val (.long p2), .second, .val (.long p3), .second, .val (.long p4), .second, .val (.long p5), .second, .val (.int (0 : Int32)), .val (.ref b4), .val (.long (0 : Int64)), .second, .val (.long (0 : Int64)), .second, .val (.long (0 : Int64)), .second, .unset, .unset] [])) _
      refine XS.iload X5.here hx rfl (hb hby at_109) rfl ?_
      show Steps p.tables e below (T5.setTop (mkF m 111 #[.val (.int p0), .val (.long p1), .second, .val (.long p2), .second, .val (.long p3), .second, .val (.long p4), .second, .val (.long p5), .second, .val (.int (0 : Int32)), .val (.ref b4), .val (.long (0 : Int64)), .second, .val (.long (0 : Int64)), .second, .val (.long (0 : Int64)), .second, .unset, .unset] [(.int (0 : Int32))])) _
      refine XS.iconst X5.here hx rfl (hb hby at_111) ?_
      show Steps p.tables e below (T5.setTop (mkF m 112 #[.val (.int p0), .val (.long p1), .second, .val (.long p2), .second, .val (.long p3), .second, .val (.long p4), .second, .val (.long p5), .second, .val (.int (0 : Int32)), .val (.ref b4), .val (.long (0 : Int64)), .second, .val (.long (0 : Int64)), .second, .val (.long (0 : Int64)), .second, .unset, .unset] [(.int (2 : Int32)), (.int (0 : Int32))])) _
      refine XS.icmpYes X5.here hx rfl (pc0 := 112) (pc' := 139) rfl (hb hby at_112) rfl (flt (by decide)).2.2.2 (by decide) (by decide) ?_
      show Steps p.tables e below (T5.setTop (mkF m 139 #[.val (.int p0), .val (.long p1), .second, .val (.long p2), .second, .val (.long p3), .second, .val (.long p4), .second, .val (.long p5), .second, .val (.int (0 : Int32)), .val (.ref b4), .val (.long (0 : Int64)), .second, .val (.long (0 : Int64)), .second, .val (.long (0 : Int64)), .second, .unset, .unset] [])) _
      refine X5.ldc2Long hx hown (mvT hZ (hw _ (List.mem_of_getElem? (i := 27) rfl))) (g := (mkF m 139 #[.val (.int p0), .val (.long p1), .second, .val (.long p2), .second, .val (.long p3), .second, .val (.long p4), .second, .val (.long p5), .second, .val (.int (0 : Int32)), .val (.ref b4), .val (.long (0 : Int64)), .second, .val (.long (0 : Int64)), .second, .val (.long (0 : Int64)), .second, .unset, .unset] [])) rfl (hb hby at_139) _ ?_
      show Steps p.tables e below (T5.setTop (mkF m 142 #[.val (.int p0), .val (.long p1), .second, .val (.long p2), .second, .val (.long p3), .second, .val (.long p4), .second, .val (.long p5), .second, .val (.int (0 : Int32)), .val (.ref b4), .val (.long (0 : Int64)), .second, .val (.long (0 : Int64)), .second, .val (.long (0 : Int64)), .second, .unset, .unset] [(.long (9223372036854775807 : Int64))])) _
      refine XS.lstore X5.here hx rfl (hb hby at_142) rfl (l' := #[.val (.int p0), .val (.long p1), .second, .val (.long p2), .second, .val (.long p3), .second, .val (.long p4), .second, .val (.long p5), .second, .val (.int (0 : Int32)), .val (.ref b4), .val (.long (0 : Int64)), .second, .val (.long (0 : Int64)), .second, .val (.long (0 : Int64)), .second, .val (.long (9223372036854775807 : Int64)), .second]) rfl ?_
      show Steps p.tables e below (T5.setTop (mkF m 144 #[.val (.int p0), .val (.long p1), .second, .val (.long p2), .second, .val (.long p3), .second, .val (.long p4), .second, .val (.long p5), .second, .val (.int (0 : Int32)), .val (.ref b4), .val (.long (0 : Int64)), .second, .val (.long (0 : Int64)), .second, .val (.long (0 : Int64)), .second, .val (.long (9223372036854775807 : Int64)), .second] [])) _
      refine XS.iload X5.here hx rfl (hb hby at_144) rfl ?_
      show Steps p.tables e below (T5.setTop (mkF m 146 #[.val (.int p0), .val (.long p1), .second, .val (.long p2), .second, .val (.long p3), .second, .val (.long p4), .second, .val (.long p5), .second, .val (.int (0 : Int32)), .val (.ref b4), .val (.long (0 : Int64)), .second, .val (.long (0 : Int64)), .second, .val (.long (0 : Int64)), .second, .val (.long (9223372036854775807 : Int64)), .second] [(.int (0 : Int32))])) _
      refine XS.ifYes X5.here hx rfl (pc0 := 146) (pc' := 153) rfl (hb hby at_146) rfl ((if0 _ _).trans (flt (by decide)).2.2.2) (by decide) (by decide) ?_
      show Steps p.tables e below (T5.setTop (mkF m 153 #[.val (.int p0), .val (.long p1), .second, .val (.long p2), .second, .val (.long p3), .second, .val (.long p4), .second, .val (.long p5), .second, .val (.int (0 : Int32)), .val (.ref b4), .val (.long (0 : Int64)), .second, .val (.long (0 : Int64)), .second, .val (.long (0 : Int64)), .second, .val (.long (9223372036854775807 : Int64)), .second] [])) _
      refine XS.iload X5.here hx rfl (hb hby at_153) rfl ?_
      show Steps p.tables e below (T5.setTop (mkF m 155 #[.val (.int p0), .val (.long p1), .second, .val (.long p2), .second, .val (.long p3), .second, .val (.long p4), .second, .val (.long p5), .second, .val (.int (0 : Int32)), .val (.ref b4), .val (.long (0 : Int64)), .second, .val (.long (0 : Int64)), .second, .val (.long (0 : Int64)), .second, .val (.long (9223372036854775807 : Int64)), .second] [(.int (0 : Int32))])) _
      refine XS.iconst X5.here hx rfl (hb hby at_155) ?_
      show Steps p.tables e below (T5.setTop (mkF m 156 #[.val (.int p0), .val (.long p1), .second, .val (.long p2), .second, .val (.long p3), .second, .val (.long p4), .second, .val (.long p5), .second, .val (.int (0 : Int32)), .val (.ref b4), .val (.long (0 : Int64)), .second, .val (.long (0 : Int64)), .second, .val (.long (0 : Int64)), .second, .val (.long (9223372036854775807 : Int64)), .second] [(.int (1 : Int32)), (.int (0 : Int32))])) _
      refine XS.icmpYes X5.here hx rfl (pc0 := 156) (pc' := 168) rfl (hb hby at_156) rfl (flt (by decide)).2.2.2 (by decide) (by decide) ?_
      show Steps p.tables e below (T5.setTop (mkF m 168 #[.val (.int p0), .val (.long p1), .second, .val (.long p2), .second, .val (.long p3), .second, .val (.long p4), .second, .val (.long p5), .second, .val (.int (0 : Int32)), .val (.ref b4), .val (.long (0 : Int64)), .second, .val (.long (0 : Int64)), .second, .val (.long (0 : Int64)), .second, .val (.long (9223372036854775807 : Int64)), .second] [])) _
      refine XS.iload X5.here hx rfl (hb hby at_168) rfl ?_
      show Steps p.tables e below (T5.setTop (mkF m 170 #[.val (.int p0), .val (.long p1), .second, .val (.long p2), .second, .val (.long p3), .second, .val (.long p4), .second, .val (.long p5), .second, .val (.int (0 : Int32)), .val (.ref b4), .val (.long (0 : Int64)), .second, .val (.long (0 : Int64)), .second, .val (.long (0 : Int64)), .second, .val (.long (9223372036854775807 : Int64)), .second] [(.int (0 : Int32))])) _
      refine XS.iconst X5.here hx rfl (hb hby at_170) ?_
      show Steps p.tables e below (T5.setTop (mkF m 171 #[.val (.int p0), .val (.long p1), .second, .val (.long p2), .second, .val (.long p3), .second, .val (.long p4), .second, .val (.long p5), .second, .val (.int (0 : Int32)), .val (.ref b4), .val (.long (0 : Int64)), .second, .val (.long (0 : Int64)), .second, .val (.long (0 : Int64)), .second, .val (.long (9223372036854775807 : Int64)), .second] [(.int (2 : Int32)), (.int (0 : Int32))])) _
      refine XS.icmpYes X5.here hx rfl (pc0 := 171) (pc' := 183) rfl (hb hby at_171) rfl (flt (by decide)).2.2.2 (by decide) (by decide) ?_
      show Steps p.tables e below (T5.setTop (mkF m 183 #[.val (.int p0), .val (.long p1), .second, .val (.long p2), .second, .val (.long p3), .second, .val (.long p4), .second, .val (.long p5), .second, .val (.int (0 : Int32)), .val (.ref b4), .val (.long (0 : Int64)), .second, .val (.long (0 : Int64)), .second, .val (.long (0 : Int64)), .second, .val (.long (9223372036854775807 : Int64)), .second] [])) _
      refine XS.aload X5.here hx rfl (hb hby at_183) rfl rfl ?_
      show Steps p.tables e below (T5.setTop (mkF m 185 #[.val (.int p0), .val (.long p1), .second, .val (.long p2), .second, .val (.long p3), .second, .val (.long p4), .second, .val (.long p5), .second, .val (.int (0 : Int32)), .val (.ref b4), .val (.long (0 : Int64)), .second, .val (.long (0 : Int64)), .second, .val (.long (0 : Int64)), .second, .val (.long (9223372036854775807 : Int64)), .second] [(.ref b4)])) _
      refine st12.trans ?_
      show Steps p.tables e below (T12.setTop (mkF m 188 #[.val (.int p0), .val (.long p1), .second, .val (.long p2), .second, .val (.long p3), .second, .val (.long p4), .second, .val (.long p5), .second, .val (.int (0 : Int32)), .val (.ref b4), .val (.long (0 : Int64)), .second, .val (.long (0 : Int64)), .second, .val (.long (0 : Int64)), .second, .val (.long (9223372036854775807 : Int64)), .second] [(.long (9223372036854775807 : Int64))])) _
      refine XS.lload X12.here hx rfl (hb hby at_188) rfl ?_
      show Steps p.tables e below (T12.setTop (mkF m 190 #[.val (.int p0), .val (.long p1), .second, .val (.long p2), .second, .val (.long p3), .second, .val (.long p4), .second, .val (.long p5), .second, .val (.int (0 : Int32)), .val (.ref b4), .val (.long (0 : Int64)), .second, .val (.long (0 : Int64)), .second, .val (.long (0 : Int64)), .second, .val (.long (9223372036854775807 : Int64)), .second] [(.long (9223372036854775807 : Int64)), (.long (9223372036854775807 : Int64))])) _
      refine XS.lcmp X12.here hx rfl (hb hby at_190) rfl ?_
      show Steps p.tables e below (T12.setTop (mkF m 191 #[.val (.int p0), .val (.long p1), .second, .val (.long p2), .second, .val (.long p3), .second, .val (.long p4), .second, .val (.long p5), .second, .val (.int (0 : Int32)), .val (.ref b4), .val (.long (0 : Int64)), .second, .val (.long (0 : Int64)), .second, .val (.long (0 : Int64)), .second, .val (.long (9223372036854775807 : Int64)), .second] [(.int (lcmpW (9223372036854775807 : Int64) (9223372036854775807 : Int64)))])) _
      refine XS.ifNo X12.here hx rfl (hb hby at_191) rfl ((if0 _ _).trans (teq ((lw_eq _ _).mpr rfl)).2) ?_
      show Steps p.tables e below (T12.setTop (mkF m 194 #[.val (.int p0), .val (.long p1), .second, .val (.long p2), .second, .val (.long p3), .second, .val (.long p4), .second, .val (.long p5), .second, .val (.int (0 : Int32)), .val (.ref b4), .val (.long (0 : Int64)), .second, .val (.long (0 : Int64)), .second, .val (.long (0 : Int64)), .second, .val (.long (9223372036854775807 : Int64)), .second] [])) _
      refine XS.iconst X12.here hx rfl (hb hby at_194) ?_
      show Steps p.tables e below (T12.setTop (mkF m 195 #[.val (.int p0), .val (.long p1), .second, .val (.long p2), .second, .val (.long p3), .second, .val (.long p4), .second, .val (.long p5), .second, .val (.int (0 : Int32)), .val (.ref b4), .val (.long (0 : Int64)), .second, .val (.long (0 : Int64)), .second, .val (.long (0 : Int64)), .second, .val (.long (9223372036854775807 : Int64)), .second] [(.int (1 : Int32))])) _
      refine XS.goto X12.here hx rfl (pc0 := 195) (pc' := 199) rfl (hb hby at_195) (by decide) (by decide) ?_
      exact Steps.refl _
    obtain ⟨fs, hr, hrun, hended, hW, hsame⟩ := X12.leave (v := some (.int (1 : Int32))) (fun h => by rw [Bd.returns] at h; cases h)
    refine ⟨_, _, s13.trans ?_, hrun, hended, _, _, rfl, ?_, ⟨_, rfl⟩, hW, hsame.mono (by decide) (by decide)⟩
    · show Steps p.tables e below (T12.setTop (mkF m 199 #[.val (.int p0), .val (.long p1), .second, .val (.long p2), .second, .val (.long p3), .second, .val (.long p4), .second, .val (.long p5), .second, .val (.int (0 : Int32)), .val (.ref b4), .val (.long (0 : Int64)), .second, .val (.long (0 : Int64)), .second, .val (.long (0 : Int64)), .second, .val (.long (9223372036854775807 : Int64)), .second] [(.int (1 : Int32))])) _
      exact retN X12 hx (t := .boolean) Bd.returns (by simp) (hb hby at_199) hr
    · show Q0 Z p0 p1 p2 p3 p4 p5 h0 n0 _ T12.heap _
      rw [e12]
      exact ⟨rfl, N12⟩
  · have s14 := s1
    rw [hk2] at s14
    obtain ⟨T15, h15, X15, e15, E15, A15, D15, -, st15⟩ := newO X0 hx hZ hown (hw _ (List.mem_of_getElem? (i := 0) rfl)) (hw _ (List.mem_of_getElem? (i := 1) rfl)) (hw _ (List.mem_of_getElem? (i := 2) rfl)) e0 (g := (mkF m 5 #[.val (.int p0), .val (.long p1), .second, .val (.long p2), .second, .val (.long p3), .second, .val (.long p4), .second, .val (.long p5), .second, .val (.int (1 : Int32)), .unset, .unset, .unset, .unset, .unset, .unset, .unset, .unset, .unset] [])) rfl (hb hby at_5) (by decide) (by decide)
    obtain ⟨b15, g15⟩ : ∃ z, z = h0.size := ⟨_, rfl⟩
    rw [← g15] at A15 D15 st15
    have g_b15 : n0 ≤ b15 := Nat.le_trans (Nat.le_of_eq O0.1.symm) (Nat.le_trans O0.2.1 (Nat.le_of_eq g15.symm))
    have O15 := O0.ext E15
    have F15_firstError : Fld Z h15 b15 "com/example/hot_gate/hotgate/bench/Replies" "firstError" "Ljava/util/concurrent/atomic/AtomicReference;" .null := D15 (Or.inr (hw _ (List.mem_of_getElem? (i := 17) rfl))) (ty := (.object "java/util/concurrent/atomic/AtomicReference")) (by decide)
    have F15_sentAt : Fld Z h15 b15 "com/example/hot_gate/hotgate/bench/Replies" "sentAt" "[J" .null := D15 (Or.inr (hw _ (List.mem_of_getElem? (i := 20) rfl))) (ty := (.array .long)) (by decide)
    have F15_answeredAt : Fld Z h15 b15 "com/example/hot_gate/hotgate/bench/Replies" "answeredAt" "[J" .null := D15 (Or.inr (hw _ (List.mem_of_getElem? (i := 22) rfl))) (ty := (.array .long)) (by decide)
    have F15_outcomes : Fld Z h15 b15 "com/example/hot_gate/hotgate/bench/Replies" "outcomes" "[Lcom/example/hot_gate/hotgate/bench/Outcome;" .null := D15 (Or.inr (hw _ (List.mem_of_getElem? (i := 26) rfl))) (ty := (.array (.object "com/example/hot_gate/hotgate/bench/Outcome"))) (by decide)
    obtain ⟨_, _, ⟨T16, L16, k16, n16⟩, -, X16, ⟨Lc16, hQ16, l16, y16, z16⟩, st16⟩ := X15.specialBack hx (y := (⟨"com/example/hot_gate/hotgate/bench/Replies", "<init>", "(I)V"⟩ : MethodName)) rfl hown (mvT hZ (hw _ (List.mem_of_getElem? (i := 3) rfl))) (mvT hZ (hw _ (List.mem_of_getElem? (i := 4) rfl))) (mvT hZ (hw _ (List.mem_of_getElem? (i := 5) rfl))) (by decide) (backOf (W := 1) (rmi1 l Z a0 hw [] b15 h15 n0 O15 A15 F15_firstError F15_sentAt F15_answeredAt F15_outcomes g_b15) hZ (hw _ (List.mem_of_getElem? (i := 5) rfl)) (hw _ (List.mem_of_getElem? (i := 2) rfl)) (by decide) (by decide)) (g := (mkF m 11 #[.val (.int p0), .val (.long p1), .second, .val (.long p2), .second, .val (.long p3), .second, .val (.long p4), .second, .val (.long p5), .second, .val (.int (1 : Int32)), .unset, .unset, .unset, .unset, .unset, .unset, .unset, .unset, .unset] [(.int (1 : Int32)), (.ref b15), (.ref b15)])) rfl (by rw [hml]; rfl) (Steps.refl _) (a := b15) (argsL := [(.int (1 : Int32))]) (rest := [(.ref b15)]) (lenOf pd_rm0_0 rfl) rfl (by show 2 * 0 + _ ≤ _; exact Nat.le_of_eq rfl) (hb hby at_11) (fun _ _ => ⟨rfl, e15, (by decide : 1 + 4 ≤ _), (by decide : 4 + 4 ≤ _)⟩)
    dsimp only [Pt.U, Pt.locs, Pt.cells, Pt.slots] at X16 l16 y16 z16 st16 hQ16
    subst l16 y16 z16
    obtain ⟨u17, u18, u19, u20, u21, u22, rfl, Nq16, Kc16, f16_0, f16_1, f16_2, f16_3, f16_4, f16_5, f16_6, f16_7, f16_8, f16_9, f16_10, f16_11, f16_12⟩ := hQ16
    have N16 := Fr.app N0 Nq16
    have ne_b15_u17 : b15 ≠ u17 := Nat.ne_of_lt (Nat.lt_of_lt_of_le A15.lt f16_7)
    have ne_b15_u18 : b15 ≠ u18 := Nat.ne_of_lt (Nat.lt_of_lt_of_le A15.lt f16_8)
    have ne_b15_u19 : b15 ≠ u19 := Nat.ne_of_lt (Nat.lt_of_lt_of_le A15.lt f16_9)
    have g_u17 : n0 ≤ u17 := Nat.le_trans (Nat.le_of_eq O15.1.symm) (Nat.le_trans O15.2.1 f16_7)
    have g_u18 : n0 ≤ u18 := Nat.le_trans (Nat.le_of_eq O15.1.symm) (Nat.le_trans O15.2.1 f16_8)
    have g_u19 : n0 ≤ u19 := Nat.le_trans (Nat.le_of_eq O15.1.symm) (Nat.le_trans O15.2.1 f16_9)
    have O16 := O15.keep Kc16 (allS g_b15 all0)
    have s23 : Steps p.tables e below (s₁.setTop (entryFrame m #[(.int p0), (.long p1), (.long p2), (.long p3), (.long p4), (.long p5)] maxLocals)) (T16.setTop (mkF m 35 #[.val (.int p0), .val (.long p1), .second, .val (.long p2), .second, .val (.long p3), .second, .val (.long p4), .second, .val (.long p5), .second, .val (.int (1 : Int32)), .val (.ref b15), .val (.long (0 : Int64)), .second, .val (.long (0 : Int64)), .second, .val (.long (0 : Int64)), .second, .unset, .unset] [(.int ((p0 >>> ((5 : Int32) &&& 31)) &&& (1 : Int32)))])) := by
      refine s14.trans ?_
      show Steps p.tables e below (s₁.setTop (mkF m 3 #[.val (.int p0), .val (.long p1), .second, .val (.long p2), .second, .val (.long p3), .second, .val (.long p4), .second, .val (.long p5), .second, .unset, .unset, .unset, .unset, .unset, .unset, .unset, .unset, .unset, .unset] [(.int (1 : Int32))])) _
      refine XS.istore X0.here hx rfl (hb hby at_3) rfl (l' := #[.val (.int p0), .val (.long p1), .second, .val (.long p2), .second, .val (.long p3), .second, .val (.long p4), .second, .val (.long p5), .second, .val (.int (1 : Int32)), .unset, .unset, .unset, .unset, .unset, .unset, .unset, .unset, .unset]) rfl ?_
      show Steps p.tables e below (s₁.setTop (mkF m 5 #[.val (.int p0), .val (.long p1), .second, .val (.long p2), .second, .val (.long p3), .second, .val (.long p4), .second, .val (.long p5), .second, .val (.int (1 : Int32)), .unset, .unset, .unset, .unset, .unset, .unset, .unset, .unset, .unset] [])) _
      refine st15 _ ?_
      show Steps p.tables e below (T15.setTop (mkF m 8 #[.val (.int p0), .val (.long p1), .second, .val (.long p2), .second, .val (.long p3), .second, .val (.long p4), .second, .val (.long p5), .second, .val (.int (1 : Int32)), .unset, .unset, .unset, .unset, .unset, .unset, .unset, .unset, .unset] [(.ref b15)])) _
      refine XS.dup X15.here hx rfl (hb hby at_8) rfl rfl ?_
      show Steps p.tables e below (T15.setTop (mkF m 9 #[.val (.int p0), .val (.long p1), .second, .val (.long p2), .second, .val (.long p3), .second, .val (.long p4), .second, .val (.long p5), .second, .val (.int (1 : Int32)), .unset, .unset, .unset, .unset, .unset, .unset, .unset, .unset, .unset] [(.ref b15), (.ref b15)])) _
      refine XS.iload X15.here hx rfl (hb hby at_9) rfl ?_
      show Steps p.tables e below (T15.setTop (mkF m 11 #[.val (.int p0), .val (.long p1), .second, .val (.long p2), .second, .val (.long p3), .second, .val (.long p4), .second, .val (.long p5), .second, .val (.int (1 : Int32)), .unset, .unset, .unset, .unset, .unset, .unset, .unset, .unset, .unset] [(.int (1 : Int32)), (.ref b15), (.ref b15)])) _
      refine st16.trans ?_
      show Steps p.tables e below (T16.setTop (mkF m 14 #[.val (.int p0), .val (.long p1), .second, .val (.long p2), .second, .val (.long p3), .second, .val (.long p4), .second, .val (.long p5), .second, .val (.int (1 : Int32)), .unset, .unset, .unset, .unset, .unset, .unset, .unset, .unset, .unset] [(.ref b15)])) _
      refine XS.astore X16.here hx rfl (hb hby at_14) rfl rfl (l' := #[.val (.int p0), .val (.long p1), .second, .val (.long p2), .second, .val (.long p3), .second, .val (.long p4), .second, .val (.long p5), .second, .val (.int (1 : Int32)), .val (.ref b15), .unset, .unset, .unset, .unset, .unset, .unset, .unset, .unset]) rfl ?_
      show Steps p.tables e below (T16.setTop (mkF m 16 #[.val (.int p0), .val (.long p1), .second, .val (.long p2), .second, .val (.long p3), .second, .val (.long p4), .second, .val (.long p5), .second, .val (.int (1 : Int32)), .val (.ref b15), .unset, .unset, .unset, .unset, .unset, .unset, .unset, .unset] [])) _
      refine XS.lconst X16.here hx rfl (hb hby at_16) ?_
      show Steps p.tables e below (T16.setTop (mkF m 17 #[.val (.int p0), .val (.long p1), .second, .val (.long p2), .second, .val (.long p3), .second, .val (.long p4), .second, .val (.long p5), .second, .val (.int (1 : Int32)), .val (.ref b15), .unset, .unset, .unset, .unset, .unset, .unset, .unset, .unset] [(.long (0 : Int64))])) _
      refine XS.lstore X16.here hx rfl (hb hby at_17) rfl (l' := #[.val (.int p0), .val (.long p1), .second, .val (.long p2), .second, .val (.long p3), .second, .val (.long p4), .second, .val (.long p5), .second, .val (.int (1 : Int32)), .val (.ref b15), .val (.long (0 : Int64)), .second, .unset, .unset, .unset, .unset, .unset, .unset]) rfl ?_
      show Steps p.tables e below (T16.setTop (mkF m 19 #[.val (.int p0), .val (.long p1), .second, .val (.long p2), .second, .val (.long p3), .second, .val (.long p4), .second, .val (.long p5), .second, .val (.int (1 : Int32)), .val (.ref b15), .val (.long (0 : Int64)), .second, .unset, .unset, .unset, .unset, .unset, .unset] [])) _
      refine XS.lconst X16.here hx rfl (hb hby at_19) ?_
      show Steps p.tables e below (T16.setTop (mkF m 20 #[.val (.int p0), .val (.long p1), .second, .val (.long p2), .second, .val (.long p3), .second, .val (.long p4), .second, .val (.long p5), .second, .val (.int (1 : Int32)), .val (.ref b15), .val (.long (0 : Int64)), .second, .unset, .unset, .unset, .unset, .unset, .unset] [(.long (0 : Int64))])) _
      refine XS.lstore X16.here hx rfl (hb hby at_20) rfl (l' := #[.val (.int p0), .val (.long p1), .second, .val (.long p2), .second, .val (.long p3), .second, .val (.long p4), .second, .val (.long p5), .second, .val (.int (1 : Int32)), .val (.ref b15), .val (.long (0 : Int64)), .second, .val (.long (0 : Int64)), .second, .unset, .unset, .unset, .unset]) rfl ?_
      show Steps p.tables e below (T16.setTop (mkF m 22 #[.val (.int p0), .val (.long p1), .second, .val (.long p2), .second, .val (.long p3), .second, .val (.long p4), .second, .val (.long p5), .second, .val (.int (1 : Int32)), .val (.ref b15), .val (.long (0 : Int64)), .second, .val (.long (0 : Int64)), .second, .unset, .unset, .unset, .unset] [])) _
      refine XS.lconst X16.here hx rfl (hb hby at_22) ?_
      show Steps p.tables e below (T16.setTop (mkF m 23 #[.val (.int p0), .val (.long p1), .second, .val (.long p2), .second, .val (.long p3), .second, .val (.long p4), .second, .val (.long p5), .second, .val (.int (1 : Int32)), .val (.ref b15), .val (.long (0 : Int64)), .second, .val (.long (0 : Int64)), .second, .unset, .unset, .unset, .unset] [(.long (0 : Int64))])) _
      refine XS.lstore X16.here hx rfl (hb hby at_23) rfl (l' := #[.val (.int p0), .val (.long p1), .second, .val (.long p2), .second, .val (.long p3), .second, .val (.long p4), .second, .val (.long p5), .second, .val (.int (1 : Int32)), .val (.ref b15), .val (.long (0 : Int64)), .second, .val (.long (0 : Int64)), .second, .val (.long (0 : Int64)), .second, .unset, .unset]) rfl ?_
      show Steps p.tables e below (T16.setTop (mkF m 25 #[.val (.int p0), .val (.long p1), .second, .val (.long p2), .second, .val (.long p3), .second, .val (.long p4), .second, .val (.long p5), .second, .val (.int (1 : Int32)), .val (.ref b15), .val (.long (0 : Int64)), .second, .val (.long (0 : Int64)), .second, .val (.long (0 : Int64)), .second, .unset, .unset] [])) _
      refine XS.iload X16.here hx rfl (hb hby at_25) rfl ?_
      show Steps p.tables e below (T16.setTop (mkF m 27 #[.val (.int p0), .val (.long p1), .second, .val (.long p2), .second, .val (.long p3), .second, .val (.long p4), .second, .val (.long p5), .second, .val (.int (1 : Int32)), .val (.ref b15), .val (.long (0 : Int64)), .second, .val (.long (0 : Int64)), .second, .val (.long (0 : Int64)), .second, .unset, .unset] [(.int (1 : Int32))])) _
      refine XS.ifNo X16.here hx rfl (hb hby at_27) rfl ((if0 _ _).trans (tlt (by decide)).2.2.2) ?_
      show Steps p.tables e below (T16.setTop (mkF m 30 #[.val (.int p0), .val (.long p1), .second, .val (.long p2), .second, .val (.long p3), .second, .val (.long p4), .second, .val (.long p5), .second, .val (.int (1 : Int32)), .val (.ref b15), .val (.long (0 : Int64)), .second, .val (.long (0 : Int64)), .second, .val (.long (0 : Int64)), .second, .unset, .unset] [])) _
      refine XS.iloadN X16.here hx rfl (hb hby at_30) rfl ?_
      show Steps p.tables e below (T16.setTop (mkF m 31 #[.val (.int p0), .val (.long p1), .second, .val (.long p2), .second, .val (.long p3), .second, .val (.long p4), .second, .val (.long p5), .second, .val (.int (1 : Int32)), .val (.ref b15), .val (.long (0 : Int64)), .second, .val (.long (0 : Int64)), .second, .val (.long (0 : Int64)), .second, .unset, .unset] [(.int p0)])) _
      refine XS.iconst X16.here hx rfl (hb hby at_31) ?_
      show Steps p.tables e below (T16.setTop (mkF m 32 #[.val (.int p0), .val (.long p1), .second, .val (.long p2), .second, .val (.long p3), .second, .val (.long p4), .second, .val (.long p5), .second, .val (.int (1 : Int32)), .val (.ref b15), .val (.long (0 : Int64)), .second, .val (.long (0 : Int64)), .second, .val (.long (0 : Int64)), .second, .unset, .unset] [(.int (5 : Int32)), (.int p0)])) _
      refine XS.ishr X16.here hx rfl (hb hby at_32) rfl ?_
      show Steps p.tables e below (T16.setTop (mkF m 33 #[.val (.int p0), .val (.long p1), .second, .val (.long p2), .second, .val (.long p3), .second, .val (.long p4), .second, .val (.long p5), .second, .val (.int (1 : Int32)), .val (.ref b15), .val (.long (0 : Int64)), .second, .val (.long (0 : Int64)), .second, .val (.long (0 : Int64)), .second, .unset, .unset] [(.int (p0 >>> ((5 : Int32) &&& 31)))])) _
      refine XS.iconst X16.here hx rfl (hb hby at_33) ?_
      show Steps p.tables e below (T16.setTop (mkF m 34 #[.val (.int p0), .val (.long p1), .second, .val (.long p2), .second, .val (.long p3), .second, .val (.long p4), .second, .val (.long p5), .second, .val (.int (1 : Int32)), .val (.ref b15), .val (.long (0 : Int64)), .second, .val (.long (0 : Int64)), .second, .val (.long (0 : Int64)), .second, .unset, .unset] [(.int (1 : Int32)), (.int (p0 >>> ((5 : Int32) &&& 31)))])) _
      refine XS.iand X16.here hx rfl (hb hby at_34) rfl ?_
      exact Steps.refl _
    obtain ⟨T28, h28, L28, X28, e28, O28, N28, f28_0, f28_1, f28_2, f28_3, f28_4, f28_5, f28_6, s28⟩ : ∃ (T : State) (h : Heap) (L : List Loc), (Stand p l e room_1 s m #[(.int p0), (.long p1), (.long p2), (.long p3), (.long p4), (.long p5)] below meth c T L 5 8) ∧ (T.heap = h) ∧ (Old Z n0 h) ∧ (Fr n0 L) ∧ (Exa Z h b15 "com/example/hot_gate/hotgate/bench/Replies") ∧ (Fld Z h b15 "com/example/hot_gate/hotgate/bench/Replies" "sentAt" "[J" (.ref u17)) ∧ (Fld Z h b15 "com/example/hot_gate/hotgate/bench/Replies" "answeredAt" "[J" (.ref u18)) ∧ (Fld Z h b15 "com/example/hot_gate/hotgate/bench/Replies" "outcomes" "[Lcom/example/hot_gate/hotgate/bench/Outcome;" (.ref u19)) ∧ (Arv Z h u17 u20 .long (1 : Int32) [(.long (if ((p0 >>> ((5 : Int32) &&& 31)) &&& (1 : Int32)) = (0 : Int32) then (0 : Int64) else p4))] (.long (0 : Int64))) ∧ (Arv Z h u18 u21 .long (1 : Int32) [(.long (if ((p0 >>> ((5 : Int32) &&& 31)) &&& (1 : Int32)) = (0 : Int32) then (0 : Int64) else p5))] (.long (0 : Int64))) ∧ (Arv Z h u19 u22 (.object "com/example/hot_gate/hotgate/bench/Outcome") (1 : Int32) [.null] .null) ∧ (Steps p.tables e below (s₁.setTop (entryFrame m #[(.int p0), (.long p1), (.long p2), (.long p3), (.long p4), (.long p5)] maxLocals)) (T.setTop (mkF m 54 #[.val (.int p0), .val (.long p1), .second, .val (.long p2), .second, .val (.long p3), .second, .val (.long p4), .second, .val (.long p5), .second, .val (.int (1 : Int32)), .val (.ref b15), .val (.long (if ((p0 >>> ((5 : Int32) &&& 31)) &&& (1 : Int32)) = (0 : Int32) then (0 : Int64) else p4)), .second, .val (.long (0 : Int64)), .second, .val (.long (0 : Int64)), .second, .unset, .unset] []))) := by
      by_cases hc24 : ((p0 >>> ((5 : Int32) &&& 31)) &&& (1 : Int32)) = (0 : Int32)
      · have s25 : Steps p.tables e below (s₁.setTop (entryFrame m #[(.int p0), (.long p1), (.long p2), (.long p3), (.long p4), (.long p5)] maxLocals)) (T16.setTop (mkF m 54 #[.val (.int p0), .val (.long p1), .second, .val (.long p2), .second, .val (.long p3), .second, .val (.long p4), .second, .val (.long p5), .second, .val (.int (1 : Int32)), .val (.ref b15), .val (.long (0 : Int64)), .second, .val (.long (0 : Int64)), .second, .val (.long (0 : Int64)), .second, .unset, .unset] [])) := by
          refine s23.trans ?_
          show Steps p.tables e below (T16.setTop (mkF m 35 #[.val (.int p0), .val (.long p1), .second, .val (.long p2), .second, .val (.long p3), .second, .val (.long p4), .second, .val (.long p5), .second, .val (.int (1 : Int32)), .val (.ref b15), .val (.long (0 : Int64)), .second, .val (.long (0 : Int64)), .second, .val (.long (0 : Int64)), .second, .unset, .unset] [(.int ((p0 >>> ((5 : Int32) &&& 31)) &&& (1 : Int32)))])) _
          refine XS.ifYes X16.here hx rfl (pc0 := 35) (pc' := 54) rfl (hb hby at_35) rfl ((if0 _ _).trans (teq hc24).1) (by decide) (by decide) ?_
          exact Steps.refl _
        simp only [if_pos hc24]
        exact ⟨T16, T16.heap, _, X16, (rfl : T16.heap = T16.heap), O16, N16, f16_0, f16_1, f16_2, f16_3, f16_4, f16_5, f16_6, s25⟩
      · obtain ⟨cq26, kq26, q26a, q26b, q26c⟩ := isOf hZ (rfl : T16.heap = T16.heap) f16_0
        obtain ⟨_, _, ⟨T26, L26, k26, n26⟩, -, X26, ⟨Lc26, hQ26, l26, y26, z26⟩, st26⟩ := X16.virtualBack hx (y := (⟨"com/example/hot_gate/hotgate/bench/Replies", "record", "(IJJLcom/example/hot_gate/hotgate/bench/Outcome;Ljava/lang/String;)V"⟩ : MethodName)) (z := (⟨"com/example/hot_gate/hotgate/bench/Replies", "record", "(IJJLcom/example/hot_gate/hotgate/bench/Outcome;Ljava/lang/String;)V"⟩ : MethodName)) hown (mvT hZ (hw _ (List.mem_of_getElem? (i := 34) rfl))) (mvT hZ (hw _ (List.mem_of_getElem? (i := 35) rfl))) (notFace_of_selects (args := #[]) (mvT hZ (hw _ (List.mem_of_getElem? (i := 37) rfl)))) (mvT hZ (hw _ (List.mem_of_getElem? (i := 37) rfl))) (mvT hZ (hw _ (List.mem_of_getElem? (i := 36) rfl))) (by decide) (backOf (W := 0) (rmr1_0 l Z a0 hw [] b15 p4 p5 u17 u18 u19 u20 u21 u22 (0 : Int64) (0 : Int64) T16.heap n0 O16 f16_1 f16_2 f16_3 f16_4 f16_5 f16_6 g_u17 g_u18 g_u19 f16_10 f16_11 f16_12 ne_b15_u17 ne_b15_u18 ne_b15_u19) hZ (hw _ (List.mem_of_getElem? (i := 38) rfl)) (hw _ (List.mem_of_getElem? (i := 2) rfl)) (by decide) (by decide)) q26a q26c (g := (mkF m 47 #[.val (.int p0), .val (.long p1), .second, .val (.long p2), .second, .val (.long p3), .second, .val (.long p4), .second, .val (.long p5), .second, .val (.int (1 : Int32)), .val (.ref b15), .val (.long (0 : Int64)), .second, .val (.long (0 : Int64)), .second, .val (.long (0 : Int64)), .second, .unset, .unset] [.null, .null, (.long p5), (.long p4), (.int (0 : Int32)), (.ref b15)])) rfl (by rw [hml]; rfl) (Steps.refl _) (argsL := [(.int (0 : Int32)), (.long p4), (.long p5), .null, .null]) (rest := []) (lenOf pd_rm0_2 rfl) rfl (by show 2 * 0 + _ ≤ _; exact Nat.le_of_eq rfl) (hb hby at_47) (fun _ _ => ⟨rfl, (rfl : T16.heap = T16.heap), (by decide : 5 + 0 ≤ _), (by decide : 8 + 0 ≤ _)⟩)
        dsimp only [Pt.U, Pt.locs, Pt.cells, Pt.slots] at X26 l26 y26 z26 st26 hQ26
        subst l26 y26 z26
        obtain ⟨rfl, Nq26, Kc26, f26_0, f26_1, f26_2⟩ := hQ26
        have N26 := Fr.app N16 Nq26
        have O26 := O16.keep Kc26 (allS g_u17 (allS g_u18 (allS g_u19 all0)))
        have s27 : Steps p.tables e below (s₁.setTop (entryFrame m #[(.int p0), (.long p1), (.long p2), (.long p3), (.long p4), (.long p5)] maxLocals)) (T26.setTop (mkF m 54 #[.val (.int p0), .val (.long p1), .second, .val (.long p2), .second, .val (.long p3), .second, .val (.long p4), .second, .val (.long p5), .second, .val (.int (1 : Int32)), .val (.ref b15), .val (.long p4), .second, .val (.long (0 : Int64)), .second, .val (.long (0 : Int64)), .second, .unset, .unset] [])) := by
          refine s23.trans ?_
          show Steps p.tables e below (T16.setTop (mkF m 35 #[.val (.int p0), .val (.long p1), .second, .val (.long p2), .second, .val (.long p3), .second, .val (.long p4), .second, .val (.long p5), .second, .val (.int (1 : Int32)), .val (.ref b15), .val (.long (0 : Int64)), .second, .val (.long (0 : Int64)), .second, .val (.long (0 : Int64)), .second, .unset, .unset] [(.int ((p0 >>> ((5 : Int32) &&& 31)) &&& (1 : Int32)))])) _
          refine XS.ifNo X16.here hx rfl (hb hby at_35) rfl ((if0 _ _).trans (feq hc24).1) ?_
          show Steps p.tables e below (T16.setTop (mkF m 38 #[.val (.int p0), .val (.long p1), .second, .val (.long p2), .second, .val (.long p3), .second, .val (.long p4), .second, .val (.long p5), .second, .val (.int (1 : Int32)), .val (.ref b15), .val (.long (0 : Int64)), .second, .val (.long (0 : Int64)), .second, .val (.long (0 : Int64)), .second, .unset, .unset] [])) _
          refine XS.aload X16.here hx rfl (hb hby at_38) rfl rfl ?_
          show Steps p.tables e below (T16.setTop (mkF m 40 #[.val (.int p0), .val (.long p1), .second, .val (.long p2), .second, .val (.long p3), .second, .val (.long p4), .second, .val (.long p5), .second, .val (.int (1 : Int32)), .val (.ref b15), .val (.long (0 : Int64)), .second, .val (.long (0 : Int64)), .second, .val (.long (0 : Int64)), .second, .unset, .unset] [(.ref b15)])) _
          refine XS.iconst X16.here hx rfl (hb hby at_40) ?_
          show Steps p.tables e below (T16.setTop (mkF m 41 #[.val (.int p0), .val (.long p1), .second, .val (.long p2), .second, .val (.long p3), .second, .val (.long p4), .second, .val (.long p5), .second, .val (.int (1 : Int32)), .val (.ref b15), .val (.long (0 : Int64)), .second, .val (.long (0 : Int64)), .second, .val (.long (0 : Int64)), .second, .unset, .unset] [(.int (0 : Int32)), (.ref b15)])) _
          refine XS.lload X16.here hx rfl (hb hby at_41) rfl ?_
          show Steps p.tables e below (T16.setTop (mkF m 43 #[.val (.int p0), .val (.long p1), .second, .val (.long p2), .second, .val (.long p3), .second, .val (.long p4), .second, .val (.long p5), .second, .val (.int (1 : Int32)), .val (.ref b15), .val (.long (0 : Int64)), .second, .val (.long (0 : Int64)), .second, .val (.long (0 : Int64)), .second, .unset, .unset] [(.long p4), (.int (0 : Int32)), (.ref b15)])) _
          refine XS.lload X16.here hx rfl (hb hby at_43) rfl ?_
          show Steps p.tables e below (T16.setTop (mkF m 45 #[.val (.int p0), .val (.long p1), .second, .val (.long p2), .second, .val (.long p3), .second, .val (.long p4), .second, .val (.long p5), .second, .val (.int (1 : Int32)), .val (.ref b15), .val (.long (0 : Int64)), .second, .val (.long (0 : Int64)), .second, .val (.long (0 : Int64)), .second, .unset, .unset] [(.long p5), (.long p4), (.int (0 : Int32)), (.ref b15)])) _
          refine XS.aconstNull X16.here hx rfl (hb hby at_45) ?_
          show Steps p.tables e below (T16.setTop (mkF m 46 #[.val (.int p0), .val (.long p1), .second, .val (.long p2), .second, .val (.long p3), .second, .val (.long p4), .second, .val (.long p5), .second, .val (.int (1 : Int32)), .val (.ref b15), .val (.long (0 : Int64)), .second, .val (.long (0 : Int64)), .second, .val (.long (0 : Int64)), .second, .unset, .unset] [.null, (.long p5), (.long p4), (.int (0 : Int32)), (.ref b15)])) _
          refine XS.aconstNull X16.here hx rfl (hb hby at_46) ?_
          show Steps p.tables e below (T16.setTop (mkF m 47 #[.val (.int p0), .val (.long p1), .second, .val (.long p2), .second, .val (.long p3), .second, .val (.long p4), .second, .val (.long p5), .second, .val (.int (1 : Int32)), .val (.ref b15), .val (.long (0 : Int64)), .second, .val (.long (0 : Int64)), .second, .val (.long (0 : Int64)), .second, .unset, .unset] [.null, .null, (.long p5), (.long p4), (.int (0 : Int32)), (.ref b15)])) _
          refine st26.trans ?_
          show Steps p.tables e below (T26.setTop (mkF m 50 #[.val (.int p0), .val (.long p1), .second, .val (.long p2), .second, .val (.long p3), .second, .val (.long p4), .second, .val (.long p5), .second, .val (.int (1 : Int32)), .val (.ref b15), .val (.long (0 : Int64)), .second, .val (.long (0 : Int64)), .second, .val (.long (0 : Int64)), .second, .unset, .unset] [])) _
          refine XS.lload X26.here hx rfl (hb hby at_50) rfl ?_
          show Steps p.tables e below (T26.setTop (mkF m 52 #[.val (.int p0), .val (.long p1), .second, .val (.long p2), .second, .val (.long p3), .second, .val (.long p4), .second, .val (.long p5), .second, .val (.int (1 : Int32)), .val (.ref b15), .val (.long (0 : Int64)), .second, .val (.long (0 : Int64)), .second, .val (.long (0 : Int64)), .second, .unset, .unset] [(.long p4)])) _
          refine XS.lstore X26.here hx rfl (hb hby at_52) rfl (l' := #[.val (.int p0), .val (.long p1), .second, .val (.long p2), .second, .val (.long p3), .second, .val (.long p4), .second, .val (.long p5), .second, .val (.int (1 : Int32)), .val (.ref b15), .val (.long p4), .second, .val (.long (0 : Int64)), .second, .val (.long (0 : Int64)), .second, .unset, .unset]) rfl ?_
          exact Steps.refl _
        have c29 : Exa Z T26.heap b15 "com/example/hot_gate/hotgate/bench/Replies" := (f16_0.keep Kc26)
        have c30 : Fld Z T26.heap b15 "com/example/hot_gate/hotgate/bench/Replies" "sentAt" "[J" (.ref u17) := (f16_1.keep Kc26 (ninS ne_b15_u17 (ninS ne_b15_u18 (ninS ne_b15_u19 nin0))))
        have c31 : Fld Z T26.heap b15 "com/example/hot_gate/hotgate/bench/Replies" "answeredAt" "[J" (.ref u18) := (f16_2.keep Kc26 (ninS ne_b15_u17 (ninS ne_b15_u18 (ninS ne_b15_u19 nin0))))
        have c32 : Fld Z T26.heap b15 "com/example/hot_gate/hotgate/bench/Replies" "outcomes" "[Lcom/example/hot_gate/hotgate/bench/Outcome;" (.ref u19) := (f16_3.keep Kc26 (ninS ne_b15_u17 (ninS ne_b15_u18 (ninS ne_b15_u19 nin0))))
        simp only [if_neg hc24]
        exact ⟨T26, T26.heap, _, X26, (rfl : T26.heap = T26.heap), O26, N26, c29, c30, c31, c32, f26_0, f26_1, f26_2, s27⟩
    obtain ⟨z33, hz33⟩ : ∃ z, z = (if ((p0 >>> ((5 : Int32) &&& 31)) &&& (1 : Int32)) = (0 : Int32) then (0 : Int64) else p4) := ⟨_, rfl⟩
    rw [← hz33] at s28 f28_4
    obtain ⟨z34, hz34⟩ : ∃ z, z = (if ((p0 >>> ((5 : Int32) &&& 31)) &&& (1 : Int32)) = (0 : Int32) then (0 : Int64) else p5) := ⟨_, rfl⟩
    rw [← hz34] at f28_5
    have s35 : Steps p.tables e below (s₁.setTop (entryFrame m #[(.int p0), (.long p1), (.long p2), (.long p3), (.long p4), (.long p5)] maxLocals)) (T28.setTop (mkF m 64 #[.val (.int p0), .val (.long p1), .second, .val (.long p2), .second, .val (.long p3), .second, .val (.long p4), .second, .val (.long p5), .second, .val (.int (1 : Int32)), .val (.ref b15), .val (.long z33), .second, .val (.long (0 : Int64)), .second, .val (.long (0 : Int64)), .second, .unset, .unset] [(.int ((p0 >>> ((2 : Int32) &&& 31)) &&& (1 : Int32)))])) := by
      refine s28.trans ?_
      show Steps p.tables e below (T28.setTop (mkF m 54 #[.val (.int p0), .val (.long p1), .second, .val (.long p2), .second, .val (.long p3), .second, .val (.long p4), .second, .val (.long p5), .second, .val (.int (1 : Int32)), .val (.ref b15), .val (.long z33), .second, .val (.long (0 : Int64)), .second, .val (.long (0 : Int64)), .second, .unset, .unset] [])) _
      refine XS.iload X28.here hx rfl (hb hby at_54) rfl ?_
      show Steps p.tables e below (T28.setTop (mkF m 56 #[.val (.int p0), .val (.long p1), .second, .val (.long p2), .second, .val (.long p3), .second, .val (.long p4), .second, .val (.long p5), .second, .val (.int (1 : Int32)), .val (.ref b15), .val (.long z33), .second, .val (.long (0 : Int64)), .second, .val (.long (0 : Int64)), .second, .unset, .unset] [(.int (1 : Int32))])) _
      refine XS.ifNo X28.here hx rfl (hb hby at_56) rfl ((if0 _ _).trans (tlt (by decide)).2.2.2) ?_
      show Steps p.tables e below (T28.setTop (mkF m 59 #[.val (.int p0), .val (.long p1), .second, .val (.long p2), .second, .val (.long p3), .second, .val (.long p4), .second, .val (.long p5), .second, .val (.int (1 : Int32)), .val (.ref b15), .val (.long z33), .second, .val (.long (0 : Int64)), .second, .val (.long (0 : Int64)), .second, .unset, .unset] [])) _
      refine XS.iloadN X28.here hx rfl (hb hby at_59) rfl ?_
      show Steps p.tables e below (T28.setTop (mkF m 60 #[.val (.int p0), .val (.long p1), .second, .val (.long p2), .second, .val (.long p3), .second, .val (.long p4), .second, .val (.long p5), .second, .val (.int (1 : Int32)), .val (.ref b15), .val (.long z33), .second, .val (.long (0 : Int64)), .second, .val (.long (0 : Int64)), .second, .unset, .unset] [(.int p0)])) _
      refine XS.iconst X28.here hx rfl (hb hby at_60) ?_
      show Steps p.tables e below (T28.setTop (mkF m 61 #[.val (.int p0), .val (.long p1), .second, .val (.long p2), .second, .val (.long p3), .second, .val (.long p4), .second, .val (.long p5), .second, .val (.int (1 : Int32)), .val (.ref b15), .val (.long z33), .second, .val (.long (0 : Int64)), .second, .val (.long (0 : Int64)), .second, .unset, .unset] [(.int (2 : Int32)), (.int p0)])) _
      refine XS.ishr X28.here hx rfl (hb hby at_61) rfl ?_
      show Steps p.tables e below (T28.setTop (mkF m 62 #[.val (.int p0), .val (.long p1), .second, .val (.long p2), .second, .val (.long p3), .second, .val (.long p4), .second, .val (.long p5), .second, .val (.int (1 : Int32)), .val (.ref b15), .val (.long z33), .second, .val (.long (0 : Int64)), .second, .val (.long (0 : Int64)), .second, .unset, .unset] [(.int (p0 >>> ((2 : Int32) &&& 31)))])) _
      refine XS.iconst X28.here hx rfl (hb hby at_62) ?_
      show Steps p.tables e below (T28.setTop (mkF m 63 #[.val (.int p0), .val (.long p1), .second, .val (.long p2), .second, .val (.long p3), .second, .val (.long p4), .second, .val (.long p5), .second, .val (.int (1 : Int32)), .val (.ref b15), .val (.long z33), .second, .val (.long (0 : Int64)), .second, .val (.long (0 : Int64)), .second, .unset, .unset] [(.int (1 : Int32)), (.int (p0 >>> ((2 : Int32) &&& 31)))])) _
      refine XS.iand X28.here hx rfl (hb hby at_63) rfl ?_
      exact Steps.refl _
    obtain ⟨T40, h40, L40, X40, e40, O40, N40, f40_0, f40_1, f40_2, f40_3, f40_4, f40_5, f40_6, s40⟩ : ∃ (T : State) (h : Heap) (L : List Loc), (Stand p l e room_1 s m #[(.int p0), (.long p1), (.long p2), (.long p3), (.long p4), (.long p5)] below meth c T L 5 8) ∧ (T.heap = h) ∧ (Old Z n0 h) ∧ (Fr n0 L) ∧ (Exa Z h b15 "com/example/hot_gate/hotgate/bench/Replies") ∧ (Fld Z h b15 "com/example/hot_gate/hotgate/bench/Replies" "sentAt" "[J" (.ref u17)) ∧ (Fld Z h b15 "com/example/hot_gate/hotgate/bench/Replies" "answeredAt" "[J" (.ref u18)) ∧ (Fld Z h b15 "com/example/hot_gate/hotgate/bench/Replies" "outcomes" "[Lcom/example/hot_gate/hotgate/bench/Outcome;" (.ref u19)) ∧ (Arv Z h u17 u20 .long (1 : Int32) [(.long (if ((p0 >>> ((2 : Int32) &&& 31)) &&& (1 : Int32)) = (0 : Int32) then z33 else p1))] (.long (0 : Int64))) ∧ (Arv Z h u18 u21 .long (1 : Int32) [(.long (if ((p0 >>> ((2 : Int32) &&& 31)) &&& (1 : Int32)) = (0 : Int32) then z34 else p5))] (.long (0 : Int64))) ∧ (Arv Z h u19 u22 (.object "com/example/hot_gate/hotgate/bench/Outcome") (1 : Int32) [.null] .null) ∧ (Steps p.tables e below (s₁.setTop (entryFrame m #[(.int p0), (.long p1), (.long p2), (.long p3), (.long p4), (.long p5)] maxLocals)) (T.setTop (mkF m 81 #[.val (.int p0), .val (.long p1), .second, .val (.long p2), .second, .val (.long p3), .second, .val (.long p4), .second, .val (.long p5), .second, .val (.int (1 : Int32)), .val (.ref b15), .val (.long (if ((p0 >>> ((2 : Int32) &&& 31)) &&& (1 : Int32)) = (0 : Int32) then z33 else p1)), .second, .val (.long (0 : Int64)), .second, .val (.long (0 : Int64)), .second, .unset, .unset] []))) := by
      by_cases hc36 : ((p0 >>> ((2 : Int32) &&& 31)) &&& (1 : Int32)) = (0 : Int32)
      · have s37 : Steps p.tables e below (s₁.setTop (entryFrame m #[(.int p0), (.long p1), (.long p2), (.long p3), (.long p4), (.long p5)] maxLocals)) (T28.setTop (mkF m 81 #[.val (.int p0), .val (.long p1), .second, .val (.long p2), .second, .val (.long p3), .second, .val (.long p4), .second, .val (.long p5), .second, .val (.int (1 : Int32)), .val (.ref b15), .val (.long z33), .second, .val (.long (0 : Int64)), .second, .val (.long (0 : Int64)), .second, .unset, .unset] [])) := by
          refine s35.trans ?_
          show Steps p.tables e below (T28.setTop (mkF m 64 #[.val (.int p0), .val (.long p1), .second, .val (.long p2), .second, .val (.long p3), .second, .val (.long p4), .second, .val (.long p5), .second, .val (.int (1 : Int32)), .val (.ref b15), .val (.long z33), .second, .val (.long (0 : Int64)), .second, .val (.long (0 : Int64)), .second, .unset, .unset] [(.int ((p0 >>> ((2 : Int32) &&& 31)) &&& (1 : Int32)))])) _
          refine XS.ifYes X28.here hx rfl (pc0 := 64) (pc' := 81) rfl (hb hby at_64) rfl ((if0 _ _).trans (teq hc36).1) (by decide) (by decide) ?_
          exact Steps.refl _
        simp only [if_pos hc36]
        exact ⟨T28, h28, _, X28, e28, O28, N28, f28_0, f28_1, f28_2, f28_3, f28_4, f28_5, f28_6, s37⟩
      · obtain ⟨cq38, kq38, q38a, q38b, q38c⟩ := isOf hZ e28 f28_0
        obtain ⟨_, _, ⟨T38, L38, k38, n38⟩, -, X38, ⟨Lc38, hQ38, l38, y38, z38⟩, st38⟩ := X28.virtualBack hx (y := (⟨"com/example/hot_gate/hotgate/bench/Replies", "record", "(IJJLcom/example/hot_gate/hotgate/bench/Outcome;Ljava/lang/String;)V"⟩ : MethodName)) (z := (⟨"com/example/hot_gate/hotgate/bench/Replies", "record", "(IJJLcom/example/hot_gate/hotgate/bench/Outcome;Ljava/lang/String;)V"⟩ : MethodName)) hown (mvT hZ (hw _ (List.mem_of_getElem? (i := 34) rfl))) (mvT hZ (hw _ (List.mem_of_getElem? (i := 35) rfl))) (notFace_of_selects (args := #[]) (mvT hZ (hw _ (List.mem_of_getElem? (i := 37) rfl)))) (mvT hZ (hw _ (List.mem_of_getElem? (i := 37) rfl))) (mvT hZ (hw _ (List.mem_of_getElem? (i := 36) rfl))) (by decide) (backOf (W := 0) (rmr1_0 l Z a0 hw [] b15 p1 p5 u17 u18 u19 u20 u21 u22 z33 z34 h28 n0 O28 f28_1 f28_2 f28_3 f28_4 f28_5 f28_6 g_u17 g_u18 g_u19 f16_10 f16_11 f16_12 ne_b15_u17 ne_b15_u18 ne_b15_u19) hZ (hw _ (List.mem_of_getElem? (i := 38) rfl)) (hw _ (List.mem_of_getElem? (i := 2) rfl)) (by decide) (by decide)) q38a q38c (g := (mkF m 75 #[.val (.int p0), .val (.long p1), .second, .val (.long p2), .second, .val (.long p3), .second, .val (.long p4), .second, .val (.long p5), .second, .val (.int (1 : Int32)), .val (.ref b15), .val (.long z33), .second, .val (.long (0 : Int64)), .second, .val (.long (0 : Int64)), .second, .unset, .unset] [.null, .null, (.long p5), (.long p1), (.int (0 : Int32)), (.ref b15)])) rfl (by rw [hml]; rfl) (Steps.refl _) (argsL := [(.int (0 : Int32)), (.long p1), (.long p5), .null, .null]) (rest := []) (lenOf pd_rm0_2 rfl) rfl (by show 2 * 0 + _ ≤ _; exact Nat.le_of_eq rfl) (hb hby at_75) (fun _ _ => ⟨rfl, e28, (by decide : 5 + 0 ≤ _), (by decide : 8 + 0 ≤ _)⟩)
        dsimp only [Pt.U, Pt.locs, Pt.cells, Pt.slots] at X38 l38 y38 z38 st38 hQ38
        subst l38 y38 z38
        obtain ⟨rfl, Nq38, Kc38, f38_0, f38_1, f38_2⟩ := hQ38
        have N38 := Fr.app N28 Nq38
        have O38 := O28.keep Kc38 (allS g_u17 (allS g_u18 (allS g_u19 all0)))
        have s39 : Steps p.tables e below (s₁.setTop (entryFrame m #[(.int p0), (.long p1), (.long p2), (.long p3), (.long p4), (.long p5)] maxLocals)) (T38.setTop (mkF m 81 #[.val (.int p0), .val (.long p1), .second, .val (.long p2), .second, .val (.long p3), .second, .val (.long p4), .second, .val (.long p5), .second, .val (.int (1 : Int32)), .val (.ref b15), .val (.long p1), .second, .val (.long (0 : Int64)), .second, .val (.long (0 : Int64)), .second, .unset, .unset] [])) := by
          refine s35.trans ?_
          show Steps p.tables e below (T28.setTop (mkF m 64 #[.val (.int p0), .val (.long p1), .second, .val (.long p2), .second, .val (.long p3), .second, .val (.long p4), .second, .val (.long p5), .second, .val (.int (1 : Int32)), .val (.ref b15), .val (.long z33), .second, .val (.long (0 : Int64)), .second, .val (.long (0 : Int64)), .second, .unset, .unset] [(.int ((p0 >>> ((2 : Int32) &&& 31)) &&& (1 : Int32)))])) _
          refine XS.ifNo X28.here hx rfl (hb hby at_64) rfl ((if0 _ _).trans (feq hc36).1) ?_
          show Steps p.tables e below (T28.setTop (mkF m 67 #[.val (.int p0), .val (.long p1), .second, .val (.long p2), .second, .val (.long p3), .second, .val (.long p4), .second, .val (.long p5), .second, .val (.int (1 : Int32)), .val (.ref b15), .val (.long z33), .second, .val (.long (0 : Int64)), .second, .val (.long (0 : Int64)), .second, .unset, .unset] [])) _
          refine XS.aload X28.here hx rfl (hb hby at_67) rfl rfl ?_
          show Steps p.tables e below (T28.setTop (mkF m 69 #[.val (.int p0), .val (.long p1), .second, .val (.long p2), .second, .val (.long p3), .second, .val (.long p4), .second, .val (.long p5), .second, .val (.int (1 : Int32)), .val (.ref b15), .val (.long z33), .second, .val (.long (0 : Int64)), .second, .val (.long (0 : Int64)), .second, .unset, .unset] [(.ref b15)])) _
          refine XS.iconst X28.here hx rfl (hb hby at_69) ?_
          show Steps p.tables e below (T28.setTop (mkF m 70 #[.val (.int p0), .val (.long p1), .second, .val (.long p2), .second, .val (.long p3), .second, .val (.long p4), .second, .val (.long p5), .second, .val (.int (1 : Int32)), .val (.ref b15), .val (.long z33), .second, .val (.long (0 : Int64)), .second, .val (.long (0 : Int64)), .second, .unset, .unset] [(.int (0 : Int32)), (.ref b15)])) _
          refine XS.lloadN X28.here hx rfl (hb hby at_70) rfl ?_
          show Steps p.tables e below (T28.setTop (mkF m 71 #[.val (.int p0), .val (.long p1), .second, .val (.long p2), .second, .val (.long p3), .second, .val (.long p4), .second, .val (.long p5), .second, .val (.int (1 : Int32)), .val (.ref b15), .val (.long z33), .second, .val (.long (0 : Int64)), .second, .val (.long (0 : Int64)), .second, .unset, .unset] [(.long p1), (.int (0 : Int32)), (.ref b15)])) _
          refine XS.lload X28.here hx rfl (hb hby at_71) rfl ?_
          show Steps p.tables e below (T28.setTop (mkF m 73 #[.val (.int p0), .val (.long p1), .second, .val (.long p2), .second, .val (.long p3), .second, .val (.long p4), .second, .val (.long p5), .second, .val (.int (1 : Int32)), .val (.ref b15), .val (.long z33), .second, .val (.long (0 : Int64)), .second, .val (.long (0 : Int64)), .second, .unset, .unset] [(.long p5), (.long p1), (.int (0 : Int32)), (.ref b15)])) _
          refine XS.aconstNull X28.here hx rfl (hb hby at_73) ?_
          show Steps p.tables e below (T28.setTop (mkF m 74 #[.val (.int p0), .val (.long p1), .second, .val (.long p2), .second, .val (.long p3), .second, .val (.long p4), .second, .val (.long p5), .second, .val (.int (1 : Int32)), .val (.ref b15), .val (.long z33), .second, .val (.long (0 : Int64)), .second, .val (.long (0 : Int64)), .second, .unset, .unset] [.null, (.long p5), (.long p1), (.int (0 : Int32)), (.ref b15)])) _
          refine XS.aconstNull X28.here hx rfl (hb hby at_74) ?_
          show Steps p.tables e below (T28.setTop (mkF m 75 #[.val (.int p0), .val (.long p1), .second, .val (.long p2), .second, .val (.long p3), .second, .val (.long p4), .second, .val (.long p5), .second, .val (.int (1 : Int32)), .val (.ref b15), .val (.long z33), .second, .val (.long (0 : Int64)), .second, .val (.long (0 : Int64)), .second, .unset, .unset] [.null, .null, (.long p5), (.long p1), (.int (0 : Int32)), (.ref b15)])) _
          refine st38.trans ?_
          show Steps p.tables e below (T38.setTop (mkF m 78 #[.val (.int p0), .val (.long p1), .second, .val (.long p2), .second, .val (.long p3), .second, .val (.long p4), .second, .val (.long p5), .second, .val (.int (1 : Int32)), .val (.ref b15), .val (.long z33), .second, .val (.long (0 : Int64)), .second, .val (.long (0 : Int64)), .second, .unset, .unset] [])) _
          refine XS.lloadN X38.here hx rfl (hb hby at_78) rfl ?_
          show Steps p.tables e below (T38.setTop (mkF m 79 #[.val (.int p0), .val (.long p1), .second, .val (.long p2), .second, .val (.long p3), .second, .val (.long p4), .second, .val (.long p5), .second, .val (.int (1 : Int32)), .val (.ref b15), .val (.long z33), .second, .val (.long (0 : Int64)), .second, .val (.long (0 : Int64)), .second, .unset, .unset] [(.long p1)])) _
          refine XS.lstore X38.here hx rfl (hb hby at_79) rfl (l' := #[.val (.int p0), .val (.long p1), .second, .val (.long p2), .second, .val (.long p3), .second, .val (.long p4), .second, .val (.long p5), .second, .val (.int (1 : Int32)), .val (.ref b15), .val (.long p1), .second, .val (.long (0 : Int64)), .second, .val (.long (0 : Int64)), .second, .unset, .unset]) rfl ?_
          exact Steps.refl _
        have c41 : Exa Z T38.heap b15 "com/example/hot_gate/hotgate/bench/Replies" := (f28_0.keep Kc38)
        have c42 : Fld Z T38.heap b15 "com/example/hot_gate/hotgate/bench/Replies" "sentAt" "[J" (.ref u17) := (f28_1.keep Kc38 (ninS ne_b15_u17 (ninS ne_b15_u18 (ninS ne_b15_u19 nin0))))
        have c43 : Fld Z T38.heap b15 "com/example/hot_gate/hotgate/bench/Replies" "answeredAt" "[J" (.ref u18) := (f28_2.keep Kc38 (ninS ne_b15_u17 (ninS ne_b15_u18 (ninS ne_b15_u19 nin0))))
        have c44 : Fld Z T38.heap b15 "com/example/hot_gate/hotgate/bench/Replies" "outcomes" "[Lcom/example/hot_gate/hotgate/bench/Outcome;" (.ref u19) := (f28_3.keep Kc38 (ninS ne_b15_u17 (ninS ne_b15_u18 (ninS ne_b15_u19 nin0))))
        simp only [if_neg hc36]
        exact ⟨T38, T38.heap, _, X38, (rfl : T38.heap = T38.heap), O38, N38, c41, c42, c43, c44, f38_0, f38_1, f38_2, s39⟩
    obtain ⟨z45, hz45⟩ : ∃ z, z = (if ((p0 >>> ((2 : Int32) &&& 31)) &&& (1 : Int32)) = (0 : Int32) then z33 else p1) := ⟨_, rfl⟩
    rw [← hz45] at s40 f40_4
    obtain ⟨z46, hz46⟩ : ∃ z, z = (if ((p0 >>> ((2 : Int32) &&& 31)) &&& (1 : Int32)) = (0 : Int32) then z34 else p5) := ⟨_, rfl⟩
    rw [← hz46] at f40_5
    obtain ⟨cq47, kq47, q47a, q47b, q47c⟩ := isOf hZ e40 f40_0
    obtain ⟨_, _, ⟨T47, L47, k47, n47⟩, -, X47, ⟨Lc47, hQ47, l47, y47, z47⟩, st47⟩ := X40.virtualBack hx (y := (⟨"com/example/hot_gate/hotgate/bench/Replies", "firstSent", "()J"⟩ : MethodName)) (z := (⟨"com/example/hot_gate/hotgate/bench/Replies", "firstSent", "()J"⟩ : MethodName)) hown (mvT hZ (hw _ (List.mem_of_getElem? (i := 28) rfl))) (mvT hZ (hw _ (List.mem_of_getElem? (i := 29) rfl))) (notFace_of_selects (args := #[]) (mvT hZ (hw _ (List.mem_of_getElem? (i := 31) rfl)))) (mvT hZ (hw _ (List.mem_of_getElem? (i := 31) rfl))) (mvT hZ (hw _ (List.mem_of_getElem? (i := 30) rfl))) (by decide) (backOf (W := 0) (rmf1 l Z a0 hw [] b15 u17 u20 z45 h40 n0 O40 f40_1 f40_4) hZ (hw _ (List.mem_of_getElem? (i := 32) rfl)) (hw _ (List.mem_of_getElem? (i := 2) rfl)) (by decide) (by decide)) q47a q47c (g := (mkF m 185 #[.val (.int p0), .val (.long p1), .second, .val (.long p2), .second, .val (.long p3), .second, .val (.long p4), .second, .val (.long p5), .second, .val (.int (1 : Int32)), .val (.ref b15), .val (.long z45), .second, .val (.long (0 : Int64)), .second, .val (.long (0 : Int64)), .second, .val (.long z45), .second] [(.ref b15)])) rfl (by rw [hml]; rfl) (Steps.refl _) (argsL := []) (rest := []) (lenOf pd_rm0_1 rfl) rfl (by show 2 * 0 + _ ≤ _; exact Nat.le_of_eq rfl) (hb hby at_185) (fun _ _ => ⟨rfl, e40, (by decide : 5 + 0 ≤ _), (by decide : 8 + 0 ≤ _)⟩)
    dsimp only [Pt.U, Pt.locs, Pt.cells, Pt.slots] at X47 l47 y47 z47 st47 hQ47
    subst l47 y47 z47
    obtain ⟨rfl, Nq47, e47⟩ := hQ47
    have N47 := Fr.app N40 Nq47
    have s48 : Steps p.tables e below (s₁.setTop (entryFrame m #[(.int p0), (.long p1), (.long p2), (.long p3), (.long p4), (.long p5)] maxLocals)) (T47.setTop (mkF m 199 #[.val (.int p0), .val (.long p1), .second, .val (.long p2), .second, .val (.long p3), .second, .val (.long p4), .second, .val (.long p5), .second, .val (.int (1 : Int32)), .val (.ref b15), .val (.long z45), .second, .val (.long (0 : Int64)), .second, .val (.long (0 : Int64)), .second, .val (.long z45), .second] [(.int (1 : Int32))])) := by
      refine s40.trans ?_
      show Steps p.tables e below (T40.setTop (mkF m 81 #[.val (.int p0), .val (.long p1), .second, .val (.long p2), .second, .val (.long p3), .second, .val (.long p4), .second, .val (.long p5), .second, .val (.int (1 : Int32)), .val (.ref b15), .val (.long z45), .second, .val (.long (0 : Int64)), .second, .val (.long (0 : Int64)), .second, .unset, .unset] [])) _
      refine XS.iload X40.here hx rfl (hb hby at_81) rfl ?_
      show Steps p.tables e below (T40.setTop (mkF m 83 #[.val (.int p0), .val (.long p1), .second, .val (.long p2), .second, .val (.long p3), .second, .val (.long p4), .second, .val (.long p5), .second, .val (.int (1 : Int32)), .val (.ref b15), .val (.long z45), .second, .val (.long (0 : Int64)), .second, .val (.long (0 : Int64)), .second, .unset, .unset] [(.int (1 : Int32))])) _
      refine XS.iconst X40.here hx rfl (hb hby at_83) ?_
      show Steps p.tables e below (T40.setTop (mkF m 84 #[.val (.int p0), .val (.long p1), .second, .val (.long p2), .second, .val (.long p3), .second, .val (.long p4), .second, .val (.long p5), .second, .val (.int (1 : Int32)), .val (.ref b15), .val (.long z45), .second, .val (.long (0 : Int64)), .second, .val (.long (0 : Int64)), .second, .unset, .unset] [(.int (1 : Int32)), (.int (1 : Int32))])) _
      refine XS.icmpYes X40.here hx rfl (pc0 := 84) (pc' := 109) rfl (hb hby at_84) rfl (flt (by decide)).2.2.2 (by decide) (by decide) ?_
      show Steps p.tables e below (T40.setTop (mkF m 109 #[.val (.int p0), .val (.long p1), .second, .val (.long p2), .second, .val (.long p3), .second, .val (.long p4), .second, .val (.long p5), .second, .val (.int (1 : Int32)), .val (.ref b15), .val (.long z45), .second, .val (.long (0 : Int64)), .second, .val (.long (0 : Int64)), .second, .unset, .unset] [])) _
      refine XS.iload X40.here hx rfl (hb hby at_109) rfl ?_
      show Steps p.tables e below (T40.setTop (mkF m 111 #[.val (.int p0), .val (.long p1), .second, .val (.long p2), .second, .val (.long p3), .second, .val (.long p4), .second, .val (.long p5), .second, .val (.int (1 : Int32)), .val (.ref b15), .val (.long z45), .second, .val (.long (0 : Int64)), .second, .val (.long (0 : Int64)), .second, .unset, .unset] [(.int (1 : Int32))])) _
      refine XS.iconst X40.here hx rfl (hb hby at_111) ?_
      show Steps p.tables e below (T40.setTop (mkF m 112 #[.val (.int p0), .val (.long p1), .second, .val (.long p2), .second, .val (.long p3), .second, .val (.long p4), .second, .val (.long p5), .second, .val (.int (1 : Int32)), .val (.ref b15), .val (.long z45), .second, .val (.long (0 : Int64)), .second, .val (.long (0 : Int64)), .second, .unset, .unset] [(.int (2 : Int32)), (.int (1 : Int32))])) _
      refine XS.icmpYes X40.here hx rfl (pc0 := 112) (pc' := 139) rfl (hb hby at_112) rfl (flt (by decide)).2.2.2 (by decide) (by decide) ?_
      show Steps p.tables e below (T40.setTop (mkF m 139 #[.val (.int p0), .val (.long p1), .second, .val (.long p2), .second, .val (.long p3), .second, .val (.long p4), .second, .val (.long p5), .second, .val (.int (1 : Int32)), .val (.ref b15), .val (.long z45), .second, .val (.long (0 : Int64)), .second, .val (.long (0 : Int64)), .second, .unset, .unset] [])) _
      refine X40.ldc2Long hx hown (mvT hZ (hw _ (List.mem_of_getElem? (i := 27) rfl))) (g := (mkF m 139 #[.val (.int p0), .val (.long p1), .second, .val (.long p2), .second, .val (.long p3), .second, .val (.long p4), .second, .val (.long p5), .second, .val (.int (1 : Int32)), .val (.ref b15), .val (.long z45), .second, .val (.long (0 : Int64)), .second, .val (.long (0 : Int64)), .second, .unset, .unset] [])) rfl (hb hby at_139) _ ?_
      show Steps p.tables e below (T40.setTop (mkF m 142 #[.val (.int p0), .val (.long p1), .second, .val (.long p2), .second, .val (.long p3), .second, .val (.long p4), .second, .val (.long p5), .second, .val (.int (1 : Int32)), .val (.ref b15), .val (.long z45), .second, .val (.long (0 : Int64)), .second, .val (.long (0 : Int64)), .second, .unset, .unset] [(.long (9223372036854775807 : Int64))])) _
      refine XS.lstore X40.here hx rfl (hb hby at_142) rfl (l' := #[.val (.int p0), .val (.long p1), .second, .val (.long p2), .second, .val (.long p3), .second, .val (.long p4), .second, .val (.long p5), .second, .val (.int (1 : Int32)), .val (.ref b15), .val (.long z45), .second, .val (.long (0 : Int64)), .second, .val (.long (0 : Int64)), .second, .val (.long (9223372036854775807 : Int64)), .second]) rfl ?_
      show Steps p.tables e below (T40.setTop (mkF m 144 #[.val (.int p0), .val (.long p1), .second, .val (.long p2), .second, .val (.long p3), .second, .val (.long p4), .second, .val (.long p5), .second, .val (.int (1 : Int32)), .val (.ref b15), .val (.long z45), .second, .val (.long (0 : Int64)), .second, .val (.long (0 : Int64)), .second, .val (.long (9223372036854775807 : Int64)), .second] [])) _
      refine XS.iload X40.here hx rfl (hb hby at_144) rfl ?_
      show Steps p.tables e below (T40.setTop (mkF m 146 #[.val (.int p0), .val (.long p1), .second, .val (.long p2), .second, .val (.long p3), .second, .val (.long p4), .second, .val (.long p5), .second, .val (.int (1 : Int32)), .val (.ref b15), .val (.long z45), .second, .val (.long (0 : Int64)), .second, .val (.long (0 : Int64)), .second, .val (.long (9223372036854775807 : Int64)), .second] [(.int (1 : Int32))])) _
      refine XS.ifNo X40.here hx rfl (hb hby at_146) rfl ((if0 _ _).trans (tlt (by decide)).2.2.2) ?_
      show Steps p.tables e below (T40.setTop (mkF m 149 #[.val (.int p0), .val (.long p1), .second, .val (.long p2), .second, .val (.long p3), .second, .val (.long p4), .second, .val (.long p5), .second, .val (.int (1 : Int32)), .val (.ref b15), .val (.long z45), .second, .val (.long (0 : Int64)), .second, .val (.long (0 : Int64)), .second, .val (.long (9223372036854775807 : Int64)), .second] [])) _
      refine XS.lload X40.here hx rfl (hb hby at_149) rfl ?_
      show Steps p.tables e below (T40.setTop (mkF m 151 #[.val (.int p0), .val (.long p1), .second, .val (.long p2), .second, .val (.long p3), .second, .val (.long p4), .second, .val (.long p5), .second, .val (.int (1 : Int32)), .val (.ref b15), .val (.long z45), .second, .val (.long (0 : Int64)), .second, .val (.long (0 : Int64)), .second, .val (.long (9223372036854775807 : Int64)), .second] [(.long z45)])) _
      refine XS.lstore X40.here hx rfl (hb hby at_151) rfl (l' := #[.val (.int p0), .val (.long p1), .second, .val (.long p2), .second, .val (.long p3), .second, .val (.long p4), .second, .val (.long p5), .second, .val (.int (1 : Int32)), .val (.ref b15), .val (.long z45), .second, .val (.long (0 : Int64)), .second, .val (.long (0 : Int64)), .second, .val (.long z45), .second]) rfl ?_
      show Steps p.tables e below (T40.setTop (mkF m 153 #[.val (.int p0), .val (.long p1), .second, .val (.long p2), .second, .val (.long p3), .second, .val (.long p4), .second, .val (.long p5), .second, .val (.int (1 : Int32)), .val (.ref b15), .val (.long z45), .second, .val (.long (0 : Int64)), .second, .val (.long (0 : Int64)), .second, .val (.long z45), .second] [])) _
      refine XS.iload X40.here hx rfl (hb hby at_153) rfl ?_
      show Steps p.tables e below (T40.setTop (mkF m 155 #[.val (.int p0), .val (.long p1), .second, .val (.long p2), .second, .val (.long p3), .second, .val (.long p4), .second, .val (.long p5), .second, .val (.int (1 : Int32)), .val (.ref b15), .val (.long z45), .second, .val (.long (0 : Int64)), .second, .val (.long (0 : Int64)), .second, .val (.long z45), .second] [(.int (1 : Int32))])) _
      refine XS.iconst X40.here hx rfl (hb hby at_155) ?_
      show Steps p.tables e below (T40.setTop (mkF m 156 #[.val (.int p0), .val (.long p1), .second, .val (.long p2), .second, .val (.long p3), .second, .val (.long p4), .second, .val (.long p5), .second, .val (.int (1 : Int32)), .val (.ref b15), .val (.long z45), .second, .val (.long (0 : Int64)), .second, .val (.long (0 : Int64)), .second, .val (.long z45), .second] [(.int (1 : Int32)), (.int (1 : Int32))])) _
      refine XS.icmpYes X40.here hx rfl (pc0 := 156) (pc' := 168) rfl (hb hby at_156) rfl (flt (by decide)).2.2.2 (by decide) (by decide) ?_
      show Steps p.tables e below (T40.setTop (mkF m 168 #[.val (.int p0), .val (.long p1), .second, .val (.long p2), .second, .val (.long p3), .second, .val (.long p4), .second, .val (.long p5), .second, .val (.int (1 : Int32)), .val (.ref b15), .val (.long z45), .second, .val (.long (0 : Int64)), .second, .val (.long (0 : Int64)), .second, .val (.long z45), .second] [])) _
      refine XS.iload X40.here hx rfl (hb hby at_168) rfl ?_
      show Steps p.tables e below (T40.setTop (mkF m 170 #[.val (.int p0), .val (.long p1), .second, .val (.long p2), .second, .val (.long p3), .second, .val (.long p4), .second, .val (.long p5), .second, .val (.int (1 : Int32)), .val (.ref b15), .val (.long z45), .second, .val (.long (0 : Int64)), .second, .val (.long (0 : Int64)), .second, .val (.long z45), .second] [(.int (1 : Int32))])) _
      refine XS.iconst X40.here hx rfl (hb hby at_170) ?_
      show Steps p.tables e below (T40.setTop (mkF m 171 #[.val (.int p0), .val (.long p1), .second, .val (.long p2), .second, .val (.long p3), .second, .val (.long p4), .second, .val (.long p5), .second, .val (.int (1 : Int32)), .val (.ref b15), .val (.long z45), .second, .val (.long (0 : Int64)), .second, .val (.long (0 : Int64)), .second, .val (.long z45), .second] [(.int (2 : Int32)), (.int (1 : Int32))])) _
      refine XS.icmpYes X40.here hx rfl (pc0 := 171) (pc' := 183) rfl (hb hby at_171) rfl (flt (by decide)).2.2.2 (by decide) (by decide) ?_
      show Steps p.tables e below (T40.setTop (mkF m 183 #[.val (.int p0), .val (.long p1), .second, .val (.long p2), .second, .val (.long p3), .second, .val (.long p4), .second, .val (.long p5), .second, .val (.int (1 : Int32)), .val (.ref b15), .val (.long z45), .second, .val (.long (0 : Int64)), .second, .val (.long (0 : Int64)), .second, .val (.long z45), .second] [])) _
      refine XS.aload X40.here hx rfl (hb hby at_183) rfl rfl ?_
      show Steps p.tables e below (T40.setTop (mkF m 185 #[.val (.int p0), .val (.long p1), .second, .val (.long p2), .second, .val (.long p3), .second, .val (.long p4), .second, .val (.long p5), .second, .val (.int (1 : Int32)), .val (.ref b15), .val (.long z45), .second, .val (.long (0 : Int64)), .second, .val (.long (0 : Int64)), .second, .val (.long z45), .second] [(.ref b15)])) _
      refine st47.trans ?_
      show Steps p.tables e below (T47.setTop (mkF m 188 #[.val (.int p0), .val (.long p1), .second, .val (.long p2), .second, .val (.long p3), .second, .val (.long p4), .second, .val (.long p5), .second, .val (.int (1 : Int32)), .val (.ref b15), .val (.long z45), .second, .val (.long (0 : Int64)), .second, .val (.long (0 : Int64)), .second, .val (.long z45), .second] [(.long (own_min (9223372036854775807 : Int64) z45))])) _
      refine XS.lload X47.here hx rfl (hb hby at_188) rfl ?_
      show Steps p.tables e below (T47.setTop (mkF m 190 #[.val (.int p0), .val (.long p1), .second, .val (.long p2), .second, .val (.long p3), .second, .val (.long p4), .second, .val (.long p5), .second, .val (.int (1 : Int32)), .val (.ref b15), .val (.long z45), .second, .val (.long (0 : Int64)), .second, .val (.long (0 : Int64)), .second, .val (.long z45), .second] [(.long z45), (.long (own_min (9223372036854775807 : Int64) z45))])) _
      refine XS.lcmp X47.here hx rfl (hb hby at_190) rfl ?_
      show Steps p.tables e below (T47.setTop (mkF m 191 #[.val (.int p0), .val (.long p1), .second, .val (.long p2), .second, .val (.long p3), .second, .val (.long p4), .second, .val (.long p5), .second, .val (.int (1 : Int32)), .val (.ref b15), .val (.long z45), .second, .val (.long (0 : Int64)), .second, .val (.long (0 : Int64)), .second, .val (.long z45), .second] [(.int (lcmpW (own_min (9223372036854775807 : Int64) z45) z45))])) _
      refine XS.ifNo X47.here hx rfl (hb hby at_191) rfl ((if0 _ _).trans (teq (by rw [own_min_max]; exact (lw_eq _ _).mpr rfl)).2) ?_
      show Steps p.tables e below (T47.setTop (mkF m 194 #[.val (.int p0), .val (.long p1), .second, .val (.long p2), .second, .val (.long p3), .second, .val (.long p4), .second, .val (.long p5), .second, .val (.int (1 : Int32)), .val (.ref b15), .val (.long z45), .second, .val (.long (0 : Int64)), .second, .val (.long (0 : Int64)), .second, .val (.long z45), .second] [])) _
      refine XS.iconst X47.here hx rfl (hb hby at_194) ?_
      show Steps p.tables e below (T47.setTop (mkF m 195 #[.val (.int p0), .val (.long p1), .second, .val (.long p2), .second, .val (.long p3), .second, .val (.long p4), .second, .val (.long p5), .second, .val (.int (1 : Int32)), .val (.ref b15), .val (.long z45), .second, .val (.long (0 : Int64)), .second, .val (.long (0 : Int64)), .second, .val (.long z45), .second] [(.int (1 : Int32))])) _
      refine XS.goto X47.here hx rfl (pc0 := 195) (pc' := 199) rfl (hb hby at_195) (by decide) (by decide) ?_
      exact Steps.refl _
    obtain ⟨fs, hr, hrun, hended, hW, hsame⟩ := X47.leave (v := some (.int (1 : Int32))) (fun h => by rw [Bd.returns] at h; cases h)
    refine ⟨_, _, s48.trans ?_, hrun, hended, _, _, rfl, ?_, ⟨_, rfl⟩, hW, hsame.mono (by decide) (by decide)⟩
    · show Steps p.tables e below (T47.setTop (mkF m 199 #[.val (.int p0), .val (.long p1), .second, .val (.long p2), .second, .val (.long p3), .second, .val (.long p4), .second, .val (.long p5), .second, .val (.int (1 : Int32)), .val (.ref b15), .val (.long z45), .second, .val (.long (0 : Int64)), .second, .val (.long (0 : Int64)), .second, .val (.long z45), .second] [(.int (1 : Int32))])) _
      exact retN X47 hx (t := .boolean) Bd.returns (by simp) (hb hby at_199) hr
    · show Q0 Z p0 p1 p2 p3 p4 p5 h0 n0 _ T47.heap _
      rw [e47]
      exact ⟨rfl, N47⟩
  · have s49 := s1
    rw [hk2] at s49
    obtain ⟨T50, h50, X50, e50, E50, A50, D50, -, st50⟩ := newO X0 hx hZ hown (hw _ (List.mem_of_getElem? (i := 0) rfl)) (hw _ (List.mem_of_getElem? (i := 1) rfl)) (hw _ (List.mem_of_getElem? (i := 2) rfl)) e0 (g := (mkF m 5 #[.val (.int p0), .val (.long p1), .second, .val (.long p2), .second, .val (.long p3), .second, .val (.long p4), .second, .val (.long p5), .second, .val (.int (2 : Int32)), .unset, .unset, .unset, .unset, .unset, .unset, .unset, .unset, .unset] [])) rfl (hb hby at_5) (by decide) (by decide)
    obtain ⟨b50, g50⟩ : ∃ z, z = h0.size := ⟨_, rfl⟩
    rw [← g50] at A50 D50 st50
    have g_b50 : n0 ≤ b50 := Nat.le_trans (Nat.le_of_eq O0.1.symm) (Nat.le_trans O0.2.1 (Nat.le_of_eq g50.symm))
    have O50 := O0.ext E50
    have F50_firstError : Fld Z h50 b50 "com/example/hot_gate/hotgate/bench/Replies" "firstError" "Ljava/util/concurrent/atomic/AtomicReference;" .null := D50 (Or.inr (hw _ (List.mem_of_getElem? (i := 17) rfl))) (ty := (.object "java/util/concurrent/atomic/AtomicReference")) (by decide)
    have F50_sentAt : Fld Z h50 b50 "com/example/hot_gate/hotgate/bench/Replies" "sentAt" "[J" .null := D50 (Or.inr (hw _ (List.mem_of_getElem? (i := 20) rfl))) (ty := (.array .long)) (by decide)
    have F50_answeredAt : Fld Z h50 b50 "com/example/hot_gate/hotgate/bench/Replies" "answeredAt" "[J" .null := D50 (Or.inr (hw _ (List.mem_of_getElem? (i := 22) rfl))) (ty := (.array .long)) (by decide)
    have F50_outcomes : Fld Z h50 b50 "com/example/hot_gate/hotgate/bench/Replies" "outcomes" "[Lcom/example/hot_gate/hotgate/bench/Outcome;" .null := D50 (Or.inr (hw _ (List.mem_of_getElem? (i := 26) rfl))) (ty := (.array (.object "com/example/hot_gate/hotgate/bench/Outcome"))) (by decide)
    obtain ⟨_, _, ⟨T51, L51, k51, n51⟩, -, X51, ⟨Lc51, hQ51, l51, y51, z51⟩, st51⟩ := X50.specialBack hx (y := (⟨"com/example/hot_gate/hotgate/bench/Replies", "<init>", "(I)V"⟩ : MethodName)) rfl hown (mvT hZ (hw _ (List.mem_of_getElem? (i := 3) rfl))) (mvT hZ (hw _ (List.mem_of_getElem? (i := 4) rfl))) (mvT hZ (hw _ (List.mem_of_getElem? (i := 5) rfl))) (by decide) (backOf (W := 1) (rmi2 l Z a0 hw [] b50 h50 n0 O50 A50 F50_firstError F50_sentAt F50_answeredAt F50_outcomes g_b50) hZ (hw _ (List.mem_of_getElem? (i := 5) rfl)) (hw _ (List.mem_of_getElem? (i := 2) rfl)) (by decide) (by decide)) (g := (mkF m 11 #[.val (.int p0), .val (.long p1), .second, .val (.long p2), .second, .val (.long p3), .second, .val (.long p4), .second, .val (.long p5), .second, .val (.int (2 : Int32)), .unset, .unset, .unset, .unset, .unset, .unset, .unset, .unset, .unset] [(.int (2 : Int32)), (.ref b50), (.ref b50)])) rfl (by rw [hml]; rfl) (Steps.refl _) (a := b50) (argsL := [(.int (2 : Int32))]) (rest := [(.ref b50)]) (lenOf pd_rm0_0 rfl) rfl (by show 2 * 0 + _ ≤ _; exact Nat.le_of_eq rfl) (hb hby at_11) (fun _ _ => ⟨rfl, e50, (by decide : 1 + 4 ≤ _), (by decide : 4 + 7 ≤ _)⟩)
    dsimp only [Pt.U, Pt.locs, Pt.cells, Pt.slots] at X51 l51 y51 z51 st51 hQ51
    subst l51 y51 z51
    obtain ⟨u52, u53, u54, u55, u56, u57, rfl, Nq51, Kc51, f51_0, f51_1, f51_2, f51_3, f51_4, f51_5, f51_6, f51_7, f51_8, f51_9, f51_10, f51_11, f51_12⟩ := hQ51
    have N51 := Fr.app N0 Nq51
    have ne_b50_u52 : b50 ≠ u52 := Nat.ne_of_lt (Nat.lt_of_lt_of_le A50.lt f51_7)
    have ne_b50_u53 : b50 ≠ u53 := Nat.ne_of_lt (Nat.lt_of_lt_of_le A50.lt f51_8)
    have ne_b50_u54 : b50 ≠ u54 := Nat.ne_of_lt (Nat.lt_of_lt_of_le A50.lt f51_9)
    have g_u52 : n0 ≤ u52 := Nat.le_trans (Nat.le_of_eq O50.1.symm) (Nat.le_trans O50.2.1 f51_7)
    have g_u53 : n0 ≤ u53 := Nat.le_trans (Nat.le_of_eq O50.1.symm) (Nat.le_trans O50.2.1 f51_8)
    have g_u54 : n0 ≤ u54 := Nat.le_trans (Nat.le_of_eq O50.1.symm) (Nat.le_trans O50.2.1 f51_9)
    have O51 := O50.keep Kc51 (allS g_b50 all0)
    have s58 : Steps p.tables e below (s₁.setTop (entryFrame m #[(.int p0), (.long p1), (.long p2), (.long p3), (.long p4), (.long p5)] maxLocals)) (T51.setTop (mkF m 35 #[.val (.int p0), .val (.long p1), .second, .val (.long p2), .second, .val (.long p3), .second, .val (.long p4), .second, .val (.long p5), .second, .val (.int (2 : Int32)), .val (.ref b50), .val (.long (0 : Int64)), .second, .val (.long (0 : Int64)), .second, .val (.long (0 : Int64)), .second, .unset, .unset] [(.int ((p0 >>> ((5 : Int32) &&& 31)) &&& (1 : Int32)))])) := by
      refine s49.trans ?_
      show Steps p.tables e below (s₁.setTop (mkF m 3 #[.val (.int p0), .val (.long p1), .second, .val (.long p2), .second, .val (.long p3), .second, .val (.long p4), .second, .val (.long p5), .second, .unset, .unset, .unset, .unset, .unset, .unset, .unset, .unset, .unset, .unset] [(.int (2 : Int32))])) _
      refine XS.istore X0.here hx rfl (hb hby at_3) rfl (l' := #[.val (.int p0), .val (.long p1), .second, .val (.long p2), .second, .val (.long p3), .second, .val (.long p4), .second, .val (.long p5), .second, .val (.int (2 : Int32)), .unset, .unset, .unset, .unset, .unset, .unset, .unset, .unset, .unset]) rfl ?_
      show Steps p.tables e below (s₁.setTop (mkF m 5 #[.val (.int p0), .val (.long p1), .second, .val (.long p2), .second, .val (.long p3), .second, .val (.long p4), .second, .val (.long p5), .second, .val (.int (2 : Int32)), .unset, .unset, .unset, .unset, .unset, .unset, .unset, .unset, .unset] [])) _
      refine st50 _ ?_
      show Steps p.tables e below (T50.setTop (mkF m 8 #[.val (.int p0), .val (.long p1), .second, .val (.long p2), .second, .val (.long p3), .second, .val (.long p4), .second, .val (.long p5), .second, .val (.int (2 : Int32)), .unset, .unset, .unset, .unset, .unset, .unset, .unset, .unset, .unset] [(.ref b50)])) _
      refine XS.dup X50.here hx rfl (hb hby at_8) rfl rfl ?_
      show Steps p.tables e below (T50.setTop (mkF m 9 #[.val (.int p0), .val (.long p1), .second, .val (.long p2), .second, .val (.long p3), .second, .val (.long p4), .second, .val (.long p5), .second, .val (.int (2 : Int32)), .unset, .unset, .unset, .unset, .unset, .unset, .unset, .unset, .unset] [(.ref b50), (.ref b50)])) _
      refine XS.iload X50.here hx rfl (hb hby at_9) rfl ?_
      show Steps p.tables e below (T50.setTop (mkF m 11 #[.val (.int p0), .val (.long p1), .second, .val (.long p2), .second, .val (.long p3), .second, .val (.long p4), .second, .val (.long p5), .second, .val (.int (2 : Int32)), .unset, .unset, .unset, .unset, .unset, .unset, .unset, .unset, .unset] [(.int (2 : Int32)), (.ref b50), (.ref b50)])) _
      refine st51.trans ?_
      show Steps p.tables e below (T51.setTop (mkF m 14 #[.val (.int p0), .val (.long p1), .second, .val (.long p2), .second, .val (.long p3), .second, .val (.long p4), .second, .val (.long p5), .second, .val (.int (2 : Int32)), .unset, .unset, .unset, .unset, .unset, .unset, .unset, .unset, .unset] [(.ref b50)])) _
      refine XS.astore X51.here hx rfl (hb hby at_14) rfl rfl (l' := #[.val (.int p0), .val (.long p1), .second, .val (.long p2), .second, .val (.long p3), .second, .val (.long p4), .second, .val (.long p5), .second, .val (.int (2 : Int32)), .val (.ref b50), .unset, .unset, .unset, .unset, .unset, .unset, .unset, .unset]) rfl ?_
      show Steps p.tables e below (T51.setTop (mkF m 16 #[.val (.int p0), .val (.long p1), .second, .val (.long p2), .second, .val (.long p3), .second, .val (.long p4), .second, .val (.long p5), .second, .val (.int (2 : Int32)), .val (.ref b50), .unset, .unset, .unset, .unset, .unset, .unset, .unset, .unset] [])) _
      refine XS.lconst X51.here hx rfl (hb hby at_16) ?_
      show Steps p.tables e below (T51.setTop (mkF m 17 #[.val (.int p0), .val (.long p1), .second, .val (.long p2), .second, .val (.long p3), .second, .val (.long p4), .second, .val (.long p5), .second, .val (.int (2 : Int32)), .val (.ref b50), .unset, .unset, .unset, .unset, .unset, .unset, .unset, .unset] [(.long (0 : Int64))])) _
      refine XS.lstore X51.here hx rfl (hb hby at_17) rfl (l' := #[.val (.int p0), .val (.long p1), .second, .val (.long p2), .second, .val (.long p3), .second, .val (.long p4), .second, .val (.long p5), .second, .val (.int (2 : Int32)), .val (.ref b50), .val (.long (0 : Int64)), .second, .unset, .unset, .unset, .unset, .unset, .unset]) rfl ?_
      show Steps p.tables e below (T51.setTop (mkF m 19 #[.val (.int p0), .val (.long p1), .second, .val (.long p2), .second, .val (.long p3), .second, .val (.long p4), .second, .val (.long p5), .second, .val (.int (2 : Int32)), .val (.ref b50), .val (.long (0 : Int64)), .second, .unset, .unset, .unset, .unset, .unset, .unset] [])) _
      refine XS.lconst X51.here hx rfl (hb hby at_19) ?_
      show Steps p.tables e below (T51.setTop (mkF m 20 #[.val (.int p0), .val (.long p1), .second, .val (.long p2), .second, .val (.long p3), .second, .val (.long p4), .second, .val (.long p5), .second, .val (.int (2 : Int32)), .val (.ref b50), .val (.long (0 : Int64)), .second, .unset, .unset, .unset, .unset, .unset, .unset] [(.long (0 : Int64))])) _
      refine XS.lstore X51.here hx rfl (hb hby at_20) rfl (l' := #[.val (.int p0), .val (.long p1), .second, .val (.long p2), .second, .val (.long p3), .second, .val (.long p4), .second, .val (.long p5), .second, .val (.int (2 : Int32)), .val (.ref b50), .val (.long (0 : Int64)), .second, .val (.long (0 : Int64)), .second, .unset, .unset, .unset, .unset]) rfl ?_
      show Steps p.tables e below (T51.setTop (mkF m 22 #[.val (.int p0), .val (.long p1), .second, .val (.long p2), .second, .val (.long p3), .second, .val (.long p4), .second, .val (.long p5), .second, .val (.int (2 : Int32)), .val (.ref b50), .val (.long (0 : Int64)), .second, .val (.long (0 : Int64)), .second, .unset, .unset, .unset, .unset] [])) _
      refine XS.lconst X51.here hx rfl (hb hby at_22) ?_
      show Steps p.tables e below (T51.setTop (mkF m 23 #[.val (.int p0), .val (.long p1), .second, .val (.long p2), .second, .val (.long p3), .second, .val (.long p4), .second, .val (.long p5), .second, .val (.int (2 : Int32)), .val (.ref b50), .val (.long (0 : Int64)), .second, .val (.long (0 : Int64)), .second, .unset, .unset, .unset, .unset] [(.long (0 : Int64))])) _
      refine XS.lstore X51.here hx rfl (hb hby at_23) rfl (l' := #[.val (.int p0), .val (.long p1), .second, .val (.long p2), .second, .val (.long p3), .second, .val (.long p4), .second, .val (.long p5), .second, .val (.int (2 : Int32)), .val (.ref b50), .val (.long (0 : Int64)), .second, .val (.long (0 : Int64)), .second, .val (.long (0 : Int64)), .second, .unset, .unset]) rfl ?_
      show Steps p.tables e below (T51.setTop (mkF m 25 #[.val (.int p0), .val (.long p1), .second, .val (.long p2), .second, .val (.long p3), .second, .val (.long p4), .second, .val (.long p5), .second, .val (.int (2 : Int32)), .val (.ref b50), .val (.long (0 : Int64)), .second, .val (.long (0 : Int64)), .second, .val (.long (0 : Int64)), .second, .unset, .unset] [])) _
      refine XS.iload X51.here hx rfl (hb hby at_25) rfl ?_
      show Steps p.tables e below (T51.setTop (mkF m 27 #[.val (.int p0), .val (.long p1), .second, .val (.long p2), .second, .val (.long p3), .second, .val (.long p4), .second, .val (.long p5), .second, .val (.int (2 : Int32)), .val (.ref b50), .val (.long (0 : Int64)), .second, .val (.long (0 : Int64)), .second, .val (.long (0 : Int64)), .second, .unset, .unset] [(.int (2 : Int32))])) _
      refine XS.ifNo X51.here hx rfl (hb hby at_27) rfl ((if0 _ _).trans (tlt (by decide)).2.2.2) ?_
      show Steps p.tables e below (T51.setTop (mkF m 30 #[.val (.int p0), .val (.long p1), .second, .val (.long p2), .second, .val (.long p3), .second, .val (.long p4), .second, .val (.long p5), .second, .val (.int (2 : Int32)), .val (.ref b50), .val (.long (0 : Int64)), .second, .val (.long (0 : Int64)), .second, .val (.long (0 : Int64)), .second, .unset, .unset] [])) _
      refine XS.iloadN X51.here hx rfl (hb hby at_30) rfl ?_
      show Steps p.tables e below (T51.setTop (mkF m 31 #[.val (.int p0), .val (.long p1), .second, .val (.long p2), .second, .val (.long p3), .second, .val (.long p4), .second, .val (.long p5), .second, .val (.int (2 : Int32)), .val (.ref b50), .val (.long (0 : Int64)), .second, .val (.long (0 : Int64)), .second, .val (.long (0 : Int64)), .second, .unset, .unset] [(.int p0)])) _
      refine XS.iconst X51.here hx rfl (hb hby at_31) ?_
      show Steps p.tables e below (T51.setTop (mkF m 32 #[.val (.int p0), .val (.long p1), .second, .val (.long p2), .second, .val (.long p3), .second, .val (.long p4), .second, .val (.long p5), .second, .val (.int (2 : Int32)), .val (.ref b50), .val (.long (0 : Int64)), .second, .val (.long (0 : Int64)), .second, .val (.long (0 : Int64)), .second, .unset, .unset] [(.int (5 : Int32)), (.int p0)])) _
      refine XS.ishr X51.here hx rfl (hb hby at_32) rfl ?_
      show Steps p.tables e below (T51.setTop (mkF m 33 #[.val (.int p0), .val (.long p1), .second, .val (.long p2), .second, .val (.long p3), .second, .val (.long p4), .second, .val (.long p5), .second, .val (.int (2 : Int32)), .val (.ref b50), .val (.long (0 : Int64)), .second, .val (.long (0 : Int64)), .second, .val (.long (0 : Int64)), .second, .unset, .unset] [(.int (p0 >>> ((5 : Int32) &&& 31)))])) _
      refine XS.iconst X51.here hx rfl (hb hby at_33) ?_
      show Steps p.tables e below (T51.setTop (mkF m 34 #[.val (.int p0), .val (.long p1), .second, .val (.long p2), .second, .val (.long p3), .second, .val (.long p4), .second, .val (.long p5), .second, .val (.int (2 : Int32)), .val (.ref b50), .val (.long (0 : Int64)), .second, .val (.long (0 : Int64)), .second, .val (.long (0 : Int64)), .second, .unset, .unset] [(.int (1 : Int32)), (.int (p0 >>> ((5 : Int32) &&& 31)))])) _
      refine XS.iand X51.here hx rfl (hb hby at_34) rfl ?_
      exact Steps.refl _
    obtain ⟨T63, h63, L63, X63, e63, O63, N63, f63_0, f63_1, f63_2, f63_3, f63_4, f63_5, f63_6, s63⟩ : ∃ (T : State) (h : Heap) (L : List Loc), (Stand p l e room_1 s m #[(.int p0), (.long p1), (.long p2), (.long p3), (.long p4), (.long p5)] below meth c T L 5 11) ∧ (T.heap = h) ∧ (Old Z n0 h) ∧ (Fr n0 L) ∧ (Exa Z h b50 "com/example/hot_gate/hotgate/bench/Replies") ∧ (Fld Z h b50 "com/example/hot_gate/hotgate/bench/Replies" "sentAt" "[J" (.ref u52)) ∧ (Fld Z h b50 "com/example/hot_gate/hotgate/bench/Replies" "answeredAt" "[J" (.ref u53)) ∧ (Fld Z h b50 "com/example/hot_gate/hotgate/bench/Replies" "outcomes" "[Lcom/example/hot_gate/hotgate/bench/Outcome;" (.ref u54)) ∧ (Arv Z h u52 u55 .long (2 : Int32) [(.long (if ((p0 >>> ((5 : Int32) &&& 31)) &&& (1 : Int32)) = (0 : Int32) then (0 : Int64) else p4)), (.long (0 : Int64))] (.long (0 : Int64))) ∧ (Arv Z h u53 u56 .long (2 : Int32) [(.long (if ((p0 >>> ((5 : Int32) &&& 31)) &&& (1 : Int32)) = (0 : Int32) then (0 : Int64) else p5)), (.long (0 : Int64))] (.long (0 : Int64))) ∧ (Arv Z h u54 u57 (.object "com/example/hot_gate/hotgate/bench/Outcome") (2 : Int32) [.null, .null] .null) ∧ (Steps p.tables e below (s₁.setTop (entryFrame m #[(.int p0), (.long p1), (.long p2), (.long p3), (.long p4), (.long p5)] maxLocals)) (T.setTop (mkF m 54 #[.val (.int p0), .val (.long p1), .second, .val (.long p2), .second, .val (.long p3), .second, .val (.long p4), .second, .val (.long p5), .second, .val (.int (2 : Int32)), .val (.ref b50), .val (.long (if ((p0 >>> ((5 : Int32) &&& 31)) &&& (1 : Int32)) = (0 : Int32) then (0 : Int64) else p4)), .second, .val (.long (0 : Int64)), .second, .val (.long (0 : Int64)), .second, .unset, .unset] []))) := by
      by_cases hc59 : ((p0 >>> ((5 : Int32) &&& 31)) &&& (1 : Int32)) = (0 : Int32)
      · have s60 : Steps p.tables e below (s₁.setTop (entryFrame m #[(.int p0), (.long p1), (.long p2), (.long p3), (.long p4), (.long p5)] maxLocals)) (T51.setTop (mkF m 54 #[.val (.int p0), .val (.long p1), .second, .val (.long p2), .second, .val (.long p3), .second, .val (.long p4), .second, .val (.long p5), .second, .val (.int (2 : Int32)), .val (.ref b50), .val (.long (0 : Int64)), .second, .val (.long (0 : Int64)), .second, .val (.long (0 : Int64)), .second, .unset, .unset] [])) := by
          refine s58.trans ?_
          show Steps p.tables e below (T51.setTop (mkF m 35 #[.val (.int p0), .val (.long p1), .second, .val (.long p2), .second, .val (.long p3), .second, .val (.long p4), .second, .val (.long p5), .second, .val (.int (2 : Int32)), .val (.ref b50), .val (.long (0 : Int64)), .second, .val (.long (0 : Int64)), .second, .val (.long (0 : Int64)), .second, .unset, .unset] [(.int ((p0 >>> ((5 : Int32) &&& 31)) &&& (1 : Int32)))])) _
          refine XS.ifYes X51.here hx rfl (pc0 := 35) (pc' := 54) rfl (hb hby at_35) rfl ((if0 _ _).trans (teq hc59).1) (by decide) (by decide) ?_
          exact Steps.refl _
        simp only [if_pos hc59]
        exact ⟨T51, T51.heap, _, X51, (rfl : T51.heap = T51.heap), O51, N51, f51_0, f51_1, f51_2, f51_3, f51_4, f51_5, f51_6, s60⟩
      · obtain ⟨cq61, kq61, q61a, q61b, q61c⟩ := isOf hZ (rfl : T51.heap = T51.heap) f51_0
        obtain ⟨_, _, ⟨T61, L61, k61, n61⟩, -, X61, ⟨Lc61, hQ61, l61, y61, z61⟩, st61⟩ := X51.virtualBack hx (y := (⟨"com/example/hot_gate/hotgate/bench/Replies", "record", "(IJJLcom/example/hot_gate/hotgate/bench/Outcome;Ljava/lang/String;)V"⟩ : MethodName)) (z := (⟨"com/example/hot_gate/hotgate/bench/Replies", "record", "(IJJLcom/example/hot_gate/hotgate/bench/Outcome;Ljava/lang/String;)V"⟩ : MethodName)) hown (mvT hZ (hw _ (List.mem_of_getElem? (i := 34) rfl))) (mvT hZ (hw _ (List.mem_of_getElem? (i := 35) rfl))) (notFace_of_selects (args := #[]) (mvT hZ (hw _ (List.mem_of_getElem? (i := 37) rfl)))) (mvT hZ (hw _ (List.mem_of_getElem? (i := 37) rfl))) (mvT hZ (hw _ (List.mem_of_getElem? (i := 36) rfl))) (by decide) (backOf (W := 0) (rmr2_0 l Z a0 hw [] b50 p4 p5 u52 u53 u54 u55 u56 u57 (0 : Int64) (0 : Int64) (0 : Int64) (0 : Int64) T51.heap n0 O51 f51_1 f51_2 f51_3 f51_4 f51_5 f51_6 g_u52 g_u53 g_u54 f51_10 f51_11 f51_12 ne_b50_u52 ne_b50_u53 ne_b50_u54) hZ (hw _ (List.mem_of_getElem? (i := 38) rfl)) (hw _ (List.mem_of_getElem? (i := 2) rfl)) (by decide) (by decide)) q61a q61c (g := (mkF m 47 #[.val (.int p0), .val (.long p1), .second, .val (.long p2), .second, .val (.long p3), .second, .val (.long p4), .second, .val (.long p5), .second, .val (.int (2 : Int32)), .val (.ref b50), .val (.long (0 : Int64)), .second, .val (.long (0 : Int64)), .second, .val (.long (0 : Int64)), .second, .unset, .unset] [.null, .null, (.long p5), (.long p4), (.int (0 : Int32)), (.ref b50)])) rfl (by rw [hml]; rfl) (Steps.refl _) (argsL := [(.int (0 : Int32)), (.long p4), (.long p5), .null, .null]) (rest := []) (lenOf pd_rm0_2 rfl) rfl (by show 2 * 0 + _ ≤ _; exact Nat.le_of_eq rfl) (hb hby at_47) (fun _ _ => ⟨rfl, (rfl : T51.heap = T51.heap), (by decide : 5 + 0 ≤ _), (by decide : 11 + 0 ≤ _)⟩)
        dsimp only [Pt.U, Pt.locs, Pt.cells, Pt.slots] at X61 l61 y61 z61 st61 hQ61
        subst l61 y61 z61
        obtain ⟨rfl, Nq61, Kc61, f61_0, f61_1, f61_2⟩ := hQ61
        have N61 := Fr.app N51 Nq61
        have O61 := O51.keep Kc61 (allS g_u52 (allS g_u53 (allS g_u54 all0)))
        have s62 : Steps p.tables e below (s₁.setTop (entryFrame m #[(.int p0), (.long p1), (.long p2), (.long p3), (.long p4), (.long p5)] maxLocals)) (T61.setTop (mkF m 54 #[.val (.int p0), .val (.long p1), .second, .val (.long p2), .second, .val (.long p3), .second, .val (.long p4), .second, .val (.long p5), .second, .val (.int (2 : Int32)), .val (.ref b50), .val (.long p4), .second, .val (.long (0 : Int64)), .second, .val (.long (0 : Int64)), .second, .unset, .unset] [])) := by
          refine s58.trans ?_
          show Steps p.tables e below (T51.setTop (mkF m 35 #[.val (.int p0), .val (.long p1), .second, .val (.long p2), .second, .val (.long p3), .second, .val (.long p4), .second, .val (.long p5), .second, .val (.int (2 : Int32)), .val (.ref b50), .val (.long (0 : Int64)), .second, .val (.long (0 : Int64)), .second, .val (.long (0 : Int64)), .second, .unset, .unset] [(.int ((p0 >>> ((5 : Int32) &&& 31)) &&& (1 : Int32)))])) _
          refine XS.ifNo X51.here hx rfl (hb hby at_35) rfl ((if0 _ _).trans (feq hc59).1) ?_
          show Steps p.tables e below (T51.setTop (mkF m 38 #[.val (.int p0), .val (.long p1), .second, .val (.long p2), .second, .val (.long p3), .second, .val (.long p4), .second, .val (.long p5), .second, .val (.int (2 : Int32)), .val (.ref b50), .val (.long (0 : Int64)), .second, .val (.long (0 : Int64)), .second, .val (.long (0 : Int64)), .second, .unset, .unset] [])) _
          refine XS.aload X51.here hx rfl (hb hby at_38) rfl rfl ?_
          show Steps p.tables e below (T51.setTop (mkF m 40 #[.val (.int p0), .val (.long p1), .second, .val (.long p2), .second, .val (.long p3), .second, .val (.long p4), .second, .val (.long p5), .second, .val (.int (2 : Int32)), .val (.ref b50), .val (.long (0 : Int64)), .second, .val (.long (0 : Int64)), .second, .val (.long (0 : Int64)), .second, .unset, .unset] [(.ref b50)])) _
          refine XS.iconst X51.here hx rfl (hb hby at_40) ?_
          show Steps p.tables e below (T51.setTop (mkF m 41 #[.val (.int p0), .val (.long p1), .second, .val (.long p2), .second, .val (.long p3), .second, .val (.long p4), .second, .val (.long p5), .second, .val (.int (2 : Int32)), .val (.ref b50), .val (.long (0 : Int64)), .second, .val (.long (0 : Int64)), .second, .val (.long (0 : Int64)), .second, .unset, .unset] [(.int (0 : Int32)), (.ref b50)])) _
          refine XS.lload X51.here hx rfl (hb hby at_41) rfl ?_
          show Steps p.tables e below (T51.setTop (mkF m 43 #[.val (.int p0), .val (.long p1), .second, .val (.long p2), .second, .val (.long p3), .second, .val (.long p4), .second, .val (.long p5), .second, .val (.int (2 : Int32)), .val (.ref b50), .val (.long (0 : Int64)), .second, .val (.long (0 : Int64)), .second, .val (.long (0 : Int64)), .second, .unset, .unset] [(.long p4), (.int (0 : Int32)), (.ref b50)])) _
          refine XS.lload X51.here hx rfl (hb hby at_43) rfl ?_
          show Steps p.tables e below (T51.setTop (mkF m 45 #[.val (.int p0), .val (.long p1), .second, .val (.long p2), .second, .val (.long p3), .second, .val (.long p4), .second, .val (.long p5), .second, .val (.int (2 : Int32)), .val (.ref b50), .val (.long (0 : Int64)), .second, .val (.long (0 : Int64)), .second, .val (.long (0 : Int64)), .second, .unset, .unset] [(.long p5), (.long p4), (.int (0 : Int32)), (.ref b50)])) _
          refine XS.aconstNull X51.here hx rfl (hb hby at_45) ?_
          show Steps p.tables e below (T51.setTop (mkF m 46 #[.val (.int p0), .val (.long p1), .second, .val (.long p2), .second, .val (.long p3), .second, .val (.long p4), .second, .val (.long p5), .second, .val (.int (2 : Int32)), .val (.ref b50), .val (.long (0 : Int64)), .second, .val (.long (0 : Int64)), .second, .val (.long (0 : Int64)), .second, .unset, .unset] [.null, (.long p5), (.long p4), (.int (0 : Int32)), (.ref b50)])) _
          refine XS.aconstNull X51.here hx rfl (hb hby at_46) ?_
          show Steps p.tables e below (T51.setTop (mkF m 47 #[.val (.int p0), .val (.long p1), .second, .val (.long p2), .second, .val (.long p3), .second, .val (.long p4), .second, .val (.long p5), .second, .val (.int (2 : Int32)), .val (.ref b50), .val (.long (0 : Int64)), .second, .val (.long (0 : Int64)), .second, .val (.long (0 : Int64)), .second, .unset, .unset] [.null, .null, (.long p5), (.long p4), (.int (0 : Int32)), (.ref b50)])) _
          refine st61.trans ?_
          show Steps p.tables e below (T61.setTop (mkF m 50 #[.val (.int p0), .val (.long p1), .second, .val (.long p2), .second, .val (.long p3), .second, .val (.long p4), .second, .val (.long p5), .second, .val (.int (2 : Int32)), .val (.ref b50), .val (.long (0 : Int64)), .second, .val (.long (0 : Int64)), .second, .val (.long (0 : Int64)), .second, .unset, .unset] [])) _
          refine XS.lload X61.here hx rfl (hb hby at_50) rfl ?_
          show Steps p.tables e below (T61.setTop (mkF m 52 #[.val (.int p0), .val (.long p1), .second, .val (.long p2), .second, .val (.long p3), .second, .val (.long p4), .second, .val (.long p5), .second, .val (.int (2 : Int32)), .val (.ref b50), .val (.long (0 : Int64)), .second, .val (.long (0 : Int64)), .second, .val (.long (0 : Int64)), .second, .unset, .unset] [(.long p4)])) _
          refine XS.lstore X61.here hx rfl (hb hby at_52) rfl (l' := #[.val (.int p0), .val (.long p1), .second, .val (.long p2), .second, .val (.long p3), .second, .val (.long p4), .second, .val (.long p5), .second, .val (.int (2 : Int32)), .val (.ref b50), .val (.long p4), .second, .val (.long (0 : Int64)), .second, .val (.long (0 : Int64)), .second, .unset, .unset]) rfl ?_
          exact Steps.refl _
        have c64 : Exa Z T61.heap b50 "com/example/hot_gate/hotgate/bench/Replies" := (f51_0.keep Kc61)
        have c65 : Fld Z T61.heap b50 "com/example/hot_gate/hotgate/bench/Replies" "sentAt" "[J" (.ref u52) := (f51_1.keep Kc61 (ninS ne_b50_u52 (ninS ne_b50_u53 (ninS ne_b50_u54 nin0))))
        have c66 : Fld Z T61.heap b50 "com/example/hot_gate/hotgate/bench/Replies" "answeredAt" "[J" (.ref u53) := (f51_2.keep Kc61 (ninS ne_b50_u52 (ninS ne_b50_u53 (ninS ne_b50_u54 nin0))))
        have c67 : Fld Z T61.heap b50 "com/example/hot_gate/hotgate/bench/Replies" "outcomes" "[Lcom/example/hot_gate/hotgate/bench/Outcome;" (.ref u54) := (f51_3.keep Kc61 (ninS ne_b50_u52 (ninS ne_b50_u53 (ninS ne_b50_u54 nin0))))
        simp only [if_neg hc59]
        exact ⟨T61, T61.heap, _, X61, (rfl : T61.heap = T61.heap), O61, N61, c64, c65, c66, c67, f61_0, f61_1, f61_2, s62⟩
    obtain ⟨z68, hz68⟩ : ∃ z, z = (if ((p0 >>> ((5 : Int32) &&& 31)) &&& (1 : Int32)) = (0 : Int32) then (0 : Int64) else p4) := ⟨_, rfl⟩
    rw [← hz68] at s63 f63_4
    obtain ⟨z69, hz69⟩ : ∃ z, z = (if ((p0 >>> ((5 : Int32) &&& 31)) &&& (1 : Int32)) = (0 : Int32) then (0 : Int64) else p5) := ⟨_, rfl⟩
    rw [← hz69] at f63_5
    have s70 : Steps p.tables e below (s₁.setTop (entryFrame m #[(.int p0), (.long p1), (.long p2), (.long p3), (.long p4), (.long p5)] maxLocals)) (T63.setTop (mkF m 64 #[.val (.int p0), .val (.long p1), .second, .val (.long p2), .second, .val (.long p3), .second, .val (.long p4), .second, .val (.long p5), .second, .val (.int (2 : Int32)), .val (.ref b50), .val (.long z68), .second, .val (.long (0 : Int64)), .second, .val (.long (0 : Int64)), .second, .unset, .unset] [(.int ((p0 >>> ((2 : Int32) &&& 31)) &&& (1 : Int32)))])) := by
      refine s63.trans ?_
      show Steps p.tables e below (T63.setTop (mkF m 54 #[.val (.int p0), .val (.long p1), .second, .val (.long p2), .second, .val (.long p3), .second, .val (.long p4), .second, .val (.long p5), .second, .val (.int (2 : Int32)), .val (.ref b50), .val (.long z68), .second, .val (.long (0 : Int64)), .second, .val (.long (0 : Int64)), .second, .unset, .unset] [])) _
      refine XS.iload X63.here hx rfl (hb hby at_54) rfl ?_
      show Steps p.tables e below (T63.setTop (mkF m 56 #[.val (.int p0), .val (.long p1), .second, .val (.long p2), .second, .val (.long p3), .second, .val (.long p4), .second, .val (.long p5), .second, .val (.int (2 : Int32)), .val (.ref b50), .val (.long z68), .second, .val (.long (0 : Int64)), .second, .val (.long (0 : Int64)), .second, .unset, .unset] [(.int (2 : Int32))])) _
      refine XS.ifNo X63.here hx rfl (hb hby at_56) rfl ((if0 _ _).trans (tlt (by decide)).2.2.2) ?_
      show Steps p.tables e below (T63.setTop (mkF m 59 #[.val (.int p0), .val (.long p1), .second, .val (.long p2), .second, .val (.long p3), .second, .val (.long p4), .second, .val (.long p5), .second, .val (.int (2 : Int32)), .val (.ref b50), .val (.long z68), .second, .val (.long (0 : Int64)), .second, .val (.long (0 : Int64)), .second, .unset, .unset] [])) _
      refine XS.iloadN X63.here hx rfl (hb hby at_59) rfl ?_
      show Steps p.tables e below (T63.setTop (mkF m 60 #[.val (.int p0), .val (.long p1), .second, .val (.long p2), .second, .val (.long p3), .second, .val (.long p4), .second, .val (.long p5), .second, .val (.int (2 : Int32)), .val (.ref b50), .val (.long z68), .second, .val (.long (0 : Int64)), .second, .val (.long (0 : Int64)), .second, .unset, .unset] [(.int p0)])) _
      refine XS.iconst X63.here hx rfl (hb hby at_60) ?_
      show Steps p.tables e below (T63.setTop (mkF m 61 #[.val (.int p0), .val (.long p1), .second, .val (.long p2), .second, .val (.long p3), .second, .val (.long p4), .second, .val (.long p5), .second, .val (.int (2 : Int32)), .val (.ref b50), .val (.long z68), .second, .val (.long (0 : Int64)), .second, .val (.long (0 : Int64)), .second, .unset, .unset] [(.int (2 : Int32)), (.int p0)])) _
      refine XS.ishr X63.here hx rfl (hb hby at_61) rfl ?_
      show Steps p.tables e below (T63.setTop (mkF m 62 #[.val (.int p0), .val (.long p1), .second, .val (.long p2), .second, .val (.long p3), .second, .val (.long p4), .second, .val (.long p5), .second, .val (.int (2 : Int32)), .val (.ref b50), .val (.long z68), .second, .val (.long (0 : Int64)), .second, .val (.long (0 : Int64)), .second, .unset, .unset] [(.int (p0 >>> ((2 : Int32) &&& 31)))])) _
      refine XS.iconst X63.here hx rfl (hb hby at_62) ?_
      show Steps p.tables e below (T63.setTop (mkF m 63 #[.val (.int p0), .val (.long p1), .second, .val (.long p2), .second, .val (.long p3), .second, .val (.long p4), .second, .val (.long p5), .second, .val (.int (2 : Int32)), .val (.ref b50), .val (.long z68), .second, .val (.long (0 : Int64)), .second, .val (.long (0 : Int64)), .second, .unset, .unset] [(.int (1 : Int32)), (.int (p0 >>> ((2 : Int32) &&& 31)))])) _
      refine XS.iand X63.here hx rfl (hb hby at_63) rfl ?_
      exact Steps.refl _
    obtain ⟨T75, h75, L75, X75, e75, O75, N75, f75_0, f75_1, f75_2, f75_3, f75_4, f75_5, f75_6, s75⟩ : ∃ (T : State) (h : Heap) (L : List Loc), (Stand p l e room_1 s m #[(.int p0), (.long p1), (.long p2), (.long p3), (.long p4), (.long p5)] below meth c T L 5 11) ∧ (T.heap = h) ∧ (Old Z n0 h) ∧ (Fr n0 L) ∧ (Exa Z h b50 "com/example/hot_gate/hotgate/bench/Replies") ∧ (Fld Z h b50 "com/example/hot_gate/hotgate/bench/Replies" "sentAt" "[J" (.ref u52)) ∧ (Fld Z h b50 "com/example/hot_gate/hotgate/bench/Replies" "answeredAt" "[J" (.ref u53)) ∧ (Fld Z h b50 "com/example/hot_gate/hotgate/bench/Replies" "outcomes" "[Lcom/example/hot_gate/hotgate/bench/Outcome;" (.ref u54)) ∧ (Arv Z h u52 u55 .long (2 : Int32) [(.long (if ((p0 >>> ((2 : Int32) &&& 31)) &&& (1 : Int32)) = (0 : Int32) then z68 else p1)), (.long (0 : Int64))] (.long (0 : Int64))) ∧ (Arv Z h u53 u56 .long (2 : Int32) [(.long (if ((p0 >>> ((2 : Int32) &&& 31)) &&& (1 : Int32)) = (0 : Int32) then z69 else p5)), (.long (0 : Int64))] (.long (0 : Int64))) ∧ (Arv Z h u54 u57 (.object "com/example/hot_gate/hotgate/bench/Outcome") (2 : Int32) [.null, .null] .null) ∧ (Steps p.tables e below (s₁.setTop (entryFrame m #[(.int p0), (.long p1), (.long p2), (.long p3), (.long p4), (.long p5)] maxLocals)) (T.setTop (mkF m 81 #[.val (.int p0), .val (.long p1), .second, .val (.long p2), .second, .val (.long p3), .second, .val (.long p4), .second, .val (.long p5), .second, .val (.int (2 : Int32)), .val (.ref b50), .val (.long (if ((p0 >>> ((2 : Int32) &&& 31)) &&& (1 : Int32)) = (0 : Int32) then z68 else p1)), .second, .val (.long (0 : Int64)), .second, .val (.long (0 : Int64)), .second, .unset, .unset] []))) := by
      by_cases hc71 : ((p0 >>> ((2 : Int32) &&& 31)) &&& (1 : Int32)) = (0 : Int32)
      · have s72 : Steps p.tables e below (s₁.setTop (entryFrame m #[(.int p0), (.long p1), (.long p2), (.long p3), (.long p4), (.long p5)] maxLocals)) (T63.setTop (mkF m 81 #[.val (.int p0), .val (.long p1), .second, .val (.long p2), .second, .val (.long p3), .second, .val (.long p4), .second, .val (.long p5), .second, .val (.int (2 : Int32)), .val (.ref b50), .val (.long z68), .second, .val (.long (0 : Int64)), .second, .val (.long (0 : Int64)), .second, .unset, .unset] [])) := by
          refine s70.trans ?_
          show Steps p.tables e below (T63.setTop (mkF m 64 #[.val (.int p0), .val (.long p1), .second, .val (.long p2), .second, .val (.long p3), .second, .val (.long p4), .second, .val (.long p5), .second, .val (.int (2 : Int32)), .val (.ref b50), .val (.long z68), .second, .val (.long (0 : Int64)), .second, .val (.long (0 : Int64)), .second, .unset, .unset] [(.int ((p0 >>> ((2 : Int32) &&& 31)) &&& (1 : Int32)))])) _
          refine XS.ifYes X63.here hx rfl (pc0 := 64) (pc' := 81) rfl (hb hby at_64) rfl ((if0 _ _).trans (teq hc71).1) (by decide) (by decide) ?_
          exact Steps.refl _
        simp only [if_pos hc71]
        exact ⟨T63, h63, _, X63, e63, O63, N63, f63_0, f63_1, f63_2, f63_3, f63_4, f63_5, f63_6, s72⟩
      · obtain ⟨cq73, kq73, q73a, q73b, q73c⟩ := isOf hZ e63 f63_0
        obtain ⟨_, _, ⟨T73, L73, k73, n73⟩, -, X73, ⟨Lc73, hQ73, l73, y73, z73⟩, st73⟩ := X63.virtualBack hx (y := (⟨"com/example/hot_gate/hotgate/bench/Replies", "record", "(IJJLcom/example/hot_gate/hotgate/bench/Outcome;Ljava/lang/String;)V"⟩ : MethodName)) (z := (⟨"com/example/hot_gate/hotgate/bench/Replies", "record", "(IJJLcom/example/hot_gate/hotgate/bench/Outcome;Ljava/lang/String;)V"⟩ : MethodName)) hown (mvT hZ (hw _ (List.mem_of_getElem? (i := 34) rfl))) (mvT hZ (hw _ (List.mem_of_getElem? (i := 35) rfl))) (notFace_of_selects (args := #[]) (mvT hZ (hw _ (List.mem_of_getElem? (i := 37) rfl)))) (mvT hZ (hw _ (List.mem_of_getElem? (i := 37) rfl))) (mvT hZ (hw _ (List.mem_of_getElem? (i := 36) rfl))) (by decide) (backOf (W := 0) (rmr2_0 l Z a0 hw [] b50 p1 p5 u52 u53 u54 u55 u56 u57 z68 (0 : Int64) z69 (0 : Int64) h63 n0 O63 f63_1 f63_2 f63_3 f63_4 f63_5 f63_6 g_u52 g_u53 g_u54 f51_10 f51_11 f51_12 ne_b50_u52 ne_b50_u53 ne_b50_u54) hZ (hw _ (List.mem_of_getElem? (i := 38) rfl)) (hw _ (List.mem_of_getElem? (i := 2) rfl)) (by decide) (by decide)) q73a q73c (g := (mkF m 75 #[.val (.int p0), .val (.long p1), .second, .val (.long p2), .second, .val (.long p3), .second, .val (.long p4), .second, .val (.long p5), .second, .val (.int (2 : Int32)), .val (.ref b50), .val (.long z68), .second, .val (.long (0 : Int64)), .second, .val (.long (0 : Int64)), .second, .unset, .unset] [.null, .null, (.long p5), (.long p1), (.int (0 : Int32)), (.ref b50)])) rfl (by rw [hml]; rfl) (Steps.refl _) (argsL := [(.int (0 : Int32)), (.long p1), (.long p5), .null, .null]) (rest := []) (lenOf pd_rm0_2 rfl) rfl (by show 2 * 0 + _ ≤ _; exact Nat.le_of_eq rfl) (hb hby at_75) (fun _ _ => ⟨rfl, e63, (by decide : 5 + 0 ≤ _), (by decide : 11 + 0 ≤ _)⟩)
        dsimp only [Pt.U, Pt.locs, Pt.cells, Pt.slots] at X73 l73 y73 z73 st73 hQ73
        subst l73 y73 z73
        obtain ⟨rfl, Nq73, Kc73, f73_0, f73_1, f73_2⟩ := hQ73
        have N73 := Fr.app N63 Nq73
        have O73 := O63.keep Kc73 (allS g_u52 (allS g_u53 (allS g_u54 all0)))
        have s74 : Steps p.tables e below (s₁.setTop (entryFrame m #[(.int p0), (.long p1), (.long p2), (.long p3), (.long p4), (.long p5)] maxLocals)) (T73.setTop (mkF m 81 #[.val (.int p0), .val (.long p1), .second, .val (.long p2), .second, .val (.long p3), .second, .val (.long p4), .second, .val (.long p5), .second, .val (.int (2 : Int32)), .val (.ref b50), .val (.long p1), .second, .val (.long (0 : Int64)), .second, .val (.long (0 : Int64)), .second, .unset, .unset] [])) := by
          refine s70.trans ?_
          show Steps p.tables e below (T63.setTop (mkF m 64 #[.val (.int p0), .val (.long p1), .second, .val (.long p2), .second, .val (.long p3), .second, .val (.long p4), .second, .val (.long p5), .second, .val (.int (2 : Int32)), .val (.ref b50), .val (.long z68), .second, .val (.long (0 : Int64)), .second, .val (.long (0 : Int64)), .second, .unset, .unset] [(.int ((p0 >>> ((2 : Int32) &&& 31)) &&& (1 : Int32)))])) _
          refine XS.ifNo X63.here hx rfl (hb hby at_64) rfl ((if0 _ _).trans (feq hc71).1) ?_
          show Steps p.tables e below (T63.setTop (mkF m 67 #[.val (.int p0), .val (.long p1), .second, .val (.long p2), .second, .val (.long p3), .second, .val (.long p4), .second, .val (.long p5), .second, .val (.int (2 : Int32)), .val (.ref b50), .val (.long z68), .second, .val (.long (0 : Int64)), .second, .val (.long (0 : Int64)), .second, .unset, .unset] [])) _
          refine XS.aload X63.here hx rfl (hb hby at_67) rfl rfl ?_
          show Steps p.tables e below (T63.setTop (mkF m 69 #[.val (.int p0), .val (.long p1), .second, .val (.long p2), .second, .val (.long p3), .second, .val (.long p4), .second, .val (.long p5), .second, .val (.int (2 : Int32)), .val (.ref b50), .val (.long z68), .second, .val (.long (0 : Int64)), .second, .val (.long (0 : Int64)), .second, .unset, .unset] [(.ref b50)])) _
          refine XS.iconst X63.here hx rfl (hb hby at_69) ?_
          show Steps p.tables e below (T63.setTop (mkF m 70 #[.val (.int p0), .val (.long p1), .second, .val (.long p2), .second, .val (.long p3), .second, .val (.long p4), .second, .val (.long p5), .second, .val (.int (2 : Int32)), .val (.ref b50), .val (.long z68), .second, .val (.long (0 : Int64)), .second, .val (.long (0 : Int64)), .second, .unset, .unset] [(.int (0 : Int32)), (.ref b50)])) _
          refine XS.lloadN X63.here hx rfl (hb hby at_70) rfl ?_
          show Steps p.tables e below (T63.setTop (mkF m 71 #[.val (.int p0), .val (.long p1), .second, .val (.long p2), .second, .val (.long p3), .second, .val (.long p4), .second, .val (.long p5), .second, .val (.int (2 : Int32)), .val (.ref b50), .val (.long z68), .second, .val (.long (0 : Int64)), .second, .val (.long (0 : Int64)), .second, .unset, .unset] [(.long p1), (.int (0 : Int32)), (.ref b50)])) _
          refine XS.lload X63.here hx rfl (hb hby at_71) rfl ?_
          show Steps p.tables e below (T63.setTop (mkF m 73 #[.val (.int p0), .val (.long p1), .second, .val (.long p2), .second, .val (.long p3), .second, .val (.long p4), .second, .val (.long p5), .second, .val (.int (2 : Int32)), .val (.ref b50), .val (.long z68), .second, .val (.long (0 : Int64)), .second, .val (.long (0 : Int64)), .second, .unset, .unset] [(.long p5), (.long p1), (.int (0 : Int32)), (.ref b50)])) _
          refine XS.aconstNull X63.here hx rfl (hb hby at_73) ?_
          show Steps p.tables e below (T63.setTop (mkF m 74 #[.val (.int p0), .val (.long p1), .second, .val (.long p2), .second, .val (.long p3), .second, .val (.long p4), .second, .val (.long p5), .second, .val (.int (2 : Int32)), .val (.ref b50), .val (.long z68), .second, .val (.long (0 : Int64)), .second, .val (.long (0 : Int64)), .second, .unset, .unset] [.null, (.long p5), (.long p1), (.int (0 : Int32)), (.ref b50)])) _
          refine XS.aconstNull X63.here hx rfl (hb hby at_74) ?_
          show Steps p.tables e below (T63.setTop (mkF m 75 #[.val (.int p0), .val (.long p1), .second, .val (.long p2), .second, .val (.long p3), .second, .val (.long p4), .second, .val (.long p5), .second, .val (.int (2 : Int32)), .val (.ref b50), .val (.long z68), .second, .val (.long (0 : Int64)), .second, .val (.long (0 : Int64)), .second, .unset, .unset] [.null, .null, (.long p5), (.long p1), (.int (0 : Int32)), (.ref b50)])) _
          refine st73.trans ?_
          show Steps p.tables e below (T73.setTop (mkF m 78 #[.val (.int p0), .val (.long p1), .second, .val (.long p2), .second, .val (.long p3), .second, .val (.long p4), .second, .val (.long p5), .second, .val (.int (2 : Int32)), .val (.ref b50), .val (.long z68), .second, .val (.long (0 : Int64)), .second, .val (.long (0 : Int64)), .second, .unset, .unset] [])) _
          refine XS.lloadN X73.here hx rfl (hb hby at_78) rfl ?_
          show Steps p.tables e below (T73.setTop (mkF m 79 #[.val (.int p0), .val (.long p1), .second, .val (.long p2), .second, .val (.long p3), .second, .val (.long p4), .second, .val (.long p5), .second, .val (.int (2 : Int32)), .val (.ref b50), .val (.long z68), .second, .val (.long (0 : Int64)), .second, .val (.long (0 : Int64)), .second, .unset, .unset] [(.long p1)])) _
          refine XS.lstore X73.here hx rfl (hb hby at_79) rfl (l' := #[.val (.int p0), .val (.long p1), .second, .val (.long p2), .second, .val (.long p3), .second, .val (.long p4), .second, .val (.long p5), .second, .val (.int (2 : Int32)), .val (.ref b50), .val (.long p1), .second, .val (.long (0 : Int64)), .second, .val (.long (0 : Int64)), .second, .unset, .unset]) rfl ?_
          exact Steps.refl _
        have c76 : Exa Z T73.heap b50 "com/example/hot_gate/hotgate/bench/Replies" := (f63_0.keep Kc73)
        have c77 : Fld Z T73.heap b50 "com/example/hot_gate/hotgate/bench/Replies" "sentAt" "[J" (.ref u52) := (f63_1.keep Kc73 (ninS ne_b50_u52 (ninS ne_b50_u53 (ninS ne_b50_u54 nin0))))
        have c78 : Fld Z T73.heap b50 "com/example/hot_gate/hotgate/bench/Replies" "answeredAt" "[J" (.ref u53) := (f63_2.keep Kc73 (ninS ne_b50_u52 (ninS ne_b50_u53 (ninS ne_b50_u54 nin0))))
        have c79 : Fld Z T73.heap b50 "com/example/hot_gate/hotgate/bench/Replies" "outcomes" "[Lcom/example/hot_gate/hotgate/bench/Outcome;" (.ref u54) := (f63_3.keep Kc73 (ninS ne_b50_u52 (ninS ne_b50_u53 (ninS ne_b50_u54 nin0))))
        simp only [if_neg hc71]
        exact ⟨T73, T73.heap, _, X73, (rfl : T73.heap = T73.heap), O73, N73, c76, c77, c78, c79, f73_0, f73_1, f73_2, s74⟩
    obtain ⟨z80, hz80⟩ : ∃ z, z = (if ((p0 >>> ((2 : Int32) &&& 31)) &&& (1 : Int32)) = (0 : Int32) then z68 else p1) := ⟨_, rfl⟩
    rw [← hz80] at s75 f75_4
    obtain ⟨z81, hz81⟩ : ∃ z, z = (if ((p0 >>> ((2 : Int32) &&& 31)) &&& (1 : Int32)) = (0 : Int32) then z69 else p5) := ⟨_, rfl⟩
    rw [← hz81] at f75_5
    have s82 : Steps p.tables e below (s₁.setTop (entryFrame m #[(.int p0), (.long p1), (.long p2), (.long p3), (.long p4), (.long p5)] maxLocals)) (T75.setTop (mkF m 92 #[.val (.int p0), .val (.long p1), .second, .val (.long p2), .second, .val (.long p3), .second, .val (.long p4), .second, .val (.long p5), .second, .val (.int (2 : Int32)), .val (.ref b50), .val (.long z80), .second, .val (.long (0 : Int64)), .second, .val (.long (0 : Int64)), .second, .unset, .unset] [(.int ((p0 >>> ((3 : Int32) &&& 31)) &&& (1 : Int32)))])) := by
      refine s75.trans ?_
      show Steps p.tables e below (T75.setTop (mkF m 81 #[.val (.int p0), .val (.long p1), .second, .val (.long p2), .second, .val (.long p3), .second, .val (.long p4), .second, .val (.long p5), .second, .val (.int (2 : Int32)), .val (.ref b50), .val (.long z80), .second, .val (.long (0 : Int64)), .second, .val (.long (0 : Int64)), .second, .unset, .unset] [])) _
      refine XS.iload X75.here hx rfl (hb hby at_81) rfl ?_
      show Steps p.tables e below (T75.setTop (mkF m 83 #[.val (.int p0), .val (.long p1), .second, .val (.long p2), .second, .val (.long p3), .second, .val (.long p4), .second, .val (.long p5), .second, .val (.int (2 : Int32)), .val (.ref b50), .val (.long z80), .second, .val (.long (0 : Int64)), .second, .val (.long (0 : Int64)), .second, .unset, .unset] [(.int (2 : Int32))])) _
      refine XS.iconst X75.here hx rfl (hb hby at_83) ?_
      show Steps p.tables e below (T75.setTop (mkF m 84 #[.val (.int p0), .val (.long p1), .second, .val (.long p2), .second, .val (.long p3), .second, .val (.long p4), .second, .val (.long p5), .second, .val (.int (2 : Int32)), .val (.ref b50), .val (.long z80), .second, .val (.long (0 : Int64)), .second, .val (.long (0 : Int64)), .second, .unset, .unset] [(.int (1 : Int32)), (.int (2 : Int32))])) _
      refine XS.icmpNo X75.here hx rfl (hb hby at_84) rfl (tlt (by decide)).2.2.2 ?_
      show Steps p.tables e below (T75.setTop (mkF m 87 #[.val (.int p0), .val (.long p1), .second, .val (.long p2), .second, .val (.long p3), .second, .val (.long p4), .second, .val (.long p5), .second, .val (.int (2 : Int32)), .val (.ref b50), .val (.long z80), .second, .val (.long (0 : Int64)), .second, .val (.long (0 : Int64)), .second, .unset, .unset] [])) _
      refine XS.iloadN X75.here hx rfl (hb hby at_87) rfl ?_
      show Steps p.tables e below (T75.setTop (mkF m 88 #[.val (.int p0), .val (.long p1), .second, .val (.long p2), .second, .val (.long p3), .second, .val (.long p4), .second, .val (.long p5), .second, .val (.int (2 : Int32)), .val (.ref b50), .val (.long z80), .second, .val (.long (0 : Int64)), .second, .val (.long (0 : Int64)), .second, .unset, .unset] [(.int p0)])) _
      refine XS.iconst X75.here hx rfl (hb hby at_88) ?_
      show Steps p.tables e below (T75.setTop (mkF m 89 #[.val (.int p0), .val (.long p1), .second, .val (.long p2), .second, .val (.long p3), .second, .val (.long p4), .second, .val (.long p5), .second, .val (.int (2 : Int32)), .val (.ref b50), .val (.long z80), .second, .val (.long (0 : Int64)), .second, .val (.long (0 : Int64)), .second, .unset, .unset] [(.int (3 : Int32)), (.int p0)])) _
      refine XS.ishr X75.here hx rfl (hb hby at_89) rfl ?_
      show Steps p.tables e below (T75.setTop (mkF m 90 #[.val (.int p0), .val (.long p1), .second, .val (.long p2), .second, .val (.long p3), .second, .val (.long p4), .second, .val (.long p5), .second, .val (.int (2 : Int32)), .val (.ref b50), .val (.long z80), .second, .val (.long (0 : Int64)), .second, .val (.long (0 : Int64)), .second, .unset, .unset] [(.int (p0 >>> ((3 : Int32) &&& 31)))])) _
      refine XS.iconst X75.here hx rfl (hb hby at_90) ?_
      show Steps p.tables e below (T75.setTop (mkF m 91 #[.val (.int p0), .val (.long p1), .second, .val (.long p2), .second, .val (.long p3), .second, .val (.long p4), .second, .val (.long p5), .second, .val (.int (2 : Int32)), .val (.ref b50), .val (.long z80), .second, .val (.long (0 : Int64)), .second, .val (.long (0 : Int64)), .second, .unset, .unset] [(.int (1 : Int32)), (.int (p0 >>> ((3 : Int32) &&& 31)))])) _
      refine XS.iand X75.here hx rfl (hb hby at_91) rfl ?_
      exact Steps.refl _
    obtain ⟨T87, h87, L87, X87, e87, O87, N87, f87_0, f87_1, f87_2, f87_3, f87_4, f87_5, f87_6, s87⟩ : ∃ (T : State) (h : Heap) (L : List Loc), (Stand p l e room_1 s m #[(.int p0), (.long p1), (.long p2), (.long p3), (.long p4), (.long p5)] below meth c T L 5 11) ∧ (T.heap = h) ∧ (Old Z n0 h) ∧ (Fr n0 L) ∧ (Exa Z h b50 "com/example/hot_gate/hotgate/bench/Replies") ∧ (Fld Z h b50 "com/example/hot_gate/hotgate/bench/Replies" "sentAt" "[J" (.ref u52)) ∧ (Fld Z h b50 "com/example/hot_gate/hotgate/bench/Replies" "answeredAt" "[J" (.ref u53)) ∧ (Fld Z h b50 "com/example/hot_gate/hotgate/bench/Replies" "outcomes" "[Lcom/example/hot_gate/hotgate/bench/Outcome;" (.ref u54)) ∧ (Arv Z h u52 u55 .long (2 : Int32) [(.long z80), (.long (if ((p0 >>> ((3 : Int32) &&& 31)) &&& (1 : Int32)) = (0 : Int32) then (0 : Int64) else p2))] (.long (0 : Int64))) ∧ (Arv Z h u53 u56 .long (2 : Int32) [(.long z81), (.long (if ((p0 >>> ((3 : Int32) &&& 31)) &&& (1 : Int32)) = (0 : Int32) then (0 : Int64) else p5))] (.long (0 : Int64))) ∧ (Arv Z h u54 u57 (.object "com/example/hot_gate/hotgate/bench/Outcome") (2 : Int32) [.null, .null] .null) ∧ (Steps p.tables e below (s₁.setTop (entryFrame m #[(.int p0), (.long p1), (.long p2), (.long p3), (.long p4), (.long p5)] maxLocals)) (T.setTop (mkF m 109 #[.val (.int p0), .val (.long p1), .second, .val (.long p2), .second, .val (.long p3), .second, .val (.long p4), .second, .val (.long p5), .second, .val (.int (2 : Int32)), .val (.ref b50), .val (.long z80), .second, .val (.long (if ((p0 >>> ((3 : Int32) &&& 31)) &&& (1 : Int32)) = (0 : Int32) then (0 : Int64) else p2)), .second, .val (.long (0 : Int64)), .second, .unset, .unset] []))) := by
      by_cases hc83 : ((p0 >>> ((3 : Int32) &&& 31)) &&& (1 : Int32)) = (0 : Int32)
      · have s84 : Steps p.tables e below (s₁.setTop (entryFrame m #[(.int p0), (.long p1), (.long p2), (.long p3), (.long p4), (.long p5)] maxLocals)) (T75.setTop (mkF m 109 #[.val (.int p0), .val (.long p1), .second, .val (.long p2), .second, .val (.long p3), .second, .val (.long p4), .second, .val (.long p5), .second, .val (.int (2 : Int32)), .val (.ref b50), .val (.long z80), .second, .val (.long (0 : Int64)), .second, .val (.long (0 : Int64)), .second, .unset, .unset] [])) := by
          refine s82.trans ?_
          show Steps p.tables e below (T75.setTop (mkF m 92 #[.val (.int p0), .val (.long p1), .second, .val (.long p2), .second, .val (.long p3), .second, .val (.long p4), .second, .val (.long p5), .second, .val (.int (2 : Int32)), .val (.ref b50), .val (.long z80), .second, .val (.long (0 : Int64)), .second, .val (.long (0 : Int64)), .second, .unset, .unset] [(.int ((p0 >>> ((3 : Int32) &&& 31)) &&& (1 : Int32)))])) _
          refine XS.ifYes X75.here hx rfl (pc0 := 92) (pc' := 109) rfl (hb hby at_92) rfl ((if0 _ _).trans (teq hc83).1) (by decide) (by decide) ?_
          exact Steps.refl _
        simp only [if_pos hc83]
        exact ⟨T75, h75, _, X75, e75, O75, N75, f75_0, f75_1, f75_2, f75_3, f75_4, f75_5, f75_6, s84⟩
      · obtain ⟨cq85, kq85, q85a, q85b, q85c⟩ := isOf hZ e75 f75_0
        obtain ⟨_, _, ⟨T85, L85, k85, n85⟩, -, X85, ⟨Lc85, hQ85, l85, y85, z85⟩, st85⟩ := X75.virtualBack hx (y := (⟨"com/example/hot_gate/hotgate/bench/Replies", "record", "(IJJLcom/example/hot_gate/hotgate/bench/Outcome;Ljava/lang/String;)V"⟩ : MethodName)) (z := (⟨"com/example/hot_gate/hotgate/bench/Replies", "record", "(IJJLcom/example/hot_gate/hotgate/bench/Outcome;Ljava/lang/String;)V"⟩ : MethodName)) hown (mvT hZ (hw _ (List.mem_of_getElem? (i := 34) rfl))) (mvT hZ (hw _ (List.mem_of_getElem? (i := 35) rfl))) (notFace_of_selects (args := #[]) (mvT hZ (hw _ (List.mem_of_getElem? (i := 37) rfl)))) (mvT hZ (hw _ (List.mem_of_getElem? (i := 37) rfl))) (mvT hZ (hw _ (List.mem_of_getElem? (i := 36) rfl))) (by decide) (backOf (W := 0) (rmr2_1 l Z a0 hw [] b50 p2 p5 u52 u53 u54 u55 u56 u57 z80 (0 : Int64) z81 (0 : Int64) h75 n0 O75 f75_1 f75_2 f75_3 f75_4 f75_5 f75_6 g_u52 g_u53 g_u54 f51_10 f51_11 f51_12 ne_b50_u52 ne_b50_u53 ne_b50_u54) hZ (hw _ (List.mem_of_getElem? (i := 38) rfl)) (hw _ (List.mem_of_getElem? (i := 2) rfl)) (by decide) (by decide)) q85a q85c (g := (mkF m 103 #[.val (.int p0), .val (.long p1), .second, .val (.long p2), .second, .val (.long p3), .second, .val (.long p4), .second, .val (.long p5), .second, .val (.int (2 : Int32)), .val (.ref b50), .val (.long z80), .second, .val (.long (0 : Int64)), .second, .val (.long (0 : Int64)), .second, .unset, .unset] [.null, .null, (.long p5), (.long p2), (.int (1 : Int32)), (.ref b50)])) rfl (by rw [hml]; rfl) (Steps.refl _) (argsL := [(.int (1 : Int32)), (.long p2), (.long p5), .null, .null]) (rest := []) (lenOf pd_rm0_2 rfl) rfl (by show 2 * 0 + _ ≤ _; exact Nat.le_of_eq rfl) (hb hby at_103) (fun _ _ => ⟨rfl, e75, (by decide : 5 + 0 ≤ _), (by decide : 11 + 0 ≤ _)⟩)
        dsimp only [Pt.U, Pt.locs, Pt.cells, Pt.slots] at X85 l85 y85 z85 st85 hQ85
        subst l85 y85 z85
        obtain ⟨rfl, Nq85, Kc85, f85_0, f85_1, f85_2⟩ := hQ85
        have N85 := Fr.app N75 Nq85
        have O85 := O75.keep Kc85 (allS g_u52 (allS g_u53 (allS g_u54 all0)))
        have s86 : Steps p.tables e below (s₁.setTop (entryFrame m #[(.int p0), (.long p1), (.long p2), (.long p3), (.long p4), (.long p5)] maxLocals)) (T85.setTop (mkF m 109 #[.val (.int p0), .val (.long p1), .second, .val (.long p2), .second, .val (.long p3), .second, .val (.long p4), .second, .val (.long p5), .second, .val (.int (2 : Int32)), .val (.ref b50), .val (.long z80), .second, .val (.long p2), .second, .val (.long (0 : Int64)), .second, .unset, .unset] [])) := by
          refine s82.trans ?_
          show Steps p.tables e below (T75.setTop (mkF m 92 #[.val (.int p0), .val (.long p1), .second, .val (.long p2), .second, .val (.long p3), .second, .val (.long p4), .second, .val (.long p5), .second, .val (.int (2 : Int32)), .val (.ref b50), .val (.long z80), .second, .val (.long (0 : Int64)), .second, .val (.long (0 : Int64)), .second, .unset, .unset] [(.int ((p0 >>> ((3 : Int32) &&& 31)) &&& (1 : Int32)))])) _
          refine XS.ifNo X75.here hx rfl (hb hby at_92) rfl ((if0 _ _).trans (feq hc83).1) ?_
          show Steps p.tables e below (T75.setTop (mkF m 95 #[.val (.int p0), .val (.long p1), .second, .val (.long p2), .second, .val (.long p3), .second, .val (.long p4), .second, .val (.long p5), .second, .val (.int (2 : Int32)), .val (.ref b50), .val (.long z80), .second, .val (.long (0 : Int64)), .second, .val (.long (0 : Int64)), .second, .unset, .unset] [])) _
          refine XS.aload X75.here hx rfl (hb hby at_95) rfl rfl ?_
          show Steps p.tables e below (T75.setTop (mkF m 97 #[.val (.int p0), .val (.long p1), .second, .val (.long p2), .second, .val (.long p3), .second, .val (.long p4), .second, .val (.long p5), .second, .val (.int (2 : Int32)), .val (.ref b50), .val (.long z80), .second, .val (.long (0 : Int64)), .second, .val (.long (0 : Int64)), .second, .unset, .unset] [(.ref b50)])) _
          refine XS.iconst X75.here hx rfl (hb hby at_97) ?_
          show Steps p.tables e below (T75.setTop (mkF m 98 #[.val (.int p0), .val (.long p1), .second, .val (.long p2), .second, .val (.long p3), .second, .val (.long p4), .second, .val (.long p5), .second, .val (.int (2 : Int32)), .val (.ref b50), .val (.long z80), .second, .val (.long (0 : Int64)), .second, .val (.long (0 : Int64)), .second, .unset, .unset] [(.int (1 : Int32)), (.ref b50)])) _
          refine XS.lloadN X75.here hx rfl (hb hby at_98) rfl ?_
          show Steps p.tables e below (T75.setTop (mkF m 99 #[.val (.int p0), .val (.long p1), .second, .val (.long p2), .second, .val (.long p3), .second, .val (.long p4), .second, .val (.long p5), .second, .val (.int (2 : Int32)), .val (.ref b50), .val (.long z80), .second, .val (.long (0 : Int64)), .second, .val (.long (0 : Int64)), .second, .unset, .unset] [(.long p2), (.int (1 : Int32)), (.ref b50)])) _
          refine XS.lload X75.here hx rfl (hb hby at_99) rfl ?_
          show Steps p.tables e below (T75.setTop (mkF m 101 #[.val (.int p0), .val (.long p1), .second, .val (.long p2), .second, .val (.long p3), .second, .val (.long p4), .second, .val (.long p5), .second, .val (.int (2 : Int32)), .val (.ref b50), .val (.long z80), .second, .val (.long (0 : Int64)), .second, .val (.long (0 : Int64)), .second, .unset, .unset] [(.long p5), (.long p2), (.int (1 : Int32)), (.ref b50)])) _
          refine XS.aconstNull X75.here hx rfl (hb hby at_101) ?_
          show Steps p.tables e below (T75.setTop (mkF m 102 #[.val (.int p0), .val (.long p1), .second, .val (.long p2), .second, .val (.long p3), .second, .val (.long p4), .second, .val (.long p5), .second, .val (.int (2 : Int32)), .val (.ref b50), .val (.long z80), .second, .val (.long (0 : Int64)), .second, .val (.long (0 : Int64)), .second, .unset, .unset] [.null, (.long p5), (.long p2), (.int (1 : Int32)), (.ref b50)])) _
          refine XS.aconstNull X75.here hx rfl (hb hby at_102) ?_
          show Steps p.tables e below (T75.setTop (mkF m 103 #[.val (.int p0), .val (.long p1), .second, .val (.long p2), .second, .val (.long p3), .second, .val (.long p4), .second, .val (.long p5), .second, .val (.int (2 : Int32)), .val (.ref b50), .val (.long z80), .second, .val (.long (0 : Int64)), .second, .val (.long (0 : Int64)), .second, .unset, .unset] [.null, .null, (.long p5), (.long p2), (.int (1 : Int32)), (.ref b50)])) _
          refine st85.trans ?_
          show Steps p.tables e below (T85.setTop (mkF m 106 #[.val (.int p0), .val (.long p1), .second, .val (.long p2), .second, .val (.long p3), .second, .val (.long p4), .second, .val (.long p5), .second, .val (.int (2 : Int32)), .val (.ref b50), .val (.long z80), .second, .val (.long (0 : Int64)), .second, .val (.long (0 : Int64)), .second, .unset, .unset] [])) _
          refine XS.lloadN X85.here hx rfl (hb hby at_106) rfl ?_
          show Steps p.tables e below (T85.setTop (mkF m 107 #[.val (.int p0), .val (.long p1), .second, .val (.long p2), .second, .val (.long p3), .second, .val (.long p4), .second, .val (.long p5), .second, .val (.int (2 : Int32)), .val (.ref b50), .val (.long z80), .second, .val (.long (0 : Int64)), .second, .val (.long (0 : Int64)), .second, .unset, .unset] [(.long p2)])) _
          refine XS.lstore X85.here hx rfl (hb hby at_107) rfl (l' := #[.val (.int p0), .val (.long p1), .second, .val (.long p2), .second, .val (.long p3), .second, .val (.long p4), .second, .val (.long p5), .second, .val (.int (2 : Int32)), .val (.ref b50), .val (.long z80), .second, .val (.long p2), .second, .val (.long (0 : Int64)), .second, .unset, .unset]) rfl ?_
          exact Steps.refl _
        have c88 : Exa Z T85.heap b50 "com/example/hot_gate/hotgate/bench/Replies" := (f75_0.keep Kc85)
        have c89 : Fld Z T85.heap b50 "com/example/hot_gate/hotgate/bench/Replies" "sentAt" "[J" (.ref u52) := (f75_1.keep Kc85 (ninS ne_b50_u52 (ninS ne_b50_u53 (ninS ne_b50_u54 nin0))))
        have c90 : Fld Z T85.heap b50 "com/example/hot_gate/hotgate/bench/Replies" "answeredAt" "[J" (.ref u53) := (f75_2.keep Kc85 (ninS ne_b50_u52 (ninS ne_b50_u53 (ninS ne_b50_u54 nin0))))
        have c91 : Fld Z T85.heap b50 "com/example/hot_gate/hotgate/bench/Replies" "outcomes" "[Lcom/example/hot_gate/hotgate/bench/Outcome;" (.ref u54) := (f75_3.keep Kc85 (ninS ne_b50_u52 (ninS ne_b50_u53 (ninS ne_b50_u54 nin0))))
        simp only [if_neg hc83]
        exact ⟨T85, T85.heap, _, X85, (rfl : T85.heap = T85.heap), O85, N85, c88, c89, c90, c91, f85_0, f85_1, f85_2, s86⟩
    obtain ⟨z92, hz92⟩ : ∃ z, z = (if ((p0 >>> ((3 : Int32) &&& 31)) &&& (1 : Int32)) = (0 : Int32) then (0 : Int64) else p2) := ⟨_, rfl⟩
    rw [← hz92] at s87 f87_4
    obtain ⟨z93, hz93⟩ : ∃ z, z = (if ((p0 >>> ((3 : Int32) &&& 31)) &&& (1 : Int32)) = (0 : Int32) then (0 : Int64) else p5) := ⟨_, rfl⟩
    rw [← hz93] at f87_5
    obtain ⟨_, _, ⟨T94, L94, k94, n94⟩, -, X94, ⟨Lc94, hQ94, l94, y94, z94⟩, st94⟩ := Jvm.LawKit.callS X87 hx (y := (⟨"java/lang/Math", "min", "(JJ)J"⟩ : MethodName)) hown (mvT hZ (hw _ (List.mem_of_getElem? (i := 39) rfl))) (mvT hZ (hw _ (List.mem_of_getElem? (i := 40) rfl))) (mvT hZ (hw _ (List.mem_of_getElem? (i := 41) rfl))) (mvT hZ (hw _ (List.mem_of_getElem? (i := 42) rfl))) (by decide) (backOf (W := 0) (rm6 l Z a0 hw [] z80 z92 h87 n0 O87 ) hZ (hw _ (List.mem_of_getElem? (i := 42) rfl)) (hw _ (List.mem_of_getElem? (i := 41) rfl)) (by decide) (by decide)) (g := (mkF m 163 #[.val (.int p0), .val (.long p1), .second, .val (.long p2), .second, .val (.long p3), .second, .val (.long p4), .second, .val (.long p5), .second, .val (.int (2 : Int32)), .val (.ref b50), .val (.long z80), .second, .val (.long z92), .second, .val (.long (0 : Int64)), .second, .val (.long z80), .second] [(.long z92), (.long z80)])) rfl (by rw [hml]; rfl) (argsL := [(.long z80), (.long z92)]) (rest := []) (lenOf pd_rm0_3 rfl) rfl (by show 2 * 0 + _ ≤ _; exact Nat.le_of_eq rfl) (hb hby at_163) (fun _ _ => ⟨rfl, e87, (by decide : 5 + 0 ≤ _), (by decide : 11 + 0 ≤ _)⟩)
    dsimp only [Pt.U, Pt.locs, Pt.cells, Pt.slots] at X94 l94 y94 z94 st94 hQ94
    subst l94 y94 z94
    obtain ⟨rfl, Nq94, e94⟩ := hQ94
    have N94 := Fr.app N87 Nq94
    obtain ⟨cq95, kq95, q95a, q95b, q95c⟩ := isOf hZ e94 f87_0
    obtain ⟨_, _, ⟨T95, L95, k95, n95⟩, -, X95, ⟨Lc95, hQ95, l95, y95, z95⟩, st95⟩ := X94.virtualBack hx (y := (⟨"com/example/hot_gate/hotgate/bench/Replies", "firstSent", "()J"⟩ : MethodName)) (z := (⟨"com/example/hot_gate/hotgate/bench/Replies", "firstSent", "()J"⟩ : MethodName)) hown (mvT hZ (hw _ (List.mem_of_getElem? (i := 28) rfl))) (mvT hZ (hw _ (List.mem_of_getElem? (i := 29) rfl))) (notFace_of_selects (args := #[]) (mvT hZ (hw _ (List.mem_of_getElem? (i := 31) rfl)))) (mvT hZ (hw _ (List.mem_of_getElem? (i := 31) rfl))) (mvT hZ (hw _ (List.mem_of_getElem? (i := 30) rfl))) (by decide) (backOf (W := 0) (rmf2 l Z a0 hw [] b50 u52 u55 z80 z92 h87 n0 O87 f87_1 f87_4) hZ (hw _ (List.mem_of_getElem? (i := 32) rfl)) (hw _ (List.mem_of_getElem? (i := 2) rfl)) (by decide) (by decide)) q95a q95c (g := (mkF m 185 #[.val (.int p0), .val (.long p1), .second, .val (.long p2), .second, .val (.long p3), .second, .val (.long p4), .second, .val (.long p5), .second, .val (.int (2 : Int32)), .val (.ref b50), .val (.long z80), .second, .val (.long z92), .second, .val (.long (0 : Int64)), .second, .val (.long (own_min z80 z92)), .second] [(.ref b50)])) rfl (by rw [hml]; rfl) (Steps.refl _) (argsL := []) (rest := []) (lenOf pd_rm0_1 rfl) rfl (by show 2 * 0 + _ ≤ _; exact Nat.le_of_eq rfl) (hb hby at_185) (fun _ _ => ⟨rfl, e94, (by decide : 5 + 0 ≤ _), (by decide : 11 + 0 ≤ _)⟩)
    dsimp only [Pt.U, Pt.locs, Pt.cells, Pt.slots] at X95 l95 y95 z95 st95 hQ95
    subst l95 y95 z95
    obtain ⟨rfl, Nq95, e95⟩ := hQ95
    have N95 := Fr.app N94 Nq95
    have s96 : Steps p.tables e below (s₁.setTop (entryFrame m #[(.int p0), (.long p1), (.long p2), (.long p3), (.long p4), (.long p5)] maxLocals)) (T95.setTop (mkF m 199 #[.val (.int p0), .val (.long p1), .second, .val (.long p2), .second, .val (.long p3), .second, .val (.long p4), .second, .val (.long p5), .second, .val (.int (2 : Int32)), .val (.ref b50), .val (.long z80), .second, .val (.long z92), .second, .val (.long (0 : Int64)), .second, .val (.long (own_min z80 z92)), .second] [(.int (1 : Int32))])) := by
      refine s87.trans ?_
      show Steps p.tables e below (T87.setTop (mkF m 109 #[.val (.int p0), .val (.long p1), .second, .val (.long p2), .second, .val (.long p3), .second, .val (.long p4), .second, .val (.long p5), .second, .val (.int (2 : Int32)), .val (.ref b50), .val (.long z80), .second, .val (.long z92), .second, .val (.long (0 : Int64)), .second, .unset, .unset] [])) _
      refine XS.iload X87.here hx rfl (hb hby at_109) rfl ?_
      show Steps p.tables e below (T87.setTop (mkF m 111 #[.val (.int p0), .val (.long p1), .second, .val (.long p2), .second, .val (.long p3), .second, .val (.long p4), .second, .val (.long p5), .second, .val (.int (2 : Int32)), .val (.ref b50), .val (.long z80), .second, .val (.long z92), .second, .val (.long (0 : Int64)), .second, .unset, .unset] [(.int (2 : Int32))])) _
      refine XS.iconst X87.here hx rfl (hb hby at_111) ?_
      show Steps p.tables e below (T87.setTop (mkF m 112 #[.val (.int p0), .val (.long p1), .second, .val (.long p2), .second, .val (.long p3), .second, .val (.long p4), .second, .val (.long p5), .second, .val (.int (2 : Int32)), .val (.ref b50), .val (.long z80), .second, .val (.long z92), .second, .val (.long (0 : Int64)), .second, .unset, .unset] [(.int (2 : Int32)), (.int (2 : Int32))])) _
      refine XS.icmpYes X87.here hx rfl (pc0 := 112) (pc' := 139) rfl (hb hby at_112) rfl (flt (by decide)).2.2.2 (by decide) (by decide) ?_
      show Steps p.tables e below (T87.setTop (mkF m 139 #[.val (.int p0), .val (.long p1), .second, .val (.long p2), .second, .val (.long p3), .second, .val (.long p4), .second, .val (.long p5), .second, .val (.int (2 : Int32)), .val (.ref b50), .val (.long z80), .second, .val (.long z92), .second, .val (.long (0 : Int64)), .second, .unset, .unset] [])) _
      refine X87.ldc2Long hx hown (mvT hZ (hw _ (List.mem_of_getElem? (i := 27) rfl))) (g := (mkF m 139 #[.val (.int p0), .val (.long p1), .second, .val (.long p2), .second, .val (.long p3), .second, .val (.long p4), .second, .val (.long p5), .second, .val (.int (2 : Int32)), .val (.ref b50), .val (.long z80), .second, .val (.long z92), .second, .val (.long (0 : Int64)), .second, .unset, .unset] [])) rfl (hb hby at_139) _ ?_
      show Steps p.tables e below (T87.setTop (mkF m 142 #[.val (.int p0), .val (.long p1), .second, .val (.long p2), .second, .val (.long p3), .second, .val (.long p4), .second, .val (.long p5), .second, .val (.int (2 : Int32)), .val (.ref b50), .val (.long z80), .second, .val (.long z92), .second, .val (.long (0 : Int64)), .second, .unset, .unset] [(.long (9223372036854775807 : Int64))])) _
      refine XS.lstore X87.here hx rfl (hb hby at_142) rfl (l' := #[.val (.int p0), .val (.long p1), .second, .val (.long p2), .second, .val (.long p3), .second, .val (.long p4), .second, .val (.long p5), .second, .val (.int (2 : Int32)), .val (.ref b50), .val (.long z80), .second, .val (.long z92), .second, .val (.long (0 : Int64)), .second, .val (.long (9223372036854775807 : Int64)), .second]) rfl ?_
      show Steps p.tables e below (T87.setTop (mkF m 144 #[.val (.int p0), .val (.long p1), .second, .val (.long p2), .second, .val (.long p3), .second, .val (.long p4), .second, .val (.long p5), .second, .val (.int (2 : Int32)), .val (.ref b50), .val (.long z80), .second, .val (.long z92), .second, .val (.long (0 : Int64)), .second, .val (.long (9223372036854775807 : Int64)), .second] [])) _
      refine XS.iload X87.here hx rfl (hb hby at_144) rfl ?_
      show Steps p.tables e below (T87.setTop (mkF m 146 #[.val (.int p0), .val (.long p1), .second, .val (.long p2), .second, .val (.long p3), .second, .val (.long p4), .second, .val (.long p5), .second, .val (.int (2 : Int32)), .val (.ref b50), .val (.long z80), .second, .val (.long z92), .second, .val (.long (0 : Int64)), .second, .val (.long (9223372036854775807 : Int64)), .second] [(.int (2 : Int32))])) _
      refine XS.ifNo X87.here hx rfl (hb hby at_146) rfl ((if0 _ _).trans (tlt (by decide)).2.2.2) ?_
      show Steps p.tables e below (T87.setTop (mkF m 149 #[.val (.int p0), .val (.long p1), .second, .val (.long p2), .second, .val (.long p3), .second, .val (.long p4), .second, .val (.long p5), .second, .val (.int (2 : Int32)), .val (.ref b50), .val (.long z80), .second, .val (.long z92), .second, .val (.long (0 : Int64)), .second, .val (.long (9223372036854775807 : Int64)), .second] [])) _
      refine XS.lload X87.here hx rfl (hb hby at_149) rfl ?_
      show Steps p.tables e below (T87.setTop (mkF m 151 #[.val (.int p0), .val (.long p1), .second, .val (.long p2), .second, .val (.long p3), .second, .val (.long p4), .second, .val (.long p5), .second, .val (.int (2 : Int32)), .val (.ref b50), .val (.long z80), .second, .val (.long z92), .second, .val (.long (0 : Int64)), .second, .val (.long (9223372036854775807 : Int64)), .second] [(.long z80)])) _
      refine XS.lstore X87.here hx rfl (hb hby at_151) rfl (l' := #[.val (.int p0), .val (.long p1), .second, .val (.long p2), .second, .val (.long p3), .second, .val (.long p4), .second, .val (.long p5), .second, .val (.int (2 : Int32)), .val (.ref b50), .val (.long z80), .second, .val (.long z92), .second, .val (.long (0 : Int64)), .second, .val (.long z80), .second]) rfl ?_
      show Steps p.tables e below (T87.setTop (mkF m 153 #[.val (.int p0), .val (.long p1), .second, .val (.long p2), .second, .val (.long p3), .second, .val (.long p4), .second, .val (.long p5), .second, .val (.int (2 : Int32)), .val (.ref b50), .val (.long z80), .second, .val (.long z92), .second, .val (.long (0 : Int64)), .second, .val (.long z80), .second] [])) _
      refine XS.iload X87.here hx rfl (hb hby at_153) rfl ?_
      show Steps p.tables e below (T87.setTop (mkF m 155 #[.val (.int p0), .val (.long p1), .second, .val (.long p2), .second, .val (.long p3), .second, .val (.long p4), .second, .val (.long p5), .second, .val (.int (2 : Int32)), .val (.ref b50), .val (.long z80), .second, .val (.long z92), .second, .val (.long (0 : Int64)), .second, .val (.long z80), .second] [(.int (2 : Int32))])) _
      refine XS.iconst X87.here hx rfl (hb hby at_155) ?_
      show Steps p.tables e below (T87.setTop (mkF m 156 #[.val (.int p0), .val (.long p1), .second, .val (.long p2), .second, .val (.long p3), .second, .val (.long p4), .second, .val (.long p5), .second, .val (.int (2 : Int32)), .val (.ref b50), .val (.long z80), .second, .val (.long z92), .second, .val (.long (0 : Int64)), .second, .val (.long z80), .second] [(.int (1 : Int32)), (.int (2 : Int32))])) _
      refine XS.icmpNo X87.here hx rfl (hb hby at_156) rfl (tlt (by decide)).2.2.2 ?_
      show Steps p.tables e below (T87.setTop (mkF m 159 #[.val (.int p0), .val (.long p1), .second, .val (.long p2), .second, .val (.long p3), .second, .val (.long p4), .second, .val (.long p5), .second, .val (.int (2 : Int32)), .val (.ref b50), .val (.long z80), .second, .val (.long z92), .second, .val (.long (0 : Int64)), .second, .val (.long z80), .second] [])) _
      refine XS.lload X87.here hx rfl (hb hby at_159) rfl ?_
      show Steps p.tables e below (T87.setTop (mkF m 161 #[.val (.int p0), .val (.long p1), .second, .val (.long p2), .second, .val (.long p3), .second, .val (.long p4), .second, .val (.long p5), .second, .val (.int (2 : Int32)), .val (.ref b50), .val (.long z80), .second, .val (.long z92), .second, .val (.long (0 : Int64)), .second, .val (.long z80), .second] [(.long z80)])) _
      refine XS.lload X87.here hx rfl (hb hby at_161) rfl ?_
      show Steps p.tables e below (T87.setTop (mkF m 163 #[.val (.int p0), .val (.long p1), .second, .val (.long p2), .second, .val (.long p3), .second, .val (.long p4), .second, .val (.long p5), .second, .val (.int (2 : Int32)), .val (.ref b50), .val (.long z80), .second, .val (.long z92), .second, .val (.long (0 : Int64)), .second, .val (.long z80), .second] [(.long z92), (.long z80)])) _
      refine st94 _ ?_
      show Steps p.tables e below (T94.setTop (mkF m 166 #[.val (.int p0), .val (.long p1), .second, .val (.long p2), .second, .val (.long p3), .second, .val (.long p4), .second, .val (.long p5), .second, .val (.int (2 : Int32)), .val (.ref b50), .val (.long z80), .second, .val (.long z92), .second, .val (.long (0 : Int64)), .second, .val (.long z80), .second] [(.long (own_min z80 z92))])) _
      refine XS.lstore X94.here hx rfl (hb hby at_166) rfl (l' := #[.val (.int p0), .val (.long p1), .second, .val (.long p2), .second, .val (.long p3), .second, .val (.long p4), .second, .val (.long p5), .second, .val (.int (2 : Int32)), .val (.ref b50), .val (.long z80), .second, .val (.long z92), .second, .val (.long (0 : Int64)), .second, .val (.long (own_min z80 z92)), .second]) rfl ?_
      show Steps p.tables e below (T94.setTop (mkF m 168 #[.val (.int p0), .val (.long p1), .second, .val (.long p2), .second, .val (.long p3), .second, .val (.long p4), .second, .val (.long p5), .second, .val (.int (2 : Int32)), .val (.ref b50), .val (.long z80), .second, .val (.long z92), .second, .val (.long (0 : Int64)), .second, .val (.long (own_min z80 z92)), .second] [])) _
      refine XS.iload X94.here hx rfl (hb hby at_168) rfl ?_
      show Steps p.tables e below (T94.setTop (mkF m 170 #[.val (.int p0), .val (.long p1), .second, .val (.long p2), .second, .val (.long p3), .second, .val (.long p4), .second, .val (.long p5), .second, .val (.int (2 : Int32)), .val (.ref b50), .val (.long z80), .second, .val (.long z92), .second, .val (.long (0 : Int64)), .second, .val (.long (own_min z80 z92)), .second] [(.int (2 : Int32))])) _
      refine XS.iconst X94.here hx rfl (hb hby at_170) ?_
      show Steps p.tables e below (T94.setTop (mkF m 171 #[.val (.int p0), .val (.long p1), .second, .val (.long p2), .second, .val (.long p3), .second, .val (.long p4), .second, .val (.long p5), .second, .val (.int (2 : Int32)), .val (.ref b50), .val (.long z80), .second, .val (.long z92), .second, .val (.long (0 : Int64)), .second, .val (.long (own_min z80 z92)), .second] [(.int (2 : Int32)), (.int (2 : Int32))])) _
      refine XS.icmpYes X94.here hx rfl (pc0 := 171) (pc' := 183) rfl (hb hby at_171) rfl (flt (by decide)).2.2.2 (by decide) (by decide) ?_
      show Steps p.tables e below (T94.setTop (mkF m 183 #[.val (.int p0), .val (.long p1), .second, .val (.long p2), .second, .val (.long p3), .second, .val (.long p4), .second, .val (.long p5), .second, .val (.int (2 : Int32)), .val (.ref b50), .val (.long z80), .second, .val (.long z92), .second, .val (.long (0 : Int64)), .second, .val (.long (own_min z80 z92)), .second] [])) _
      refine XS.aload X94.here hx rfl (hb hby at_183) rfl rfl ?_
      show Steps p.tables e below (T94.setTop (mkF m 185 #[.val (.int p0), .val (.long p1), .second, .val (.long p2), .second, .val (.long p3), .second, .val (.long p4), .second, .val (.long p5), .second, .val (.int (2 : Int32)), .val (.ref b50), .val (.long z80), .second, .val (.long z92), .second, .val (.long (0 : Int64)), .second, .val (.long (own_min z80 z92)), .second] [(.ref b50)])) _
      refine st95.trans ?_
      show Steps p.tables e below (T95.setTop (mkF m 188 #[.val (.int p0), .val (.long p1), .second, .val (.long p2), .second, .val (.long p3), .second, .val (.long p4), .second, .val (.long p5), .second, .val (.int (2 : Int32)), .val (.ref b50), .val (.long z80), .second, .val (.long z92), .second, .val (.long (0 : Int64)), .second, .val (.long (own_min z80 z92)), .second] [(.long (own_min (own_min (9223372036854775807 : Int64) z80) z92))])) _
      refine XS.lload X95.here hx rfl (hb hby at_188) rfl ?_
      show Steps p.tables e below (T95.setTop (mkF m 190 #[.val (.int p0), .val (.long p1), .second, .val (.long p2), .second, .val (.long p3), .second, .val (.long p4), .second, .val (.long p5), .second, .val (.int (2 : Int32)), .val (.ref b50), .val (.long z80), .second, .val (.long z92), .second, .val (.long (0 : Int64)), .second, .val (.long (own_min z80 z92)), .second] [(.long (own_min z80 z92)), (.long (own_min (own_min (9223372036854775807 : Int64) z80) z92))])) _
      refine XS.lcmp X95.here hx rfl (hb hby at_190) rfl ?_
      show Steps p.tables e below (T95.setTop (mkF m 191 #[.val (.int p0), .val (.long p1), .second, .val (.long p2), .second, .val (.long p3), .second, .val (.long p4), .second, .val (.long p5), .second, .val (.int (2 : Int32)), .val (.ref b50), .val (.long z80), .second, .val (.long z92), .second, .val (.long (0 : Int64)), .second, .val (.long (own_min z80 z92)), .second] [(.int (lcmpW (own_min (own_min (9223372036854775807 : Int64) z80) z92) (own_min z80 z92)))])) _
      refine XS.ifNo X95.here hx rfl (hb hby at_191) rfl ((if0 _ _).trans (teq (by rw [own_min_max]; exact (lw_eq _ _).mpr rfl)).2) ?_
      show Steps p.tables e below (T95.setTop (mkF m 194 #[.val (.int p0), .val (.long p1), .second, .val (.long p2), .second, .val (.long p3), .second, .val (.long p4), .second, .val (.long p5), .second, .val (.int (2 : Int32)), .val (.ref b50), .val (.long z80), .second, .val (.long z92), .second, .val (.long (0 : Int64)), .second, .val (.long (own_min z80 z92)), .second] [])) _
      refine XS.iconst X95.here hx rfl (hb hby at_194) ?_
      show Steps p.tables e below (T95.setTop (mkF m 195 #[.val (.int p0), .val (.long p1), .second, .val (.long p2), .second, .val (.long p3), .second, .val (.long p4), .second, .val (.long p5), .second, .val (.int (2 : Int32)), .val (.ref b50), .val (.long z80), .second, .val (.long z92), .second, .val (.long (0 : Int64)), .second, .val (.long (own_min z80 z92)), .second] [(.int (1 : Int32))])) _
      refine XS.goto X95.here hx rfl (pc0 := 195) (pc' := 199) rfl (hb hby at_195) (by decide) (by decide) ?_
      exact Steps.refl _
    obtain ⟨fs, hr, hrun, hended, hW, hsame⟩ := X95.leave (v := some (.int (1 : Int32))) (fun h => by rw [Bd.returns] at h; cases h)
    refine ⟨_, _, s96.trans ?_, hrun, hended, _, _, rfl, ?_, ⟨_, rfl⟩, hW, hsame.mono (by decide) (by decide)⟩
    · show Steps p.tables e below (T95.setTop (mkF m 199 #[.val (.int p0), .val (.long p1), .second, .val (.long p2), .second, .val (.long p3), .second, .val (.long p4), .second, .val (.long p5), .second, .val (.int (2 : Int32)), .val (.ref b50), .val (.long z80), .second, .val (.long z92), .second, .val (.long (0 : Int64)), .second, .val (.long (own_min z80 z92)), .second] [(.int (1 : Int32))])) _
      exact retN X95 hx (t := .boolean) Bd.returns (by simp) (hb hby at_199) hr
    · show Q0 Z p0 p1 p2 p3 p4 p5 h0 n0 _ T95.heap _
      rw [e95]
      exact ⟨rfl, N95⟩
  · have s97 := s1
    rw [hk2] at s97
    obtain ⟨T98, h98, X98, e98, E98, A98, D98, -, st98⟩ := newO X0 hx hZ hown (hw _ (List.mem_of_getElem? (i := 0) rfl)) (hw _ (List.mem_of_getElem? (i := 1) rfl)) (hw _ (List.mem_of_getElem? (i := 2) rfl)) e0 (g := (mkF m 5 #[.val (.int p0), .val (.long p1), .second, .val (.long p2), .second, .val (.long p3), .second, .val (.long p4), .second, .val (.long p5), .second, .val (.int (3 : Int32)), .unset, .unset, .unset, .unset, .unset, .unset, .unset, .unset, .unset] [])) rfl (hb hby at_5) (by decide) (by decide)
    obtain ⟨b98, g98⟩ : ∃ z, z = h0.size := ⟨_, rfl⟩
    rw [← g98] at A98 D98 st98
    have g_b98 : n0 ≤ b98 := Nat.le_trans (Nat.le_of_eq O0.1.symm) (Nat.le_trans O0.2.1 (Nat.le_of_eq g98.symm))
    have O98 := O0.ext E98
    have F98_firstError : Fld Z h98 b98 "com/example/hot_gate/hotgate/bench/Replies" "firstError" "Ljava/util/concurrent/atomic/AtomicReference;" .null := D98 (Or.inr (hw _ (List.mem_of_getElem? (i := 17) rfl))) (ty := (.object "java/util/concurrent/atomic/AtomicReference")) (by decide)
    have F98_sentAt : Fld Z h98 b98 "com/example/hot_gate/hotgate/bench/Replies" "sentAt" "[J" .null := D98 (Or.inr (hw _ (List.mem_of_getElem? (i := 20) rfl))) (ty := (.array .long)) (by decide)
    have F98_answeredAt : Fld Z h98 b98 "com/example/hot_gate/hotgate/bench/Replies" "answeredAt" "[J" .null := D98 (Or.inr (hw _ (List.mem_of_getElem? (i := 22) rfl))) (ty := (.array .long)) (by decide)
    have F98_outcomes : Fld Z h98 b98 "com/example/hot_gate/hotgate/bench/Replies" "outcomes" "[Lcom/example/hot_gate/hotgate/bench/Outcome;" .null := D98 (Or.inr (hw _ (List.mem_of_getElem? (i := 26) rfl))) (ty := (.array (.object "com/example/hot_gate/hotgate/bench/Outcome"))) (by decide)
    obtain ⟨_, _, ⟨T99, L99, k99, n99⟩, -, X99, ⟨Lc99, hQ99, l99, y99, z99⟩, st99⟩ := X98.specialBack hx (y := (⟨"com/example/hot_gate/hotgate/bench/Replies", "<init>", "(I)V"⟩ : MethodName)) rfl hown (mvT hZ (hw _ (List.mem_of_getElem? (i := 3) rfl))) (mvT hZ (hw _ (List.mem_of_getElem? (i := 4) rfl))) (mvT hZ (hw _ (List.mem_of_getElem? (i := 5) rfl))) (by decide) (backOf (W := 1) (rmi3 l Z a0 hw [] b98 h98 n0 O98 A98 F98_firstError F98_sentAt F98_answeredAt F98_outcomes g_b98) hZ (hw _ (List.mem_of_getElem? (i := 5) rfl)) (hw _ (List.mem_of_getElem? (i := 2) rfl)) (by decide) (by decide)) (g := (mkF m 11 #[.val (.int p0), .val (.long p1), .second, .val (.long p2), .second, .val (.long p3), .second, .val (.long p4), .second, .val (.long p5), .second, .val (.int (3 : Int32)), .unset, .unset, .unset, .unset, .unset, .unset, .unset, .unset, .unset] [(.int (3 : Int32)), (.ref b98), (.ref b98)])) rfl (by rw [hml]; rfl) (Steps.refl _) (a := b98) (argsL := [(.int (3 : Int32))]) (rest := [(.ref b98)]) (lenOf pd_rm0_0 rfl) rfl (by show 2 * 0 + _ ≤ _; exact Nat.le_of_eq rfl) (hb hby at_11) (fun _ _ => ⟨rfl, e98, (by decide : 1 + 4 ≤ _), (by decide : 4 + 10 ≤ _)⟩)
    dsimp only [Pt.U, Pt.locs, Pt.cells, Pt.slots] at X99 l99 y99 z99 st99 hQ99
    subst l99 y99 z99
    obtain ⟨u100, u101, u102, u103, u104, u105, rfl, Nq99, Kc99, f99_0, f99_1, f99_2, f99_3, f99_4, f99_5, f99_6, f99_7, f99_8, f99_9, f99_10, f99_11, f99_12⟩ := hQ99
    have N99 := Fr.app N0 Nq99
    have ne_b98_u100 : b98 ≠ u100 := Nat.ne_of_lt (Nat.lt_of_lt_of_le A98.lt f99_7)
    have ne_b98_u101 : b98 ≠ u101 := Nat.ne_of_lt (Nat.lt_of_lt_of_le A98.lt f99_8)
    have ne_b98_u102 : b98 ≠ u102 := Nat.ne_of_lt (Nat.lt_of_lt_of_le A98.lt f99_9)
    have g_u100 : n0 ≤ u100 := Nat.le_trans (Nat.le_of_eq O98.1.symm) (Nat.le_trans O98.2.1 f99_7)
    have g_u101 : n0 ≤ u101 := Nat.le_trans (Nat.le_of_eq O98.1.symm) (Nat.le_trans O98.2.1 f99_8)
    have g_u102 : n0 ≤ u102 := Nat.le_trans (Nat.le_of_eq O98.1.symm) (Nat.le_trans O98.2.1 f99_9)
    have O99 := O98.keep Kc99 (allS g_b98 all0)
    have s106 : Steps p.tables e below (s₁.setTop (entryFrame m #[(.int p0), (.long p1), (.long p2), (.long p3), (.long p4), (.long p5)] maxLocals)) (T99.setTop (mkF m 35 #[.val (.int p0), .val (.long p1), .second, .val (.long p2), .second, .val (.long p3), .second, .val (.long p4), .second, .val (.long p5), .second, .val (.int (3 : Int32)), .val (.ref b98), .val (.long (0 : Int64)), .second, .val (.long (0 : Int64)), .second, .val (.long (0 : Int64)), .second, .unset, .unset] [(.int ((p0 >>> ((5 : Int32) &&& 31)) &&& (1 : Int32)))])) := by
      refine s97.trans ?_
      show Steps p.tables e below (s₁.setTop (mkF m 3 #[.val (.int p0), .val (.long p1), .second, .val (.long p2), .second, .val (.long p3), .second, .val (.long p4), .second, .val (.long p5), .second, .unset, .unset, .unset, .unset, .unset, .unset, .unset, .unset, .unset, .unset] [(.int (3 : Int32))])) _
      refine XS.istore X0.here hx rfl (hb hby at_3) rfl (l' := #[.val (.int p0), .val (.long p1), .second, .val (.long p2), .second, .val (.long p3), .second, .val (.long p4), .second, .val (.long p5), .second, .val (.int (3 : Int32)), .unset, .unset, .unset, .unset, .unset, .unset, .unset, .unset, .unset]) rfl ?_
      show Steps p.tables e below (s₁.setTop (mkF m 5 #[.val (.int p0), .val (.long p1), .second, .val (.long p2), .second, .val (.long p3), .second, .val (.long p4), .second, .val (.long p5), .second, .val (.int (3 : Int32)), .unset, .unset, .unset, .unset, .unset, .unset, .unset, .unset, .unset] [])) _
      refine st98 _ ?_
      show Steps p.tables e below (T98.setTop (mkF m 8 #[.val (.int p0), .val (.long p1), .second, .val (.long p2), .second, .val (.long p3), .second, .val (.long p4), .second, .val (.long p5), .second, .val (.int (3 : Int32)), .unset, .unset, .unset, .unset, .unset, .unset, .unset, .unset, .unset] [(.ref b98)])) _
      refine XS.dup X98.here hx rfl (hb hby at_8) rfl rfl ?_
      show Steps p.tables e below (T98.setTop (mkF m 9 #[.val (.int p0), .val (.long p1), .second, .val (.long p2), .second, .val (.long p3), .second, .val (.long p4), .second, .val (.long p5), .second, .val (.int (3 : Int32)), .unset, .unset, .unset, .unset, .unset, .unset, .unset, .unset, .unset] [(.ref b98), (.ref b98)])) _
      refine XS.iload X98.here hx rfl (hb hby at_9) rfl ?_
      show Steps p.tables e below (T98.setTop (mkF m 11 #[.val (.int p0), .val (.long p1), .second, .val (.long p2), .second, .val (.long p3), .second, .val (.long p4), .second, .val (.long p5), .second, .val (.int (3 : Int32)), .unset, .unset, .unset, .unset, .unset, .unset, .unset, .unset, .unset] [(.int (3 : Int32)), (.ref b98), (.ref b98)])) _
      refine st99.trans ?_
      show Steps p.tables e below (T99.setTop (mkF m 14 #[.val (.int p0), .val (.long p1), .second, .val (.long p2), .second, .val (.long p3), .second, .val (.long p4), .second, .val (.long p5), .second, .val (.int (3 : Int32)), .unset, .unset, .unset, .unset, .unset, .unset, .unset, .unset, .unset] [(.ref b98)])) _
      refine XS.astore X99.here hx rfl (hb hby at_14) rfl rfl (l' := #[.val (.int p0), .val (.long p1), .second, .val (.long p2), .second, .val (.long p3), .second, .val (.long p4), .second, .val (.long p5), .second, .val (.int (3 : Int32)), .val (.ref b98), .unset, .unset, .unset, .unset, .unset, .unset, .unset, .unset]) rfl ?_
      show Steps p.tables e below (T99.setTop (mkF m 16 #[.val (.int p0), .val (.long p1), .second, .val (.long p2), .second, .val (.long p3), .second, .val (.long p4), .second, .val (.long p5), .second, .val (.int (3 : Int32)), .val (.ref b98), .unset, .unset, .unset, .unset, .unset, .unset, .unset, .unset] [])) _
      refine XS.lconst X99.here hx rfl (hb hby at_16) ?_
      show Steps p.tables e below (T99.setTop (mkF m 17 #[.val (.int p0), .val (.long p1), .second, .val (.long p2), .second, .val (.long p3), .second, .val (.long p4), .second, .val (.long p5), .second, .val (.int (3 : Int32)), .val (.ref b98), .unset, .unset, .unset, .unset, .unset, .unset, .unset, .unset] [(.long (0 : Int64))])) _
      refine XS.lstore X99.here hx rfl (hb hby at_17) rfl (l' := #[.val (.int p0), .val (.long p1), .second, .val (.long p2), .second, .val (.long p3), .second, .val (.long p4), .second, .val (.long p5), .second, .val (.int (3 : Int32)), .val (.ref b98), .val (.long (0 : Int64)), .second, .unset, .unset, .unset, .unset, .unset, .unset]) rfl ?_
      show Steps p.tables e below (T99.setTop (mkF m 19 #[.val (.int p0), .val (.long p1), .second, .val (.long p2), .second, .val (.long p3), .second, .val (.long p4), .second, .val (.long p5), .second, .val (.int (3 : Int32)), .val (.ref b98), .val (.long (0 : Int64)), .second, .unset, .unset, .unset, .unset, .unset, .unset] [])) _
      refine XS.lconst X99.here hx rfl (hb hby at_19) ?_
      show Steps p.tables e below (T99.setTop (mkF m 20 #[.val (.int p0), .val (.long p1), .second, .val (.long p2), .second, .val (.long p3), .second, .val (.long p4), .second, .val (.long p5), .second, .val (.int (3 : Int32)), .val (.ref b98), .val (.long (0 : Int64)), .second, .unset, .unset, .unset, .unset, .unset, .unset] [(.long (0 : Int64))])) _
      refine XS.lstore X99.here hx rfl (hb hby at_20) rfl (l' := #[.val (.int p0), .val (.long p1), .second, .val (.long p2), .second, .val (.long p3), .second, .val (.long p4), .second, .val (.long p5), .second, .val (.int (3 : Int32)), .val (.ref b98), .val (.long (0 : Int64)), .second, .val (.long (0 : Int64)), .second, .unset, .unset, .unset, .unset]) rfl ?_
      show Steps p.tables e below (T99.setTop (mkF m 22 #[.val (.int p0), .val (.long p1), .second, .val (.long p2), .second, .val (.long p3), .second, .val (.long p4), .second, .val (.long p5), .second, .val (.int (3 : Int32)), .val (.ref b98), .val (.long (0 : Int64)), .second, .val (.long (0 : Int64)), .second, .unset, .unset, .unset, .unset] [])) _
      refine XS.lconst X99.here hx rfl (hb hby at_22) ?_
      show Steps p.tables e below (T99.setTop (mkF m 23 #[.val (.int p0), .val (.long p1), .second, .val (.long p2), .second, .val (.long p3), .second, .val (.long p4), .second, .val (.long p5), .second, .val (.int (3 : Int32)), .val (.ref b98), .val (.long (0 : Int64)), .second, .val (.long (0 : Int64)), .second, .unset, .unset, .unset, .unset] [(.long (0 : Int64))])) _
      refine XS.lstore X99.here hx rfl (hb hby at_23) rfl (l' := #[.val (.int p0), .val (.long p1), .second, .val (.long p2), .second, .val (.long p3), .second, .val (.long p4), .second, .val (.long p5), .second, .val (.int (3 : Int32)), .val (.ref b98), .val (.long (0 : Int64)), .second, .val (.long (0 : Int64)), .second, .val (.long (0 : Int64)), .second, .unset, .unset]) rfl ?_
      show Steps p.tables e below (T99.setTop (mkF m 25 #[.val (.int p0), .val (.long p1), .second, .val (.long p2), .second, .val (.long p3), .second, .val (.long p4), .second, .val (.long p5), .second, .val (.int (3 : Int32)), .val (.ref b98), .val (.long (0 : Int64)), .second, .val (.long (0 : Int64)), .second, .val (.long (0 : Int64)), .second, .unset, .unset] [])) _
      refine XS.iload X99.here hx rfl (hb hby at_25) rfl ?_
      show Steps p.tables e below (T99.setTop (mkF m 27 #[.val (.int p0), .val (.long p1), .second, .val (.long p2), .second, .val (.long p3), .second, .val (.long p4), .second, .val (.long p5), .second, .val (.int (3 : Int32)), .val (.ref b98), .val (.long (0 : Int64)), .second, .val (.long (0 : Int64)), .second, .val (.long (0 : Int64)), .second, .unset, .unset] [(.int (3 : Int32))])) _
      refine XS.ifNo X99.here hx rfl (hb hby at_27) rfl ((if0 _ _).trans (tlt (by decide)).2.2.2) ?_
      show Steps p.tables e below (T99.setTop (mkF m 30 #[.val (.int p0), .val (.long p1), .second, .val (.long p2), .second, .val (.long p3), .second, .val (.long p4), .second, .val (.long p5), .second, .val (.int (3 : Int32)), .val (.ref b98), .val (.long (0 : Int64)), .second, .val (.long (0 : Int64)), .second, .val (.long (0 : Int64)), .second, .unset, .unset] [])) _
      refine XS.iloadN X99.here hx rfl (hb hby at_30) rfl ?_
      show Steps p.tables e below (T99.setTop (mkF m 31 #[.val (.int p0), .val (.long p1), .second, .val (.long p2), .second, .val (.long p3), .second, .val (.long p4), .second, .val (.long p5), .second, .val (.int (3 : Int32)), .val (.ref b98), .val (.long (0 : Int64)), .second, .val (.long (0 : Int64)), .second, .val (.long (0 : Int64)), .second, .unset, .unset] [(.int p0)])) _
      refine XS.iconst X99.here hx rfl (hb hby at_31) ?_
      show Steps p.tables e below (T99.setTop (mkF m 32 #[.val (.int p0), .val (.long p1), .second, .val (.long p2), .second, .val (.long p3), .second, .val (.long p4), .second, .val (.long p5), .second, .val (.int (3 : Int32)), .val (.ref b98), .val (.long (0 : Int64)), .second, .val (.long (0 : Int64)), .second, .val (.long (0 : Int64)), .second, .unset, .unset] [(.int (5 : Int32)), (.int p0)])) _
      refine XS.ishr X99.here hx rfl (hb hby at_32) rfl ?_
      show Steps p.tables e below (T99.setTop (mkF m 33 #[.val (.int p0), .val (.long p1), .second, .val (.long p2), .second, .val (.long p3), .second, .val (.long p4), .second, .val (.long p5), .second, .val (.int (3 : Int32)), .val (.ref b98), .val (.long (0 : Int64)), .second, .val (.long (0 : Int64)), .second, .val (.long (0 : Int64)), .second, .unset, .unset] [(.int (p0 >>> ((5 : Int32) &&& 31)))])) _
      refine XS.iconst X99.here hx rfl (hb hby at_33) ?_
      show Steps p.tables e below (T99.setTop (mkF m 34 #[.val (.int p0), .val (.long p1), .second, .val (.long p2), .second, .val (.long p3), .second, .val (.long p4), .second, .val (.long p5), .second, .val (.int (3 : Int32)), .val (.ref b98), .val (.long (0 : Int64)), .second, .val (.long (0 : Int64)), .second, .val (.long (0 : Int64)), .second, .unset, .unset] [(.int (1 : Int32)), (.int (p0 >>> ((5 : Int32) &&& 31)))])) _
      refine XS.iand X99.here hx rfl (hb hby at_34) rfl ?_
      exact Steps.refl _
    obtain ⟨T111, h111, L111, X111, e111, O111, N111, f111_0, f111_1, f111_2, f111_3, f111_4, f111_5, f111_6, s111⟩ : ∃ (T : State) (h : Heap) (L : List Loc), (Stand p l e room_1 s m #[(.int p0), (.long p1), (.long p2), (.long p3), (.long p4), (.long p5)] below meth c T L 5 14) ∧ (T.heap = h) ∧ (Old Z n0 h) ∧ (Fr n0 L) ∧ (Exa Z h b98 "com/example/hot_gate/hotgate/bench/Replies") ∧ (Fld Z h b98 "com/example/hot_gate/hotgate/bench/Replies" "sentAt" "[J" (.ref u100)) ∧ (Fld Z h b98 "com/example/hot_gate/hotgate/bench/Replies" "answeredAt" "[J" (.ref u101)) ∧ (Fld Z h b98 "com/example/hot_gate/hotgate/bench/Replies" "outcomes" "[Lcom/example/hot_gate/hotgate/bench/Outcome;" (.ref u102)) ∧ (Arv Z h u100 u103 .long (3 : Int32) [(.long (if ((p0 >>> ((5 : Int32) &&& 31)) &&& (1 : Int32)) = (0 : Int32) then (0 : Int64) else p4)), (.long (0 : Int64)), (.long (0 : Int64))] (.long (0 : Int64))) ∧ (Arv Z h u101 u104 .long (3 : Int32) [(.long (if ((p0 >>> ((5 : Int32) &&& 31)) &&& (1 : Int32)) = (0 : Int32) then (0 : Int64) else p5)), (.long (0 : Int64)), (.long (0 : Int64))] (.long (0 : Int64))) ∧ (Arv Z h u102 u105 (.object "com/example/hot_gate/hotgate/bench/Outcome") (3 : Int32) [.null, .null, .null] .null) ∧ (Steps p.tables e below (s₁.setTop (entryFrame m #[(.int p0), (.long p1), (.long p2), (.long p3), (.long p4), (.long p5)] maxLocals)) (T.setTop (mkF m 54 #[.val (.int p0), .val (.long p1), .second, .val (.long p2), .second, .val (.long p3), .second, .val (.long p4), .second, .val (.long p5), .second, .val (.int (3 : Int32)), .val (.ref b98), .val (.long (if ((p0 >>> ((5 : Int32) &&& 31)) &&& (1 : Int32)) = (0 : Int32) then (0 : Int64) else p4)), .second, .val (.long (0 : Int64)), .second, .val (.long (0 : Int64)), .second, .unset, .unset] []))) := by
      by_cases hc107 : ((p0 >>> ((5 : Int32) &&& 31)) &&& (1 : Int32)) = (0 : Int32)
      · have s108 : Steps p.tables e below (s₁.setTop (entryFrame m #[(.int p0), (.long p1), (.long p2), (.long p3), (.long p4), (.long p5)] maxLocals)) (T99.setTop (mkF m 54 #[.val (.int p0), .val (.long p1), .second, .val (.long p2), .second, .val (.long p3), .second, .val (.long p4), .second, .val (.long p5), .second, .val (.int (3 : Int32)), .val (.ref b98), .val (.long (0 : Int64)), .second, .val (.long (0 : Int64)), .second, .val (.long (0 : Int64)), .second, .unset, .unset] [])) := by
          refine s106.trans ?_
          show Steps p.tables e below (T99.setTop (mkF m 35 #[.val (.int p0), .val (.long p1), .second, .val (.long p2), .second, .val (.long p3), .second, .val (.long p4), .second, .val (.long p5), .second, .val (.int (3 : Int32)), .val (.ref b98), .val (.long (0 : Int64)), .second, .val (.long (0 : Int64)), .second, .val (.long (0 : Int64)), .second, .unset, .unset] [(.int ((p0 >>> ((5 : Int32) &&& 31)) &&& (1 : Int32)))])) _
          refine XS.ifYes X99.here hx rfl (pc0 := 35) (pc' := 54) rfl (hb hby at_35) rfl ((if0 _ _).trans (teq hc107).1) (by decide) (by decide) ?_
          exact Steps.refl _
        simp only [if_pos hc107]
        exact ⟨T99, T99.heap, _, X99, (rfl : T99.heap = T99.heap), O99, N99, f99_0, f99_1, f99_2, f99_3, f99_4, f99_5, f99_6, s108⟩
      · obtain ⟨cq109, kq109, q109a, q109b, q109c⟩ := isOf hZ (rfl : T99.heap = T99.heap) f99_0
        obtain ⟨_, _, ⟨T109, L109, k109, n109⟩, -, X109, ⟨Lc109, hQ109, l109, y109, z109⟩, st109⟩ := X99.virtualBack hx (y := (⟨"com/example/hot_gate/hotgate/bench/Replies", "record", "(IJJLcom/example/hot_gate/hotgate/bench/Outcome;Ljava/lang/String;)V"⟩ : MethodName)) (z := (⟨"com/example/hot_gate/hotgate/bench/Replies", "record", "(IJJLcom/example/hot_gate/hotgate/bench/Outcome;Ljava/lang/String;)V"⟩ : MethodName)) hown (mvT hZ (hw _ (List.mem_of_getElem? (i := 34) rfl))) (mvT hZ (hw _ (List.mem_of_getElem? (i := 35) rfl))) (notFace_of_selects (args := #[]) (mvT hZ (hw _ (List.mem_of_getElem? (i := 37) rfl)))) (mvT hZ (hw _ (List.mem_of_getElem? (i := 37) rfl))) (mvT hZ (hw _ (List.mem_of_getElem? (i := 36) rfl))) (by decide) (backOf (W := 0) (rmr3_0 l Z a0 hw [] b98 p4 p5 u100 u101 u102 u103 u104 u105 (0 : Int64) (0 : Int64) (0 : Int64) (0 : Int64) (0 : Int64) (0 : Int64) T99.heap n0 O99 f99_1 f99_2 f99_3 f99_4 f99_5 f99_6 g_u100 g_u101 g_u102 f99_10 f99_11 f99_12 ne_b98_u100 ne_b98_u101 ne_b98_u102) hZ (hw _ (List.mem_of_getElem? (i := 38) rfl)) (hw _ (List.mem_of_getElem? (i := 2) rfl)) (by decide) (by decide)) q109a q109c (g := (mkF m 47 #[.val (.int p0), .val (.long p1), .second, .val (.long p2), .second, .val (.long p3), .second, .val (.long p4), .second, .val (.long p5), .second, .val (.int (3 : Int32)), .val (.ref b98), .val (.long (0 : Int64)), .second, .val (.long (0 : Int64)), .second, .val (.long (0 : Int64)), .second, .unset, .unset] [.null, .null, (.long p5), (.long p4), (.int (0 : Int32)), (.ref b98)])) rfl (by rw [hml]; rfl) (Steps.refl _) (argsL := [(.int (0 : Int32)), (.long p4), (.long p5), .null, .null]) (rest := []) (lenOf pd_rm0_2 rfl) rfl (by show 2 * 0 + _ ≤ _; exact Nat.le_of_eq rfl) (hb hby at_47) (fun _ _ => ⟨rfl, (rfl : T99.heap = T99.heap), (by decide : 5 + 0 ≤ _), (by decide : 14 + 0 ≤ _)⟩)
        dsimp only [Pt.U, Pt.locs, Pt.cells, Pt.slots] at X109 l109 y109 z109 st109 hQ109
        subst l109 y109 z109
        obtain ⟨rfl, Nq109, Kc109, f109_0, f109_1, f109_2⟩ := hQ109
        have N109 := Fr.app N99 Nq109
        have O109 := O99.keep Kc109 (allS g_u100 (allS g_u101 (allS g_u102 all0)))
        have s110 : Steps p.tables e below (s₁.setTop (entryFrame m #[(.int p0), (.long p1), (.long p2), (.long p3), (.long p4), (.long p5)] maxLocals)) (T109.setTop (mkF m 54 #[.val (.int p0), .val (.long p1), .second, .val (.long p2), .second, .val (.long p3), .second, .val (.long p4), .second, .val (.long p5), .second, .val (.int (3 : Int32)), .val (.ref b98), .val (.long p4), .second, .val (.long (0 : Int64)), .second, .val (.long (0 : Int64)), .second, .unset, .unset] [])) := by
          refine s106.trans ?_
          show Steps p.tables e below (T99.setTop (mkF m 35 #[.val (.int p0), .val (.long p1), .second, .val (.long p2), .second, .val (.long p3), .second, .val (.long p4), .second, .val (.long p5), .second, .val (.int (3 : Int32)), .val (.ref b98), .val (.long (0 : Int64)), .second, .val (.long (0 : Int64)), .second, .val (.long (0 : Int64)), .second, .unset, .unset] [(.int ((p0 >>> ((5 : Int32) &&& 31)) &&& (1 : Int32)))])) _
          refine XS.ifNo X99.here hx rfl (hb hby at_35) rfl ((if0 _ _).trans (feq hc107).1) ?_
          show Steps p.tables e below (T99.setTop (mkF m 38 #[.val (.int p0), .val (.long p1), .second, .val (.long p2), .second, .val (.long p3), .second, .val (.long p4), .second, .val (.long p5), .second, .val (.int (3 : Int32)), .val (.ref b98), .val (.long (0 : Int64)), .second, .val (.long (0 : Int64)), .second, .val (.long (0 : Int64)), .second, .unset, .unset] [])) _
          refine XS.aload X99.here hx rfl (hb hby at_38) rfl rfl ?_
          show Steps p.tables e below (T99.setTop (mkF m 40 #[.val (.int p0), .val (.long p1), .second, .val (.long p2), .second, .val (.long p3), .second, .val (.long p4), .second, .val (.long p5), .second, .val (.int (3 : Int32)), .val (.ref b98), .val (.long (0 : Int64)), .second, .val (.long (0 : Int64)), .second, .val (.long (0 : Int64)), .second, .unset, .unset] [(.ref b98)])) _
          refine XS.iconst X99.here hx rfl (hb hby at_40) ?_
          show Steps p.tables e below (T99.setTop (mkF m 41 #[.val (.int p0), .val (.long p1), .second, .val (.long p2), .second, .val (.long p3), .second, .val (.long p4), .second, .val (.long p5), .second, .val (.int (3 : Int32)), .val (.ref b98), .val (.long (0 : Int64)), .second, .val (.long (0 : Int64)), .second, .val (.long (0 : Int64)), .second, .unset, .unset] [(.int (0 : Int32)), (.ref b98)])) _
          refine XS.lload X99.here hx rfl (hb hby at_41) rfl ?_
          show Steps p.tables e below (T99.setTop (mkF m 43 #[.val (.int p0), .val (.long p1), .second, .val (.long p2), .second, .val (.long p3), .second, .val (.long p4), .second, .val (.long p5), .second, .val (.int (3 : Int32)), .val (.ref b98), .val (.long (0 : Int64)), .second, .val (.long (0 : Int64)), .second, .val (.long (0 : Int64)), .second, .unset, .unset] [(.long p4), (.int (0 : Int32)), (.ref b98)])) _
          refine XS.lload X99.here hx rfl (hb hby at_43) rfl ?_
          show Steps p.tables e below (T99.setTop (mkF m 45 #[.val (.int p0), .val (.long p1), .second, .val (.long p2), .second, .val (.long p3), .second, .val (.long p4), .second, .val (.long p5), .second, .val (.int (3 : Int32)), .val (.ref b98), .val (.long (0 : Int64)), .second, .val (.long (0 : Int64)), .second, .val (.long (0 : Int64)), .second, .unset, .unset] [(.long p5), (.long p4), (.int (0 : Int32)), (.ref b98)])) _
          refine XS.aconstNull X99.here hx rfl (hb hby at_45) ?_
          show Steps p.tables e below (T99.setTop (mkF m 46 #[.val (.int p0), .val (.long p1), .second, .val (.long p2), .second, .val (.long p3), .second, .val (.long p4), .second, .val (.long p5), .second, .val (.int (3 : Int32)), .val (.ref b98), .val (.long (0 : Int64)), .second, .val (.long (0 : Int64)), .second, .val (.long (0 : Int64)), .second, .unset, .unset] [.null, (.long p5), (.long p4), (.int (0 : Int32)), (.ref b98)])) _
          refine XS.aconstNull X99.here hx rfl (hb hby at_46) ?_
          show Steps p.tables e below (T99.setTop (mkF m 47 #[.val (.int p0), .val (.long p1), .second, .val (.long p2), .second, .val (.long p3), .second, .val (.long p4), .second, .val (.long p5), .second, .val (.int (3 : Int32)), .val (.ref b98), .val (.long (0 : Int64)), .second, .val (.long (0 : Int64)), .second, .val (.long (0 : Int64)), .second, .unset, .unset] [.null, .null, (.long p5), (.long p4), (.int (0 : Int32)), (.ref b98)])) _
          refine st109.trans ?_
          show Steps p.tables e below (T109.setTop (mkF m 50 #[.val (.int p0), .val (.long p1), .second, .val (.long p2), .second, .val (.long p3), .second, .val (.long p4), .second, .val (.long p5), .second, .val (.int (3 : Int32)), .val (.ref b98), .val (.long (0 : Int64)), .second, .val (.long (0 : Int64)), .second, .val (.long (0 : Int64)), .second, .unset, .unset] [])) _
          refine XS.lload X109.here hx rfl (hb hby at_50) rfl ?_
          show Steps p.tables e below (T109.setTop (mkF m 52 #[.val (.int p0), .val (.long p1), .second, .val (.long p2), .second, .val (.long p3), .second, .val (.long p4), .second, .val (.long p5), .second, .val (.int (3 : Int32)), .val (.ref b98), .val (.long (0 : Int64)), .second, .val (.long (0 : Int64)), .second, .val (.long (0 : Int64)), .second, .unset, .unset] [(.long p4)])) _
          refine XS.lstore X109.here hx rfl (hb hby at_52) rfl (l' := #[.val (.int p0), .val (.long p1), .second, .val (.long p2), .second, .val (.long p3), .second, .val (.long p4), .second, .val (.long p5), .second, .val (.int (3 : Int32)), .val (.ref b98), .val (.long p4), .second, .val (.long (0 : Int64)), .second, .val (.long (0 : Int64)), .second, .unset, .unset]) rfl ?_
          exact Steps.refl _
        have c112 : Exa Z T109.heap b98 "com/example/hot_gate/hotgate/bench/Replies" := (f99_0.keep Kc109)
        have c113 : Fld Z T109.heap b98 "com/example/hot_gate/hotgate/bench/Replies" "sentAt" "[J" (.ref u100) := (f99_1.keep Kc109 (ninS ne_b98_u100 (ninS ne_b98_u101 (ninS ne_b98_u102 nin0))))
        have c114 : Fld Z T109.heap b98 "com/example/hot_gate/hotgate/bench/Replies" "answeredAt" "[J" (.ref u101) := (f99_2.keep Kc109 (ninS ne_b98_u100 (ninS ne_b98_u101 (ninS ne_b98_u102 nin0))))
        have c115 : Fld Z T109.heap b98 "com/example/hot_gate/hotgate/bench/Replies" "outcomes" "[Lcom/example/hot_gate/hotgate/bench/Outcome;" (.ref u102) := (f99_3.keep Kc109 (ninS ne_b98_u100 (ninS ne_b98_u101 (ninS ne_b98_u102 nin0))))
        simp only [if_neg hc107]
        exact ⟨T109, T109.heap, _, X109, (rfl : T109.heap = T109.heap), O109, N109, c112, c113, c114, c115, f109_0, f109_1, f109_2, s110⟩
    obtain ⟨z116, hz116⟩ : ∃ z, z = (if ((p0 >>> ((5 : Int32) &&& 31)) &&& (1 : Int32)) = (0 : Int32) then (0 : Int64) else p4) := ⟨_, rfl⟩
    rw [← hz116] at s111 f111_4
    obtain ⟨z117, hz117⟩ : ∃ z, z = (if ((p0 >>> ((5 : Int32) &&& 31)) &&& (1 : Int32)) = (0 : Int32) then (0 : Int64) else p5) := ⟨_, rfl⟩
    rw [← hz117] at f111_5
    have s118 : Steps p.tables e below (s₁.setTop (entryFrame m #[(.int p0), (.long p1), (.long p2), (.long p3), (.long p4), (.long p5)] maxLocals)) (T111.setTop (mkF m 64 #[.val (.int p0), .val (.long p1), .second, .val (.long p2), .second, .val (.long p3), .second, .val (.long p4), .second, .val (.long p5), .second, .val (.int (3 : Int32)), .val (.ref b98), .val (.long z116), .second, .val (.long (0 : Int64)), .second, .val (.long (0 : Int64)), .second, .unset, .unset] [(.int ((p0 >>> ((2 : Int32) &&& 31)) &&& (1 : Int32)))])) := by
      refine s111.trans ?_
      show Steps p.tables e below (T111.setTop (mkF m 54 #[.val (.int p0), .val (.long p1), .second, .val (.long p2), .second, .val (.long p3), .second, .val (.long p4), .second, .val (.long p5), .second, .val (.int (3 : Int32)), .val (.ref b98), .val (.long z116), .second, .val (.long (0 : Int64)), .second, .val (.long (0 : Int64)), .second, .unset, .unset] [])) _
      refine XS.iload X111.here hx rfl (hb hby at_54) rfl ?_
      show Steps p.tables e below (T111.setTop (mkF m 56 #[.val (.int p0), .val (.long p1), .second, .val (.long p2), .second, .val (.long p3), .second, .val (.long p4), .second, .val (.long p5), .second, .val (.int (3 : Int32)), .val (.ref b98), .val (.long z116), .second, .val (.long (0 : Int64)), .second, .val (.long (0 : Int64)), .second, .unset, .unset] [(.int (3 : Int32))])) _
      refine XS.ifNo X111.here hx rfl (hb hby at_56) rfl ((if0 _ _).trans (tlt (by decide)).2.2.2) ?_
      show Steps p.tables e below (T111.setTop (mkF m 59 #[.val (.int p0), .val (.long p1), .second, .val (.long p2), .second, .val (.long p3), .second, .val (.long p4), .second, .val (.long p5), .second, .val (.int (3 : Int32)), .val (.ref b98), .val (.long z116), .second, .val (.long (0 : Int64)), .second, .val (.long (0 : Int64)), .second, .unset, .unset] [])) _
      refine XS.iloadN X111.here hx rfl (hb hby at_59) rfl ?_
      show Steps p.tables e below (T111.setTop (mkF m 60 #[.val (.int p0), .val (.long p1), .second, .val (.long p2), .second, .val (.long p3), .second, .val (.long p4), .second, .val (.long p5), .second, .val (.int (3 : Int32)), .val (.ref b98), .val (.long z116), .second, .val (.long (0 : Int64)), .second, .val (.long (0 : Int64)), .second, .unset, .unset] [(.int p0)])) _
      refine XS.iconst X111.here hx rfl (hb hby at_60) ?_
      show Steps p.tables e below (T111.setTop (mkF m 61 #[.val (.int p0), .val (.long p1), .second, .val (.long p2), .second, .val (.long p3), .second, .val (.long p4), .second, .val (.long p5), .second, .val (.int (3 : Int32)), .val (.ref b98), .val (.long z116), .second, .val (.long (0 : Int64)), .second, .val (.long (0 : Int64)), .second, .unset, .unset] [(.int (2 : Int32)), (.int p0)])) _
      refine XS.ishr X111.here hx rfl (hb hby at_61) rfl ?_
      show Steps p.tables e below (T111.setTop (mkF m 62 #[.val (.int p0), .val (.long p1), .second, .val (.long p2), .second, .val (.long p3), .second, .val (.long p4), .second, .val (.long p5), .second, .val (.int (3 : Int32)), .val (.ref b98), .val (.long z116), .second, .val (.long (0 : Int64)), .second, .val (.long (0 : Int64)), .second, .unset, .unset] [(.int (p0 >>> ((2 : Int32) &&& 31)))])) _
      refine XS.iconst X111.here hx rfl (hb hby at_62) ?_
      show Steps p.tables e below (T111.setTop (mkF m 63 #[.val (.int p0), .val (.long p1), .second, .val (.long p2), .second, .val (.long p3), .second, .val (.long p4), .second, .val (.long p5), .second, .val (.int (3 : Int32)), .val (.ref b98), .val (.long z116), .second, .val (.long (0 : Int64)), .second, .val (.long (0 : Int64)), .second, .unset, .unset] [(.int (1 : Int32)), (.int (p0 >>> ((2 : Int32) &&& 31)))])) _
      refine XS.iand X111.here hx rfl (hb hby at_63) rfl ?_
      exact Steps.refl _
    obtain ⟨T123, h123, L123, X123, e123, O123, N123, f123_0, f123_1, f123_2, f123_3, f123_4, f123_5, f123_6, s123⟩ : ∃ (T : State) (h : Heap) (L : List Loc), (Stand p l e room_1 s m #[(.int p0), (.long p1), (.long p2), (.long p3), (.long p4), (.long p5)] below meth c T L 5 14) ∧ (T.heap = h) ∧ (Old Z n0 h) ∧ (Fr n0 L) ∧ (Exa Z h b98 "com/example/hot_gate/hotgate/bench/Replies") ∧ (Fld Z h b98 "com/example/hot_gate/hotgate/bench/Replies" "sentAt" "[J" (.ref u100)) ∧ (Fld Z h b98 "com/example/hot_gate/hotgate/bench/Replies" "answeredAt" "[J" (.ref u101)) ∧ (Fld Z h b98 "com/example/hot_gate/hotgate/bench/Replies" "outcomes" "[Lcom/example/hot_gate/hotgate/bench/Outcome;" (.ref u102)) ∧ (Arv Z h u100 u103 .long (3 : Int32) [(.long (if ((p0 >>> ((2 : Int32) &&& 31)) &&& (1 : Int32)) = (0 : Int32) then z116 else p1)), (.long (0 : Int64)), (.long (0 : Int64))] (.long (0 : Int64))) ∧ (Arv Z h u101 u104 .long (3 : Int32) [(.long (if ((p0 >>> ((2 : Int32) &&& 31)) &&& (1 : Int32)) = (0 : Int32) then z117 else p5)), (.long (0 : Int64)), (.long (0 : Int64))] (.long (0 : Int64))) ∧ (Arv Z h u102 u105 (.object "com/example/hot_gate/hotgate/bench/Outcome") (3 : Int32) [.null, .null, .null] .null) ∧ (Steps p.tables e below (s₁.setTop (entryFrame m #[(.int p0), (.long p1), (.long p2), (.long p3), (.long p4), (.long p5)] maxLocals)) (T.setTop (mkF m 81 #[.val (.int p0), .val (.long p1), .second, .val (.long p2), .second, .val (.long p3), .second, .val (.long p4), .second, .val (.long p5), .second, .val (.int (3 : Int32)), .val (.ref b98), .val (.long (if ((p0 >>> ((2 : Int32) &&& 31)) &&& (1 : Int32)) = (0 : Int32) then z116 else p1)), .second, .val (.long (0 : Int64)), .second, .val (.long (0 : Int64)), .second, .unset, .unset] []))) := by
      by_cases hc119 : ((p0 >>> ((2 : Int32) &&& 31)) &&& (1 : Int32)) = (0 : Int32)
      · have s120 : Steps p.tables e below (s₁.setTop (entryFrame m #[(.int p0), (.long p1), (.long p2), (.long p3), (.long p4), (.long p5)] maxLocals)) (T111.setTop (mkF m 81 #[.val (.int p0), .val (.long p1), .second, .val (.long p2), .second, .val (.long p3), .second, .val (.long p4), .second, .val (.long p5), .second, .val (.int (3 : Int32)), .val (.ref b98), .val (.long z116), .second, .val (.long (0 : Int64)), .second, .val (.long (0 : Int64)), .second, .unset, .unset] [])) := by
          refine s118.trans ?_
          show Steps p.tables e below (T111.setTop (mkF m 64 #[.val (.int p0), .val (.long p1), .second, .val (.long p2), .second, .val (.long p3), .second, .val (.long p4), .second, .val (.long p5), .second, .val (.int (3 : Int32)), .val (.ref b98), .val (.long z116), .second, .val (.long (0 : Int64)), .second, .val (.long (0 : Int64)), .second, .unset, .unset] [(.int ((p0 >>> ((2 : Int32) &&& 31)) &&& (1 : Int32)))])) _
          refine XS.ifYes X111.here hx rfl (pc0 := 64) (pc' := 81) rfl (hb hby at_64) rfl ((if0 _ _).trans (teq hc119).1) (by decide) (by decide) ?_
          exact Steps.refl _
        simp only [if_pos hc119]
        exact ⟨T111, h111, _, X111, e111, O111, N111, f111_0, f111_1, f111_2, f111_3, f111_4, f111_5, f111_6, s120⟩
      · obtain ⟨cq121, kq121, q121a, q121b, q121c⟩ := isOf hZ e111 f111_0
        obtain ⟨_, _, ⟨T121, L121, k121, n121⟩, -, X121, ⟨Lc121, hQ121, l121, y121, z121⟩, st121⟩ := X111.virtualBack hx (y := (⟨"com/example/hot_gate/hotgate/bench/Replies", "record", "(IJJLcom/example/hot_gate/hotgate/bench/Outcome;Ljava/lang/String;)V"⟩ : MethodName)) (z := (⟨"com/example/hot_gate/hotgate/bench/Replies", "record", "(IJJLcom/example/hot_gate/hotgate/bench/Outcome;Ljava/lang/String;)V"⟩ : MethodName)) hown (mvT hZ (hw _ (List.mem_of_getElem? (i := 34) rfl))) (mvT hZ (hw _ (List.mem_of_getElem? (i := 35) rfl))) (notFace_of_selects (args := #[]) (mvT hZ (hw _ (List.mem_of_getElem? (i := 37) rfl)))) (mvT hZ (hw _ (List.mem_of_getElem? (i := 37) rfl))) (mvT hZ (hw _ (List.mem_of_getElem? (i := 36) rfl))) (by decide) (backOf (W := 0) (rmr3_0 l Z a0 hw [] b98 p1 p5 u100 u101 u102 u103 u104 u105 z116 (0 : Int64) (0 : Int64) z117 (0 : Int64) (0 : Int64) h111 n0 O111 f111_1 f111_2 f111_3 f111_4 f111_5 f111_6 g_u100 g_u101 g_u102 f99_10 f99_11 f99_12 ne_b98_u100 ne_b98_u101 ne_b98_u102) hZ (hw _ (List.mem_of_getElem? (i := 38) rfl)) (hw _ (List.mem_of_getElem? (i := 2) rfl)) (by decide) (by decide)) q121a q121c (g := (mkF m 75 #[.val (.int p0), .val (.long p1), .second, .val (.long p2), .second, .val (.long p3), .second, .val (.long p4), .second, .val (.long p5), .second, .val (.int (3 : Int32)), .val (.ref b98), .val (.long z116), .second, .val (.long (0 : Int64)), .second, .val (.long (0 : Int64)), .second, .unset, .unset] [.null, .null, (.long p5), (.long p1), (.int (0 : Int32)), (.ref b98)])) rfl (by rw [hml]; rfl) (Steps.refl _) (argsL := [(.int (0 : Int32)), (.long p1), (.long p5), .null, .null]) (rest := []) (lenOf pd_rm0_2 rfl) rfl (by show 2 * 0 + _ ≤ _; exact Nat.le_of_eq rfl) (hb hby at_75) (fun _ _ => ⟨rfl, e111, (by decide : 5 + 0 ≤ _), (by decide : 14 + 0 ≤ _)⟩)
        dsimp only [Pt.U, Pt.locs, Pt.cells, Pt.slots] at X121 l121 y121 z121 st121 hQ121
        subst l121 y121 z121
        obtain ⟨rfl, Nq121, Kc121, f121_0, f121_1, f121_2⟩ := hQ121
        have N121 := Fr.app N111 Nq121
        have O121 := O111.keep Kc121 (allS g_u100 (allS g_u101 (allS g_u102 all0)))
        have s122 : Steps p.tables e below (s₁.setTop (entryFrame m #[(.int p0), (.long p1), (.long p2), (.long p3), (.long p4), (.long p5)] maxLocals)) (T121.setTop (mkF m 81 #[.val (.int p0), .val (.long p1), .second, .val (.long p2), .second, .val (.long p3), .second, .val (.long p4), .second, .val (.long p5), .second, .val (.int (3 : Int32)), .val (.ref b98), .val (.long p1), .second, .val (.long (0 : Int64)), .second, .val (.long (0 : Int64)), .second, .unset, .unset] [])) := by
          refine s118.trans ?_
          show Steps p.tables e below (T111.setTop (mkF m 64 #[.val (.int p0), .val (.long p1), .second, .val (.long p2), .second, .val (.long p3), .second, .val (.long p4), .second, .val (.long p5), .second, .val (.int (3 : Int32)), .val (.ref b98), .val (.long z116), .second, .val (.long (0 : Int64)), .second, .val (.long (0 : Int64)), .second, .unset, .unset] [(.int ((p0 >>> ((2 : Int32) &&& 31)) &&& (1 : Int32)))])) _
          refine XS.ifNo X111.here hx rfl (hb hby at_64) rfl ((if0 _ _).trans (feq hc119).1) ?_
          show Steps p.tables e below (T111.setTop (mkF m 67 #[.val (.int p0), .val (.long p1), .second, .val (.long p2), .second, .val (.long p3), .second, .val (.long p4), .second, .val (.long p5), .second, .val (.int (3 : Int32)), .val (.ref b98), .val (.long z116), .second, .val (.long (0 : Int64)), .second, .val (.long (0 : Int64)), .second, .unset, .unset] [])) _
          refine XS.aload X111.here hx rfl (hb hby at_67) rfl rfl ?_
          show Steps p.tables e below (T111.setTop (mkF m 69 #[.val (.int p0), .val (.long p1), .second, .val (.long p2), .second, .val (.long p3), .second, .val (.long p4), .second, .val (.long p5), .second, .val (.int (3 : Int32)), .val (.ref b98), .val (.long z116), .second, .val (.long (0 : Int64)), .second, .val (.long (0 : Int64)), .second, .unset, .unset] [(.ref b98)])) _
          refine XS.iconst X111.here hx rfl (hb hby at_69) ?_
          show Steps p.tables e below (T111.setTop (mkF m 70 #[.val (.int p0), .val (.long p1), .second, .val (.long p2), .second, .val (.long p3), .second, .val (.long p4), .second, .val (.long p5), .second, .val (.int (3 : Int32)), .val (.ref b98), .val (.long z116), .second, .val (.long (0 : Int64)), .second, .val (.long (0 : Int64)), .second, .unset, .unset] [(.int (0 : Int32)), (.ref b98)])) _
          refine XS.lloadN X111.here hx rfl (hb hby at_70) rfl ?_
          show Steps p.tables e below (T111.setTop (mkF m 71 #[.val (.int p0), .val (.long p1), .second, .val (.long p2), .second, .val (.long p3), .second, .val (.long p4), .second, .val (.long p5), .second, .val (.int (3 : Int32)), .val (.ref b98), .val (.long z116), .second, .val (.long (0 : Int64)), .second, .val (.long (0 : Int64)), .second, .unset, .unset] [(.long p1), (.int (0 : Int32)), (.ref b98)])) _
          refine XS.lload X111.here hx rfl (hb hby at_71) rfl ?_
          show Steps p.tables e below (T111.setTop (mkF m 73 #[.val (.int p0), .val (.long p1), .second, .val (.long p2), .second, .val (.long p3), .second, .val (.long p4), .second, .val (.long p5), .second, .val (.int (3 : Int32)), .val (.ref b98), .val (.long z116), .second, .val (.long (0 : Int64)), .second, .val (.long (0 : Int64)), .second, .unset, .unset] [(.long p5), (.long p1), (.int (0 : Int32)), (.ref b98)])) _
          refine XS.aconstNull X111.here hx rfl (hb hby at_73) ?_
          show Steps p.tables e below (T111.setTop (mkF m 74 #[.val (.int p0), .val (.long p1), .second, .val (.long p2), .second, .val (.long p3), .second, .val (.long p4), .second, .val (.long p5), .second, .val (.int (3 : Int32)), .val (.ref b98), .val (.long z116), .second, .val (.long (0 : Int64)), .second, .val (.long (0 : Int64)), .second, .unset, .unset] [.null, (.long p5), (.long p1), (.int (0 : Int32)), (.ref b98)])) _
          refine XS.aconstNull X111.here hx rfl (hb hby at_74) ?_
          show Steps p.tables e below (T111.setTop (mkF m 75 #[.val (.int p0), .val (.long p1), .second, .val (.long p2), .second, .val (.long p3), .second, .val (.long p4), .second, .val (.long p5), .second, .val (.int (3 : Int32)), .val (.ref b98), .val (.long z116), .second, .val (.long (0 : Int64)), .second, .val (.long (0 : Int64)), .second, .unset, .unset] [.null, .null, (.long p5), (.long p1), (.int (0 : Int32)), (.ref b98)])) _
          refine st121.trans ?_
          show Steps p.tables e below (T121.setTop (mkF m 78 #[.val (.int p0), .val (.long p1), .second, .val (.long p2), .second, .val (.long p3), .second, .val (.long p4), .second, .val (.long p5), .second, .val (.int (3 : Int32)), .val (.ref b98), .val (.long z116), .second, .val (.long (0 : Int64)), .second, .val (.long (0 : Int64)), .second, .unset, .unset] [])) _
          refine XS.lloadN X121.here hx rfl (hb hby at_78) rfl ?_
          show Steps p.tables e below (T121.setTop (mkF m 79 #[.val (.int p0), .val (.long p1), .second, .val (.long p2), .second, .val (.long p3), .second, .val (.long p4), .second, .val (.long p5), .second, .val (.int (3 : Int32)), .val (.ref b98), .val (.long z116), .second, .val (.long (0 : Int64)), .second, .val (.long (0 : Int64)), .second, .unset, .unset] [(.long p1)])) _
          refine XS.lstore X121.here hx rfl (hb hby at_79) rfl (l' := #[.val (.int p0), .val (.long p1), .second, .val (.long p2), .second, .val (.long p3), .second, .val (.long p4), .second, .val (.long p5), .second, .val (.int (3 : Int32)), .val (.ref b98), .val (.long p1), .second, .val (.long (0 : Int64)), .second, .val (.long (0 : Int64)), .second, .unset, .unset]) rfl ?_
          exact Steps.refl _
        have c124 : Exa Z T121.heap b98 "com/example/hot_gate/hotgate/bench/Replies" := (f111_0.keep Kc121)
        have c125 : Fld Z T121.heap b98 "com/example/hot_gate/hotgate/bench/Replies" "sentAt" "[J" (.ref u100) := (f111_1.keep Kc121 (ninS ne_b98_u100 (ninS ne_b98_u101 (ninS ne_b98_u102 nin0))))
        have c126 : Fld Z T121.heap b98 "com/example/hot_gate/hotgate/bench/Replies" "answeredAt" "[J" (.ref u101) := (f111_2.keep Kc121 (ninS ne_b98_u100 (ninS ne_b98_u101 (ninS ne_b98_u102 nin0))))
        have c127 : Fld Z T121.heap b98 "com/example/hot_gate/hotgate/bench/Replies" "outcomes" "[Lcom/example/hot_gate/hotgate/bench/Outcome;" (.ref u102) := (f111_3.keep Kc121 (ninS ne_b98_u100 (ninS ne_b98_u101 (ninS ne_b98_u102 nin0))))
        simp only [if_neg hc119]
        exact ⟨T121, T121.heap, _, X121, (rfl : T121.heap = T121.heap), O121, N121, c124, c125, c126, c127, f121_0, f121_1, f121_2, s122⟩
    obtain ⟨z128, hz128⟩ : ∃ z, z = (if ((p0 >>> ((2 : Int32) &&& 31)) &&& (1 : Int32)) = (0 : Int32) then z116 else p1) := ⟨_, rfl⟩
    rw [← hz128] at s123 f123_4
    obtain ⟨z129, hz129⟩ : ∃ z, z = (if ((p0 >>> ((2 : Int32) &&& 31)) &&& (1 : Int32)) = (0 : Int32) then z117 else p5) := ⟨_, rfl⟩
    rw [← hz129] at f123_5
    have s130 : Steps p.tables e below (s₁.setTop (entryFrame m #[(.int p0), (.long p1), (.long p2), (.long p3), (.long p4), (.long p5)] maxLocals)) (T123.setTop (mkF m 92 #[.val (.int p0), .val (.long p1), .second, .val (.long p2), .second, .val (.long p3), .second, .val (.long p4), .second, .val (.long p5), .second, .val (.int (3 : Int32)), .val (.ref b98), .val (.long z128), .second, .val (.long (0 : Int64)), .second, .val (.long (0 : Int64)), .second, .unset, .unset] [(.int ((p0 >>> ((3 : Int32) &&& 31)) &&& (1 : Int32)))])) := by
      refine s123.trans ?_
      show Steps p.tables e below (T123.setTop (mkF m 81 #[.val (.int p0), .val (.long p1), .second, .val (.long p2), .second, .val (.long p3), .second, .val (.long p4), .second, .val (.long p5), .second, .val (.int (3 : Int32)), .val (.ref b98), .val (.long z128), .second, .val (.long (0 : Int64)), .second, .val (.long (0 : Int64)), .second, .unset, .unset] [])) _
      refine XS.iload X123.here hx rfl (hb hby at_81) rfl ?_
      show Steps p.tables e below (T123.setTop (mkF m 83 #[.val (.int p0), .val (.long p1), .second, .val (.long p2), .second, .val (.long p3), .second, .val (.long p4), .second, .val (.long p5), .second, .val (.int (3 : Int32)), .val (.ref b98), .val (.long z128), .second, .val (.long (0 : Int64)), .second, .val (.long (0 : Int64)), .second, .unset, .unset] [(.int (3 : Int32))])) _
      refine XS.iconst X123.here hx rfl (hb hby at_83) ?_
      show Steps p.tables e below (T123.setTop (mkF m 84 #[.val (.int p0), .val (.long p1), .second, .val (.long p2), .second, .val (.long p3), .second, .val (.long p4), .second, .val (.long p5), .second, .val (.int (3 : Int32)), .val (.ref b98), .val (.long z128), .second, .val (.long (0 : Int64)), .second, .val (.long (0 : Int64)), .second, .unset, .unset] [(.int (1 : Int32)), (.int (3 : Int32))])) _
      refine XS.icmpNo X123.here hx rfl (hb hby at_84) rfl (tlt (by decide)).2.2.2 ?_
      show Steps p.tables e below (T123.setTop (mkF m 87 #[.val (.int p0), .val (.long p1), .second, .val (.long p2), .second, .val (.long p3), .second, .val (.long p4), .second, .val (.long p5), .second, .val (.int (3 : Int32)), .val (.ref b98), .val (.long z128), .second, .val (.long (0 : Int64)), .second, .val (.long (0 : Int64)), .second, .unset, .unset] [])) _
      refine XS.iloadN X123.here hx rfl (hb hby at_87) rfl ?_
      show Steps p.tables e below (T123.setTop (mkF m 88 #[.val (.int p0), .val (.long p1), .second, .val (.long p2), .second, .val (.long p3), .second, .val (.long p4), .second, .val (.long p5), .second, .val (.int (3 : Int32)), .val (.ref b98), .val (.long z128), .second, .val (.long (0 : Int64)), .second, .val (.long (0 : Int64)), .second, .unset, .unset] [(.int p0)])) _
      refine XS.iconst X123.here hx rfl (hb hby at_88) ?_
      show Steps p.tables e below (T123.setTop (mkF m 89 #[.val (.int p0), .val (.long p1), .second, .val (.long p2), .second, .val (.long p3), .second, .val (.long p4), .second, .val (.long p5), .second, .val (.int (3 : Int32)), .val (.ref b98), .val (.long z128), .second, .val (.long (0 : Int64)), .second, .val (.long (0 : Int64)), .second, .unset, .unset] [(.int (3 : Int32)), (.int p0)])) _
      refine XS.ishr X123.here hx rfl (hb hby at_89) rfl ?_
      show Steps p.tables e below (T123.setTop (mkF m 90 #[.val (.int p0), .val (.long p1), .second, .val (.long p2), .second, .val (.long p3), .second, .val (.long p4), .second, .val (.long p5), .second, .val (.int (3 : Int32)), .val (.ref b98), .val (.long z128), .second, .val (.long (0 : Int64)), .second, .val (.long (0 : Int64)), .second, .unset, .unset] [(.int (p0 >>> ((3 : Int32) &&& 31)))])) _
      refine XS.iconst X123.here hx rfl (hb hby at_90) ?_
      show Steps p.tables e below (T123.setTop (mkF m 91 #[.val (.int p0), .val (.long p1), .second, .val (.long p2), .second, .val (.long p3), .second, .val (.long p4), .second, .val (.long p5), .second, .val (.int (3 : Int32)), .val (.ref b98), .val (.long z128), .second, .val (.long (0 : Int64)), .second, .val (.long (0 : Int64)), .second, .unset, .unset] [(.int (1 : Int32)), (.int (p0 >>> ((3 : Int32) &&& 31)))])) _
      refine XS.iand X123.here hx rfl (hb hby at_91) rfl ?_
      exact Steps.refl _
    obtain ⟨T135, h135, L135, X135, e135, O135, N135, f135_0, f135_1, f135_2, f135_3, f135_4, f135_5, f135_6, s135⟩ : ∃ (T : State) (h : Heap) (L : List Loc), (Stand p l e room_1 s m #[(.int p0), (.long p1), (.long p2), (.long p3), (.long p4), (.long p5)] below meth c T L 5 14) ∧ (T.heap = h) ∧ (Old Z n0 h) ∧ (Fr n0 L) ∧ (Exa Z h b98 "com/example/hot_gate/hotgate/bench/Replies") ∧ (Fld Z h b98 "com/example/hot_gate/hotgate/bench/Replies" "sentAt" "[J" (.ref u100)) ∧ (Fld Z h b98 "com/example/hot_gate/hotgate/bench/Replies" "answeredAt" "[J" (.ref u101)) ∧ (Fld Z h b98 "com/example/hot_gate/hotgate/bench/Replies" "outcomes" "[Lcom/example/hot_gate/hotgate/bench/Outcome;" (.ref u102)) ∧ (Arv Z h u100 u103 .long (3 : Int32) [(.long z128), (.long (if ((p0 >>> ((3 : Int32) &&& 31)) &&& (1 : Int32)) = (0 : Int32) then (0 : Int64) else p2)), (.long (0 : Int64))] (.long (0 : Int64))) ∧ (Arv Z h u101 u104 .long (3 : Int32) [(.long z129), (.long (if ((p0 >>> ((3 : Int32) &&& 31)) &&& (1 : Int32)) = (0 : Int32) then (0 : Int64) else p5)), (.long (0 : Int64))] (.long (0 : Int64))) ∧ (Arv Z h u102 u105 (.object "com/example/hot_gate/hotgate/bench/Outcome") (3 : Int32) [.null, .null, .null] .null) ∧ (Steps p.tables e below (s₁.setTop (entryFrame m #[(.int p0), (.long p1), (.long p2), (.long p3), (.long p4), (.long p5)] maxLocals)) (T.setTop (mkF m 109 #[.val (.int p0), .val (.long p1), .second, .val (.long p2), .second, .val (.long p3), .second, .val (.long p4), .second, .val (.long p5), .second, .val (.int (3 : Int32)), .val (.ref b98), .val (.long z128), .second, .val (.long (if ((p0 >>> ((3 : Int32) &&& 31)) &&& (1 : Int32)) = (0 : Int32) then (0 : Int64) else p2)), .second, .val (.long (0 : Int64)), .second, .unset, .unset] []))) := by
      by_cases hc131 : ((p0 >>> ((3 : Int32) &&& 31)) &&& (1 : Int32)) = (0 : Int32)
      · have s132 : Steps p.tables e below (s₁.setTop (entryFrame m #[(.int p0), (.long p1), (.long p2), (.long p3), (.long p4), (.long p5)] maxLocals)) (T123.setTop (mkF m 109 #[.val (.int p0), .val (.long p1), .second, .val (.long p2), .second, .val (.long p3), .second, .val (.long p4), .second, .val (.long p5), .second, .val (.int (3 : Int32)), .val (.ref b98), .val (.long z128), .second, .val (.long (0 : Int64)), .second, .val (.long (0 : Int64)), .second, .unset, .unset] [])) := by
          refine s130.trans ?_
          show Steps p.tables e below (T123.setTop (mkF m 92 #[.val (.int p0), .val (.long p1), .second, .val (.long p2), .second, .val (.long p3), .second, .val (.long p4), .second, .val (.long p5), .second, .val (.int (3 : Int32)), .val (.ref b98), .val (.long z128), .second, .val (.long (0 : Int64)), .second, .val (.long (0 : Int64)), .second, .unset, .unset] [(.int ((p0 >>> ((3 : Int32) &&& 31)) &&& (1 : Int32)))])) _
          refine XS.ifYes X123.here hx rfl (pc0 := 92) (pc' := 109) rfl (hb hby at_92) rfl ((if0 _ _).trans (teq hc131).1) (by decide) (by decide) ?_
          exact Steps.refl _
        simp only [if_pos hc131]
        exact ⟨T123, h123, _, X123, e123, O123, N123, f123_0, f123_1, f123_2, f123_3, f123_4, f123_5, f123_6, s132⟩
      · obtain ⟨cq133, kq133, q133a, q133b, q133c⟩ := isOf hZ e123 f123_0
        obtain ⟨_, _, ⟨T133, L133, k133, n133⟩, -, X133, ⟨Lc133, hQ133, l133, y133, z133⟩, st133⟩ := X123.virtualBack hx (y := (⟨"com/example/hot_gate/hotgate/bench/Replies", "record", "(IJJLcom/example/hot_gate/hotgate/bench/Outcome;Ljava/lang/String;)V"⟩ : MethodName)) (z := (⟨"com/example/hot_gate/hotgate/bench/Replies", "record", "(IJJLcom/example/hot_gate/hotgate/bench/Outcome;Ljava/lang/String;)V"⟩ : MethodName)) hown (mvT hZ (hw _ (List.mem_of_getElem? (i := 34) rfl))) (mvT hZ (hw _ (List.mem_of_getElem? (i := 35) rfl))) (notFace_of_selects (args := #[]) (mvT hZ (hw _ (List.mem_of_getElem? (i := 37) rfl)))) (mvT hZ (hw _ (List.mem_of_getElem? (i := 37) rfl))) (mvT hZ (hw _ (List.mem_of_getElem? (i := 36) rfl))) (by decide) (backOf (W := 0) (rmr3_1 l Z a0 hw [] b98 p2 p5 u100 u101 u102 u103 u104 u105 z128 (0 : Int64) (0 : Int64) z129 (0 : Int64) (0 : Int64) h123 n0 O123 f123_1 f123_2 f123_3 f123_4 f123_5 f123_6 g_u100 g_u101 g_u102 f99_10 f99_11 f99_12 ne_b98_u100 ne_b98_u101 ne_b98_u102) hZ (hw _ (List.mem_of_getElem? (i := 38) rfl)) (hw _ (List.mem_of_getElem? (i := 2) rfl)) (by decide) (by decide)) q133a q133c (g := (mkF m 103 #[.val (.int p0), .val (.long p1), .second, .val (.long p2), .second, .val (.long p3), .second, .val (.long p4), .second, .val (.long p5), .second, .val (.int (3 : Int32)), .val (.ref b98), .val (.long z128), .second, .val (.long (0 : Int64)), .second, .val (.long (0 : Int64)), .second, .unset, .unset] [.null, .null, (.long p5), (.long p2), (.int (1 : Int32)), (.ref b98)])) rfl (by rw [hml]; rfl) (Steps.refl _) (argsL := [(.int (1 : Int32)), (.long p2), (.long p5), .null, .null]) (rest := []) (lenOf pd_rm0_2 rfl) rfl (by show 2 * 0 + _ ≤ _; exact Nat.le_of_eq rfl) (hb hby at_103) (fun _ _ => ⟨rfl, e123, (by decide : 5 + 0 ≤ _), (by decide : 14 + 0 ≤ _)⟩)
        dsimp only [Pt.U, Pt.locs, Pt.cells, Pt.slots] at X133 l133 y133 z133 st133 hQ133
        subst l133 y133 z133
        obtain ⟨rfl, Nq133, Kc133, f133_0, f133_1, f133_2⟩ := hQ133
        have N133 := Fr.app N123 Nq133
        have O133 := O123.keep Kc133 (allS g_u100 (allS g_u101 (allS g_u102 all0)))
        have s134 : Steps p.tables e below (s₁.setTop (entryFrame m #[(.int p0), (.long p1), (.long p2), (.long p3), (.long p4), (.long p5)] maxLocals)) (T133.setTop (mkF m 109 #[.val (.int p0), .val (.long p1), .second, .val (.long p2), .second, .val (.long p3), .second, .val (.long p4), .second, .val (.long p5), .second, .val (.int (3 : Int32)), .val (.ref b98), .val (.long z128), .second, .val (.long p2), .second, .val (.long (0 : Int64)), .second, .unset, .unset] [])) := by
          refine s130.trans ?_
          show Steps p.tables e below (T123.setTop (mkF m 92 #[.val (.int p0), .val (.long p1), .second, .val (.long p2), .second, .val (.long p3), .second, .val (.long p4), .second, .val (.long p5), .second, .val (.int (3 : Int32)), .val (.ref b98), .val (.long z128), .second, .val (.long (0 : Int64)), .second, .val (.long (0 : Int64)), .second, .unset, .unset] [(.int ((p0 >>> ((3 : Int32) &&& 31)) &&& (1 : Int32)))])) _
          refine XS.ifNo X123.here hx rfl (hb hby at_92) rfl ((if0 _ _).trans (feq hc131).1) ?_
          show Steps p.tables e below (T123.setTop (mkF m 95 #[.val (.int p0), .val (.long p1), .second, .val (.long p2), .second, .val (.long p3), .second, .val (.long p4), .second, .val (.long p5), .second, .val (.int (3 : Int32)), .val (.ref b98), .val (.long z128), .second, .val (.long (0 : Int64)), .second, .val (.long (0 : Int64)), .second, .unset, .unset] [])) _
          refine XS.aload X123.here hx rfl (hb hby at_95) rfl rfl ?_
          show Steps p.tables e below (T123.setTop (mkF m 97 #[.val (.int p0), .val (.long p1), .second, .val (.long p2), .second, .val (.long p3), .second, .val (.long p4), .second, .val (.long p5), .second, .val (.int (3 : Int32)), .val (.ref b98), .val (.long z128), .second, .val (.long (0 : Int64)), .second, .val (.long (0 : Int64)), .second, .unset, .unset] [(.ref b98)])) _
          refine XS.iconst X123.here hx rfl (hb hby at_97) ?_
          show Steps p.tables e below (T123.setTop (mkF m 98 #[.val (.int p0), .val (.long p1), .second, .val (.long p2), .second, .val (.long p3), .second, .val (.long p4), .second, .val (.long p5), .second, .val (.int (3 : Int32)), .val (.ref b98), .val (.long z128), .second, .val (.long (0 : Int64)), .second, .val (.long (0 : Int64)), .second, .unset, .unset] [(.int (1 : Int32)), (.ref b98)])) _
          refine XS.lloadN X123.here hx rfl (hb hby at_98) rfl ?_
          show Steps p.tables e below (T123.setTop (mkF m 99 #[.val (.int p0), .val (.long p1), .second, .val (.long p2), .second, .val (.long p3), .second, .val (.long p4), .second, .val (.long p5), .second, .val (.int (3 : Int32)), .val (.ref b98), .val (.long z128), .second, .val (.long (0 : Int64)), .second, .val (.long (0 : Int64)), .second, .unset, .unset] [(.long p2), (.int (1 : Int32)), (.ref b98)])) _
          refine XS.lload X123.here hx rfl (hb hby at_99) rfl ?_
          show Steps p.tables e below (T123.setTop (mkF m 101 #[.val (.int p0), .val (.long p1), .second, .val (.long p2), .second, .val (.long p3), .second, .val (.long p4), .second, .val (.long p5), .second, .val (.int (3 : Int32)), .val (.ref b98), .val (.long z128), .second, .val (.long (0 : Int64)), .second, .val (.long (0 : Int64)), .second, .unset, .unset] [(.long p5), (.long p2), (.int (1 : Int32)), (.ref b98)])) _
          refine XS.aconstNull X123.here hx rfl (hb hby at_101) ?_
          show Steps p.tables e below (T123.setTop (mkF m 102 #[.val (.int p0), .val (.long p1), .second, .val (.long p2), .second, .val (.long p3), .second, .val (.long p4), .second, .val (.long p5), .second, .val (.int (3 : Int32)), .val (.ref b98), .val (.long z128), .second, .val (.long (0 : Int64)), .second, .val (.long (0 : Int64)), .second, .unset, .unset] [.null, (.long p5), (.long p2), (.int (1 : Int32)), (.ref b98)])) _
          refine XS.aconstNull X123.here hx rfl (hb hby at_102) ?_
          show Steps p.tables e below (T123.setTop (mkF m 103 #[.val (.int p0), .val (.long p1), .second, .val (.long p2), .second, .val (.long p3), .second, .val (.long p4), .second, .val (.long p5), .second, .val (.int (3 : Int32)), .val (.ref b98), .val (.long z128), .second, .val (.long (0 : Int64)), .second, .val (.long (0 : Int64)), .second, .unset, .unset] [.null, .null, (.long p5), (.long p2), (.int (1 : Int32)), (.ref b98)])) _
          refine st133.trans ?_
          show Steps p.tables e below (T133.setTop (mkF m 106 #[.val (.int p0), .val (.long p1), .second, .val (.long p2), .second, .val (.long p3), .second, .val (.long p4), .second, .val (.long p5), .second, .val (.int (3 : Int32)), .val (.ref b98), .val (.long z128), .second, .val (.long (0 : Int64)), .second, .val (.long (0 : Int64)), .second, .unset, .unset] [])) _
          refine XS.lloadN X133.here hx rfl (hb hby at_106) rfl ?_
          show Steps p.tables e below (T133.setTop (mkF m 107 #[.val (.int p0), .val (.long p1), .second, .val (.long p2), .second, .val (.long p3), .second, .val (.long p4), .second, .val (.long p5), .second, .val (.int (3 : Int32)), .val (.ref b98), .val (.long z128), .second, .val (.long (0 : Int64)), .second, .val (.long (0 : Int64)), .second, .unset, .unset] [(.long p2)])) _
          refine XS.lstore X133.here hx rfl (hb hby at_107) rfl (l' := #[.val (.int p0), .val (.long p1), .second, .val (.long p2), .second, .val (.long p3), .second, .val (.long p4), .second, .val (.long p5), .second, .val (.int (3 : Int32)), .val (.ref b98), .val (.long z128), .second, .val (.long p2), .second, .val (.long (0 : Int64)), .second, .unset, .unset]) rfl ?_
          exact Steps.refl _
        have c136 : Exa Z T133.heap b98 "com/example/hot_gate/hotgate/bench/Replies" := (f123_0.keep Kc133)
        have c137 : Fld Z T133.heap b98 "com/example/hot_gate/hotgate/bench/Replies" "sentAt" "[J" (.ref u100) := (f123_1.keep Kc133 (ninS ne_b98_u100 (ninS ne_b98_u101 (ninS ne_b98_u102 nin0))))
        have c138 : Fld Z T133.heap b98 "com/example/hot_gate/hotgate/bench/Replies" "answeredAt" "[J" (.ref u101) := (f123_2.keep Kc133 (ninS ne_b98_u100 (ninS ne_b98_u101 (ninS ne_b98_u102 nin0))))
        have c139 : Fld Z T133.heap b98 "com/example/hot_gate/hotgate/bench/Replies" "outcomes" "[Lcom/example/hot_gate/hotgate/bench/Outcome;" (.ref u102) := (f123_3.keep Kc133 (ninS ne_b98_u100 (ninS ne_b98_u101 (ninS ne_b98_u102 nin0))))
        simp only [if_neg hc131]
        exact ⟨T133, T133.heap, _, X133, (rfl : T133.heap = T133.heap), O133, N133, c136, c137, c138, c139, f133_0, f133_1, f133_2, s134⟩
    obtain ⟨z140, hz140⟩ : ∃ z, z = (if ((p0 >>> ((3 : Int32) &&& 31)) &&& (1 : Int32)) = (0 : Int32) then (0 : Int64) else p2) := ⟨_, rfl⟩
    rw [← hz140] at s135 f135_4
    obtain ⟨z141, hz141⟩ : ∃ z, z = (if ((p0 >>> ((3 : Int32) &&& 31)) &&& (1 : Int32)) = (0 : Int32) then (0 : Int64) else p5) := ⟨_, rfl⟩
    rw [← hz141] at f135_5
    have s142 : Steps p.tables e below (s₁.setTop (entryFrame m #[(.int p0), (.long p1), (.long p2), (.long p3), (.long p4), (.long p5)] maxLocals)) (T135.setTop (mkF m 120 #[.val (.int p0), .val (.long p1), .second, .val (.long p2), .second, .val (.long p3), .second, .val (.long p4), .second, .val (.long p5), .second, .val (.int (3 : Int32)), .val (.ref b98), .val (.long z128), .second, .val (.long z140), .second, .val (.long (0 : Int64)), .second, .unset, .unset] [(.int ((p0 >>> ((4 : Int32) &&& 31)) &&& (1 : Int32)))])) := by
      refine s135.trans ?_
      show Steps p.tables e below (T135.setTop (mkF m 109 #[.val (.int p0), .val (.long p1), .second, .val (.long p2), .second, .val (.long p3), .second, .val (.long p4), .second, .val (.long p5), .second, .val (.int (3 : Int32)), .val (.ref b98), .val (.long z128), .second, .val (.long z140), .second, .val (.long (0 : Int64)), .second, .unset, .unset] [])) _
      refine XS.iload X135.here hx rfl (hb hby at_109) rfl ?_
      show Steps p.tables e below (T135.setTop (mkF m 111 #[.val (.int p0), .val (.long p1), .second, .val (.long p2), .second, .val (.long p3), .second, .val (.long p4), .second, .val (.long p5), .second, .val (.int (3 : Int32)), .val (.ref b98), .val (.long z128), .second, .val (.long z140), .second, .val (.long (0 : Int64)), .second, .unset, .unset] [(.int (3 : Int32))])) _
      refine XS.iconst X135.here hx rfl (hb hby at_111) ?_
      show Steps p.tables e below (T135.setTop (mkF m 112 #[.val (.int p0), .val (.long p1), .second, .val (.long p2), .second, .val (.long p3), .second, .val (.long p4), .second, .val (.long p5), .second, .val (.int (3 : Int32)), .val (.ref b98), .val (.long z128), .second, .val (.long z140), .second, .val (.long (0 : Int64)), .second, .unset, .unset] [(.int (2 : Int32)), (.int (3 : Int32))])) _
      refine XS.icmpNo X135.here hx rfl (hb hby at_112) rfl (tlt (by decide)).2.2.2 ?_
      show Steps p.tables e below (T135.setTop (mkF m 115 #[.val (.int p0), .val (.long p1), .second, .val (.long p2), .second, .val (.long p3), .second, .val (.long p4), .second, .val (.long p5), .second, .val (.int (3 : Int32)), .val (.ref b98), .val (.long z128), .second, .val (.long z140), .second, .val (.long (0 : Int64)), .second, .unset, .unset] [])) _
      refine XS.iloadN X135.here hx rfl (hb hby at_115) rfl ?_
      show Steps p.tables e below (T135.setTop (mkF m 116 #[.val (.int p0), .val (.long p1), .second, .val (.long p2), .second, .val (.long p3), .second, .val (.long p4), .second, .val (.long p5), .second, .val (.int (3 : Int32)), .val (.ref b98), .val (.long z128), .second, .val (.long z140), .second, .val (.long (0 : Int64)), .second, .unset, .unset] [(.int p0)])) _
      refine XS.iconst X135.here hx rfl (hb hby at_116) ?_
      show Steps p.tables e below (T135.setTop (mkF m 117 #[.val (.int p0), .val (.long p1), .second, .val (.long p2), .second, .val (.long p3), .second, .val (.long p4), .second, .val (.long p5), .second, .val (.int (3 : Int32)), .val (.ref b98), .val (.long z128), .second, .val (.long z140), .second, .val (.long (0 : Int64)), .second, .unset, .unset] [(.int (4 : Int32)), (.int p0)])) _
      refine XS.ishr X135.here hx rfl (hb hby at_117) rfl ?_
      show Steps p.tables e below (T135.setTop (mkF m 118 #[.val (.int p0), .val (.long p1), .second, .val (.long p2), .second, .val (.long p3), .second, .val (.long p4), .second, .val (.long p5), .second, .val (.int (3 : Int32)), .val (.ref b98), .val (.long z128), .second, .val (.long z140), .second, .val (.long (0 : Int64)), .second, .unset, .unset] [(.int (p0 >>> ((4 : Int32) &&& 31)))])) _
      refine XS.iconst X135.here hx rfl (hb hby at_118) ?_
      show Steps p.tables e below (T135.setTop (mkF m 119 #[.val (.int p0), .val (.long p1), .second, .val (.long p2), .second, .val (.long p3), .second, .val (.long p4), .second, .val (.long p5), .second, .val (.int (3 : Int32)), .val (.ref b98), .val (.long z128), .second, .val (.long z140), .second, .val (.long (0 : Int64)), .second, .unset, .unset] [(.int (1 : Int32)), (.int (p0 >>> ((4 : Int32) &&& 31)))])) _
      refine XS.iand X135.here hx rfl (hb hby at_119) rfl ?_
      exact Steps.refl _
    obtain ⟨T147, h147, L147, X147, e147, O147, N147, f147_0, f147_1, f147_2, f147_3, f147_4, f147_5, f147_6, s147⟩ : ∃ (T : State) (h : Heap) (L : List Loc), (Stand p l e room_1 s m #[(.int p0), (.long p1), (.long p2), (.long p3), (.long p4), (.long p5)] below meth c T L 5 14) ∧ (T.heap = h) ∧ (Old Z n0 h) ∧ (Fr n0 L) ∧ (Exa Z h b98 "com/example/hot_gate/hotgate/bench/Replies") ∧ (Fld Z h b98 "com/example/hot_gate/hotgate/bench/Replies" "sentAt" "[J" (.ref u100)) ∧ (Fld Z h b98 "com/example/hot_gate/hotgate/bench/Replies" "answeredAt" "[J" (.ref u101)) ∧ (Fld Z h b98 "com/example/hot_gate/hotgate/bench/Replies" "outcomes" "[Lcom/example/hot_gate/hotgate/bench/Outcome;" (.ref u102)) ∧ (Arv Z h u100 u103 .long (3 : Int32) [(.long z128), (.long z140), (.long (if ((p0 >>> ((4 : Int32) &&& 31)) &&& (1 : Int32)) = (0 : Int32) then (0 : Int64) else p3))] (.long (0 : Int64))) ∧ (Arv Z h u101 u104 .long (3 : Int32) [(.long z129), (.long z141), (.long (if ((p0 >>> ((4 : Int32) &&& 31)) &&& (1 : Int32)) = (0 : Int32) then (0 : Int64) else p5))] (.long (0 : Int64))) ∧ (Arv Z h u102 u105 (.object "com/example/hot_gate/hotgate/bench/Outcome") (3 : Int32) [.null, .null, .null] .null) ∧ (Steps p.tables e below (s₁.setTop (entryFrame m #[(.int p0), (.long p1), (.long p2), (.long p3), (.long p4), (.long p5)] maxLocals)) (T.setTop (mkF m 139 #[.val (.int p0), .val (.long p1), .second, .val (.long p2), .second, .val (.long p3), .second, .val (.long p4), .second, .val (.long p5), .second, .val (.int (3 : Int32)), .val (.ref b98), .val (.long z128), .second, .val (.long z140), .second, .val (.long (if ((p0 >>> ((4 : Int32) &&& 31)) &&& (1 : Int32)) = (0 : Int32) then (0 : Int64) else p3)), .second, .unset, .unset] []))) := by
      by_cases hc143 : ((p0 >>> ((4 : Int32) &&& 31)) &&& (1 : Int32)) = (0 : Int32)
      · have s144 : Steps p.tables e below (s₁.setTop (entryFrame m #[(.int p0), (.long p1), (.long p2), (.long p3), (.long p4), (.long p5)] maxLocals)) (T135.setTop (mkF m 139 #[.val (.int p0), .val (.long p1), .second, .val (.long p2), .second, .val (.long p3), .second, .val (.long p4), .second, .val (.long p5), .second, .val (.int (3 : Int32)), .val (.ref b98), .val (.long z128), .second, .val (.long z140), .second, .val (.long (0 : Int64)), .second, .unset, .unset] [])) := by
          refine s142.trans ?_
          show Steps p.tables e below (T135.setTop (mkF m 120 #[.val (.int p0), .val (.long p1), .second, .val (.long p2), .second, .val (.long p3), .second, .val (.long p4), .second, .val (.long p5), .second, .val (.int (3 : Int32)), .val (.ref b98), .val (.long z128), .second, .val (.long z140), .second, .val (.long (0 : Int64)), .second, .unset, .unset] [(.int ((p0 >>> ((4 : Int32) &&& 31)) &&& (1 : Int32)))])) _
          refine XS.ifYes X135.here hx rfl (pc0 := 120) (pc' := 139) rfl (hb hby at_120) rfl ((if0 _ _).trans (teq hc143).1) (by decide) (by decide) ?_
          exact Steps.refl _
        simp only [if_pos hc143]
        exact ⟨T135, h135, _, X135, e135, O135, N135, f135_0, f135_1, f135_2, f135_3, f135_4, f135_5, f135_6, s144⟩
      · obtain ⟨cq145, kq145, q145a, q145b, q145c⟩ := isOf hZ e135 f135_0
        obtain ⟨_, _, ⟨T145, L145, k145, n145⟩, -, X145, ⟨Lc145, hQ145, l145, y145, z145⟩, st145⟩ := X135.virtualBack hx (y := (⟨"com/example/hot_gate/hotgate/bench/Replies", "record", "(IJJLcom/example/hot_gate/hotgate/bench/Outcome;Ljava/lang/String;)V"⟩ : MethodName)) (z := (⟨"com/example/hot_gate/hotgate/bench/Replies", "record", "(IJJLcom/example/hot_gate/hotgate/bench/Outcome;Ljava/lang/String;)V"⟩ : MethodName)) hown (mvT hZ (hw _ (List.mem_of_getElem? (i := 34) rfl))) (mvT hZ (hw _ (List.mem_of_getElem? (i := 35) rfl))) (notFace_of_selects (args := #[]) (mvT hZ (hw _ (List.mem_of_getElem? (i := 37) rfl)))) (mvT hZ (hw _ (List.mem_of_getElem? (i := 37) rfl))) (mvT hZ (hw _ (List.mem_of_getElem? (i := 36) rfl))) (by decide) (backOf (W := 0) (rmr3_2 l Z a0 hw [] b98 p3 p5 u100 u101 u102 u103 u104 u105 z128 z140 (0 : Int64) z129 z141 (0 : Int64) h135 n0 O135 f135_1 f135_2 f135_3 f135_4 f135_5 f135_6 g_u100 g_u101 g_u102 f99_10 f99_11 f99_12 ne_b98_u100 ne_b98_u101 ne_b98_u102) hZ (hw _ (List.mem_of_getElem? (i := 38) rfl)) (hw _ (List.mem_of_getElem? (i := 2) rfl)) (by decide) (by decide)) q145a q145c (g := (mkF m 132 #[.val (.int p0), .val (.long p1), .second, .val (.long p2), .second, .val (.long p3), .second, .val (.long p4), .second, .val (.long p5), .second, .val (.int (3 : Int32)), .val (.ref b98), .val (.long z128), .second, .val (.long z140), .second, .val (.long (0 : Int64)), .second, .unset, .unset] [.null, .null, (.long p5), (.long p3), (.int (2 : Int32)), (.ref b98)])) rfl (by rw [hml]; rfl) (Steps.refl _) (argsL := [(.int (2 : Int32)), (.long p3), (.long p5), .null, .null]) (rest := []) (lenOf pd_rm0_2 rfl) rfl (by show 2 * 0 + _ ≤ _; exact Nat.le_of_eq rfl) (hb hby at_132) (fun _ _ => ⟨rfl, e135, (by decide : 5 + 0 ≤ _), (by decide : 14 + 0 ≤ _)⟩)
        dsimp only [Pt.U, Pt.locs, Pt.cells, Pt.slots] at X145 l145 y145 z145 st145 hQ145
        subst l145 y145 z145
        obtain ⟨rfl, Nq145, Kc145, f145_0, f145_1, f145_2⟩ := hQ145
        have N145 := Fr.app N135 Nq145
        have O145 := O135.keep Kc145 (allS g_u100 (allS g_u101 (allS g_u102 all0)))
        have s146 : Steps p.tables e below (s₁.setTop (entryFrame m #[(.int p0), (.long p1), (.long p2), (.long p3), (.long p4), (.long p5)] maxLocals)) (T145.setTop (mkF m 139 #[.val (.int p0), .val (.long p1), .second, .val (.long p2), .second, .val (.long p3), .second, .val (.long p4), .second, .val (.long p5), .second, .val (.int (3 : Int32)), .val (.ref b98), .val (.long z128), .second, .val (.long z140), .second, .val (.long p3), .second, .unset, .unset] [])) := by
          refine s142.trans ?_
          show Steps p.tables e below (T135.setTop (mkF m 120 #[.val (.int p0), .val (.long p1), .second, .val (.long p2), .second, .val (.long p3), .second, .val (.long p4), .second, .val (.long p5), .second, .val (.int (3 : Int32)), .val (.ref b98), .val (.long z128), .second, .val (.long z140), .second, .val (.long (0 : Int64)), .second, .unset, .unset] [(.int ((p0 >>> ((4 : Int32) &&& 31)) &&& (1 : Int32)))])) _
          refine XS.ifNo X135.here hx rfl (hb hby at_120) rfl ((if0 _ _).trans (feq hc143).1) ?_
          show Steps p.tables e below (T135.setTop (mkF m 123 #[.val (.int p0), .val (.long p1), .second, .val (.long p2), .second, .val (.long p3), .second, .val (.long p4), .second, .val (.long p5), .second, .val (.int (3 : Int32)), .val (.ref b98), .val (.long z128), .second, .val (.long z140), .second, .val (.long (0 : Int64)), .second, .unset, .unset] [])) _
          refine XS.aload X135.here hx rfl (hb hby at_123) rfl rfl ?_
          show Steps p.tables e below (T135.setTop (mkF m 125 #[.val (.int p0), .val (.long p1), .second, .val (.long p2), .second, .val (.long p3), .second, .val (.long p4), .second, .val (.long p5), .second, .val (.int (3 : Int32)), .val (.ref b98), .val (.long z128), .second, .val (.long z140), .second, .val (.long (0 : Int64)), .second, .unset, .unset] [(.ref b98)])) _
          refine XS.iconst X135.here hx rfl (hb hby at_125) ?_
          show Steps p.tables e below (T135.setTop (mkF m 126 #[.val (.int p0), .val (.long p1), .second, .val (.long p2), .second, .val (.long p3), .second, .val (.long p4), .second, .val (.long p5), .second, .val (.int (3 : Int32)), .val (.ref b98), .val (.long z128), .second, .val (.long z140), .second, .val (.long (0 : Int64)), .second, .unset, .unset] [(.int (2 : Int32)), (.ref b98)])) _
          refine XS.lload X135.here hx rfl (hb hby at_126) rfl ?_
          show Steps p.tables e below (T135.setTop (mkF m 128 #[.val (.int p0), .val (.long p1), .second, .val (.long p2), .second, .val (.long p3), .second, .val (.long p4), .second, .val (.long p5), .second, .val (.int (3 : Int32)), .val (.ref b98), .val (.long z128), .second, .val (.long z140), .second, .val (.long (0 : Int64)), .second, .unset, .unset] [(.long p3), (.int (2 : Int32)), (.ref b98)])) _
          refine XS.lload X135.here hx rfl (hb hby at_128) rfl ?_
          show Steps p.tables e below (T135.setTop (mkF m 130 #[.val (.int p0), .val (.long p1), .second, .val (.long p2), .second, .val (.long p3), .second, .val (.long p4), .second, .val (.long p5), .second, .val (.int (3 : Int32)), .val (.ref b98), .val (.long z128), .second, .val (.long z140), .second, .val (.long (0 : Int64)), .second, .unset, .unset] [(.long p5), (.long p3), (.int (2 : Int32)), (.ref b98)])) _
          refine XS.aconstNull X135.here hx rfl (hb hby at_130) ?_
          show Steps p.tables e below (T135.setTop (mkF m 131 #[.val (.int p0), .val (.long p1), .second, .val (.long p2), .second, .val (.long p3), .second, .val (.long p4), .second, .val (.long p5), .second, .val (.int (3 : Int32)), .val (.ref b98), .val (.long z128), .second, .val (.long z140), .second, .val (.long (0 : Int64)), .second, .unset, .unset] [.null, (.long p5), (.long p3), (.int (2 : Int32)), (.ref b98)])) _
          refine XS.aconstNull X135.here hx rfl (hb hby at_131) ?_
          show Steps p.tables e below (T135.setTop (mkF m 132 #[.val (.int p0), .val (.long p1), .second, .val (.long p2), .second, .val (.long p3), .second, .val (.long p4), .second, .val (.long p5), .second, .val (.int (3 : Int32)), .val (.ref b98), .val (.long z128), .second, .val (.long z140), .second, .val (.long (0 : Int64)), .second, .unset, .unset] [.null, .null, (.long p5), (.long p3), (.int (2 : Int32)), (.ref b98)])) _
          refine st145.trans ?_
          show Steps p.tables e below (T145.setTop (mkF m 135 #[.val (.int p0), .val (.long p1), .second, .val (.long p2), .second, .val (.long p3), .second, .val (.long p4), .second, .val (.long p5), .second, .val (.int (3 : Int32)), .val (.ref b98), .val (.long z128), .second, .val (.long z140), .second, .val (.long (0 : Int64)), .second, .unset, .unset] [])) _
          refine XS.lload X145.here hx rfl (hb hby at_135) rfl ?_
          show Steps p.tables e below (T145.setTop (mkF m 137 #[.val (.int p0), .val (.long p1), .second, .val (.long p2), .second, .val (.long p3), .second, .val (.long p4), .second, .val (.long p5), .second, .val (.int (3 : Int32)), .val (.ref b98), .val (.long z128), .second, .val (.long z140), .second, .val (.long (0 : Int64)), .second, .unset, .unset] [(.long p3)])) _
          refine XS.lstore X145.here hx rfl (hb hby at_137) rfl (l' := #[.val (.int p0), .val (.long p1), .second, .val (.long p2), .second, .val (.long p3), .second, .val (.long p4), .second, .val (.long p5), .second, .val (.int (3 : Int32)), .val (.ref b98), .val (.long z128), .second, .val (.long z140), .second, .val (.long p3), .second, .unset, .unset]) rfl ?_
          exact Steps.refl _
        have c148 : Exa Z T145.heap b98 "com/example/hot_gate/hotgate/bench/Replies" := (f135_0.keep Kc145)
        have c149 : Fld Z T145.heap b98 "com/example/hot_gate/hotgate/bench/Replies" "sentAt" "[J" (.ref u100) := (f135_1.keep Kc145 (ninS ne_b98_u100 (ninS ne_b98_u101 (ninS ne_b98_u102 nin0))))
        have c150 : Fld Z T145.heap b98 "com/example/hot_gate/hotgate/bench/Replies" "answeredAt" "[J" (.ref u101) := (f135_2.keep Kc145 (ninS ne_b98_u100 (ninS ne_b98_u101 (ninS ne_b98_u102 nin0))))
        have c151 : Fld Z T145.heap b98 "com/example/hot_gate/hotgate/bench/Replies" "outcomes" "[Lcom/example/hot_gate/hotgate/bench/Outcome;" (.ref u102) := (f135_3.keep Kc145 (ninS ne_b98_u100 (ninS ne_b98_u101 (ninS ne_b98_u102 nin0))))
        simp only [if_neg hc143]
        exact ⟨T145, T145.heap, _, X145, (rfl : T145.heap = T145.heap), O145, N145, c148, c149, c150, c151, f145_0, f145_1, f145_2, s146⟩
    obtain ⟨z152, hz152⟩ : ∃ z, z = (if ((p0 >>> ((4 : Int32) &&& 31)) &&& (1 : Int32)) = (0 : Int32) then (0 : Int64) else p3) := ⟨_, rfl⟩
    rw [← hz152] at s147 f147_4
    obtain ⟨z153, hz153⟩ : ∃ z, z = (if ((p0 >>> ((4 : Int32) &&& 31)) &&& (1 : Int32)) = (0 : Int32) then (0 : Int64) else p5) := ⟨_, rfl⟩
    rw [← hz153] at f147_5
    obtain ⟨_, _, ⟨T154, L154, k154, n154⟩, -, X154, ⟨Lc154, hQ154, l154, y154, z154⟩, st154⟩ := Jvm.LawKit.callS X147 hx (y := (⟨"java/lang/Math", "min", "(JJ)J"⟩ : MethodName)) hown (mvT hZ (hw _ (List.mem_of_getElem? (i := 39) rfl))) (mvT hZ (hw _ (List.mem_of_getElem? (i := 40) rfl))) (mvT hZ (hw _ (List.mem_of_getElem? (i := 41) rfl))) (mvT hZ (hw _ (List.mem_of_getElem? (i := 42) rfl))) (by decide) (backOf (W := 0) (rm6 l Z a0 hw [] z128 z140 h147 n0 O147 ) hZ (hw _ (List.mem_of_getElem? (i := 42) rfl)) (hw _ (List.mem_of_getElem? (i := 41) rfl)) (by decide) (by decide)) (g := (mkF m 163 #[.val (.int p0), .val (.long p1), .second, .val (.long p2), .second, .val (.long p3), .second, .val (.long p4), .second, .val (.long p5), .second, .val (.int (3 : Int32)), .val (.ref b98), .val (.long z128), .second, .val (.long z140), .second, .val (.long z152), .second, .val (.long z128), .second] [(.long z140), (.long z128)])) rfl (by rw [hml]; rfl) (argsL := [(.long z128), (.long z140)]) (rest := []) (lenOf pd_rm0_3 rfl) rfl (by show 2 * 0 + _ ≤ _; exact Nat.le_of_eq rfl) (hb hby at_163) (fun _ _ => ⟨rfl, e147, (by decide : 5 + 0 ≤ _), (by decide : 14 + 0 ≤ _)⟩)
    dsimp only [Pt.U, Pt.locs, Pt.cells, Pt.slots] at X154 l154 y154 z154 st154 hQ154
    subst l154 y154 z154
    obtain ⟨rfl, Nq154, e154⟩ := hQ154
    have N154 := Fr.app N147 Nq154
    obtain ⟨_, _, ⟨T155, L155, k155, n155⟩, -, X155, ⟨Lc155, hQ155, l155, y155, z155⟩, st155⟩ := Jvm.LawKit.callS X154 hx (y := (⟨"java/lang/Math", "min", "(JJ)J"⟩ : MethodName)) hown (mvT hZ (hw _ (List.mem_of_getElem? (i := 39) rfl))) (mvT hZ (hw _ (List.mem_of_getElem? (i := 40) rfl))) (mvT hZ (hw _ (List.mem_of_getElem? (i := 41) rfl))) (mvT hZ (hw _ (List.mem_of_getElem? (i := 42) rfl))) (by decide) (backOf (W := 0) (rm6 l Z a0 hw [] (own_min z128 z140) z152 h147 n0 O147 ) hZ (hw _ (List.mem_of_getElem? (i := 42) rfl)) (hw _ (List.mem_of_getElem? (i := 41) rfl)) (by decide) (by decide)) (g := (mkF m 178 #[.val (.int p0), .val (.long p1), .second, .val (.long p2), .second, .val (.long p3), .second, .val (.long p4), .second, .val (.long p5), .second, .val (.int (3 : Int32)), .val (.ref b98), .val (.long z128), .second, .val (.long z140), .second, .val (.long z152), .second, .val (.long (own_min z128 z140)), .second] [(.long z152), (.long (own_min z128 z140))])) rfl (by rw [hml]; rfl) (argsL := [(.long (own_min z128 z140)), (.long z152)]) (rest := []) (lenOf pd_rm0_3 rfl) rfl (by show 2 * 0 + _ ≤ _; exact Nat.le_of_eq rfl) (hb hby at_178) (fun _ _ => ⟨rfl, e154, (by decide : 5 + 0 ≤ _), (by decide : 14 + 0 ≤ _)⟩)
    dsimp only [Pt.U, Pt.locs, Pt.cells, Pt.slots] at X155 l155 y155 z155 st155 hQ155
    subst l155 y155 z155
    obtain ⟨rfl, Nq155, e155⟩ := hQ155
    have N155 := Fr.app N154 Nq155
    obtain ⟨cq156, kq156, q156a, q156b, q156c⟩ := isOf hZ e155 f147_0
    obtain ⟨_, _, ⟨T156, L156, k156, n156⟩, -, X156, ⟨Lc156, hQ156, l156, y156, z156⟩, st156⟩ := X155.virtualBack hx (y := (⟨"com/example/hot_gate/hotgate/bench/Replies", "firstSent", "()J"⟩ : MethodName)) (z := (⟨"com/example/hot_gate/hotgate/bench/Replies", "firstSent", "()J"⟩ : MethodName)) hown (mvT hZ (hw _ (List.mem_of_getElem? (i := 28) rfl))) (mvT hZ (hw _ (List.mem_of_getElem? (i := 29) rfl))) (notFace_of_selects (args := #[]) (mvT hZ (hw _ (List.mem_of_getElem? (i := 31) rfl)))) (mvT hZ (hw _ (List.mem_of_getElem? (i := 31) rfl))) (mvT hZ (hw _ (List.mem_of_getElem? (i := 30) rfl))) (by decide) (backOf (W := 0) (rmf3 l Z a0 hw [] b98 u100 u103 z128 z140 z152 h147 n0 O147 f147_1 f147_4) hZ (hw _ (List.mem_of_getElem? (i := 32) rfl)) (hw _ (List.mem_of_getElem? (i := 2) rfl)) (by decide) (by decide)) q156a q156c (g := (mkF m 185 #[.val (.int p0), .val (.long p1), .second, .val (.long p2), .second, .val (.long p3), .second, .val (.long p4), .second, .val (.long p5), .second, .val (.int (3 : Int32)), .val (.ref b98), .val (.long z128), .second, .val (.long z140), .second, .val (.long z152), .second, .val (.long (own_min (own_min z128 z140) z152)), .second] [(.ref b98)])) rfl (by rw [hml]; rfl) (Steps.refl _) (argsL := []) (rest := []) (lenOf pd_rm0_1 rfl) rfl (by show 2 * 0 + _ ≤ _; exact Nat.le_of_eq rfl) (hb hby at_185) (fun _ _ => ⟨rfl, e155, (by decide : 5 + 0 ≤ _), (by decide : 14 + 0 ≤ _)⟩)
    dsimp only [Pt.U, Pt.locs, Pt.cells, Pt.slots] at X156 l156 y156 z156 st156 hQ156
    subst l156 y156 z156
    obtain ⟨rfl, Nq156, e156⟩ := hQ156
    have N156 := Fr.app N155 Nq156
    have s157 : Steps p.tables e below (s₁.setTop (entryFrame m #[(.int p0), (.long p1), (.long p2), (.long p3), (.long p4), (.long p5)] maxLocals)) (T156.setTop (mkF m 199 #[.val (.int p0), .val (.long p1), .second, .val (.long p2), .second, .val (.long p3), .second, .val (.long p4), .second, .val (.long p5), .second, .val (.int (3 : Int32)), .val (.ref b98), .val (.long z128), .second, .val (.long z140), .second, .val (.long z152), .second, .val (.long (own_min (own_min z128 z140) z152)), .second] [(.int (1 : Int32))])) := by
      refine s147.trans ?_
      show Steps p.tables e below (T147.setTop (mkF m 139 #[.val (.int p0), .val (.long p1), .second, .val (.long p2), .second, .val (.long p3), .second, .val (.long p4), .second, .val (.long p5), .second, .val (.int (3 : Int32)), .val (.ref b98), .val (.long z128), .second, .val (.long z140), .second, .val (.long z152), .second, .unset, .unset] [])) _
      refine X147.ldc2Long hx hown (mvT hZ (hw _ (List.mem_of_getElem? (i := 27) rfl))) (g := (mkF m 139 #[.val (.int p0), .val (.long p1), .second, .val (.long p2), .second, .val (.long p3), .second, .val (.long p4), .second, .val (.long p5), .second, .val (.int (3 : Int32)), .val (.ref b98), .val (.long z128), .second, .val (.long z140), .second, .val (.long z152), .second, .unset, .unset] [])) rfl (hb hby at_139) _ ?_
      show Steps p.tables e below (T147.setTop (mkF m 142 #[.val (.int p0), .val (.long p1), .second, .val (.long p2), .second, .val (.long p3), .second, .val (.long p4), .second, .val (.long p5), .second, .val (.int (3 : Int32)), .val (.ref b98), .val (.long z128), .second, .val (.long z140), .second, .val (.long z152), .second, .unset, .unset] [(.long (9223372036854775807 : Int64))])) _
      refine XS.lstore X147.here hx rfl (hb hby at_142) rfl (l' := #[.val (.int p0), .val (.long p1), .second, .val (.long p2), .second, .val (.long p3), .second, .val (.long p4), .second, .val (.long p5), .second, .val (.int (3 : Int32)), .val (.ref b98), .val (.long z128), .second, .val (.long z140), .second, .val (.long z152), .second, .val (.long (9223372036854775807 : Int64)), .second]) rfl ?_
      show Steps p.tables e below (T147.setTop (mkF m 144 #[.val (.int p0), .val (.long p1), .second, .val (.long p2), .second, .val (.long p3), .second, .val (.long p4), .second, .val (.long p5), .second, .val (.int (3 : Int32)), .val (.ref b98), .val (.long z128), .second, .val (.long z140), .second, .val (.long z152), .second, .val (.long (9223372036854775807 : Int64)), .second] [])) _
      refine XS.iload X147.here hx rfl (hb hby at_144) rfl ?_
      show Steps p.tables e below (T147.setTop (mkF m 146 #[.val (.int p0), .val (.long p1), .second, .val (.long p2), .second, .val (.long p3), .second, .val (.long p4), .second, .val (.long p5), .second, .val (.int (3 : Int32)), .val (.ref b98), .val (.long z128), .second, .val (.long z140), .second, .val (.long z152), .second, .val (.long (9223372036854775807 : Int64)), .second] [(.int (3 : Int32))])) _
      refine XS.ifNo X147.here hx rfl (hb hby at_146) rfl ((if0 _ _).trans (tlt (by decide)).2.2.2) ?_
      show Steps p.tables e below (T147.setTop (mkF m 149 #[.val (.int p0), .val (.long p1), .second, .val (.long p2), .second, .val (.long p3), .second, .val (.long p4), .second, .val (.long p5), .second, .val (.int (3 : Int32)), .val (.ref b98), .val (.long z128), .second, .val (.long z140), .second, .val (.long z152), .second, .val (.long (9223372036854775807 : Int64)), .second] [])) _
      refine XS.lload X147.here hx rfl (hb hby at_149) rfl ?_
      show Steps p.tables e below (T147.setTop (mkF m 151 #[.val (.int p0), .val (.long p1), .second, .val (.long p2), .second, .val (.long p3), .second, .val (.long p4), .second, .val (.long p5), .second, .val (.int (3 : Int32)), .val (.ref b98), .val (.long z128), .second, .val (.long z140), .second, .val (.long z152), .second, .val (.long (9223372036854775807 : Int64)), .second] [(.long z128)])) _
      refine XS.lstore X147.here hx rfl (hb hby at_151) rfl (l' := #[.val (.int p0), .val (.long p1), .second, .val (.long p2), .second, .val (.long p3), .second, .val (.long p4), .second, .val (.long p5), .second, .val (.int (3 : Int32)), .val (.ref b98), .val (.long z128), .second, .val (.long z140), .second, .val (.long z152), .second, .val (.long z128), .second]) rfl ?_
      show Steps p.tables e below (T147.setTop (mkF m 153 #[.val (.int p0), .val (.long p1), .second, .val (.long p2), .second, .val (.long p3), .second, .val (.long p4), .second, .val (.long p5), .second, .val (.int (3 : Int32)), .val (.ref b98), .val (.long z128), .second, .val (.long z140), .second, .val (.long z152), .second, .val (.long z128), .second] [])) _
      refine XS.iload X147.here hx rfl (hb hby at_153) rfl ?_
      show Steps p.tables e below (T147.setTop (mkF m 155 #[.val (.int p0), .val (.long p1), .second, .val (.long p2), .second, .val (.long p3), .second, .val (.long p4), .second, .val (.long p5), .second, .val (.int (3 : Int32)), .val (.ref b98), .val (.long z128), .second, .val (.long z140), .second, .val (.long z152), .second, .val (.long z128), .second] [(.int (3 : Int32))])) _
      refine XS.iconst X147.here hx rfl (hb hby at_155) ?_
      show Steps p.tables e below (T147.setTop (mkF m 156 #[.val (.int p0), .val (.long p1), .second, .val (.long p2), .second, .val (.long p3), .second, .val (.long p4), .second, .val (.long p5), .second, .val (.int (3 : Int32)), .val (.ref b98), .val (.long z128), .second, .val (.long z140), .second, .val (.long z152), .second, .val (.long z128), .second] [(.int (1 : Int32)), (.int (3 : Int32))])) _
      refine XS.icmpNo X147.here hx rfl (hb hby at_156) rfl (tlt (by decide)).2.2.2 ?_
      show Steps p.tables e below (T147.setTop (mkF m 159 #[.val (.int p0), .val (.long p1), .second, .val (.long p2), .second, .val (.long p3), .second, .val (.long p4), .second, .val (.long p5), .second, .val (.int (3 : Int32)), .val (.ref b98), .val (.long z128), .second, .val (.long z140), .second, .val (.long z152), .second, .val (.long z128), .second] [])) _
      refine XS.lload X147.here hx rfl (hb hby at_159) rfl ?_
      show Steps p.tables e below (T147.setTop (mkF m 161 #[.val (.int p0), .val (.long p1), .second, .val (.long p2), .second, .val (.long p3), .second, .val (.long p4), .second, .val (.long p5), .second, .val (.int (3 : Int32)), .val (.ref b98), .val (.long z128), .second, .val (.long z140), .second, .val (.long z152), .second, .val (.long z128), .second] [(.long z128)])) _
      refine XS.lload X147.here hx rfl (hb hby at_161) rfl ?_
      show Steps p.tables e below (T147.setTop (mkF m 163 #[.val (.int p0), .val (.long p1), .second, .val (.long p2), .second, .val (.long p3), .second, .val (.long p4), .second, .val (.long p5), .second, .val (.int (3 : Int32)), .val (.ref b98), .val (.long z128), .second, .val (.long z140), .second, .val (.long z152), .second, .val (.long z128), .second] [(.long z140), (.long z128)])) _
      refine st154 _ ?_
      show Steps p.tables e below (T154.setTop (mkF m 166 #[.val (.int p0), .val (.long p1), .second, .val (.long p2), .second, .val (.long p3), .second, .val (.long p4), .second, .val (.long p5), .second, .val (.int (3 : Int32)), .val (.ref b98), .val (.long z128), .second, .val (.long z140), .second, .val (.long z152), .second, .val (.long z128), .second] [(.long (own_min z128 z140))])) _
      refine XS.lstore X154.here hx rfl (hb hby at_166) rfl (l' := #[.val (.int p0), .val (.long p1), .second, .val (.long p2), .second, .val (.long p3), .second, .val (.long p4), .second, .val (.long p5), .second, .val (.int (3 : Int32)), .val (.ref b98), .val (.long z128), .second, .val (.long z140), .second, .val (.long z152), .second, .val (.long (own_min z128 z140)), .second]) rfl ?_
      show Steps p.tables e below (T154.setTop (mkF m 168 #[.val (.int p0), .val (.long p1), .second, .val (.long p2), .second, .val (.long p3), .second, .val (.long p4), .second, .val (.long p5), .second, .val (.int (3 : Int32)), .val (.ref b98), .val (.long z128), .second, .val (.long z140), .second, .val (.long z152), .second, .val (.long (own_min z128 z140)), .second] [])) _
      refine XS.iload X154.here hx rfl (hb hby at_168) rfl ?_
      show Steps p.tables e below (T154.setTop (mkF m 170 #[.val (.int p0), .val (.long p1), .second, .val (.long p2), .second, .val (.long p3), .second, .val (.long p4), .second, .val (.long p5), .second, .val (.int (3 : Int32)), .val (.ref b98), .val (.long z128), .second, .val (.long z140), .second, .val (.long z152), .second, .val (.long (own_min z128 z140)), .second] [(.int (3 : Int32))])) _
      refine XS.iconst X154.here hx rfl (hb hby at_170) ?_
      show Steps p.tables e below (T154.setTop (mkF m 171 #[.val (.int p0), .val (.long p1), .second, .val (.long p2), .second, .val (.long p3), .second, .val (.long p4), .second, .val (.long p5), .second, .val (.int (3 : Int32)), .val (.ref b98), .val (.long z128), .second, .val (.long z140), .second, .val (.long z152), .second, .val (.long (own_min z128 z140)), .second] [(.int (2 : Int32)), (.int (3 : Int32))])) _
      refine XS.icmpNo X154.here hx rfl (hb hby at_171) rfl (tlt (by decide)).2.2.2 ?_
      show Steps p.tables e below (T154.setTop (mkF m 174 #[.val (.int p0), .val (.long p1), .second, .val (.long p2), .second, .val (.long p3), .second, .val (.long p4), .second, .val (.long p5), .second, .val (.int (3 : Int32)), .val (.ref b98), .val (.long z128), .second, .val (.long z140), .second, .val (.long z152), .second, .val (.long (own_min z128 z140)), .second] [])) _
      refine XS.lload X154.here hx rfl (hb hby at_174) rfl ?_
      show Steps p.tables e below (T154.setTop (mkF m 176 #[.val (.int p0), .val (.long p1), .second, .val (.long p2), .second, .val (.long p3), .second, .val (.long p4), .second, .val (.long p5), .second, .val (.int (3 : Int32)), .val (.ref b98), .val (.long z128), .second, .val (.long z140), .second, .val (.long z152), .second, .val (.long (own_min z128 z140)), .second] [(.long (own_min z128 z140))])) _
      refine XS.lload X154.here hx rfl (hb hby at_176) rfl ?_
      show Steps p.tables e below (T154.setTop (mkF m 178 #[.val (.int p0), .val (.long p1), .second, .val (.long p2), .second, .val (.long p3), .second, .val (.long p4), .second, .val (.long p5), .second, .val (.int (3 : Int32)), .val (.ref b98), .val (.long z128), .second, .val (.long z140), .second, .val (.long z152), .second, .val (.long (own_min z128 z140)), .second] [(.long z152), (.long (own_min z128 z140))])) _
      refine st155 _ ?_
      show Steps p.tables e below (T155.setTop (mkF m 181 #[.val (.int p0), .val (.long p1), .second, .val (.long p2), .second, .val (.long p3), .second, .val (.long p4), .second, .val (.long p5), .second, .val (.int (3 : Int32)), .val (.ref b98), .val (.long z128), .second, .val (.long z140), .second, .val (.long z152), .second, .val (.long (own_min z128 z140)), .second] [(.long (own_min (own_min z128 z140) z152))])) _
      refine XS.lstore X155.here hx rfl (hb hby at_181) rfl (l' := #[.val (.int p0), .val (.long p1), .second, .val (.long p2), .second, .val (.long p3), .second, .val (.long p4), .second, .val (.long p5), .second, .val (.int (3 : Int32)), .val (.ref b98), .val (.long z128), .second, .val (.long z140), .second, .val (.long z152), .second, .val (.long (own_min (own_min z128 z140) z152)), .second]) rfl ?_
      show Steps p.tables e below (T155.setTop (mkF m 183 #[.val (.int p0), .val (.long p1), .second, .val (.long p2), .second, .val (.long p3), .second, .val (.long p4), .second, .val (.long p5), .second, .val (.int (3 : Int32)), .val (.ref b98), .val (.long z128), .second, .val (.long z140), .second, .val (.long z152), .second, .val (.long (own_min (own_min z128 z140) z152)), .second] [])) _
      refine XS.aload X155.here hx rfl (hb hby at_183) rfl rfl ?_
      show Steps p.tables e below (T155.setTop (mkF m 185 #[.val (.int p0), .val (.long p1), .second, .val (.long p2), .second, .val (.long p3), .second, .val (.long p4), .second, .val (.long p5), .second, .val (.int (3 : Int32)), .val (.ref b98), .val (.long z128), .second, .val (.long z140), .second, .val (.long z152), .second, .val (.long (own_min (own_min z128 z140) z152)), .second] [(.ref b98)])) _
      refine st156.trans ?_
      show Steps p.tables e below (T156.setTop (mkF m 188 #[.val (.int p0), .val (.long p1), .second, .val (.long p2), .second, .val (.long p3), .second, .val (.long p4), .second, .val (.long p5), .second, .val (.int (3 : Int32)), .val (.ref b98), .val (.long z128), .second, .val (.long z140), .second, .val (.long z152), .second, .val (.long (own_min (own_min z128 z140) z152)), .second] [(.long (own_min (own_min (own_min (9223372036854775807 : Int64) z128) z140) z152))])) _
      refine XS.lload X156.here hx rfl (hb hby at_188) rfl ?_
      show Steps p.tables e below (T156.setTop (mkF m 190 #[.val (.int p0), .val (.long p1), .second, .val (.long p2), .second, .val (.long p3), .second, .val (.long p4), .second, .val (.long p5), .second, .val (.int (3 : Int32)), .val (.ref b98), .val (.long z128), .second, .val (.long z140), .second, .val (.long z152), .second, .val (.long (own_min (own_min z128 z140) z152)), .second] [(.long (own_min (own_min z128 z140) z152)), (.long (own_min (own_min (own_min (9223372036854775807 : Int64) z128) z140) z152))])) _
      refine XS.lcmp X156.here hx rfl (hb hby at_190) rfl ?_
      show Steps p.tables e below (T156.setTop (mkF m 191 #[.val (.int p0), .val (.long p1), .second, .val (.long p2), .second, .val (.long p3), .second, .val (.long p4), .second, .val (.long p5), .second, .val (.int (3 : Int32)), .val (.ref b98), .val (.long z128), .second, .val (.long z140), .second, .val (.long z152), .second, .val (.long (own_min (own_min z128 z140) z152)), .second] [(.int (lcmpW (own_min (own_min (own_min (9223372036854775807 : Int64) z128) z140) z152) (own_min (own_min z128 z140) z152)))])) _
      refine XS.ifNo X156.here hx rfl (hb hby at_191) rfl ((if0 _ _).trans (teq (by rw [own_min_max]; exact (lw_eq _ _).mpr rfl)).2) ?_
      show Steps p.tables e below (T156.setTop (mkF m 194 #[.val (.int p0), .val (.long p1), .second, .val (.long p2), .second, .val (.long p3), .second, .val (.long p4), .second, .val (.long p5), .second, .val (.int (3 : Int32)), .val (.ref b98), .val (.long z128), .second, .val (.long z140), .second, .val (.long z152), .second, .val (.long (own_min (own_min z128 z140) z152)), .second] [])) _
      refine XS.iconst X156.here hx rfl (hb hby at_194) ?_
      show Steps p.tables e below (T156.setTop (mkF m 195 #[.val (.int p0), .val (.long p1), .second, .val (.long p2), .second, .val (.long p3), .second, .val (.long p4), .second, .val (.long p5), .second, .val (.int (3 : Int32)), .val (.ref b98), .val (.long z128), .second, .val (.long z140), .second, .val (.long z152), .second, .val (.long (own_min (own_min z128 z140) z152)), .second] [(.int (1 : Int32))])) _
      refine XS.goto X156.here hx rfl (pc0 := 195) (pc' := 199) rfl (hb hby at_195) (by decide) (by decide) ?_
      exact Steps.refl _
    obtain ⟨fs, hr, hrun, hended, hW, hsame⟩ := X156.leave (v := some (.int (1 : Int32))) (fun h => by rw [Bd.returns] at h; cases h)
    refine ⟨_, _, s157.trans ?_, hrun, hended, _, _, rfl, ?_, ⟨_, rfl⟩, hW, hsame.mono (by decide) (by decide)⟩
    · show Steps p.tables e below (T156.setTop (mkF m 199 #[.val (.int p0), .val (.long p1), .second, .val (.long p2), .second, .val (.long p3), .second, .val (.long p4), .second, .val (.long p5), .second, .val (.int (3 : Int32)), .val (.ref b98), .val (.long z128), .second, .val (.long z140), .second, .val (.long z152), .second, .val (.long (own_min (own_min z128 z140) z152)), .second] [(.int (1 : Int32))])) _
      exact retN X156 hx (t := .boolean) Bd.returns (by simp) (hb hby at_199) hr
    · show Q0 Z p0 p1 p2 p3 p4 p5 h0 n0 _ T156.heap _
      rw [e156]
      exact ⟨rfl, N156⟩
set_option maxRecDepth 65536 in
set_option maxHeartbeats 40000000 in
theorem comes_1 {Post : Tables → Env → Array Value → State → Outcome → State → Prop} (hpost : ∀ tb e args s v u, (limb_1_1.after args s (.returned v) u = true ∧ limb_1_2.after args s (.returned v) u = true ∧ True) → FrameEnd s (.returned v) u (Jvm.fieldLocs frame_1_writes args s ++ Jvm.arrayLocs frame_1_arrays args s ++ Jvm.staticLocs frame_1_statics s) 24 128 → Post tb e args s (.returned v) u) :
    ArmFor flags0 classFile x code maxLocals ret World_1 tables_1 room_1 Calls_1 rest_1 Pre_1 Post := by
  intro l hfl _ _ p e ha hc hk s m args below hf hA hF happ hP
  obtain ⟨hcalls, hrest, hpre⟩ := hP
  obtain ⟨-, -, -, hnamed, -, -, -, hat⟩ := (Spec.applies_iff hf).mp happ
  obtain ⟨hg, hn⟩ := and_e (Cond.before_iff.mp (show (Jvm.Cond.and given_1 narrow_1).before args s = true from hpre))
  obtain ⟨gc, gk0⟩ := and_e hg
  obtain ⟨ga0, gk1⟩ := and_e gk0
  obtain ⟨ga1, gk2⟩ := and_e gk1
  obtain ⟨ga2, gk3⟩ := and_e gk2
  obtain ⟨ga3, gk4⟩ := and_e gk3
  obtain ⟨ga4, gk5⟩ := and_e gk4
  obtain ⟨w0, w1, w2, w3, w4, w5, rfl⟩ : ∃ w0 w1 w2 w3 w4 w5 : Value, args = #[w0, w1, w2, w3, w4, w5] := by
    have hs : args.size = 6 := by simpa [Cond.value, given_1] using gc
    obtain ⟨L⟩ := args
    match L, hs with
    | [w0, w1, w2, w3, w4, w5], _ => exact ⟨w0, w1, w2, w3, w4, w5, rfl⟩
  have hw := fun d (hd : d ∈ tables_1) => atoms_spec (ws := Jvm.Cond.code x code maxLocals ret :: tables_1) hat d (List.mem_cons_of_mem _ hd)
  have hfit : Fit s := fun {y c} hc i hi => by
    obtain ⟨ha, rfl⟩ := Array.getElem?_eq_some_iff.mp hc
    have q := List.all_eq_true.mp ((Array.all_eq_true_iff_forall_mem.mp hF) _ (Array.getElem_mem ha)) i (List.mem_range.mpr hi)
    simpa [Array.getElem?_eq_getElem hi] using q
  obtain ⟨i0, ei0⟩ := is_v ga0
  obtain rfl : w0 = (.int i0) := Option.some.inj ei0
  obtain ⟨i1, ei1⟩ := isL_v ga1
  obtain rfl : w1 = (.long i1) := Option.some.inj ei1
  obtain ⟨i2, ei2⟩ := isL_v ga2
  obtain rfl : w2 = (.long i2) := Option.some.inj ei2
  obtain ⟨i3, ei3⟩ := isL_v ga3
  obtain rfl : w3 = (.long i3) := Option.some.inj ei3
  obtain ⟨i4, ei4⟩ := isL_v ga4
  obtain rfl : w4 = (.long i4) := Option.some.inj ei4
  obtain ⟨i5, ei5⟩ := isL_v gk5
  obtain rfl : w5 = (.long i5) := Option.some.inj ei5
  obtain ⟨n, o, h1, h2, h3, _, L, rfl, ⟨rfl, N⟩, hq⟩ := rm0 l s _ hw tables_1 i0 i1 i2 i3 i4 i5 s.heap s.heap.size (Old.start s) p e ha hc hk s m _ below hf ((Spec.applies_iff_loose hf).mp happ).1 ⟨rfl, State.Warmed39.refl s, rfl⟩ trivial
  refine ⟨n, _, h1, h2, h3, hpost _ _ _ _ _ _ ⟨Cond.after_iff.mpr rfl, Cond.after_iff.mpr (eq_i res_at (Term.int_eval (1)) rfl), trivial⟩ ⟨hq.1, hq.2.1, (hq.2.2.sift fun y hy => Or.inr (N y hy)).mono (by decide) (by decide)⟩⟩
theorem main_1_1 : Claimed_1_1 := comes_1 fun _ _ _ _ _ _ h hF => ⟨h.1, hF⟩
theorem main_1_2 : Claimed_1_2 := comes_1 fun _ _ _ _ _ _ h hF => ⟨h.2.1, hF⟩
end Jvm.Pilot.@@N@@
namespace Jvm.Pilot.@@N@@
open Jvm Jvm.ClassFile Sem Op Lib Jvm.Free Jvm.Stand Jvm.Pilot.@@N@@.Jvm.D
/-! MADE BY PROGRAM (witnessworld.py) out of the Statement's table words and the real class files: 18 classes; the members and pool entries that the words name. The judged class is class 1, her method 1. -/
namespace start1
open Jvm.ClassFile
def u (s : String) : CpInfo := .utf8 (stringToUtf16 s)
/-- a pool by its gaps: so many unusable entries, then the entry; so many at the end -/
def gap : Nat → List CpInfo → List CpInfo
  | 0, r => r
  | n + 1, r => .unusable :: gap n r
def poolList (es : List (Nat × CpInfo)) (last : Nat) : List CpInfo := es.foldr (fun e r => gap e.1 (e.2 :: r)) (gap last [])
def pool (es : List (Nat × CpInfo)) (last : Nat) : Array CpInfo := ⟨poolList es last⟩
def fileOf (pool : Array CpInfo) (this : Nat) (attrs : Array Attribute := #[]) (ms : Array MethodInfo := #[]) (fl : Nat := 33) (sup : Nat := 0) (ifs : Array Nat := #[]) (fds : Array FieldInfo := #[]) : ClassFile where
  minorVersion := 0
  majorVersion := 65
  constantPool := pool
  accessFlags := fl
  thisClass := this
  superClass := sup
  interfaces := ifs
  fields := fds
  methods := ms
  attributes := attrs
def plain (name : String) (sup : Option ClassId) : Class where
  name := name
  kind := .ordinary
  loader := none
  accessFlags := 33
  super := sup
  interfaces := #[]
  cf := none
  fields := #[]
  methods := #[]
  instanceTypes := #[]
  staticTypes := #[]
  resolved := #[]
  callSites := []
  init := .initialized
  statics := none
  mirror := none

def pool0 : Array CpInfo := pool [(5, u "<init>"), (0, u "()V"), (1, .class_ 10), (1, u "java/lang/Object")] 113

def k0c0 : Code := { maxStack := 0, maxLocals := 1, code := object_method_1_code, exceptionTable := #[], attributes := #[] }
def k0m0 : Method := { name := "<init>", desc := "()V", sig := { parameters := [], returnType := none }, accessFlags := 1, code := some k0c0 }
/-- java/lang/Object -/
def k0 : Class := { plain "java/lang/Object" none with
  accessFlags := 33
  interfaces := #[]
  cf := some (fileOf pool0 8 #[] #[{ accessFlags := 1, nameIndex := 5, descriptorIndex := 6, attributes := #[] }] 33 0 #[] #[])
  fields := #[]
  methods := #[k0m0]
  instanceTypes := #[]
  staticTypes := #[]
  resolved := Array.replicate 124 none
  statics := none }

def pool1 : Array CpInfo := pool [(2, .class_ 4), (1, u "java/lang/Object"), (0, u "<init>"), (0, u "()V"), (0, .class_ 8), (0, u "com/example/hot_gate/hotgate/bench/Replies"), (0, .methodref 7 10), (0, .nameAndType 5 11), (0, u "(I)V"), (0, .methodref 7 13), (0, .nameAndType 14 15), (0, u "record"), (0, u "(IJJLcom/example/hot_gate/hotgate/bench/Outcome;Ljava/lang/String;)V"), (2, .long 9223372036854775807), (1, .methodref 21 22), (0, .class_ 23), (0, .nameAndType 24 25), (0, u "java/lang/Math"), (0, u "min"), (0, u "(JJ)J"), (0, .methodref 7 27), (0, .nameAndType 28 29), (0, u "firstSent"), (0, u "()J"), (0, .class_ 31), (0, u "com/example/hot_gate/hotgate/bench/RepliesFirstSentPinLaw"), (2, u "law"), (0, u "(IJJJJJ)Z")] 3

def k1m0 : Method := { name := "<init>", desc := "()V", sig := { parameters := [], returnType := none }, accessFlags := 1, code := none }
def k1c1 : Code := { maxStack := 8, maxLocals := 21, code := code, exceptionTable := #[], attributes := #[] }
def k1m1 : Method := { name := "law", desc := "(IJJJJJ)Z", sig := { parameters := [.int, .long, .long, .long, .long, .long], returnType := some .boolean }, accessFlags := 9, code := some k1c1 }
/-- com/example/hot_gate/hotgate/bench/RepliesFirstSentPinLaw -/
def k1 : Class := { plain "com/example/hot_gate/hotgate/bench/RepliesFirstSentPinLaw" (some 0) with
  accessFlags := 49
  interfaces := #[]
  cf := some (fileOf pool1 30 #[] #[{ accessFlags := 1, nameIndex := 5, descriptorIndex := 6, attributes := #[] }, { accessFlags := 9, nameIndex := 34, descriptorIndex := 35, attributes := #[] }] 49 2 #[] #[])
  fields := #[]
  methods := #[k1m0, k1m1]
  instanceTypes := #[]
  staticTypes := #[]
  resolved := Array.replicate 39 none
  statics := none }

def pool2 : Array CpInfo := pool [(1, .methodref 2 3), (0, .class_ 4), (0, .nameAndType 5 6), (0, u "java/lang/Object"), (0, u "<init>"), (0, u "()V"), (0, .class_ 8), (0, u "java/util/concurrent/atomic/AtomicReference"), (0, .methodref 7 3), (0, .fieldref 11 12), (0, .class_ 13), (0, .nameAndType 14 15), (0, u "com/example/hot_gate/hotgate/bench/Replies"), (0, u "firstError"), (0, u "Ljava/util/concurrent/atomic/AtomicReference;"), (0, .fieldref 11 17), (0, .nameAndType 18 19), (0, u "sentAt"), (0, u "[J"), (0, .fieldref 11 21), (0, .nameAndType 22 19), (0, u "answeredAt"), (0, .class_ 24), (0, u "com/example/hot_gate/hotgate/bench/Outcome"), (0, .fieldref 11 26), (0, .nameAndType 27 28), (0, u "outcomes"), (0, u "[Lcom/example/hot_gate/hotgate/bench/Outcome;"), (12, .long 9223372036854775807), (1, .methodref 44 45), (0, .class_ 46), (0, .nameAndType 47 48), (0, u "java/lang/Math"), (0, u "min"), (0, u "(JJ)J"), (6, u "firstSent"), (0, u "()J"), (11, u "(I)V"), (4, u "record"), (0, u "(IJJLcom/example/hot_gate/hotgate/bench/Outcome;Ljava/lang/String;)V")] 9

def k2c0 : Code := { maxStack := 3, maxLocals := 2, code := prog_12_method_1_code, exceptionTable := #[], attributes := #[] }
def k2m0 : Method := { name := "<init>", desc := "(I)V", sig := { parameters := [.int], returnType := none }, accessFlags := 0, code := some k2c0 }
def k2c1 : Code := { maxStack := 4, maxLocals := 8, code := prog_12_method_3_code, exceptionTable := #[], attributes := #[] }
def k2m1 : Method := { name := "record", desc := "(IJJLcom/example/hot_gate/hotgate/bench/Outcome;Ljava/lang/String;)V", sig := { parameters := [.int, .long, .long, (.object "com/example/hot_gate/hotgate/bench/Outcome"), (.object "java/lang/String")], returnType := none }, accessFlags := 0, code := some k2c1 }
def k2c2 : Code := { maxStack := 4, maxLocals := 8, code := prog_12_method_6_code, exceptionTable := #[], attributes := #[] }
def k2m2 : Method := { name := "firstSent", desc := "()J", sig := { parameters := [], returnType := some .long }, accessFlags := 0, code := some k2c2 }
/-- com/example/hot_gate/hotgate/bench/Replies -/
def k2 : Class := { plain "com/example/hot_gate/hotgate/bench/Replies" (some 0) with
  accessFlags := 32
  interfaces := #[]
  cf := some (fileOf pool2 11 #[] #[{ accessFlags := 0, nameIndex := 5, descriptorIndex := 68, attributes := #[] }, { accessFlags := 0, nameIndex := 73, descriptorIndex := 74, attributes := #[] }, { accessFlags := 0, nameIndex := 55, descriptorIndex := 56, attributes := #[] }] 32 2 #[] #[{ accessFlags := 18, nameIndex := 18, descriptorIndex := 19, attributes := #[] }, { accessFlags := 18, nameIndex := 22, descriptorIndex := 19, attributes := #[] }, { accessFlags := 18, nameIndex := 27, descriptorIndex := 28, attributes := #[] }, { accessFlags := 18, nameIndex := 14, descriptorIndex := 15, attributes := #[] }])
  fields := #[{ name := "sentAt", type := (.array .long), accessFlags := 18, slot := 0, constantValue := 0 }, { name := "answeredAt", type := (.array .long), accessFlags := 18, slot := 1, constantValue := 0 }, { name := "outcomes", type := (.array (.object "com/example/hot_gate/hotgate/bench/Outcome")), accessFlags := 18, slot := 2, constantValue := 0 }, { name := "firstError", type := (.object "java/util/concurrent/atomic/AtomicReference"), accessFlags := 18, slot := 3, constantValue := 0 }]
  methods := #[k2m0, k2m1, k2m2]
  instanceTypes := #[(.array .long), (.array .long), (.array (.object "com/example/hot_gate/hotgate/bench/Outcome")), (.object "java/util/concurrent/atomic/AtomicReference")]
  staticTypes := #[]
  resolved := Array.replicate 84 none
  statics := none }

def pool3 : Array CpInfo := pool [(1, .class_ 2), (0, u "java/io/Serializable"), (0, .class_ 4), (0, u "java/lang/Object")] 2

/-- java/io/Serializable -/
def k3 : Class := { plain "java/io/Serializable" (some 0) with
  accessFlags := 1537
  interfaces := #[]
  cf := some (fileOf pool3 1 #[] #[] 1537 3 #[] #[])
  fields := #[]
  methods := #[]
  instanceTypes := #[]
  staticTypes := #[]
  resolved := Array.replicate 7 none
  statics := none }

def pool4 : Array CpInfo := pool [(1, .methodref 2 3), (0, .class_ 4), (0, .nameAndType 5 6), (0, u "java/lang/Object"), (0, u "<init>"), (0, u "()V"), (1, .class_ 10), (1, u "java/util/concurrent/atomic/AtomicReference"), (0, u "value"), (0, u "Ljava/lang/Object;"), (2, u "VALUE"), (0, u "Ljava/lang/invoke/VarHandle;"), (96, .class_ 114), (0, u "java/io/Serializable"), (0, u "serialVersionUID"), (0, u "J")] 61

def k4c0 : Code := { maxStack := 1, maxLocals := 1, code := jdk_2809_method_2_code, exceptionTable := #[], attributes := #[] }
def k4m0 : Method := { name := "<init>", desc := "()V", sig := { parameters := [], returnType := none }, accessFlags := 1, code := some k4c0 }
/-- java/util/concurrent/atomic/AtomicReference -/
def k4 : Class := { plain "java/util/concurrent/atomic/AtomicReference" (some 0) with
  accessFlags := 33
  interfaces := #[3]
  cf := some (fileOf pool4 8 #[] #[{ accessFlags := 1, nameIndex := 5, descriptorIndex := 6, attributes := #[] }] 33 2 #[113] #[{ accessFlags := 26, nameIndex := 115, descriptorIndex := 116, attributes := #[] }, { accessFlags := 26, nameIndex := 15, descriptorIndex := 16, attributes := #[] }, { accessFlags := 66, nameIndex := 11, descriptorIndex := 12, attributes := #[] }])
  fields := #[{ name := "serialVersionUID", type := .long, accessFlags := 26, slot := 0, constantValue := 0 }, { name := "VALUE", type := (.object "java/lang/invoke/VarHandle"), accessFlags := 26, slot := 1, constantValue := 0 }, { name := "value", type := (.object "java/lang/Object"), accessFlags := 66, slot := 0, constantValue := 0 }]
  methods := #[k4m0]
  instanceTypes := #[(.object "java/lang/Object")]
  staticTypes := #[.long, (.object "java/lang/invoke/VarHandle")]
  resolved := Array.replicate 178 none
  statics := none }

def pool5 : Array CpInfo := pool [(1, .class_ 2), (0, u "java/lang/constant/Constable"), (0, .class_ 4), (0, u "java/lang/Object")] 6

/-- java/lang/constant/Constable -/
def k5 : Class := { plain "java/lang/constant/Constable" (some 0) with
  accessFlags := 1537
  interfaces := #[]
  cf := some (fileOf pool5 1 #[] #[] 1537 3 #[] #[])
  fields := #[]
  methods := #[]
  instanceTypes := #[]
  staticTypes := #[]
  resolved := Array.replicate 11 none
  statics := none }

def pool6 : Array CpInfo := pool [(1, .class_ 2), (0, u "java/lang/Comparable"), (0, .class_ 4), (0, u "java/lang/Object")] 7

/-- java/lang/Comparable -/
def k6 : Class := { plain "java/lang/Comparable" (some 0) with
  accessFlags := 1537
  interfaces := #[]
  cf := some (fileOf pool6 1 #[] #[] 1537 3 #[] #[])
  fields := #[]
  methods := #[]
  instanceTypes := #[]
  staticTypes := #[]
  resolved := Array.replicate 12 none
  statics := none }

def pool7 : Array CpInfo := pool [(2, .class_ 4), (1, u "java/lang/Enum"), (0, u "name"), (0, u "Ljava/lang/String;"), (2, u "ordinal"), (0, u "I"), (1, .class_ 14), (1, u "java/lang/Object"), (4, u "hash"), (86, .class_ 108), (1, u "java/lang/Enum$EnumDesc"), (2, .class_ 112), (0, u "java/lang/constant/Constable"), (0, .class_ 114), (0, u "java/lang/Comparable"), (0, .class_ 116), (0, u "java/io/Serializable")] 87

/-- java/lang/Enum -/
def k7 : Class := { plain "java/lang/Enum" (some 0) with
  accessFlags := 1057
  interfaces := #[5, 6, 3]
  cf := some (fileOf pool7 2 #[.nestMembers #[106]] #[] 1057 12 #[111, 113, 115] #[{ accessFlags := 18, nameIndex := 5, descriptorIndex := 6, attributes := #[] }, { accessFlags := 18, nameIndex := 9, descriptorIndex := 10, attributes := #[] }, { accessFlags := 2, nameIndex := 19, descriptorIndex := 10, attributes := #[] }])
  fields := #[{ name := "name", type := (.object "java/lang/String"), accessFlags := 18, slot := 0, constantValue := 0 }, { name := "ordinal", type := .int, accessFlags := 18, slot := 1, constantValue := 0 }, { name := "hash", type := .int, accessFlags := 2, slot := 2, constantValue := 0 }]
  methods := #[]
  instanceTypes := #[(.object "java/lang/String"), .int, .int]
  staticTypes := #[]
  resolved := Array.replicate 204 none
  statics := none }

def pool8 : Array CpInfo := pool [(1, .class_ 2), (0, u "com/example/hot_gate/hotgate/bench/Outcome"), (2, u "ACCEPTED"), (0, u "Lcom/example/hot_gate/hotgate/bench/Outcome;"), (2, u "ALREADY_CLAIMED"), (2, u "SOLD_OUT"), (2, u "ERROR"), (2, u "$VALUES"), (0, u "[Lcom/example/hot_gate/hotgate/bench/Outcome;"), (6, .class_ 28), (1, u "java/lang/Enum"), (8, u "field"), (0, u "Ljava/lang/String;"), (2, u "reply"), (0, u "Lcom/example/hot_gate/hotgate/api/Status;")] 58

/-- com/example/hot_gate/hotgate/bench/Outcome -/
def k8 : Class := { plain "com/example/hot_gate/hotgate/bench/Outcome" (some 7) with
  accessFlags := 16432
  interfaces := #[]
  cf := some (fileOf pool8 1 #[] #[] 16432 26 #[] #[{ accessFlags := 16409, nameIndex := 5, descriptorIndex := 6, attributes := #[] }, { accessFlags := 16409, nameIndex := 9, descriptorIndex := 6, attributes := #[] }, { accessFlags := 16409, nameIndex := 12, descriptorIndex := 6, attributes := #[] }, { accessFlags := 16409, nameIndex := 15, descriptorIndex := 6, attributes := #[] }, { accessFlags := 18, nameIndex := 37, descriptorIndex := 38, attributes := #[] }, { accessFlags := 18, nameIndex := 41, descriptorIndex := 42, attributes := #[] }, { accessFlags := 4122, nameIndex := 18, descriptorIndex := 19, attributes := #[] }])
  fields := #[{ name := "ACCEPTED", type := (.object "com/example/hot_gate/hotgate/bench/Outcome"), accessFlags := 16409, slot := 0, constantValue := 0 }, { name := "ALREADY_CLAIMED", type := (.object "com/example/hot_gate/hotgate/bench/Outcome"), accessFlags := 16409, slot := 1, constantValue := 0 }, { name := "SOLD_OUT", type := (.object "com/example/hot_gate/hotgate/bench/Outcome"), accessFlags := 16409, slot := 2, constantValue := 0 }, { name := "ERROR", type := (.object "com/example/hot_gate/hotgate/bench/Outcome"), accessFlags := 16409, slot := 3, constantValue := 0 }, { name := "field", type := (.object "java/lang/String"), accessFlags := 18, slot := 3, constantValue := 0 }, { name := "reply", type := (.object "com/example/hot_gate/hotgate/api/Status"), accessFlags := 18, slot := 4, constantValue := 0 }, { name := "$VALUES", type := (.array (.object "com/example/hot_gate/hotgate/bench/Outcome")), accessFlags := 4122, slot := 4, constantValue := 0 }]
  methods := #[]
  instanceTypes := #[(.object "java/lang/String"), .int, .int, (.object "java/lang/String"), (.object "com/example/hot_gate/hotgate/api/Status")]
  staticTypes := #[(.object "com/example/hot_gate/hotgate/bench/Outcome"), (.object "com/example/hot_gate/hotgate/bench/Outcome"), (.object "com/example/hot_gate/hotgate/bench/Outcome"), (.object "com/example/hot_gate/hotgate/bench/Outcome"), (.array (.object "com/example/hot_gate/hotgate/bench/Outcome"))]
  resolved := Array.replicate 101 none
  statics := none }

def pool9 : Array CpInfo := pool [(1, .class_ 2), (0, u "java/lang/Math"), (1, .class_ 6), (1, u "java/lang/Object"), (0, u "<init>"), (0, u "()V"), (89, .class_ 100), (1, u "java/lang/Math$RandomNumberGeneratorHolder"), (20, u "(JJ)J"), (50, u "negativeZeroFloatBits"), (0, u "J"), (2, u "negativeZeroDoubleBits"), (24, u "min"), (43, u "$assertionsDisabled"), (0, u "Z"), (91, u "twoToTheDoubleScaleDown"), (0, u "D"), (4, u "twoToTheDoubleScaleUp"), (9, u "E"), (3, u "PI"), (2, u "TAU"), (2, u "DEGREES_TO_RADIANS"), (0, u "RADIANS_TO_DEGREES")] 94

def k9m0 : Method := { name := "<init>", desc := "()V", sig := { parameters := [], returnType := none }, accessFlags := 2, code := none }
def k9c1 : Code := { maxStack := 4, maxLocals := 4, code := jdk_29_method_70_code, exceptionTable := #[], attributes := #[] }
def k9m1 : Method := { name := "min", desc := "(JJ)J", sig := { parameters := [.long, .long], returnType := some .long }, accessFlags := 9, code := some k9c1 }
/-- java/lang/Math -/
def k9 : Class := { plain "java/lang/Math" (some 0) with
  accessFlags := 49
  interfaces := #[]
  cf := some (fileOf pool9 1 #[.nestMembers #[98]] #[{ accessFlags := 2, nameIndex := 7, descriptorIndex := 8, attributes := #[] }, { accessFlags := 9, nameIndex := 201, descriptorIndex := 121, attributes := #[] }] 49 4 #[] #[{ accessFlags := 25, nameIndex := 354, descriptorIndex := 339, attributes := #[] }, { accessFlags := 25, nameIndex := 358, descriptorIndex := 339, attributes := #[] }, { accessFlags := 25, nameIndex := 361, descriptorIndex := 339, attributes := #[] }, { accessFlags := 26, nameIndex := 364, descriptorIndex := 339, attributes := #[] }, { accessFlags := 26, nameIndex := 365, descriptorIndex := 339, attributes := #[] }, { accessFlags := 26, nameIndex := 172, descriptorIndex := 173, attributes := #[] }, { accessFlags := 26, nameIndex := 176, descriptorIndex := 173, attributes := #[] }, { accessFlags := 8, nameIndex := 344, descriptorIndex := 339, attributes := #[] }, { accessFlags := 8, nameIndex := 338, descriptorIndex := 339, attributes := #[] }, { accessFlags := 4120, nameIndex := 245, descriptorIndex := 246, attributes := #[] }])
  fields := #[{ name := "E", type := .double, accessFlags := 25, slot := 0, constantValue := 0 }, { name := "PI", type := .double, accessFlags := 25, slot := 1, constantValue := 0 }, { name := "TAU", type := .double, accessFlags := 25, slot := 2, constantValue := 0 }, { name := "DEGREES_TO_RADIANS", type := .double, accessFlags := 26, slot := 3, constantValue := 0 }, { name := "RADIANS_TO_DEGREES", type := .double, accessFlags := 26, slot := 4, constantValue := 0 }, { name := "negativeZeroFloatBits", type := .long, accessFlags := 26, slot := 5, constantValue := 0 }, { name := "negativeZeroDoubleBits", type := .long, accessFlags := 26, slot := 6, constantValue := 0 }, { name := "twoToTheDoubleScaleUp", type := .double, accessFlags := 8, slot := 7, constantValue := 0 }, { name := "twoToTheDoubleScaleDown", type := .double, accessFlags := 8, slot := 8, constantValue := 0 }, { name := "$assertionsDisabled", type := .boolean, accessFlags := 4120, slot := 9, constantValue := 0 }]
  methods := #[k9m0, k9m1]
  instanceTypes := #[]
  staticTypes := #[.double, .double, .double, .double, .double, .long, .long, .double, .double, .boolean]
  resolved := Array.replicate 460 none
  statics := none }

def pool10 : Array CpInfo := pool [(1, u "java/lang/Cloneable"), (0, .class_ 1), (0, u "java/lang/Object"), (0, .class_ 3)] 3

/-- java/lang/Cloneable -/
def k10 : Class := { plain "java/lang/Cloneable" (some 0) with
  accessFlags := 1537
  interfaces := #[]
  cf := some (fileOf pool10 2 #[] #[] 1537 4 #[] #[])
  fields := #[]
  methods := #[]
  instanceTypes := #[]
  staticTypes := #[]
  resolved := Array.replicate 8 none
  statics := none }

/-- the primitive byte -/
def k11 : Class := { plain "byte" none with kind := .primitive 'B', accessFlags := 0x411 }
/-- [B -/
def k12 : Class := { plain "[B" (some 0) with kind := .array 11 .byte, interfaces := #[10, 3], accessFlags := 1041 }

/-- the primitive int -/
def k13 : Class := { plain "int" none with kind := .primitive 'I', accessFlags := 0x411 }
/-- [I -/
def k14 : Class := { plain "[I" (some 0) with kind := .array 13 .int, interfaces := #[10, 3], accessFlags := 1041 }

/-- the primitive long -/
def k15 : Class := { plain "long" none with kind := .primitive 'J', accessFlags := 0x411 }
/-- [J -/
def k16 : Class := { plain "[J" (some 0) with kind := .array 15 .long, interfaces := #[10, 3], accessFlags := 1041 }

/-- [Lcom/example/hot_gate/hotgate/bench/Outcome; -/
def k17 : Class := { plain "[Lcom/example/hot_gate/hotgate/bench/Outcome;" (some 0) with kind := .array 8 (.object "com/example/hot_gate/hotgate/bench/Outcome"), interfaces := #[10, 3], accessFlags := 1041 }

def heap : Heap := #[]
def classes : Array Class := #[k0, k1, k2, k3, k4, k5, k6, k7, k8, k9, k10, k11, k12, k13, k14, k15, k16, k17]
def interned : List (Array UInt16 × Addr) := []
def slotsUsed : Nat := 0
def theMethod : MethodId := ⟨1, 1⟩
def args0 : Array Value := #[.int 63, .long 5, .long 6, .long 7, .long 8, .long 9]
def aboutOver (below : List Frame) : State where
  vm := { classes := classes, interned := interned.toArray }
  heap := heap
  slotsUsed := slotsUsed
  threads := #[{ frames := .invoking theMethod args0 :: below }]
def below0 : List Frame := [.native { method := ⟨0, 0⟩, args := #[] }]
def about1 : State := aboutOver below0
def p0 : Program := .bare "" "" ""
def e0 : Env := launch0.env 0 0 0
theorem w_frames : about1.frames = Frame.invoking theMethod args0 :: below0 := rfl
set_option maxRecDepth 65536 in
theorem w_args : argsFit about1.vm theMethod args0 = true := by decide +kernel
set_option maxRecDepth 65536 in
theorem w_heap : heapFits about1 = true := by decide +kernel
set_option maxRecDepth 65536 in
theorem w_runnable : about1.curStatus? = some .runnable := by decide +kernel
set_option maxRecDepth 65536 in
theorem w_alone : about1.alone = true := by decide +kernel
set_option maxRecDepth 65536 in
theorem w_named : about1.methodNamed? x = some theMethod := by decide +kernel
set_option maxRecDepth 65536 in
theorem w_hears : about1.hears theMethod below0 = true := by decide +kernel
set_option maxRecDepth 65536 in
theorem w_ripe : about1.ripe theMethod args0 below0 = true := by decide +kernel
theorem w_running : about1.status = .running := rfl
set_option maxRecDepth 65536 in
theorem w_room : about1.hasRoom e0.platform room_1 = true :=
  launch0.hasRoom_least _ room_1 (by decide +kernel) (by decide +kernel) (by decide +kernel) (by decide +kernel) (by decide +kernel) (by decide +kernel)
theorem allAtoms_all (ts : List Jvm.Cond) (a : Array Jvm.Value) (st : Jvm.State) : (allAtoms ts).before a st = ts.all (fun c => c.before a st) := by
  induction ts with
  | nil => rfl
  | cons c t ih =>
    show (Jvm.Cond.and c (allAtoms t)).before a st = _
    rw [Jvm.Cond.before_and, ih, List.all_cons]
def words1 : List Jvm.Cond := Jvm.Cond.code x code maxLocals ret :: tables_1
/-- a 'code' word, met by the world's own term for the bytes: nothing is compared byte by byte -/
theorem code_word {y : MethodName} {bytes : ByteArray} {mx : Nat} {rt : Option FieldType} {a : Array Value} {s : State} {m : MethodId} {meth : Method} {c : Code} (h1 : s.methodNamed? y = some m) (h2 : s.vm.method? m = some meth) (h3 : meth.code = some c) (h4 : c.code = bytes)
    (h5 : (c.maxLocals == mx && c.exceptionTable.isEmpty && decide (c.maxStack ≤ mostOperands) && decide (meth.sig.returnType = rt) && !meth.locks && decide (parseMethodDescriptor y.desc = some meth.sig)) = true) : (Jvm.Cond.code y bytes mx rt).before a s = true := by
  simp only [Bool.and_eq_true, beq_iff_eq, Bool.not_eq_true', decide_eq_true_eq] at h5
  obtain ⟨⟨⟨⟨⟨g1, g2⟩, g3⟩, g4⟩, g5⟩, g6⟩ := h5
  simp [Cond.before, Cond.holds, Cond.value, h1, h2, h3, h4, g1, g2, g3, g4, g5, g6]
def isCode : Jvm.Cond → Bool
  | .code _ _ _ _ => true
  | _ => false
theorem all_split {L : List Jvm.Cond} {P : Jvm.Cond → Bool} (h1 : L.all (fun c => isCode c || P c) = true) (h2 : ∀ c ∈ L.filter isCode, P c = true) : L.all P = true := by
  refine List.all_eq_true.mpr fun c hc => ?_
  have h := List.all_eq_true.mp h1 c hc
  rcases Bool.eq_false_or_eq_true (isCode c) with hi | hi
  · exact h2 c (List.mem_filter.mpr ⟨hc, hi⟩)
  · simpa [hi] using h
set_option maxRecDepth 65536 in
theorem w_c0 : (Jvm.Cond.code x code maxLocals ret).before args0 about1 = true := code_word (m := ⟨1, 1⟩) (meth := k1m1) (c := k1c1) (by decide +kernel) rfl rfl rfl (by decide +kernel)
set_option maxRecDepth 65536 in
theorem w_c1 : (Jvm.Cond.code ({ cls := "com/example/hot_gate/hotgate/bench/Replies", name := "<init>", desc := "(I)V" } : Jvm.MethodName) prog_12_method_1_code (2 : Nat) (Option.none : Option Jvm.ClassFile.FieldType)).before args0 about1 = true := code_word (m := ⟨2, 0⟩) (meth := k2m0) (c := k2c0) (by decide +kernel) rfl rfl rfl (by decide +kernel)
set_option maxRecDepth 65536 in
theorem w_c2 : (Jvm.Cond.code ({ cls := "java/lang/Object", name := "<init>", desc := "()V" } : Jvm.MethodName) object_method_1_code (1 : Nat) (Option.none : Option Jvm.ClassFile.FieldType)).before args0 about1 = true := code_word (m := ⟨0, 0⟩) (meth := k0m0) (c := k0c0) (by decide +kernel) rfl rfl rfl (by decide +kernel)
set_option maxRecDepth 65536 in
theorem w_c3 : (Jvm.Cond.code ({ cls := "java/util/concurrent/atomic/AtomicReference", name := "<init>", desc := "()V" } : Jvm.MethodName) jdk_2809_method_2_code (1 : Nat) (Option.none : Option Jvm.ClassFile.FieldType)).before args0 about1 = true := code_word (m := ⟨4, 0⟩) (meth := k4m0) (c := k4c0) (by decide +kernel) rfl rfl rfl (by decide +kernel)
set_option maxRecDepth 65536 in
theorem w_c4 : (Jvm.Cond.code ({ cls := "com/example/hot_gate/hotgate/bench/Replies", name := "firstSent", desc := "()J" } : Jvm.MethodName) prog_12_method_6_code (8 : Nat) (Option.some Jvm.ClassFile.FieldType.long)).before args0 about1 = true := code_word (m := ⟨2, 2⟩) (meth := k2m2) (c := k2c2) (by decide +kernel) rfl rfl rfl (by decide +kernel)
set_option maxRecDepth 65536 in
theorem w_c5 : (Jvm.Cond.code ({ cls := "com/example/hot_gate/hotgate/bench/Replies", name := "record", desc := "(IJJLcom/example/hot_gate/hotgate/bench/Outcome;Ljava/lang/String;)V" } : Jvm.MethodName) prog_12_method_3_code (8 : Nat) (Option.none : Option Jvm.ClassFile.FieldType)).before args0 about1 = true := code_word (m := ⟨2, 1⟩) (meth := k2m1) (c := k2c1) (by decide +kernel) rfl rfl rfl (by decide +kernel)
set_option maxRecDepth 65536 in
theorem w_c6 : (Jvm.Cond.code ({ cls := "java/lang/Math", name := "min", desc := "(JJ)J" } : Jvm.MethodName) jdk_29_method_70_code (4 : Nat) (Option.some Jvm.ClassFile.FieldType.long)).before args0 about1 = true := code_word (m := ⟨9, 1⟩) (meth := k9m1) (c := k9c1) (by decide +kernel) rfl rfl rfl (by decide +kernel)
def codes1 : List Jvm.Cond := [Jvm.Cond.code x code maxLocals ret, Jvm.Cond.code ({ cls := "com/example/hot_gate/hotgate/bench/Replies", name := "<init>", desc := "(I)V" } : Jvm.MethodName) prog_12_method_1_code (2 : Nat) (Option.none : Option Jvm.ClassFile.FieldType), Jvm.Cond.code ({ cls := "java/lang/Object", name := "<init>", desc := "()V" } : Jvm.MethodName) object_method_1_code (1 : Nat) (Option.none : Option Jvm.ClassFile.FieldType), Jvm.Cond.code ({ cls := "java/util/concurrent/atomic/AtomicReference", name := "<init>", desc := "()V" } : Jvm.MethodName) jdk_2809_method_2_code (1 : Nat) (Option.none : Option Jvm.ClassFile.FieldType), Jvm.Cond.code ({ cls := "com/example/hot_gate/hotgate/bench/Replies", name := "firstSent", desc := "()J" } : Jvm.MethodName) prog_12_method_6_code (8 : Nat) (Option.some Jvm.ClassFile.FieldType.long), Jvm.Cond.code ({ cls := "com/example/hot_gate/hotgate/bench/Replies", name := "record", desc := "(IJJLcom/example/hot_gate/hotgate/bench/Outcome;Ljava/lang/String;)V" } : Jvm.MethodName) prog_12_method_3_code (8 : Nat) (Option.none : Option Jvm.ClassFile.FieldType), Jvm.Cond.code ({ cls := "java/lang/Math", name := "min", desc := "(JJ)J" } : Jvm.MethodName) jdk_29_method_70_code (4 : Nat) (Option.some Jvm.ClassFile.FieldType.long)]
set_option maxRecDepth 65536 in
theorem codes_eq : words1.filter isCode = codes1 := rfl
theorem w_codes : ∀ c ∈ words1.filter isCode, c.before args0 about1 = true := by
  rw [codes_eq]
  intro c hc
  simp only [codes1, List.mem_cons, List.not_mem_nil, or_false] at hc
  rcases hc with rfl | rfl | rfl | rfl | rfl | rfl | rfl
  · exact w_c0
  · exact w_c1
  · exact w_c2
  · exact w_c3
  · exact w_c4
  · exact w_c5
  · exact w_c6
set_option maxRecDepth 65536 in
theorem w_t1 : (words1.take 24).all (fun c => isCode c || c.before args0 about1) = true := by decide +kernel
set_option maxRecDepth 65536 in
theorem w_t2 : (words1.drop 24).all (fun c => isCode c || c.before args0 about1) = true := by decide +kernel
theorem w_tables : (allAtoms (Jvm.Cond.code x code maxLocals ret :: tables_1)).before args0 about1 = true := by
  rw [allAtoms_all]
  show words1.all (fun c => c.before args0 about1) = true
  refine all_split ?_ w_codes
  rw [← List.take_append_drop 24 words1, List.all_append, w_t1, w_t2]
  rfl
set_option maxRecDepth 65536 in
theorem w_case : (Jvm.Cond.and given_1 narrow_1).before args0 about1 = true := by decide +kernel
theorem w_applies : (headSpec (Jvm.Cond.code x code maxLocals ret :: tables_1) room_1).applies x e0.platform about1 = true :=
  (Spec.applies_iff w_frames).mpr ⟨w_running, w_runnable, w_alone, w_named, w_hears, w_ripe, w_room, w_tables⟩
theorem atStart : AtStart classFile x code maxLocals ret World_1 tables_1 room_1 Calls_1 rest_1 Pre_1 launch0 p0 e0 about1 theMethod args0 below0 :=
  ⟨lists_1, trivial, launch0.admits_env _ _ _, launch0.least_env, fairChoices_fair.cas, fairChoices_fair.clock, w_frames, w_args, w_heap, w_applies, trivial, trivial, w_case⟩
end start1
theorem witness_1 : WitnessClaimed_1 := ⟨start1.p0, start1.e0, start1.about1, start1.theMethod, start1.args0, start1.below0, start1.atStart⟩
end Jvm.Pilot.@@N@@
