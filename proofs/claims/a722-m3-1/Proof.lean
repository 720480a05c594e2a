import JvmDerived
import JvmDerived.Pilot.@@N@@Statement
import JvmDerived.Pilot.@@N@@Code
set_option linter.unusedVariables false
set_option linter.unusedSimpArgs false
namespace Jvm.RoadKit
open Sem ClassFile Op Lib Jvm.Stand Jvm.Free Jvm.LawKit
section New
variable {p : Program} {l : Launch} {e : Env} {R : Room} {s : State} {m : MethodId} {args : Array Value} {below : List Frame} {meth : Method} {c : Code} {T : State} {locs : List Loc} {cells slots : Nat}
theorem retI (X : Stand p l e R s m args below meth c T locs cells slots) (hx : p.tables.exec = Jvm.exec) {pc : Nat} {Ls : Array Slot} {z : Int32} {rest : List Value} (hret : meth.sig.returnType = some .int) (hd : decode c.code pc = .ok (.ireturn, 1)) {fs : List Frame}
    (hl : ∀ (f : JFrame) (acts : List Action), f.method = m → f.locked = none → f.entered = [] → (doReturn e (T.setTop f) acts (some (.int z))).1 = T.setFrames fs) : Steps p.tables e below (T.setTop (mkF m pc Ls (.int z :: rest))) (T.setFrames fs) := by
  have hm' : T.vm.method? m = some meth := X.method'
  have hn : narrow .int (.int z) = .int z := rfl
  show Steps p.tables e below (T.setTop { method := m, pc := pc, locals := Ls, stack := _ :: rest, locked := none }) _
  jvm_step X.here [X.here.top, hx, hd, hm', hret, hn]
  first | (intro acts; rw [hl _ acts rfl rfl rfl]) | rw [hl _ _ rfl rfl rfl]
  exact Steps.refl _
end New
end Jvm.RoadKit
namespace Jvm.Pilot.@@N@@
open Jvm Jvm.ClassFile Sem Op Lib Jvm.Free Jvm.Stand Jvm.LawKit Jvm.RoadKit Bundle Jvm.Pilot.@@N@@.Jvm.D
theorem own_eq_int {a : Term} {n : Int32} {args : Array Value} {s : State} (h : (Jvm.Cond.eq a (.int n)).value args s none s [] = some true) : a.eval args s none [] s = some (.int n) := by
  obtain ⟨x, y, e1, e2, -, k⟩ := cmp_v (Or.inl h)
  cases (Term.int_eval n).symm.trans e2
  obtain ⟨z, rfl⟩ := k
  have q := gotT (Cond.eq_ints e1 e2) h
  rw [e1, q]
theorem own_eq_ref {a b : Term} {y : Addr} {args : Array Value} {s : State} (h : (Jvm.Cond.eq a b).value args s none s [] = some true) (hb : b.eval args s none [] s = some (.ref y)) : a.eval args s none [] s = some (.ref y) := by
  obtain ⟨x, y', e1, e2, -, k⟩ := cmp_v (Or.inl h)
  cases hb.symm.trans e2
  have q := gotT (eq_R e1 e2 k.2 rfl) h
  rw [e1, q]
theorem own_k0 : (0 : Int32).toInt = 0 := rfl
theorem own_k1 : (1 : Int32).toInt = 1 := rfl
theorem own_k2 : (2 : Int32).toInt = 2 := rfl
theorem own_k3 : (3 : Int32).toInt = 3 := rfl
theorem own_k4 : (4 : Int32).toInt = 4 := rfl
theorem own_k5 : (5 : Int32).toInt = 5 := rfl
theorem own_k6 : (6 : Int32).toInt = 6 := rfl
theorem own_k7 : (7 : Int32).toInt = 7 := rfl
theorem own_k8 : (8 : Int32).toInt = 8 := rfl
theorem own_k9 : (9 : Int32).toInt = 9 := rfl
theorem own_k10 : (10 : Int32).toInt = 10 := rfl
theorem own_k11 : (11 : Int32).toInt = 11 := rfl
theorem own_k12 : (12 : Int32).toInt = 12 := rfl
theorem own_mod13 (p : Int32) : ((p &&& (2147483647 : Int32)) % (13 : Int32)) = (0 : Int32) ∨ ((p &&& (2147483647 : Int32)) % (13 : Int32)) = (1 : Int32) ∨ ((p &&& (2147483647 : Int32)) % (13 : Int32)) = (2 : Int32) ∨ ((p &&& (2147483647 : Int32)) % (13 : Int32)) = (3 : Int32) ∨ ((p &&& (2147483647 : Int32)) % (13 : Int32)) = (4 : Int32) ∨ ((p &&& (2147483647 : Int32)) % (13 : Int32)) = (5 : Int32) ∨ ((p &&& (2147483647 : Int32)) % (13 : Int32)) = (6 : Int32) ∨ ((p &&& (2147483647 : Int32)) % (13 : Int32)) = (7 : Int32) ∨ ((p &&& (2147483647 : Int32)) % (13 : Int32)) = (8 : Int32) ∨ ((p &&& (2147483647 : Int32)) % (13 : Int32)) = (9 : Int32) ∨ ((p &&& (2147483647 : Int32)) % (13 : Int32)) = (10 : Int32) ∨ ((p &&& (2147483647 : Int32)) % (13 : Int32)) = (11 : Int32) ∨ ((p &&& (2147483647 : Int32)) % (13 : Int32)) = (12 : Int32) := by
  have h1 := c_mask p 2147483647 31 (by decide) (by decide)
  have h2 := (c_irem (p &&& 2147483647) 13 13 rfl).1 (by omega)
  simp only [← Int32.toInt_inj, own_k0, own_k1, own_k2, own_k3, own_k4, own_k5, own_k6, own_k7, own_k8, own_k9, own_k10, own_k11, own_k12]
  omega
theorem d1_0 : decode method_3_code 0 = .ok (.iload_n 0, 1) := by decide +kernel
theorem d1_1 : decode method_3_code 1 = .ok (.ifCond .ne 7, 3) := by decide +kernel
theorem d1_4 : decode method_3_code 4 = .ok (.getstatic 24, 3) := by decide +kernel
theorem d1_7 : decode method_3_code 7 = .ok (.areturn, 1) := by decide +kernel
theorem pn_1 : plainName "com/example/schemactl/schemactl/MigrationStateIsProblemPinLaw" = true := by first | (simp [plainName, overriddenIn]; done) | decide +kernel
theorem ef_rmp0 (m : MethodId)  : entryFrame m #[(.int (0 : Int32))] 1 = mkF m 0 #[.val (.int (0 : Int32))] [] := by first | (simp [entryFrame, mkF, argsToLocals, Value.category]; done) | rfl
def Qp0 (Z : State) (va : Addr) (h0 : Heap) (n0 : Nat) (v : Option Value) (h : Heap) (L : List Loc) : Prop := v = some (.ref va) ∧ Fr n0 L ∧ h = h0
set_option maxRecDepth 65536 in
set_option maxHeartbeats 40000000 in
theorem rmp0 (l : Launch) (Z : State) (a0 : Array Value) (hw : ∀ d ∈ tables_1, d.before a0 Z = true) (ws : List Jvm.Cond) (va : Addr) (h0 : Heap) (n0 : Nat) (O0 : Old Z n0 h0) (F0_ : Sta Z Z.heap "com/example/schemactl/schemactl/MigrationState" "APPLIED" "Lcom/example/schemactl/schemactl/MigrationState;" (.ref va)) :
    MetFree l (⟨"com/example/schemactl/schemactl/MigrationStateIsProblemPinLaw", "pick", "(I)Lcom/example/schemactl/schemactl/MigrationState;"⟩ : MethodName) (head1 (Jvm.Cond.code (⟨"com/example/schemactl/schemactl/MigrationStateIsProblemPinLaw", "pick", "(I)Lcom/example/schemactl/schemactl/MigrationState;"⟩ : MethodName) method_3_code 1 (some (.object "com/example/schemactl/schemactl/MigrationState")) :: ws) ({ frames := 0, cells := 0, slots := 0, locals := 0 } : Room)) (fun a U => a = #[(.int (0 : Int32))] ∧ Z.Warmed39 U.vm ∧ U.heap = h0) (fun _ _ _ _ _ => True) (fun _ U o U' => ∃ v L, o = .returned v ∧ Qp0 Z va h0 n0 v U'.heap L ∧ FrameEnd U o U' L ({ frames := 0, cells := 0, slots := 0, locals := 0 } : Room).cells ({ frames := 0, cells := 0, slots := 0, locals := 0 } : Room).slots) := by
  refine MetFree.of_bodySF (plainFor_of_name pn_1) hisR ?_
  intro p e s m args below meth c s₁ Bd hml0 hP hK
  obtain ⟨rfl, hZ, hh⟩ := hP
  have hx := Bd.exec
  have hby := Bd.bytes
  have hml : c.maxLocals = 1 := hml0
  have hown : s.vm.findClass "com/example/schemactl/schemactl/MigrationStateIsProblemPinLaw" = some m.cls := findClass_of_methodNamed Bd.named
  have hnm := (name_of_methodNamed Bd.named Bd.method).1
  have X0 : Stand p l e ({ frames := 0, cells := 0, slots := 0, locals := 0 } : Room) s m #[(.int (0 : Int32))] below meth c s₁ [] 0 0 := Stand.of_body Bd
  have e0 : s₁.heap = h0 := by rw [← hh, Bd.state]; rfl
  have N0 := Fr.nil n0
  have s0 : Steps p.tables e below (s₁.setTop (entryFrame m #[(.int (0 : Int32))] 1)) (s₁.setTop (mkF m 0 #[.val (.int (0 : Int32))] [])) := castTop (ef_rmp0 m ) (Steps.refl _)
  obtain ⟨T1, X1, e1, st1⟩ := getS2 X0 hx hZ hown (host := "") (Or.inl (hw _ (List.mem_of_getElem? (i := 5) rfl))) Via.refl e0 (F0_.ext O0.2) (g := (mkF m 4 #[.val (.int (0 : Int32))] [])) rfl (hb hby d1_4)
  have s2 : Steps p.tables e below (s₁.setTop (entryFrame m #[(.int (0 : Int32))] 1)) (T1.setTop (mkF m 7 #[.val (.int (0 : Int32))] [(.ref va)])) := by
    refine s0.trans ?_
    show Steps p.tables e below (s₁.setTop (mkF m 0 #[.val (.int (0 : Int32))] [])) _
    refine XS.iloadN X0.here hx rfl (hb hby d1_0) rfl ?_
    show Steps p.tables e below (s₁.setTop (mkF m 1 #[.val (.int (0 : Int32))] [(.int (0 : Int32))])) _
    refine XS.ifNo X0.here hx rfl (hb hby d1_1) rfl ((if0 _ _).trans (teq (by decide)).2) ?_
    show Steps p.tables e below (s₁.setTop (mkF m 4 #[.val (.int (0 : Int32))] [])) _
    refine st1 _ ?_
    exact Steps.refl _
  obtain ⟨fs, hr, hrun, hended, hW, hsame⟩ := X1.leave (v := some (.ref va)) (fun h => by rw [Bd.returns] at h; cases h)
  refine ⟨_, _, s2.trans ?_, hrun, hended, _, _, rfl, ?_, ⟨_, rfl⟩, hW, hsame.mono (by decide) (by decide)⟩
  · show Steps p.tables e below (T1.setTop (mkF m 7 #[.val (.int (0 : Int32))] [(.ref va)])) _
    jvm_step X1.here [X1.here.top, hx, (hb hby d1_7), X1.method', Bd.returns, Value.isRef, FieldType.isReference]
    first | (intro acts; rw [hr _ acts rfl rfl rfl]) | rw [hr _ _ rfl rfl rfl]
    exact Steps.refl _
  · show Qp0 Z va h0 n0 _ T1.heap _
    rw [e1]
    exact ⟨rfl, N0, rfl⟩
theorem d1_8 : decode method_3_code 8 = .ok (.iload_n 0, 1) := by decide +kernel
theorem d1_9 : decode method_3_code 9 = .ok (.iconst 1, 1) := by decide +kernel
theorem d1_10 : decode method_3_code 10 = .ok (.if_icmp .ne 7, 3) := by decide +kernel
theorem d1_13 : decode method_3_code 13 = .ok (.getstatic 28, 3) := by decide +kernel
theorem d1_16 : decode method_3_code 16 = .ok (.areturn, 1) := by decide +kernel
theorem ef_rmp1 (m : MethodId)  : entryFrame m #[(.int (1 : Int32))] 1 = mkF m 0 #[.val (.int (1 : Int32))] [] := by first | (simp [entryFrame, mkF, argsToLocals, Value.category]; done) | rfl
def Qp1 (Z : State) (va : Addr) (h0 : Heap) (n0 : Nat) (v : Option Value) (h : Heap) (L : List Loc) : Prop := v = some (.ref va) ∧ Fr n0 L ∧ h = h0
set_option maxRecDepth 65536 in
set_option maxHeartbeats 40000000 in
theorem rmp1 (l : Launch) (Z : State) (a0 : Array Value) (hw : ∀ d ∈ tables_1, d.before a0 Z = true) (ws : List Jvm.Cond) (va : Addr) (h0 : Heap) (n0 : Nat) (O0 : Old Z n0 h0) (F0_ : Sta Z Z.heap "com/example/schemactl/schemactl/MigrationState" "PENDING" "Lcom/example/schemactl/schemactl/MigrationState;" (.ref va)) :
    MetFree l (⟨"com/example/schemactl/schemactl/MigrationStateIsProblemPinLaw", "pick", "(I)Lcom/example/schemactl/schemactl/MigrationState;"⟩ : MethodName) (head1 (Jvm.Cond.code (⟨"com/example/schemactl/schemactl/MigrationStateIsProblemPinLaw", "pick", "(I)Lcom/example/schemactl/schemactl/MigrationState;"⟩ : MethodName) method_3_code 1 (some (.object "com/example/schemactl/schemactl/MigrationState")) :: ws) ({ frames := 0, cells := 0, slots := 0, locals := 0 } : Room)) (fun a U => a = #[(.int (1 : Int32))] ∧ Z.Warmed39 U.vm ∧ U.heap = h0) (fun _ _ _ _ _ => True) (fun _ U o U' => ∃ v L, o = .returned v ∧ Qp1 Z va h0 n0 v U'.heap L ∧ FrameEnd U o U' L ({ frames := 0, cells := 0, slots := 0, locals := 0 } : Room).cells ({ frames := 0, cells := 0, slots := 0, locals := 0 } : Room).slots) := by
  refine MetFree.of_bodySF (plainFor_of_name pn_1) hisR ?_
  intro p e s m args below meth c s₁ Bd hml0 hP hK
  obtain ⟨rfl, hZ, hh⟩ := hP
  have hx := Bd.exec
  have hby := Bd.bytes
  have hml : c.maxLocals = 1 := hml0
  have hown : s.vm.findClass "com/example/schemactl/schemactl/MigrationStateIsProblemPinLaw" = some m.cls := findClass_of_methodNamed Bd.named
  have hnm := (name_of_methodNamed Bd.named Bd.method).1
  have X0 : Stand p l e ({ frames := 0, cells := 0, slots := 0, locals := 0 } : Room) s m #[(.int (1 : Int32))] below meth c s₁ [] 0 0 := Stand.of_body Bd
  have e0 : s₁.heap = h0 := by rw [← hh, Bd.state]; rfl
  have N0 := Fr.nil n0
  have s0 : Steps p.tables e below (s₁.setTop (entryFrame m #[(.int (1 : Int32))] 1)) (s₁.setTop (mkF m 0 #[.val (.int (1 : Int32))] [])) := castTop (ef_rmp1 m ) (Steps.refl _)
  obtain ⟨T1, X1, e1, st1⟩ := getS2 X0 hx hZ hown (host := "") (Or.inl (hw _ (List.mem_of_getElem? (i := 36) rfl))) Via.refl e0 (F0_.ext O0.2) (g := (mkF m 13 #[.val (.int (1 : Int32))] [])) rfl (hb hby d1_13)
  have s2 : Steps p.tables e below (s₁.setTop (entryFrame m #[(.int (1 : Int32))] 1)) (T1.setTop (mkF m 16 #[.val (.int (1 : Int32))] [(.ref va)])) := by
    refine s0.trans ?_
    show Steps p.tables e below (s₁.setTop (mkF m 0 #[.val (.int (1 : Int32))] [])) _
    refine XS.iloadN X0.here hx rfl (hb hby d1_0) rfl ?_
    show Steps p.tables e below (s₁.setTop (mkF m 1 #[.val (.int (1 : Int32))] [(.int (1 : Int32))])) _
    refine XS.ifYes X0.here hx rfl (pc0 := 1) (pc' := 8) rfl (hb hby d1_1) rfl ((if0 _ _).trans (feq (by decide)).2) (by decide) (by decide) ?_
    show Steps p.tables e below (s₁.setTop (mkF m 8 #[.val (.int (1 : Int32))] [])) _
    refine XS.iloadN X0.here hx rfl (hb hby d1_8) rfl ?_
    show Steps p.tables e below (s₁.setTop (mkF m 9 #[.val (.int (1 : Int32))] [(.int (1 : Int32))])) _
    refine XS.iconst X0.here hx rfl (hb hby d1_9) ?_
    show Steps p.tables e below (s₁.setTop (mkF m 10 #[.val (.int (1 : Int32))] [(.int (1 : Int32)), (.int (1 : Int32))])) _
    refine XS.icmpNo X0.here hx rfl (hb hby d1_10) rfl (teq (by decide)).2 ?_
    show Steps p.tables e below (s₁.setTop (mkF m 13 #[.val (.int (1 : Int32))] [])) _
    refine st1 _ ?_
    exact Steps.refl _
  obtain ⟨fs, hr, hrun, hended, hW, hsame⟩ := X1.leave (v := some (.ref va)) (fun h => by rw [Bd.returns] at h; cases h)
  refine ⟨_, _, s2.trans ?_, hrun, hended, _, _, rfl, ?_, ⟨_, rfl⟩, hW, hsame.mono (by decide) (by decide)⟩
  · show Steps p.tables e below (T1.setTop (mkF m 16 #[.val (.int (1 : Int32))] [(.ref va)])) _
    jvm_step X1.here [X1.here.top, hx, (hb hby d1_16), X1.method', Bd.returns, Value.isRef, FieldType.isReference]
    first | (intro acts; rw [hr _ acts rfl rfl rfl]) | rw [hr _ _ rfl rfl rfl]
    exact Steps.refl _
  · show Qp1 Z va h0 n0 _ T1.heap _
    rw [e1]
    exact ⟨rfl, N0, rfl⟩
theorem d1_17 : decode method_3_code 17 = .ok (.iload_n 0, 1) := by decide +kernel
theorem d1_18 : decode method_3_code 18 = .ok (.iconst 2, 1) := by decide +kernel
theorem d1_19 : decode method_3_code 19 = .ok (.if_icmp .ne 7, 3) := by decide +kernel
theorem d1_22 : decode method_3_code 22 = .ok (.getstatic 31, 3) := by decide +kernel
theorem d1_25 : decode method_3_code 25 = .ok (.areturn, 1) := by decide +kernel
theorem ef_rmp2 (m : MethodId)  : entryFrame m #[(.int (2 : Int32))] 1 = mkF m 0 #[.val (.int (2 : Int32))] [] := by first | (simp [entryFrame, mkF, argsToLocals, Value.category]; done) | rfl
def Qp2 (Z : State) (va : Addr) (h0 : Heap) (n0 : Nat) (v : Option Value) (h : Heap) (L : List Loc) : Prop := v = some (.ref va) ∧ Fr n0 L ∧ h = h0
set_option maxRecDepth 65536 in
set_option maxHeartbeats 40000000 in
theorem rmp2 (l : Launch) (Z : State) (a0 : Array Value) (hw : ∀ d ∈ tables_1, d.before a0 Z = true) (ws : List Jvm.Cond) (va : Addr) (h0 : Heap) (n0 : Nat) (O0 : Old Z n0 h0) (F0_ : Sta Z Z.heap "com/example/schemactl/schemactl/MigrationState" "OUTDATED" "Lcom/example/schemactl/schemactl/MigrationState;" (.ref va)) :
    MetFree l (⟨"com/example/schemactl/schemactl/MigrationStateIsProblemPinLaw", "pick", "(I)Lcom/example/schemactl/schemactl/MigrationState;"⟩ : MethodName) (head1 (Jvm.Cond.code (⟨"com/example/schemactl/schemactl/MigrationStateIsProblemPinLaw", "pick", "(I)Lcom/example/schemactl/schemactl/MigrationState;"⟩ : MethodName) method_3_code 1 (some (.object "com/example/schemactl/schemactl/MigrationState")) :: ws) ({ frames := 0, cells := 0, slots := 0, locals := 0 } : Room)) (fun a U => a = #[(.int (2 : Int32))] ∧ Z.Warmed39 U.vm ∧ U.heap = h0) (fun _ _ _ _ _ => True) (fun _ U o U' => ∃ v L, o = .returned v ∧ Qp2 Z va h0 n0 v U'.heap L ∧ FrameEnd U o U' L ({ frames := 0, cells := 0, slots := 0, locals := 0 } : Room).cells ({ frames := 0, cells := 0, slots := 0, locals := 0 } : Room).slots) := by
  refine MetFree.of_bodySF (plainFor_of_name pn_1) hisR ?_
  intro p e s m args below meth c s₁ Bd hml0 hP hK
  obtain ⟨rfl, hZ, hh⟩ := hP
  have hx := Bd.exec
  have hby := Bd.bytes
  have hml : c.maxLocals = 1 := hml0
  have hown : s.vm.findClass "com/example/schemactl/schemactl/MigrationStateIsProblemPinLaw" = some m.cls := findClass_of_methodNamed Bd.named
  have hnm := (name_of_methodNamed Bd.named Bd.method).1
  have X0 : Stand p l e ({ frames := 0, cells := 0, slots := 0, locals := 0 } : Room) s m #[(.int (2 : Int32))] below meth c s₁ [] 0 0 := Stand.of_body Bd
  have e0 : s₁.heap = h0 := by rw [← hh, Bd.state]; rfl
  have N0 := Fr.nil n0
  have s0 : Steps p.tables e below (s₁.setTop (entryFrame m #[(.int (2 : Int32))] 1)) (s₁.setTop (mkF m 0 #[.val (.int (2 : Int32))] [])) := castTop (ef_rmp2 m ) (Steps.refl _)
  obtain ⟨T1, X1, e1, st1⟩ := getS2 X0 hx hZ hown (host := "") (Or.inl (hw _ (List.mem_of_getElem? (i := 32) rfl))) Via.refl e0 (F0_.ext O0.2) (g := (mkF m 22 #[.val (.int (2 : Int32))] [])) rfl (hb hby d1_22)
  have s2 : Steps p.tables e below (s₁.setTop (entryFrame m #[(.int (2 : Int32))] 1)) (T1.setTop (mkF m 25 #[.val (.int (2 : Int32))] [(.ref va)])) := by
    refine s0.trans ?_
    show Steps p.tables e below (s₁.setTop (mkF m 0 #[.val (.int (2 : Int32))] [])) _
    refine XS.iloadN X0.here hx rfl (hb hby d1_0) rfl ?_
    show Steps p.tables e below (s₁.setTop (mkF m 1 #[.val (.int (2 : Int32))] [(.int (2 : Int32))])) _
    refine XS.ifYes X0.here hx rfl (pc0 := 1) (pc' := 8) rfl (hb hby d1_1) rfl ((if0 _ _).trans (feq (by decide)).2) (by decide) (by decide) ?_
    show Steps p.tables e below (s₁.setTop (mkF m 8 #[.val (.int (2 : Int32))] [])) _
    refine XS.iloadN X0.here hx rfl (hb hby d1_8) rfl ?_
    show Steps p.tables e below (s₁.setTop (mkF m 9 #[.val (.int (2 : Int32))] [(.int (2 : Int32))])) _
    refine XS.iconst X0.here hx rfl (hb hby d1_9) ?_
    show Steps p.tables e below (s₁.setTop (mkF m 10 #[.val (.int (2 : Int32))] [(.int (1 : Int32)), (.int (2 : Int32))])) _
    refine XS.icmpYes X0.here hx rfl (pc0 := 10) (pc' := 17) rfl (hb hby d1_10) rfl (feq (by decide)).2 (by decide) (by decide) ?_
    show Steps p.tables e below (s₁.setTop (mkF m 17 #[.val (.int (2 : Int32))] [])) _
    refine XS.iloadN X0.here hx rfl (hb hby d1_17) rfl ?_
    show Steps p.tables e below (s₁.setTop (mkF m 18 #[.val (.int (2 : Int32))] [(.int (2 : Int32))])) _
    refine XS.iconst X0.here hx rfl (hb hby d1_18) ?_
    show Steps p.tables e below (s₁.setTop (mkF m 19 #[.val (.int (2 : Int32))] [(.int (2 : Int32)), (.int (2 : Int32))])) _
    refine XS.icmpNo X0.here hx rfl (hb hby d1_19) rfl (teq (by decide)).2 ?_
    show Steps p.tables e below (s₁.setTop (mkF m 22 #[.val (.int (2 : Int32))] [])) _
    refine st1 _ ?_
    exact Steps.refl _
  obtain ⟨fs, hr, hrun, hended, hW, hsame⟩ := X1.leave (v := some (.ref va)) (fun h => by rw [Bd.returns] at h; cases h)
  refine ⟨_, _, s2.trans ?_, hrun, hended, _, _, rfl, ?_, ⟨_, rfl⟩, hW, hsame.mono (by decide) (by decide)⟩
  · show Steps p.tables e below (T1.setTop (mkF m 25 #[.val (.int (2 : Int32))] [(.ref va)])) _
    jvm_step X1.here [X1.here.top, hx, (hb hby d1_25), X1.method', Bd.returns, Value.isRef, FieldType.isReference]
    first | (intro acts; rw [hr _ acts rfl rfl rfl]) | rw [hr _ _ rfl rfl rfl]
    exact Steps.refl _
  · show Qp2 Z va h0 n0 _ T1.heap _
    rw [e1]
    exact ⟨rfl, N0, rfl⟩
theorem d1_26 : decode method_3_code 26 = .ok (.iload_n 0, 1) := by decide +kernel
theorem d1_27 : decode method_3_code 27 = .ok (.iconst 3, 1) := by decide +kernel
theorem d1_28 : decode method_3_code 28 = .ok (.if_icmp .ne 7, 3) := by decide +kernel
theorem d1_31 : decode method_3_code 31 = .ok (.getstatic 34, 3) := by decide +kernel
theorem d1_34 : decode method_3_code 34 = .ok (.areturn, 1) := by decide +kernel
theorem ef_rmp3 (m : MethodId)  : entryFrame m #[(.int (3 : Int32))] 1 = mkF m 0 #[.val (.int (3 : Int32))] [] := by first | (simp [entryFrame, mkF, argsToLocals, Value.category]; done) | rfl
def Qp3 (Z : State) (va : Addr) (h0 : Heap) (n0 : Nat) (v : Option Value) (h : Heap) (L : List Loc) : Prop := v = some (.ref va) ∧ Fr n0 L ∧ h = h0
set_option maxRecDepth 65536 in
set_option maxHeartbeats 40000000 in
theorem rmp3 (l : Launch) (Z : State) (a0 : Array Value) (hw : ∀ d ∈ tables_1, d.before a0 Z = true) (ws : List Jvm.Cond) (va : Addr) (h0 : Heap) (n0 : Nat) (O0 : Old Z n0 h0) (F0_ : Sta Z Z.heap "com/example/schemactl/schemactl/MigrationState" "CHANGED" "Lcom/example/schemactl/schemactl/MigrationState;" (.ref va)) :
    MetFree l (⟨"com/example/schemactl/schemactl/MigrationStateIsProblemPinLaw", "pick", "(I)Lcom/example/schemactl/schemactl/MigrationState;"⟩ : MethodName) (head1 (Jvm.Cond.code (⟨"com/example/schemactl/schemactl/MigrationStateIsProblemPinLaw", "pick", "(I)Lcom/example/schemactl/schemactl/MigrationState;"⟩ : MethodName) method_3_code 1 (some (.object "com/example/schemactl/schemactl/MigrationState")) :: ws) ({ frames := 0, cells := 0, slots := 0, locals := 0 } : Room)) (fun a U => a = #[(.int (3 : Int32))] ∧ Z.Warmed39 U.vm ∧ U.heap = h0) (fun _ _ _ _ _ => True) (fun _ U o U' => ∃ v L, o = .returned v ∧ Qp3 Z va h0 n0 v U'.heap L ∧ FrameEnd U o U' L ({ frames := 0, cells := 0, slots := 0, locals := 0 } : Room).cells ({ frames := 0, cells := 0, slots := 0, locals := 0 } : Room).slots) := by
  refine MetFree.of_bodySF (plainFor_of_name pn_1) hisR ?_
  intro p e s m args below meth c s₁ Bd hml0 hP hK
  obtain ⟨rfl, hZ, hh⟩ := hP
  have hx := Bd.exec
  have hby := Bd.bytes
  have hml : c.maxLocals = 1 := hml0
  have hown : s.vm.findClass "com/example/schemactl/schemactl/MigrationStateIsProblemPinLaw" = some m.cls := findClass_of_methodNamed Bd.named
  have hnm := (name_of_methodNamed Bd.named Bd.method).1
  have X0 : Stand p l e ({ frames := 0, cells := 0, slots := 0, locals := 0 } : Room) s m #[(.int (3 : Int32))] below meth c s₁ [] 0 0 := Stand.of_body Bd
  have e0 : s₁.heap = h0 := by rw [← hh, Bd.state]; rfl
  have N0 := Fr.nil n0
  have s0 : Steps p.tables e below (s₁.setTop (entryFrame m #[(.int (3 : Int32))] 1)) (s₁.setTop (mkF m 0 #[.val (.int (3 : Int32))] [])) := castTop (ef_rmp3 m ) (Steps.refl _)
  obtain ⟨T1, X1, e1, st1⟩ := getS2 X0 hx hZ hown (host := "") (Or.inl (hw _ (List.mem_of_getElem? (i := 22) rfl))) Via.refl e0 (F0_.ext O0.2) (g := (mkF m 31 #[.val (.int (3 : Int32))] [])) rfl (hb hby d1_31)
  have s2 : Steps p.tables e below (s₁.setTop (entryFrame m #[(.int (3 : Int32))] 1)) (T1.setTop (mkF m 34 #[.val (.int (3 : Int32))] [(.ref va)])) := by
    refine s0.trans ?_
    show Steps p.tables e below (s₁.setTop (mkF m 0 #[.val (.int (3 : Int32))] [])) _
    refine XS.iloadN X0.here hx rfl (hb hby d1_0) rfl ?_
    show Steps p.tables e below (s₁.setTop (mkF m 1 #[.val (.int (3 : Int32))] [(.int (3 : Int32))])) _
    refine XS.ifYes X0.here hx rfl (pc0 := 1) (pc' := 8) rfl (hb hby d1_1) rfl ((if0 _ _).trans (feq (by decide)).2) (by decide) (by decide) ?_
    show Steps p.tables e below (s₁.setTop (mkF m 8 #[.val (.int (3 : Int32))] [])) _
    refine XS.iloadN X0.here hx rfl (hb hby d1_8) rfl ?_
    show Steps p.tables e below (s₁.setTop (mkF m 9 #[.val (.int (3 : Int32))] [(.int (3 : Int32))])) _
    refine XS.iconst X0.here hx rfl (hb hby d1_9) ?_
    show Steps p.tables e below (s₁.setTop (mkF m 10 #[.val (.int (3 : Int32))] [(.int (1 : Int32)), (.int (3 : Int32))])) _
    refine XS.icmpYes X0.here hx rfl (pc0 := 10) (pc' := 17) rfl (hb hby d1_10) rfl (feq (by decide)).2 (by decide) (by decide) ?_
    show Steps p.tables e below (s₁.setTop (mkF m 17 #[.val (.int (3 : Int32))] [])) _
    refine XS.iloadN X0.here hx rfl (hb hby d1_17) rfl ?_
    show Steps p.tables e below (s₁.setTop (mkF m 18 #[.val (.int (3 : Int32))] [(.int (3 : Int32))])) _
    refine XS.iconst X0.here hx rfl (hb hby d1_18) ?_
    show Steps p.tables e below (s₁.setTop (mkF m 19 #[.val (.int (3 : Int32))] [(.int (2 : Int32)), (.int (3 : Int32))])) _
    refine XS.icmpYes X0.here hx rfl (pc0 := 19) (pc' := 26) rfl (hb hby d1_19) rfl (feq (by decide)).2 (by decide) (by decide) ?_
    show Steps p.tables e below (s₁.setTop (mkF m 26 #[.val (.int (3 : Int32))] [])) _
    refine XS.iloadN X0.here hx rfl (hb hby d1_26) rfl ?_
    show Steps p.tables e below (s₁.setTop (mkF m 27 #[.val (.int (3 : Int32))] [(.int (3 : Int32))])) _
    refine XS.iconst X0.here hx rfl (hb hby d1_27) ?_
    show Steps p.tables e below (s₁.setTop (mkF m 28 #[.val (.int (3 : Int32))] [(.int (3 : Int32)), (.int (3 : Int32))])) _
    refine XS.icmpNo X0.here hx rfl (hb hby d1_28) rfl (teq (by decide)).2 ?_
    show Steps p.tables e below (s₁.setTop (mkF m 31 #[.val (.int (3 : Int32))] [])) _
    refine st1 _ ?_
    exact Steps.refl _
  obtain ⟨fs, hr, hrun, hended, hW, hsame⟩ := X1.leave (v := some (.ref va)) (fun h => by rw [Bd.returns] at h; cases h)
  refine ⟨_, _, s2.trans ?_, hrun, hended, _, _, rfl, ?_, ⟨_, rfl⟩, hW, hsame.mono (by decide) (by decide)⟩
  · show Steps p.tables e below (T1.setTop (mkF m 34 #[.val (.int (3 : Int32))] [(.ref va)])) _
    jvm_step X1.here [X1.here.top, hx, (hb hby d1_34), X1.method', Bd.returns, Value.isRef, FieldType.isReference]
    first | (intro acts; rw [hr _ acts rfl rfl rfl]) | rw [hr _ _ rfl rfl rfl]
    exact Steps.refl _
  · show Qp3 Z va h0 n0 _ T1.heap _
    rw [e1]
    exact ⟨rfl, N0, rfl⟩
theorem d1_35 : decode method_3_code 35 = .ok (.iload_n 0, 1) := by decide +kernel
theorem d1_36 : decode method_3_code 36 = .ok (.iconst 4, 1) := by decide +kernel
theorem d1_37 : decode method_3_code 37 = .ok (.if_icmp .ne 7, 3) := by decide +kernel
theorem d1_40 : decode method_3_code 40 = .ok (.getstatic 37, 3) := by decide +kernel
theorem d1_43 : decode method_3_code 43 = .ok (.areturn, 1) := by decide +kernel
theorem ef_rmp4 (m : MethodId)  : entryFrame m #[(.int (4 : Int32))] 1 = mkF m 0 #[.val (.int (4 : Int32))] [] := by first | (simp [entryFrame, mkF, argsToLocals, Value.category]; done) | rfl
def Qp4 (Z : State) (va : Addr) (h0 : Heap) (n0 : Nat) (v : Option Value) (h : Heap) (L : List Loc) : Prop := v = some (.ref va) ∧ Fr n0 L ∧ h = h0
set_option maxRecDepth 65536 in
set_option maxHeartbeats 40000000 in
theorem rmp4 (l : Launch) (Z : State) (a0 : Array Value) (hw : ∀ d ∈ tables_1, d.before a0 Z = true) (ws : List Jvm.Cond) (va : Addr) (h0 : Heap) (n0 : Nat) (O0 : Old Z n0 h0) (F0_ : Sta Z Z.heap "com/example/schemactl/schemactl/MigrationState" "MISSING" "Lcom/example/schemactl/schemactl/MigrationState;" (.ref va)) :
    MetFree l (⟨"com/example/schemactl/schemactl/MigrationStateIsProblemPinLaw", "pick", "(I)Lcom/example/schemactl/schemactl/MigrationState;"⟩ : MethodName) (head1 (Jvm.Cond.code (⟨"com/example/schemactl/schemactl/MigrationStateIsProblemPinLaw", "pick", "(I)Lcom/example/schemactl/schemactl/MigrationState;"⟩ : MethodName) method_3_code 1 (some (.object "com/example/schemactl/schemactl/MigrationState")) :: ws) ({ frames := 0, cells := 0, slots := 0, locals := 0 } : Room)) (fun a U => a = #[(.int (4 : Int32))] ∧ Z.Warmed39 U.vm ∧ U.heap = h0) (fun _ _ _ _ _ => True) (fun _ U o U' => ∃ v L, o = .returned v ∧ Qp4 Z va h0 n0 v U'.heap L ∧ FrameEnd U o U' L ({ frames := 0, cells := 0, slots := 0, locals := 0 } : Room).cells ({ frames := 0, cells := 0, slots := 0, locals := 0 } : Room).slots) := by
  refine MetFree.of_bodySF (plainFor_of_name pn_1) hisR ?_
  intro p e s m args below meth c s₁ Bd hml0 hP hK
  obtain ⟨rfl, hZ, hh⟩ := hP
  have hx := Bd.exec
  have hby := Bd.bytes
  have hml : c.maxLocals = 1 := hml0
  have hown : s.vm.findClass "com/example/schemactl/schemactl/MigrationStateIsProblemPinLaw" = some m.cls := findClass_of_methodNamed Bd.named
  have hnm := (name_of_methodNamed Bd.named Bd.method).1
  have X0 : Stand p l e ({ frames := 0, cells := 0, slots := 0, locals := 0 } : Room) s m #[(.int (4 : Int32))] below meth c s₁ [] 0 0 := Stand.of_body Bd
  have e0 : s₁.heap = h0 := by rw [← hh, Bd.state]; rfl
  have N0 := Fr.nil n0
  have s0 : Steps p.tables e below (s₁.setTop (entryFrame m #[(.int (4 : Int32))] 1)) (s₁.setTop (mkF m 0 #[.val (.int (4 : Int32))] [])) := castTop (ef_rmp4 m ) (Steps.refl _)
  obtain ⟨T1, X1, e1, st1⟩ := getS2 X0 hx hZ hown (host := "") (Or.inl (hw _ (List.mem_of_getElem? (i := 44) rfl))) Via.refl e0 (F0_.ext O0.2) (g := (mkF m 40 #[.val (.int (4 : Int32))] [])) rfl (hb hby d1_40)
  have s2 : Steps p.tables e below (s₁.setTop (entryFrame m #[(.int (4 : Int32))] 1)) (T1.setTop (mkF m 43 #[.val (.int (4 : Int32))] [(.ref va)])) := by
    refine s0.trans ?_
    show Steps p.tables e below (s₁.setTop (mkF m 0 #[.val (.int (4 : Int32))] [])) _
    refine XS.iloadN X0.here hx rfl (hb hby d1_0) rfl ?_
    show Steps p.tables e below (s₁.setTop (mkF m 1 #[.val (.int (4 : Int32))] [(.int (4 : Int32))])) _
    refine XS.ifYes X0.here hx rfl (pc0 := 1) (pc' := 8) rfl (hb hby d1_1) rfl ((if0 _ _).trans (feq (by decide)).2) (by decide) (by decide) ?_
    show Steps p.tables e below (s₁.setTop (mkF m 8 #[.val (.int (4 : Int32))] [])) _
    refine XS.iloadN X0.here hx rfl (hb hby d1_8) rfl ?_
    show Steps p.tables e below (s₁.setTop (mkF m 9 #[.val (.int (4 : Int32))] [(.int (4 : Int32))])) _
    refine XS.iconst X0.here hx rfl (hb hby d1_9) ?_
    show Steps p.tables e below (s₁.setTop (mkF m 10 #[.val (.int (4 : Int32))] [(.int (1 : Int32)), (.int (4 : Int32))])) _
    refine XS.icmpYes X0.here hx rfl (pc0 := 10) (pc' := 17) rfl (hb hby d1_10) rfl (feq (by decide)).2 (by decide) (by decide) ?_
    show Steps p.tables e below (s₁.setTop (mkF m 17 #[.val (.int (4 : Int32))] [])) _
    refine XS.iloadN X0.here hx rfl (hb hby d1_17) rfl ?_
    show Steps p.tables e below (s₁.setTop (mkF m 18 #[.val (.int (4 : Int32))] [(.int (4 : Int32))])) _
    refine XS.iconst X0.here hx rfl (hb hby d1_18) ?_
    show Steps p.tables e below (s₁.setTop (mkF m 19 #[.val (.int (4 : Int32))] [(.int (2 : Int32)), (.int (4 : Int32))])) _
    refine XS.icmpYes X0.here hx rfl (pc0 := 19) (pc' := 26) rfl (hb hby d1_19) rfl (feq (by decide)).2 (by decide) (by decide) ?_
    show Steps p.tables e below (s₁.setTop (mkF m 26 #[.val (.int (4 : Int32))] [])) _
    refine XS.iloadN X0.here hx rfl (hb hby d1_26) rfl ?_
    show Steps p.tables e below (s₁.setTop (mkF m 27 #[.val (.int (4 : Int32))] [(.int (4 : Int32))])) _
    refine XS.iconst X0.here hx rfl (hb hby d1_27) ?_
    show Steps p.tables e below (s₁.setTop (mkF m 28 #[.val (.int (4 : Int32))] [(.int (3 : Int32)), (.int (4 : Int32))])) _
    refine XS.icmpYes X0.here hx rfl (pc0 := 28) (pc' := 35) rfl (hb hby d1_28) rfl (feq (by decide)).2 (by decide) (by decide) ?_
    show Steps p.tables e below (s₁.setTop (mkF m 35 #[.val (.int (4 : Int32))] [])) _
    refine XS.iloadN X0.here hx rfl (hb hby d1_35) rfl ?_
    show Steps p.tables e below (s₁.setTop (mkF m 36 #[.val (.int (4 : Int32))] [(.int (4 : Int32))])) _
    refine XS.iconst X0.here hx rfl (hb hby d1_36) ?_
    show Steps p.tables e below (s₁.setTop (mkF m 37 #[.val (.int (4 : Int32))] [(.int (4 : Int32)), (.int (4 : Int32))])) _
    refine XS.icmpNo X0.here hx rfl (hb hby d1_37) rfl (teq (by decide)).2 ?_
    show Steps p.tables e below (s₁.setTop (mkF m 40 #[.val (.int (4 : Int32))] [])) _
    refine st1 _ ?_
    exact Steps.refl _
  obtain ⟨fs, hr, hrun, hended, hW, hsame⟩ := X1.leave (v := some (.ref va)) (fun h => by rw [Bd.returns] at h; cases h)
  refine ⟨_, _, s2.trans ?_, hrun, hended, _, _, rfl, ?_, ⟨_, rfl⟩, hW, hsame.mono (by decide) (by decide)⟩
  · show Steps p.tables e below (T1.setTop (mkF m 43 #[.val (.int (4 : Int32))] [(.ref va)])) _
    jvm_step X1.here [X1.here.top, hx, (hb hby d1_43), X1.method', Bd.returns, Value.isRef, FieldType.isReference]
    first | (intro acts; rw [hr _ acts rfl rfl rfl]) | rw [hr _ _ rfl rfl rfl]
    exact Steps.refl _
  · show Qp4 Z va h0 n0 _ T1.heap _
    rw [e1]
    exact ⟨rfl, N0, rfl⟩
theorem d1_44 : decode method_3_code 44 = .ok (.iload_n 0, 1) := by decide +kernel
theorem d1_45 : decode method_3_code 45 = .ok (.iconst 5, 1) := by decide +kernel
theorem d1_46 : decode method_3_code 46 = .ok (.if_icmp .ne 7, 3) := by decide +kernel
theorem d1_49 : decode method_3_code 49 = .ok (.getstatic 40, 3) := by decide +kernel
theorem d1_52 : decode method_3_code 52 = .ok (.areturn, 1) := by decide +kernel
theorem ef_rmp5 (m : MethodId)  : entryFrame m #[(.int (5 : Int32))] 1 = mkF m 0 #[.val (.int (5 : Int32))] [] := by first | (simp [entryFrame, mkF, argsToLocals, Value.category]; done) | rfl
def Qp5 (Z : State) (va : Addr) (h0 : Heap) (n0 : Nat) (v : Option Value) (h : Heap) (L : List Loc) : Prop := v = some (.ref va) ∧ Fr n0 L ∧ h = h0
set_option maxRecDepth 65536 in
set_option maxHeartbeats 40000000 in
theorem rmp5 (l : Launch) (Z : State) (a0 : Array Value) (hw : ∀ d ∈ tables_1, d.before a0 Z = true) (ws : List Jvm.Cond) (va : Addr) (h0 : Heap) (n0 : Nat) (O0 : Old Z n0 h0) (F0_ : Sta Z Z.heap "com/example/schemactl/schemactl/MigrationState" "NEWER" "Lcom/example/schemactl/schemactl/MigrationState;" (.ref va)) :
    MetFree l (⟨"com/example/schemactl/schemactl/MigrationStateIsProblemPinLaw", "pick", "(I)Lcom/example/schemactl/schemactl/MigrationState;"⟩ : MethodName) (head1 (Jvm.Cond.code (⟨"com/example/schemactl/schemactl/MigrationStateIsProblemPinLaw", "pick", "(I)Lcom/example/schemactl/schemactl/MigrationState;"⟩ : MethodName) method_3_code 1 (some (.object "com/example/schemactl/schemactl/MigrationState")) :: ws) ({ frames := 0, cells := 0, slots := 0, locals := 0 } : Room)) (fun a U => a = #[(.int (5 : Int32))] ∧ Z.Warmed39 U.vm ∧ U.heap = h0) (fun _ _ _ _ _ => True) (fun _ U o U' => ∃ v L, o = .returned v ∧ Qp5 Z va h0 n0 v U'.heap L ∧ FrameEnd U o U' L ({ frames := 0, cells := 0, slots := 0, locals := 0 } : Room).cells ({ frames := 0, cells := 0, slots := 0, locals := 0 } : Room).slots) := by
  refine MetFree.of_bodySF (plainFor_of_name pn_1) hisR ?_
  intro p e s m args below meth c s₁ Bd hml0 hP hK
  obtain ⟨rfl, hZ, hh⟩ := hP
  have hx := Bd.exec
  have hby := Bd.bytes
  have hml : c.maxLocals = 1 := hml0
  have hown : s.vm.findClass "com/example/schemactl/schemactl/MigrationStateIsProblemPinLaw" = some m.cls := findClass_of_methodNamed Bd.named
  have hnm := (name_of_methodNamed Bd.named Bd.method).1
  have X0 : Stand p l e ({ frames := 0, cells := 0, slots := 0, locals := 0 } : Room) s m #[(.int (5 : Int32))] below meth c s₁ [] 0 0 := Stand.of_body Bd
  have e0 : s₁.heap = h0 := by rw [← hh, Bd.state]; rfl
  have N0 := Fr.nil n0
  have s0 : Steps p.tables e below (s₁.setTop (entryFrame m #[(.int (5 : Int32))] 1)) (s₁.setTop (mkF m 0 #[.val (.int (5 : Int32))] [])) := castTop (ef_rmp5 m ) (Steps.refl _)
  obtain ⟨T1, X1, e1, st1⟩ := getS2 X0 hx hZ hown (host := "") (Or.inl (hw _ (List.mem_of_getElem? (i := 26) rfl))) Via.refl e0 (F0_.ext O0.2) (g := (mkF m 49 #[.val (.int (5 : Int32))] [])) rfl (hb hby d1_49)
  have s2 : Steps p.tables e below (s₁.setTop (entryFrame m #[(.int (5 : Int32))] 1)) (T1.setTop (mkF m 52 #[.val (.int (5 : Int32))] [(.ref va)])) := by
    refine s0.trans ?_
    show Steps p.tables e below (s₁.setTop (mkF m 0 #[.val (.int (5 : Int32))] [])) _
    refine XS.iloadN X0.here hx rfl (hb hby d1_0) rfl ?_
    show Steps p.tables e below (s₁.setTop (mkF m 1 #[.val (.int (5 : Int32))] [(.int (5 : Int32))])) _
    refine XS.ifYes X0.here hx rfl (pc0 := 1) (pc' := 8) rfl (hb hby d1_1) rfl ((if0 _ _).trans (feq (by decide)).2) (by decide) (by decide) ?_
    show Steps p.tables e below (s₁.setTop (mkF m 8 #[.val (.int (5 : Int32))] [])) _
    refine XS.iloadN X0.here hx rfl (hb hby d1_8) rfl ?_
    show Steps p.tables e below (s₁.setTop (mkF m 9 #[.val (.int (5 : Int32))] [(.int (5 : Int32))])) _
    refine XS.iconst X0.here hx rfl (hb hby d1_9) ?_
    show Steps p.tables e below (s₁.setTop (mkF m 10 #[.val (.int (5 : Int32))] [(.int (1 : Int32)), (.int (5 : Int32))])) _
    refine XS.icmpYes X0.here hx rfl (pc0 := 10) (pc' := 17) rfl (hb hby d1_10) rfl (feq (by decide)).2 (by decide) (by decide) ?_
    show Steps p.tables e below (s₁.setTop (mkF m 17 #[.val (.int (5 : Int32))] [])) _
    refine XS.iloadN X0.here hx rfl (hb hby d1_17) rfl ?_
    show Steps p.tables e below (s₁.setTop (mkF m 18 #[.val (.int (5 : Int32))] [(.int (5 : Int32))])) _
    refine XS.iconst X0.here hx rfl (hb hby d1_18) ?_
    show Steps p.tables e below (s₁.setTop (mkF m 19 #[.val (.int (5 : Int32))] [(.int (2 : Int32)), (.int (5 : Int32))])) _
    refine XS.icmpYes X0.here hx rfl (pc0 := 19) (pc' := 26) rfl (hb hby d1_19) rfl (feq (by decide)).2 (by decide) (by decide) ?_
    show Steps p.tables e below (s₁.setTop (mkF m 26 #[.val (.int (5 : Int32))] [])) _
    refine XS.iloadN X0.here hx rfl (hb hby d1_26) rfl ?_
    show Steps p.tables e below (s₁.setTop (mkF m 27 #[.val (.int (5 : Int32))] [(.int (5 : Int32))])) _
    refine XS.iconst X0.here hx rfl (hb hby d1_27) ?_
    show Steps p.tables e below (s₁.setTop (mkF m 28 #[.val (.int (5 : Int32))] [(.int (3 : Int32)), (.int (5 : Int32))])) _
    refine XS.icmpYes X0.here hx rfl (pc0 := 28) (pc' := 35) rfl (hb hby d1_28) rfl (feq (by decide)).2 (by decide) (by decide) ?_
    show Steps p.tables e below (s₁.setTop (mkF m 35 #[.val (.int (5 : Int32))] [])) _
    refine XS.iloadN X0.here hx rfl (hb hby d1_35) rfl ?_
    show Steps p.tables e below (s₁.setTop (mkF m 36 #[.val (.int (5 : Int32))] [(.int (5 : Int32))])) _
    refine XS.iconst X0.here hx rfl (hb hby d1_36) ?_
    show Steps p.tables e below (s₁.setTop (mkF m 37 #[.val (.int (5 : Int32))] [(.int (4 : Int32)), (.int (5 : Int32))])) _
    refine XS.icmpYes X0.here hx rfl (pc0 := 37) (pc' := 44) rfl (hb hby d1_37) rfl (feq (by decide)).2 (by decide) (by decide) ?_
    show Steps p.tables e below (s₁.setTop (mkF m 44 #[.val (.int (5 : Int32))] [])) _
    refine XS.iloadN X0.here hx rfl (hb hby d1_44) rfl ?_
    show Steps p.tables e below (s₁.setTop (mkF m 45 #[.val (.int (5 : Int32))] [(.int (5 : Int32))])) _
    refine XS.iconst X0.here hx rfl (hb hby d1_45) ?_
    show Steps p.tables e below (s₁.setTop (mkF m 46 #[.val (.int (5 : Int32))] [(.int (5 : Int32)), (.int (5 : Int32))])) _
    refine XS.icmpNo X0.here hx rfl (hb hby d1_46) rfl (teq (by decide)).2 ?_
    show Steps p.tables e below (s₁.setTop (mkF m 49 #[.val (.int (5 : Int32))] [])) _
    refine st1 _ ?_
    exact Steps.refl _
  obtain ⟨fs, hr, hrun, hended, hW, hsame⟩ := X1.leave (v := some (.ref va)) (fun h => by rw [Bd.returns] at h; cases h)
  refine ⟨_, _, s2.trans ?_, hrun, hended, _, _, rfl, ?_, ⟨_, rfl⟩, hW, hsame.mono (by decide) (by decide)⟩
  · show Steps p.tables e below (T1.setTop (mkF m 52 #[.val (.int (5 : Int32))] [(.ref va)])) _
    jvm_step X1.here [X1.here.top, hx, (hb hby d1_52), X1.method', Bd.returns, Value.isRef, FieldType.isReference]
    first | (intro acts; rw [hr _ acts rfl rfl rfl]) | rw [hr _ _ rfl rfl rfl]
    exact Steps.refl _
  · show Qp5 Z va h0 n0 _ T1.heap _
    rw [e1]
    exact ⟨rfl, N0, rfl⟩
theorem d1_53 : decode method_3_code 53 = .ok (.iload_n 0, 1) := by decide +kernel
theorem d1_54 : decode method_3_code 54 = .ok (.bipush 6, 2) := by decide +kernel
theorem d1_56 : decode method_3_code 56 = .ok (.if_icmp .ne 7, 3) := by decide +kernel
theorem d1_59 : decode method_3_code 59 = .ok (.getstatic 43, 3) := by decide +kernel
theorem d1_62 : decode method_3_code 62 = .ok (.areturn, 1) := by decide +kernel
theorem ef_rmp6 (m : MethodId)  : entryFrame m #[(.int (6 : Int32))] 1 = mkF m 0 #[.val (.int (6 : Int32))] [] := by first | (simp [entryFrame, mkF, argsToLocals, Value.category]; done) | rfl
def Qp6 (Z : State) (va : Addr) (h0 : Heap) (n0 : Nat) (v : Option Value) (h : Heap) (L : List Loc) : Prop := v = some (.ref va) ∧ Fr n0 L ∧ h = h0
set_option maxRecDepth 65536 in
set_option maxHeartbeats 40000000 in
theorem rmp6 (l : Launch) (Z : State) (a0 : Array Value) (hw : ∀ d ∈ tables_1, d.before a0 Z = true) (ws : List Jvm.Cond) (va : Addr) (h0 : Heap) (n0 : Nat) (O0 : Old Z n0 h0) (F0_ : Sta Z Z.heap "com/example/schemactl/schemactl/MigrationState" "OUT_OF_ORDER" "Lcom/example/schemactl/schemactl/MigrationState;" (.ref va)) :
    MetFree l (⟨"com/example/schemactl/schemactl/MigrationStateIsProblemPinLaw", "pick", "(I)Lcom/example/schemactl/schemactl/MigrationState;"⟩ : MethodName) (head1 (Jvm.Cond.code (⟨"com/example/schemactl/schemactl/MigrationStateIsProblemPinLaw", "pick", "(I)Lcom/example/schemactl/schemactl/MigrationState;"⟩ : MethodName) method_3_code 1 (some (.object "com/example/schemactl/schemactl/MigrationState")) :: ws) ({ frames := 0, cells := 0, slots := 0, locals := 0 } : Room)) (fun a U => a = #[(.int (6 : Int32))] ∧ Z.Warmed39 U.vm ∧ U.heap = h0) (fun _ _ _ _ _ => True) (fun _ U o U' => ∃ v L, o = .returned v ∧ Qp6 Z va h0 n0 v U'.heap L ∧ FrameEnd U o U' L ({ frames := 0, cells := 0, slots := 0, locals := 0 } : Room).cells ({ frames := 0, cells := 0, slots := 0, locals := 0 } : Room).slots) := by
  refine MetFree.of_bodySF (plainFor_of_name pn_1) hisR ?_
  intro p e s m args below meth c s₁ Bd hml0 hP hK
  obtain ⟨rfl, hZ, hh⟩ := hP
  have hx := Bd.exec
  have hby := Bd.bytes
  have hml : c.maxLocals = 1 := hml0
  have hown : s.vm.findClass "com/example/schemactl/schemactl/MigrationStateIsProblemPinLaw" = some m.cls := findClass_of_methodNamed Bd.named
  have hnm := (name_of_methodNamed Bd.named Bd.method).1
  have X0 : Stand p l e ({ frames := 0, cells := 0, slots := 0, locals := 0 } : Room) s m #[(.int (6 : Int32))] below meth c s₁ [] 0 0 := Stand.of_body Bd
  have e0 : s₁.heap = h0 := by rw [← hh, Bd.state]; rfl
  have N0 := Fr.nil n0
  have s0 : Steps p.tables e below (s₁.setTop (entryFrame m #[(.int (6 : Int32))] 1)) (s₁.setTop (mkF m 0 #[.val (.int (6 : Int32))] [])) := castTop (ef_rmp6 m ) (Steps.refl _)
  obtain ⟨T1, X1, e1, st1⟩ := getS2 X0 hx hZ hown (host := "") (Or.inl (hw _ (List.mem_of_getElem? (i := 24) rfl))) Via.refl e0 (F0_.ext O0.2) (g := (mkF m 59 #[.val (.int (6 : Int32))] [])) rfl (hb hby d1_59)
  have s2 : Steps p.tables e below (s₁.setTop (entryFrame m #[(.int (6 : Int32))] 1)) (T1.setTop (mkF m 62 #[.val (.int (6 : Int32))] [(.ref va)])) := by
    refine s0.trans ?_
    show Steps p.tables e below (s₁.setTop (mkF m 0 #[.val (.int (6 : Int32))] [])) _
    refine XS.iloadN X0.here hx rfl (hb hby d1_0) rfl ?_
    show Steps p.tables e below (s₁.setTop (mkF m 1 #[.val (.int (6 : Int32))] [(.int (6 : Int32))])) _
    refine XS.ifYes X0.here hx rfl (pc0 := 1) (pc' := 8) rfl (hb hby d1_1) rfl ((if0 _ _).trans (feq (by decide)).2) (by decide) (by decide) ?_
    show Steps p.tables e below (s₁.setTop (mkF m 8 #[.val (.int (6 : Int32))] [])) _
    refine XS.iloadN X0.here hx rfl (hb hby d1_8) rfl ?_
    show Steps p.tables e below (s₁.setTop (mkF m 9 #[.val (.int (6 : Int32))] [(.int (6 : Int32))])) _
    refine XS.iconst X0.here hx rfl (hb hby d1_9) ?_
    show Steps p.tables e below (s₁.setTop (mkF m 10 #[.val (.int (6 : Int32))] [(.int (1 : Int32)), (.int (6 : Int32))])) _
    refine XS.icmpYes X0.here hx rfl (pc0 := 10) (pc' := 17) rfl (hb hby d1_10) rfl (feq (by decide)).2 (by decide) (by decide) ?_
    show Steps p.tables e below (s₁.setTop (mkF m 17 #[.val (.int (6 : Int32))] [])) _
    refine XS.iloadN X0.here hx rfl (hb hby d1_17) rfl ?_
    show Steps p.tables e below (s₁.setTop (mkF m 18 #[.val (.int (6 : Int32))] [(.int (6 : Int32))])) _
    refine XS.iconst X0.here hx rfl (hb hby d1_18) ?_
    show Steps p.tables e below (s₁.setTop (mkF m 19 #[.val (.int (6 : Int32))] [(.int (2 : Int32)), (.int (6 : Int32))])) _
    refine XS.icmpYes X0.here hx rfl (pc0 := 19) (pc' := 26) rfl (hb hby d1_19) rfl (feq (by decide)).2 (by decide) (by decide) ?_
    show Steps p.tables e below (s₁.setTop (mkF m 26 #[.val (.int (6 : Int32))] [])) _
    refine XS.iloadN X0.here hx rfl (hb hby d1_26) rfl ?_
    show Steps p.tables e below (s₁.setTop (mkF m 27 #[.val (.int (6 : Int32))] [(.int (6 : Int32))])) _
    refine XS.iconst X0.here hx rfl (hb hby d1_27) ?_
    show Steps p.tables e below (s₁.setTop (mkF m 28 #[.val (.int (6 : Int32))] [(.int (3 : Int32)), (.int (6 : Int32))])) _
    refine XS.icmpYes X0.here hx rfl (pc0 := 28) (pc' := 35) rfl (hb hby d1_28) rfl (feq (by decide)).2 (by decide) (by decide) ?_
    show Steps p.tables e below (s₁.setTop (mkF m 35 #[.val (.int (6 : Int32))] [])) _
    refine XS.iloadN X0.here hx rfl (hb hby d1_35) rfl ?_
    show Steps p.tables e below (s₁.setTop (mkF m 36 #[.val (.int (6 : Int32))] [(.int (6 : Int32))])) _
    refine XS.iconst X0.here hx rfl (hb hby d1_36) ?_
    show Steps p.tables e below (s₁.setTop (mkF m 37 #[.val (.int (6 : Int32))] [(.int (4 : Int32)), (.int (6 : Int32))])) _
    refine XS.icmpYes X0.here hx rfl (pc0 := 37) (pc' := 44) rfl (hb hby d1_37) rfl (feq (by decide)).2 (by decide) (by decide) ?_
    show Steps p.tables e below (s₁.setTop (mkF m 44 #[.val (.int (6 : Int32))] [])) _
    refine XS.iloadN X0.here hx rfl (hb hby d1_44) rfl ?_
    show Steps p.tables e below (s₁.setTop (mkF m 45 #[.val (.int (6 : Int32))] [(.int (6 : Int32))])) _
    refine XS.iconst X0.here hx rfl (hb hby d1_45) ?_
    show Steps p.tables e below (s₁.setTop (mkF m 46 #[.val (.int (6 : Int32))] [(.int (5 : Int32)), (.int (6 : Int32))])) _
    refine XS.icmpYes X0.here hx rfl (pc0 := 46) (pc' := 53) rfl (hb hby d1_46) rfl (feq (by decide)).2 (by decide) (by decide) ?_
    show Steps p.tables e below (s₁.setTop (mkF m 53 #[.val (.int (6 : Int32))] [])) _
    refine XS.iloadN X0.here hx rfl (hb hby d1_53) rfl ?_
    show Steps p.tables e below (s₁.setTop (mkF m 54 #[.val (.int (6 : Int32))] [(.int (6 : Int32))])) _
    refine XS.bipush X0.here hx rfl (hb hby d1_54) ?_
    show Steps p.tables e below (s₁.setTop (mkF m 56 #[.val (.int (6 : Int32))] [(.int (6 : Int32)), (.int (6 : Int32))])) _
    refine XS.icmpNo X0.here hx rfl (hb hby d1_56) rfl (teq (by decide)).2 ?_
    show Steps p.tables e below (s₁.setTop (mkF m 59 #[.val (.int (6 : Int32))] [])) _
    refine st1 _ ?_
    exact Steps.refl _
  obtain ⟨fs, hr, hrun, hended, hW, hsame⟩ := X1.leave (v := some (.ref va)) (fun h => by rw [Bd.returns] at h; cases h)
  refine ⟨_, _, s2.trans ?_, hrun, hended, _, _, rfl, ?_, ⟨_, rfl⟩, hW, hsame.mono (by decide) (by decide)⟩
  · show Steps p.tables e below (T1.setTop (mkF m 62 #[.val (.int (6 : Int32))] [(.ref va)])) _
    jvm_step X1.here [X1.here.top, hx, (hb hby d1_62), X1.method', Bd.returns, Value.isRef, FieldType.isReference]
    first | (intro acts; rw [hr _ acts rfl rfl rfl]) | rw [hr _ _ rfl rfl rfl]
    exact Steps.refl _
  · show Qp6 Z va h0 n0 _ T1.heap _
    rw [e1]
    exact ⟨rfl, N0, rfl⟩
theorem d1_63 : decode method_3_code 63 = .ok (.iload_n 0, 1) := by decide +kernel
theorem d1_64 : decode method_3_code 64 = .ok (.bipush 7, 2) := by decide +kernel
theorem d1_66 : decode method_3_code 66 = .ok (.if_icmp .ne 7, 3) := by decide +kernel
theorem d1_69 : decode method_3_code 69 = .ok (.getstatic 46, 3) := by decide +kernel
theorem d1_72 : decode method_3_code 72 = .ok (.areturn, 1) := by decide +kernel
theorem ef_rmp7 (m : MethodId)  : entryFrame m #[(.int (7 : Int32))] 1 = mkF m 0 #[.val (.int (7 : Int32))] [] := by first | (simp [entryFrame, mkF, argsToLocals, Value.category]; done) | rfl
def Qp7 (Z : State) (va : Addr) (h0 : Heap) (n0 : Nat) (v : Option Value) (h : Heap) (L : List Loc) : Prop := v = some (.ref va) ∧ Fr n0 L ∧ h = h0
set_option maxRecDepth 65536 in
set_option maxHeartbeats 40000000 in
theorem rmp7 (l : Launch) (Z : State) (a0 : Array Value) (hw : ∀ d ∈ tables_1, d.before a0 Z = true) (ws : List Jvm.Cond) (va : Addr) (h0 : Heap) (n0 : Nat) (O0 : Old Z n0 h0) (F0_ : Sta Z Z.heap "com/example/schemactl/schemactl/MigrationState" "FAILED" "Lcom/example/schemactl/schemactl/MigrationState;" (.ref va)) :
    MetFree l (⟨"com/example/schemactl/schemactl/MigrationStateIsProblemPinLaw", "pick", "(I)Lcom/example/schemactl/schemactl/MigrationState;"⟩ : MethodName) (head1 (Jvm.Cond.code (⟨"com/example/schemactl/schemactl/MigrationStateIsProblemPinLaw", "pick", "(I)Lcom/example/schemactl/schemactl/MigrationState;"⟩ : MethodName) method_3_code 1 (some (.object "com/example/schemactl/schemactl/MigrationState")) :: ws) ({ frames := 0, cells := 0, slots := 0, locals := 0 } : Room)) (fun a U => a = #[(.int (7 : Int32))] ∧ Z.Warmed39 U.vm ∧ U.heap = h0) (fun _ _ _ _ _ => True) (fun _ U o U' => ∃ v L, o = .returned v ∧ Qp7 Z va h0 n0 v U'.heap L ∧ FrameEnd U o U' L ({ frames := 0, cells := 0, slots := 0, locals := 0 } : Room).cells ({ frames := 0, cells := 0, slots := 0, locals := 0 } : Room).slots) := by
  refine MetFree.of_bodySF (plainFor_of_name pn_1) hisR ?_
  intro p e s m args below meth c s₁ Bd hml0 hP hK
  obtain ⟨rfl, hZ, hh⟩ := hP
  have hx := Bd.exec
  have hby := Bd.bytes
  have hml : c.maxLocals = 1 := hml0
  have hown : s.vm.findClass "com/example/schemactl/schemactl/MigrationStateIsProblemPinLaw" = some m.cls := findClass_of_methodNamed Bd.named
  have hnm := (name_of_methodNamed Bd.named Bd.method).1
  have X0 : Stand p l e ({ frames := 0, cells := 0, slots := 0, locals := 0 } : Room) s m #[(.int (7 : Int32))] below meth c s₁ [] 0 0 := Stand.of_body Bd
  have e0 : s₁.heap = h0 := by rw [← hh, Bd.state]; rfl
  have N0 := Fr.nil n0
  have s0 : Steps p.tables e below (s₁.setTop (entryFrame m #[(.int (7 : Int32))] 1)) (s₁.setTop (mkF m 0 #[.val (.int (7 : Int32))] [])) := castTop (ef_rmp7 m ) (Steps.refl _)
  obtain ⟨T1, X1, e1, st1⟩ := getS2 X0 hx hZ hown (host := "") (Or.inl (hw _ (List.mem_of_getElem? (i := 28) rfl))) Via.refl e0 (F0_.ext O0.2) (g := (mkF m 69 #[.val (.int (7 : Int32))] [])) rfl (hb hby d1_69)
  have s2 : Steps p.tables e below (s₁.setTop (entryFrame m #[(.int (7 : Int32))] 1)) (T1.setTop (mkF m 72 #[.val (.int (7 : Int32))] [(.ref va)])) := by
    refine s0.trans ?_
    show Steps p.tables e below (s₁.setTop (mkF m 0 #[.val (.int (7 : Int32))] [])) _
    refine XS.iloadN X0.here hx rfl (hb hby d1_0) rfl ?_
    show Steps p.tables e below (s₁.setTop (mkF m 1 #[.val (.int (7 : Int32))] [(.int (7 : Int32))])) _
    refine XS.ifYes X0.here hx rfl (pc0 := 1) (pc' := 8) rfl (hb hby d1_1) rfl ((if0 _ _).trans (feq (by decide)).2) (by decide) (by decide) ?_
    show Steps p.tables e below (s₁.setTop (mkF m 8 #[.val (.int (7 : Int32))] [])) _
    refine XS.iloadN X0.here hx rfl (hb hby d1_8) rfl ?_
    show Steps p.tables e below (s₁.setTop (mkF m 9 #[.val (.int (7 : Int32))] [(.int (7 : Int32))])) _
    refine XS.iconst X0.here hx rfl (hb hby d1_9) ?_
    show Steps p.tables e below (s₁.setTop (mkF m 10 #[.val (.int (7 : Int32))] [(.int (1 : Int32)), (.int (7 : Int32))])) _
    refine XS.icmpYes X0.here hx rfl (pc0 := 10) (pc' := 17) rfl (hb hby d1_10) rfl (feq (by decide)).2 (by decide) (by decide) ?_
    show Steps p.tables e below (s₁.setTop (mkF m 17 #[.val (.int (7 : Int32))] [])) _
    refine XS.iloadN X0.here hx rfl (hb hby d1_17) rfl ?_
    show Steps p.tables e below (s₁.setTop (mkF m 18 #[.val (.int (7 : Int32))] [(.int (7 : Int32))])) _
    refine XS.iconst X0.here hx rfl (hb hby d1_18) ?_
    show Steps p.tables e below (s₁.setTop (mkF m 19 #[.val (.int (7 : Int32))] [(.int (2 : Int32)), (.int (7 : Int32))])) _
    refine XS.icmpYes X0.here hx rfl (pc0 := 19) (pc' := 26) rfl (hb hby d1_19) rfl (feq (by decide)).2 (by decide) (by decide) ?_
    show Steps p.tables e below (s₁.setTop (mkF m 26 #[.val (.int (7 : Int32))] [])) _
    refine XS.iloadN X0.here hx rfl (hb hby d1_26) rfl ?_
    show Steps p.tables e below (s₁.setTop (mkF m 27 #[.val (.int (7 : Int32))] [(.int (7 : Int32))])) _
    refine XS.iconst X0.here hx rfl (hb hby d1_27) ?_
    show Steps p.tables e below (s₁.setTop (mkF m 28 #[.val (.int (7 : Int32))] [(.int (3 : Int32)), (.int (7 : Int32))])) _
    refine XS.icmpYes X0.here hx rfl (pc0 := 28) (pc' := 35) rfl (hb hby d1_28) rfl (feq (by decide)).2 (by decide) (by decide) ?_
    show Steps p.tables e below (s₁.setTop (mkF m 35 #[.val (.int (7 : Int32))] [])) _
    refine XS.iloadN X0.here hx rfl (hb hby d1_35) rfl ?_
    show Steps p.tables e below (s₁.setTop (mkF m 36 #[.val (.int (7 : Int32))] [(.int (7 : Int32))])) _
    refine XS.iconst X0.here hx rfl (hb hby d1_36) ?_
    show Steps p.tables e below (s₁.setTop (mkF m 37 #[.val (.int (7 : Int32))] [(.int (4 : Int32)), (.int (7 : Int32))])) _
    refine XS.icmpYes X0.here hx rfl (pc0 := 37) (pc' := 44) rfl (hb hby d1_37) rfl (feq (by decide)).2 (by decide) (by decide) ?_
    show Steps p.tables e below (s₁.setTop (mkF m 44 #[.val (.int (7 : Int32))] [])) _
    refine XS.iloadN X0.here hx rfl (hb hby d1_44) rfl ?_
    show Steps p.tables e below (s₁.setTop (mkF m 45 #[.val (.int (7 : Int32))] [(.int (7 : Int32))])) _
    refine XS.iconst X0.here hx rfl (hb hby d1_45) ?_
    show Steps p.tables e below (s₁.setTop (mkF m 46 #[.val (.int (7 : Int32))] [(.int (5 : Int32)), (.int (7 : Int32))])) _
    refine XS.icmpYes X0.here hx rfl (pc0 := 46) (pc' := 53) rfl (hb hby d1_46) rfl (feq (by decide)).2 (by decide) (by decide) ?_
    show Steps p.tables e below (s₁.setTop (mkF m 53 #[.val (.int (7 : Int32))] [])) _
    refine XS.iloadN X0.here hx rfl (hb hby d1_53) rfl ?_
    show Steps p.tables e below (s₁.setTop (mkF m 54 #[.val (.int (7 : Int32))] [(.int (7 : Int32))])) _
    refine XS.bipush X0.here hx rfl (hb hby d1_54) ?_
    show Steps p.tables e below (s₁.setTop (mkF m 56 #[.val (.int (7 : Int32))] [(.int (6 : Int32)), (.int (7 : Int32))])) _
    refine XS.icmpYes X0.here hx rfl (pc0 := 56) (pc' := 63) rfl (hb hby d1_56) rfl (feq (by decide)).2 (by decide) (by decide) ?_
    show Steps p.tables e below (s₁.setTop (mkF m 63 #[.val (.int (7 : Int32))] [])) _
    refine XS.iloadN X0.here hx rfl (hb hby d1_63) rfl ?_
    show Steps p.tables e below (s₁.setTop (mkF m 64 #[.val (.int (7 : Int32))] [(.int (7 : Int32))])) _
    refine XS.bipush X0.here hx rfl (hb hby d1_64) ?_
    show Steps p.tables e below (s₁.setTop (mkF m 66 #[.val (.int (7 : Int32))] [(.int (7 : Int32)), (.int (7 : Int32))])) _
    refine XS.icmpNo X0.here hx rfl (hb hby d1_66) rfl (teq (by decide)).2 ?_
    show Steps p.tables e below (s₁.setTop (mkF m 69 #[.val (.int (7 : Int32))] [])) _
    refine st1 _ ?_
    exact Steps.refl _
  obtain ⟨fs, hr, hrun, hended, hW, hsame⟩ := X1.leave (v := some (.ref va)) (fun h => by rw [Bd.returns] at h; cases h)
  refine ⟨_, _, s2.trans ?_, hrun, hended, _, _, rfl, ?_, ⟨_, rfl⟩, hW, hsame.mono (by decide) (by decide)⟩
  · show Steps p.tables e below (T1.setTop (mkF m 72 #[.val (.int (7 : Int32))] [(.ref va)])) _
    jvm_step X1.here [X1.here.top, hx, (hb hby d1_72), X1.method', Bd.returns, Value.isRef, FieldType.isReference]
    first | (intro acts; rw [hr _ acts rfl rfl rfl]) | rw [hr _ _ rfl rfl rfl]
    exact Steps.refl _
  · show Qp7 Z va h0 n0 _ T1.heap _
    rw [e1]
    exact ⟨rfl, N0, rfl⟩
theorem d1_73 : decode method_3_code 73 = .ok (.iload_n 0, 1) := by decide +kernel
theorem d1_74 : decode method_3_code 74 = .ok (.bipush 8, 2) := by decide +kernel
theorem d1_76 : decode method_3_code 76 = .ok (.if_icmp .ne 7, 3) := by decide +kernel
theorem d1_79 : decode method_3_code 79 = .ok (.getstatic 49, 3) := by decide +kernel
theorem d1_82 : decode method_3_code 82 = .ok (.areturn, 1) := by decide +kernel
theorem ef_rmp8 (m : MethodId)  : entryFrame m #[(.int (8 : Int32))] 1 = mkF m 0 #[.val (.int (8 : Int32))] [] := by first | (simp [entryFrame, mkF, argsToLocals, Value.category]; done) | rfl
def Qp8 (Z : State) (va : Addr) (h0 : Heap) (n0 : Nat) (v : Option Value) (h : Heap) (L : List Loc) : Prop := v = some (.ref va) ∧ Fr n0 L ∧ h = h0
set_option maxRecDepth 65536 in
set_option maxHeartbeats 40000000 in
theorem rmp8 (l : Launch) (Z : State) (a0 : Array Value) (hw : ∀ d ∈ tables_1, d.before a0 Z = true) (ws : List Jvm.Cond) (va : Addr) (h0 : Heap) (n0 : Nat) (O0 : Old Z n0 h0) (F0_ : Sta Z Z.heap "com/example/schemactl/schemactl/MigrationState" "INCOMPLETE" "Lcom/example/schemactl/schemactl/MigrationState;" (.ref va)) :
    MetFree l (⟨"com/example/schemactl/schemactl/MigrationStateIsProblemPinLaw", "pick", "(I)Lcom/example/schemactl/schemactl/MigrationState;"⟩ : MethodName) (head1 (Jvm.Cond.code (⟨"com/example/schemactl/schemactl/MigrationStateIsProblemPinLaw", "pick", "(I)Lcom/example/schemactl/schemactl/MigrationState;"⟩ : MethodName) method_3_code 1 (some (.object "com/example/schemactl/schemactl/MigrationState")) :: ws) ({ frames := 0, cells := 0, slots := 0, locals := 0 } : Room)) (fun a U => a = #[(.int (8 : Int32))] ∧ Z.Warmed39 U.vm ∧ U.heap = h0) (fun _ _ _ _ _ => True) (fun _ U o U' => ∃ v L, o = .returned v ∧ Qp8 Z va h0 n0 v U'.heap L ∧ FrameEnd U o U' L ({ frames := 0, cells := 0, slots := 0, locals := 0 } : Room).cells ({ frames := 0, cells := 0, slots := 0, locals := 0 } : Room).slots) := by
  refine MetFree.of_bodySF (plainFor_of_name pn_1) hisR ?_
  intro p e s m args below meth c s₁ Bd hml0 hP hK
  obtain ⟨rfl, hZ, hh⟩ := hP
  have hx := Bd.exec
  have hby := Bd.bytes
  have hml : c.maxLocals = 1 := hml0
  have hown : s.vm.findClass "com/example/schemactl/schemactl/MigrationStateIsProblemPinLaw" = some m.cls := findClass_of_methodNamed Bd.named
  have hnm := (name_of_methodNamed Bd.named Bd.method).1
  have X0 : Stand p l e ({ frames := 0, cells := 0, slots := 0, locals := 0 } : Room) s m #[(.int (8 : Int32))] below meth c s₁ [] 0 0 := Stand.of_body Bd
  have e0 : s₁.heap = h0 := by rw [← hh, Bd.state]; rfl
  have N0 := Fr.nil n0
  have s0 : Steps p.tables e below (s₁.setTop (entryFrame m #[(.int (8 : Int32))] 1)) (s₁.setTop (mkF m 0 #[.val (.int (8 : Int32))] [])) := castTop (ef_rmp8 m ) (Steps.refl _)
  obtain ⟨T1, X1, e1, st1⟩ := getS2 X0 hx hZ hown (host := "") (Or.inl (hw _ (List.mem_of_getElem? (i := 38) rfl))) Via.refl e0 (F0_.ext O0.2) (g := (mkF m 79 #[.val (.int (8 : Int32))] [])) rfl (hb hby d1_79)
  have s2 : Steps p.tables e below (s₁.setTop (entryFrame m #[(.int (8 : Int32))] 1)) (T1.setTop (mkF m 82 #[.val (.int (8 : Int32))] [(.ref va)])) := by
    refine s0.trans ?_
    show Steps p.tables e below (s₁.setTop (mkF m 0 #[.val (.int (8 : Int32))] [])) _
    refine XS.iloadN X0.here hx rfl (hb hby d1_0) rfl ?_
    show Steps p.tables e below (s₁.setTop (mkF m 1 #[.val (.int (8 : Int32))] [(.int (8 : Int32))])) _
    refine XS.ifYes X0.here hx rfl (pc0 := 1) (pc' := 8) rfl (hb hby d1_1) rfl ((if0 _ _).trans (feq (by decide)).2) (by decide) (by decide) ?_
    show Steps p.tables e below (s₁.setTop (mkF m 8 #[.val (.int (8 : Int32))] [])) _
    refine XS.iloadN X0.here hx rfl (hb hby d1_8) rfl ?_
    show Steps p.tables e below (s₁.setTop (mkF m 9 #[.val (.int (8 : Int32))] [(.int (8 : Int32))])) _
    refine XS.iconst X0.here hx rfl (hb hby d1_9) ?_
    show Steps p.tables e below (s₁.setTop (mkF m 10 #[.val (.int (8 : Int32))] [(.int (1 : Int32)), (.int (8 : Int32))])) _
    refine XS.icmpYes X0.here hx rfl (pc0 := 10) (pc' := 17) rfl (hb hby d1_10) rfl (feq (by decide)).2 (by decide) (by decide) ?_
    show Steps p.tables e below (s₁.setTop (mkF m 17 #[.val (.int (8 : Int32))] [])) _
    refine XS.iloadN X0.here hx rfl (hb hby d1_17) rfl ?_
    show Steps p.tables e below (s₁.setTop (mkF m 18 #[.val (.int (8 : Int32))] [(.int (8 : Int32))])) _
    refine XS.iconst X0.here hx rfl (hb hby d1_18) ?_
    show Steps p.tables e below (s₁.setTop (mkF m 19 #[.val (.int (8 : Int32))] [(.int (2 : Int32)), (.int (8 : Int32))])) _
    refine XS.icmpYes X0.here hx rfl (pc0 := 19) (pc' := 26) rfl (hb hby d1_19) rfl (feq (by decide)).2 (by decide) (by decide) ?_
    show Steps p.tables e below (s₁.setTop (mkF m 26 #[.val (.int (8 : Int32))] [])) _
    refine XS.iloadN X0.here hx rfl (hb hby d1_26) rfl ?_
    show Steps p.tables e below (s₁.setTop (mkF m 27 #[.val (.int (8 : Int32))] [(.int (8 : Int32))])) _
    refine XS.iconst X0.here hx rfl (hb hby d1_27) ?_
    show Steps p.tables e below (s₁.setTop (mkF m 28 #[.val (.int (8 : Int32))] [(.int (3 : Int32)), (.int (8 : Int32))])) _
    refine XS.icmpYes X0.here hx rfl (pc0 := 28) (pc' := 35) rfl (hb hby d1_28) rfl (feq (by decide)).2 (by decide) (by decide) ?_
    show Steps p.tables e below (s₁.setTop (mkF m 35 #[.val (.int (8 : Int32))] [])) _
    refine XS.iloadN X0.here hx rfl (hb hby d1_35) rfl ?_
    show Steps p.tables e below (s₁.setTop (mkF m 36 #[.val (.int (8 : Int32))] [(.int (8 : Int32))])) _
    refine XS.iconst X0.here hx rfl (hb hby d1_36) ?_
    show Steps p.tables e below (s₁.setTop (mkF m 37 #[.val (.int (8 : Int32))] [(.int (4 : Int32)), (.int (8 : Int32))])) _
    refine XS.icmpYes X0.here hx rfl (pc0 := 37) (pc' := 44) rfl (hb hby d1_37) rfl (feq (by decide)).2 (by decide) (by decide) ?_
    show Steps p.tables e below (s₁.setTop (mkF m 44 #[.val (.int (8 : Int32))] [])) _
    refine XS.iloadN X0.here hx rfl (hb hby d1_44) rfl ?_
    show Steps p.tables e below (s₁.setTop (mkF m 45 #[.val (.int (8 : Int32))] [(.int (8 : Int32))])) _
    refine XS.iconst X0.here hx rfl (hb hby d1_45) ?_
    show Steps p.tables e below (s₁.setTop (mkF m 46 #[.val (.int (8 : Int32))] [(.int (5 : Int32)), (.int (8 : Int32))])) _
    refine XS.icmpYes X0.here hx rfl (pc0 := 46) (pc' := 53) rfl (hb hby d1_46) rfl (feq (by decide)).2 (by decide) (by decide) ?_
    show Steps p.tables e below (s₁.setTop (mkF m 53 #[.val (.int (8 : Int32))] [])) _
    refine XS.iloadN X0.here hx rfl (hb hby d1_53) rfl ?_
    show Steps p.tables e below (s₁.setTop (mkF m 54 #[.val (.int (8 : Int32))] [(.int (8 : Int32))])) _
    refine XS.bipush X0.here hx rfl (hb hby d1_54) ?_
    show Steps p.tables e below (s₁.setTop (mkF m 56 #[.val (.int (8 : Int32))] [(.int (6 : Int32)), (.int (8 : Int32))])) _
    refine XS.icmpYes X0.here hx rfl (pc0 := 56) (pc' := 63) rfl (hb hby d1_56) rfl (feq (by decide)).2 (by decide) (by decide) ?_
    show Steps p.tables e below (s₁.setTop (mkF m 63 #[.val (.int (8 : Int32))] [])) _
    refine XS.iloadN X0.here hx rfl (hb hby d1_63) rfl ?_
    show Steps p.tables e below (s₁.setTop (mkF m 64 #[.val (.int (8 : Int32))] [(.int (8 : Int32))])) _
    refine XS.bipush X0.here hx rfl (hb hby d1_64) ?_
    show Steps p.tables e below (s₁.setTop (mkF m 66 #[.val (.int (8 : Int32))] [(.int (7 : Int32)), (.int (8 : Int32))])) _
    refine XS.icmpYes X0.here hx rfl (pc0 := 66) (pc' := 73) rfl (hb hby d1_66) rfl (feq (by decide)).2 (by decide) (by decide) ?_
    show Steps p.tables e below (s₁.setTop (mkF m 73 #[.val (.int (8 : Int32))] [])) _
    refine XS.iloadN X0.here hx rfl (hb hby d1_73) rfl ?_
    show Steps p.tables e below (s₁.setTop (mkF m 74 #[.val (.int (8 : Int32))] [(.int (8 : Int32))])) _
    refine XS.bipush X0.here hx rfl (hb hby d1_74) ?_
    show Steps p.tables e below (s₁.setTop (mkF m 76 #[.val (.int (8 : Int32))] [(.int (8 : Int32)), (.int (8 : Int32))])) _
    refine XS.icmpNo X0.here hx rfl (hb hby d1_76) rfl (teq (by decide)).2 ?_
    show Steps p.tables e below (s₁.setTop (mkF m 79 #[.val (.int (8 : Int32))] [])) _
    refine st1 _ ?_
    exact Steps.refl _
  obtain ⟨fs, hr, hrun, hended, hW, hsame⟩ := X1.leave (v := some (.ref va)) (fun h => by rw [Bd.returns] at h; cases h)
  refine ⟨_, _, s2.trans ?_, hrun, hended, _, _, rfl, ?_, ⟨_, rfl⟩, hW, hsame.mono (by decide) (by decide)⟩
  · show Steps p.tables e below (T1.setTop (mkF m 82 #[.val (.int (8 : Int32))] [(.ref va)])) _
    jvm_step X1.here [X1.here.top, hx, (hb hby d1_82), X1.method', Bd.returns, Value.isRef, FieldType.isReference]
    first | (intro acts; rw [hr _ acts rfl rfl rfl]) | rw [hr _ _ rfl rfl rfl]
    exact Steps.refl _
  · show Qp8 Z va h0 n0 _ T1.heap _
    rw [e1]
    exact ⟨rfl, N0, rfl⟩
theorem d1_83 : decode method_3_code 83 = .ok (.iload_n 0, 1) := by decide +kernel
theorem d1_84 : decode method_3_code 84 = .ok (.bipush 9, 2) := by decide +kernel
theorem d1_86 : decode method_3_code 86 = .ok (.if_icmp .ne 7, 3) := by decide +kernel
theorem d1_89 : decode method_3_code 89 = .ok (.getstatic 52, 3) := by decide +kernel
theorem d1_92 : decode method_3_code 92 = .ok (.areturn, 1) := by decide +kernel
theorem ef_rmp9 (m : MethodId)  : entryFrame m #[(.int (9 : Int32))] 1 = mkF m 0 #[.val (.int (9 : Int32))] [] := by first | (simp [entryFrame, mkF, argsToLocals, Value.category]; done) | rfl
def Qp9 (Z : State) (va : Addr) (h0 : Heap) (n0 : Nat) (v : Option Value) (h : Heap) (L : List Loc) : Prop := v = some (.ref va) ∧ Fr n0 L ∧ h = h0
set_option maxRecDepth 65536 in
set_option maxHeartbeats 40000000 in
theorem rmp9 (l : Launch) (Z : State) (a0 : Array Value) (hw : ∀ d ∈ tables_1, d.before a0 Z = true) (ws : List Jvm.Cond) (va : Addr) (h0 : Heap) (n0 : Nat) (O0 : Old Z n0 h0) (F0_ : Sta Z Z.heap "com/example/schemactl/schemactl/MigrationState" "INTERRUPTED" "Lcom/example/schemactl/schemactl/MigrationState;" (.ref va)) :
    MetFree l (⟨"com/example/schemactl/schemactl/MigrationStateIsProblemPinLaw", "pick", "(I)Lcom/example/schemactl/schemactl/MigrationState;"⟩ : MethodName) (head1 (Jvm.Cond.code (⟨"com/example/schemactl/schemactl/MigrationStateIsProblemPinLaw", "pick", "(I)Lcom/example/schemactl/schemactl/MigrationState;"⟩ : MethodName) method_3_code 1 (some (.object "com/example/schemactl/schemactl/MigrationState")) :: ws) ({ frames := 0, cells := 0, slots := 0, locals := 0 } : Room)) (fun a U => a = #[(.int (9 : Int32))] ∧ Z.Warmed39 U.vm ∧ U.heap = h0) (fun _ _ _ _ _ => True) (fun _ U o U' => ∃ v L, o = .returned v ∧ Qp9 Z va h0 n0 v U'.heap L ∧ FrameEnd U o U' L ({ frames := 0, cells := 0, slots := 0, locals := 0 } : Room).cells ({ frames := 0, cells := 0, slots := 0, locals := 0 } : Room).slots) := by
  refine MetFree.of_bodySF (plainFor_of_name pn_1) hisR ?_
  intro p e s m args below meth c s₁ Bd hml0 hP hK
  obtain ⟨rfl, hZ, hh⟩ := hP
  have hx := Bd.exec
  have hby := Bd.bytes
  have hml : c.maxLocals = 1 := hml0
  have hown : s.vm.findClass "com/example/schemactl/schemactl/MigrationStateIsProblemPinLaw" = some m.cls := findClass_of_methodNamed Bd.named
  have hnm := (name_of_methodNamed Bd.named Bd.method).1
  have X0 : Stand p l e ({ frames := 0, cells := 0, slots := 0, locals := 0 } : Room) s m #[(.int (9 : Int32))] below meth c s₁ [] 0 0 := Stand.of_body Bd
  have e0 : s₁.heap = h0 := by rw [← hh, Bd.state]; rfl
  have N0 := Fr.nil n0
  have s0 : Steps p.tables e below (s₁.setTop (entryFrame m #[(.int (9 : Int32))] 1)) (s₁.setTop (mkF m 0 #[.val (.int (9 : Int32))] [])) := castTop (ef_rmp9 m ) (Steps.refl _)
  obtain ⟨T1, X1, e1, st1⟩ := getS2 X0 hx hZ hown (host := "") (Or.inl (hw _ (List.mem_of_getElem? (i := 30) rfl))) Via.refl e0 (F0_.ext O0.2) (g := (mkF m 89 #[.val (.int (9 : Int32))] [])) rfl (hb hby d1_89)
  have s2 : Steps p.tables e below (s₁.setTop (entryFrame m #[(.int (9 : Int32))] 1)) (T1.setTop (mkF m 92 #[.val (.int (9 : Int32))] [(.ref va)])) := by
    refine s0.trans ?_
    show Steps p.tables e below (s₁.setTop (mkF m 0 #[.val (.int (9 : Int32))] [])) _
    refine XS.iloadN X0.here hx rfl (hb hby d1_0) rfl ?_
    show Steps p.tables e below (s₁.setTop (mkF m 1 #[.val (.int (9 : Int32))] [(.int (9 : Int32))])) _
    refine XS.ifYes X0.here hx rfl (pc0 := 1) (pc' := 8) rfl (hb hby d1_1) rfl ((if0 _ _).trans (feq (by decide)).2) (by decide) (by decide) ?_
    show Steps p.tables e below (s₁.setTop (mkF m 8 #[.val (.int (9 : Int32))] [])) _
    refine XS.iloadN X0.here hx rfl (hb hby d1_8) rfl ?_
    show Steps p.tables e below (s₁.setTop (mkF m 9 #[.val (.int (9 : Int32))] [(.int (9 : Int32))])) _
    refine XS.iconst X0.here hx rfl (hb hby d1_9) ?_
    show Steps p.tables e below (s₁.setTop (mkF m 10 #[.val (.int (9 : Int32))] [(.int (1 : Int32)), (.int (9 : Int32))])) _
    refine XS.icmpYes X0.here hx rfl (pc0 := 10) (pc' := 17) rfl (hb hby d1_10) rfl (feq (by decide)).2 (by decide) (by decide) ?_
    show Steps p.tables e below (s₁.setTop (mkF m 17 #[.val (.int (9 : Int32))] [])) _
    refine XS.iloadN X0.here hx rfl (hb hby d1_17) rfl ?_
    show Steps p.tables e below (s₁.setTop (mkF m 18 #[.val (.int (9 : Int32))] [(.int (9 : Int32))])) _
    refine XS.iconst X0.here hx rfl (hb hby d1_18) ?_
    show Steps p.tables e below (s₁.setTop (mkF m 19 #[.val (.int (9 : Int32))] [(.int (2 : Int32)), (.int (9 : Int32))])) _
    refine XS.icmpYes X0.here hx rfl (pc0 := 19) (pc' := 26) rfl (hb hby d1_19) rfl (feq (by decide)).2 (by decide) (by decide) ?_
    show Steps p.tables e below (s₁.setTop (mkF m 26 #[.val (.int (9 : Int32))] [])) _
    refine XS.iloadN X0.here hx rfl (hb hby d1_26) rfl ?_
    show Steps p.tables e below (s₁.setTop (mkF m 27 #[.val (.int (9 : Int32))] [(.int (9 : Int32))])) _
    refine XS.iconst X0.here hx rfl (hb hby d1_27) ?_
    show Steps p.tables e below (s₁.setTop (mkF m 28 #[.val (.int (9 : Int32))] [(.int (3 : Int32)), (.int (9 : Int32))])) _
    refine XS.icmpYes X0.here hx rfl (pc0 := 28) (pc' := 35) rfl (hb hby d1_28) rfl (feq (by decide)).2 (by decide) (by decide) ?_
    show Steps p.tables e below (s₁.setTop (mkF m 35 #[.val (.int (9 : Int32))] [])) _
    refine XS.iloadN X0.here hx rfl (hb hby d1_35) rfl ?_
    show Steps p.tables e below (s₁.setTop (mkF m 36 #[.val (.int (9 : Int32))] [(.int (9 : Int32))])) _
    refine XS.iconst X0.here hx rfl (hb hby d1_36) ?_
    show Steps p.tables e below (s₁.setTop (mkF m 37 #[.val (.int (9 : Int32))] [(.int (4 : Int32)), (.int (9 : Int32))])) _
    refine XS.icmpYes X0.here hx rfl (pc0 := 37) (pc' := 44) rfl (hb hby d1_37) rfl (feq (by decide)).2 (by decide) (by decide) ?_
    show Steps p.tables e below (s₁.setTop (mkF m 44 #[.val (.int (9 : Int32))] [])) _
    refine XS.iloadN X0.here hx rfl (hb hby d1_44) rfl ?_
    show Steps p.tables e below (s₁.setTop (mkF m 45 #[.val (.int (9 : Int32))] [(.int (9 : Int32))])) _
    refine XS.iconst X0.here hx rfl (hb hby d1_45) ?_
    show Steps p.tables e below (s₁.setTop (mkF m 46 #[.val (.int (9 : Int32))] [(.int (5 : Int32)), (.int (9 : Int32))])) _
    refine XS.icmpYes X0.here hx rfl (pc0 := 46) (pc' := 53) rfl (hb hby d1_46) rfl (feq (by decide)).2 (by decide) (by decide) ?_
    show Steps p.tables e below (s₁.setTop (mkF m 53 #[.val (.int (9 : Int32))] [])) _
    refine XS.iloadN X0.here hx rfl (hb hby d1_53) rfl ?_
    show Steps p.tables e below (s₁.setTop (mkF m 54 #[.val (.int (9 : Int32))] [(.int (9 : Int32))])) _
    refine XS.bipush X0.here hx rfl (hb hby d1_54) ?_
    show Steps p.tables e below (s₁.setTop (mkF m 56 #[.val (.int (9 : Int32))] [(.int (6 : Int32)), (.int (9 : Int32))])) _
    refine XS.icmpYes X0.here hx rfl (pc0 := 56) (pc' := 63) rfl (hb hby d1_56) rfl (feq (by decide)).2 (by decide) (by decide) ?_
    show Steps p.tables e below (s₁.setTop (mkF m 63 #[.val (.int (9 : Int32))] [])) _
    refine XS.iloadN X0.here hx rfl (hb hby d1_63) rfl ?_
    show Steps p.tables e below (s₁.setTop (mkF m 64 #[.val (.int (9 : Int32))] [(.int (9 : Int32))])) _
    refine XS.bipush X0.here hx rfl (hb hby d1_64) ?_
    show Steps p.tables e below (s₁.setTop (mkF m 66 #[.val (.int (9 : Int32))] [(.int (7 : Int32)), (.int (9 : Int32))])) _
    refine XS.icmpYes X0.here hx rfl (pc0 := 66) (pc' := 73) rfl (hb hby d1_66) rfl (feq (by decide)).2 (by decide) (by decide) ?_
    show Steps p.tables e below (s₁.setTop (mkF m 73 #[.val (.int (9 : Int32))] [])) _
    refine XS.iloadN X0.here hx rfl (hb hby d1_73) rfl ?_
    show Steps p.tables e below (s₁.setTop (mkF m 74 #[.val (.int (9 : Int32))] [(.int (9 : Int32))])) _
    refine XS.bipush X0.here hx rfl (hb hby d1_74) ?_
    show Steps p.tables e below (s₁.setTop (mkF m 76 #[.val (.int (9 : Int32))] [(.int (8 : Int32)), (.int (9 : Int32))])) _
    refine XS.icmpYes X0.here hx rfl (pc0 := 76) (pc' := 83) rfl (hb hby d1_76) rfl (feq (by decide)).2 (by decide) (by decide) ?_
    show Steps p.tables e below (s₁.setTop (mkF m 83 #[.val (.int (9 : Int32))] [])) _
    refine XS.iloadN X0.here hx rfl (hb hby d1_83) rfl ?_
    show Steps p.tables e below (s₁.setTop (mkF m 84 #[.val (.int (9 : Int32))] [(.int (9 : Int32))])) _
    refine XS.bipush X0.here hx rfl (hb hby d1_84) ?_
    show Steps p.tables e below (s₁.setTop (mkF m 86 #[.val (.int (9 : Int32))] [(.int (9 : Int32)), (.int (9 : Int32))])) _
    refine XS.icmpNo X0.here hx rfl (hb hby d1_86) rfl (teq (by decide)).2 ?_
    show Steps p.tables e below (s₁.setTop (mkF m 89 #[.val (.int (9 : Int32))] [])) _
    refine st1 _ ?_
    exact Steps.refl _
  obtain ⟨fs, hr, hrun, hended, hW, hsame⟩ := X1.leave (v := some (.ref va)) (fun h => by rw [Bd.returns] at h; cases h)
  refine ⟨_, _, s2.trans ?_, hrun, hended, _, _, rfl, ?_, ⟨_, rfl⟩, hW, hsame.mono (by decide) (by decide)⟩
  · show Steps p.tables e below (T1.setTop (mkF m 92 #[.val (.int (9 : Int32))] [(.ref va)])) _
    jvm_step X1.here [X1.here.top, hx, (hb hby d1_92), X1.method', Bd.returns, Value.isRef, FieldType.isReference]
    first | (intro acts; rw [hr _ acts rfl rfl rfl]) | rw [hr _ _ rfl rfl rfl]
    exact Steps.refl _
  · show Qp9 Z va h0 n0 _ T1.heap _
    rw [e1]
    exact ⟨rfl, N0, rfl⟩
theorem d1_93 : decode method_3_code 93 = .ok (.iload_n 0, 1) := by decide +kernel
theorem d1_94 : decode method_3_code 94 = .ok (.bipush 10, 2) := by decide +kernel
theorem d1_96 : decode method_3_code 96 = .ok (.if_icmp .ne 7, 3) := by decide +kernel
theorem d1_99 : decode method_3_code 99 = .ok (.getstatic 55, 3) := by decide +kernel
theorem d1_102 : decode method_3_code 102 = .ok (.areturn, 1) := by decide +kernel
theorem ef_rmp10 (m : MethodId)  : entryFrame m #[(.int (10 : Int32))] 1 = mkF m 0 #[.val (.int (10 : Int32))] [] := by first | (simp [entryFrame, mkF, argsToLocals, Value.category]; done) | rfl
def Qp10 (Z : State) (va : Addr) (h0 : Heap) (n0 : Nat) (v : Option Value) (h : Heap) (L : List Loc) : Prop := v = some (.ref va) ∧ Fr n0 L ∧ h = h0
set_option maxRecDepth 65536 in
set_option maxHeartbeats 40000000 in
theorem rmp10 (l : Launch) (Z : State) (a0 : Array Value) (hw : ∀ d ∈ tables_1, d.before a0 Z = true) (ws : List Jvm.Cond) (va : Addr) (h0 : Heap) (n0 : Nat) (O0 : Old Z n0 h0) (F0_ : Sta Z Z.heap "com/example/schemactl/schemactl/MigrationState" "APPLYING" "Lcom/example/schemactl/schemactl/MigrationState;" (.ref va)) :
    MetFree l (⟨"com/example/schemactl/schemactl/MigrationStateIsProblemPinLaw", "pick", "(I)Lcom/example/schemactl/schemactl/MigrationState;"⟩ : MethodName) (head1 (Jvm.Cond.code (⟨"com/example/schemactl/schemactl/MigrationStateIsProblemPinLaw", "pick", "(I)Lcom/example/schemactl/schemactl/MigrationState;"⟩ : MethodName) method_3_code 1 (some (.object "com/example/schemactl/schemactl/MigrationState")) :: ws) ({ frames := 0, cells := 0, slots := 0, locals := 0 } : Room)) (fun a U => a = #[(.int (10 : Int32))] ∧ Z.Warmed39 U.vm ∧ U.heap = h0) (fun _ _ _ _ _ => True) (fun _ U o U' => ∃ v L, o = .returned v ∧ Qp10 Z va h0 n0 v U'.heap L ∧ FrameEnd U o U' L ({ frames := 0, cells := 0, slots := 0, locals := 0 } : Room).cells ({ frames := 0, cells := 0, slots := 0, locals := 0 } : Room).slots) := by
  refine MetFree.of_bodySF (plainFor_of_name pn_1) hisR ?_
  intro p e s m args below meth c s₁ Bd hml0 hP hK
  obtain ⟨rfl, hZ, hh⟩ := hP
  have hx := Bd.exec
  have hby := Bd.bytes
  have hml : c.maxLocals = 1 := hml0
  have hown : s.vm.findClass "com/example/schemactl/schemactl/MigrationStateIsProblemPinLaw" = some m.cls := findClass_of_methodNamed Bd.named
  have hnm := (name_of_methodNamed Bd.named Bd.method).1
  have X0 : Stand p l e ({ frames := 0, cells := 0, slots := 0, locals := 0 } : Room) s m #[(.int (10 : Int32))] below meth c s₁ [] 0 0 := Stand.of_body Bd
  have e0 : s₁.heap = h0 := by rw [← hh, Bd.state]; rfl
  have N0 := Fr.nil n0
  have s0 : Steps p.tables e below (s₁.setTop (entryFrame m #[(.int (10 : Int32))] 1)) (s₁.setTop (mkF m 0 #[.val (.int (10 : Int32))] [])) := castTop (ef_rmp10 m ) (Steps.refl _)
  obtain ⟨T1, X1, e1, st1⟩ := getS2 X0 hx hZ hown (host := "") (Or.inl (hw _ (List.mem_of_getElem? (i := 40) rfl))) Via.refl e0 (F0_.ext O0.2) (g := (mkF m 99 #[.val (.int (10 : Int32))] [])) rfl (hb hby d1_99)
  have s2 : Steps p.tables e below (s₁.setTop (entryFrame m #[(.int (10 : Int32))] 1)) (T1.setTop (mkF m 102 #[.val (.int (10 : Int32))] [(.ref va)])) := by
    refine s0.trans ?_
    show Steps p.tables e below (s₁.setTop (mkF m 0 #[.val (.int (10 : Int32))] [])) _
    refine XS.iloadN X0.here hx rfl (hb hby d1_0) rfl ?_
    show Steps p.tables e below (s₁.setTop (mkF m 1 #[.val (.int (10 : Int32))] [(.int (10 : Int32))])) _
    refine XS.ifYes X0.here hx rfl (pc0 := 1) (pc' := 8) rfl (hb hby d1_1) rfl ((if0 _ _).trans (feq (by decide)).2) (by decide) (by decide) ?_
    show Steps p.tables e below (s₁.setTop (mkF m 8 #[.val (.int (10 : Int32))] [])) _
    refine XS.iloadN X0.here hx rfl (hb hby d1_8) rfl ?_
    show Steps p.tables e below (s₁.setTop (mkF m 9 #[.val (.int (10 : Int32))] [(.int (10 : Int32))])) _
    refine XS.iconst X0.here hx rfl (hb hby d1_9) ?_
    show Steps p.tables e below (s₁.setTop (mkF m 10 #[.val (.int (10 : Int32))] [(.int (1 : Int32)), (.int (10 : Int32))])) _
    refine XS.icmpYes X0.here hx rfl (pc0 := 10) (pc' := 17) rfl (hb hby d1_10) rfl (feq (by decide)).2 (by decide) (by decide) ?_
    show Steps p.tables e below (s₁.setTop (mkF m 17 #[.val (.int (10 : Int32))] [])) _
    refine XS.iloadN X0.here hx rfl (hb hby d1_17) rfl ?_
    show Steps p.tables e below (s₁.setTop (mkF m 18 #[.val (.int (10 : Int32))] [(.int (10 : Int32))])) _
    refine XS.iconst X0.here hx rfl (hb hby d1_18) ?_
    show Steps p.tables e below (s₁.setTop (mkF m 19 #[.val (.int (10 : Int32))] [(.int (2 : Int32)), (.int (10 : Int32))])) _
    refine XS.icmpYes X0.here hx rfl (pc0 := 19) (pc' := 26) rfl (hb hby d1_19) rfl (feq (by decide)).2 (by decide) (by decide) ?_
    show Steps p.tables e below (s₁.setTop (mkF m 26 #[.val (.int (10 : Int32))] [])) _
    refine XS.iloadN X0.here hx rfl (hb hby d1_26) rfl ?_
    show Steps p.tables e below (s₁.setTop (mkF m 27 #[.val (.int (10 : Int32))] [(.int (10 : Int32))])) _
    refine XS.iconst X0.here hx rfl (hb hby d1_27) ?_
    show Steps p.tables e below (s₁.setTop (mkF m 28 #[.val (.int (10 : Int32))] [(.int (3 : Int32)), (.int (10 : Int32))])) _
    refine XS.icmpYes X0.here hx rfl (pc0 := 28) (pc' := 35) rfl (hb hby d1_28) rfl (feq (by decide)).2 (by decide) (by decide) ?_
    show Steps p.tables e below (s₁.setTop (mkF m 35 #[.val (.int (10 : Int32))] [])) _
    refine XS.iloadN X0.here hx rfl (hb hby d1_35) rfl ?_
    show Steps p.tables e below (s₁.setTop (mkF m 36 #[.val (.int (10 : Int32))] [(.int (10 : Int32))])) _
    refine XS.iconst X0.here hx rfl (hb hby d1_36) ?_
    show Steps p.tables e below (s₁.setTop (mkF m 37 #[.val (.int (10 : Int32))] [(.int (4 : Int32)), (.int (10 : Int32))])) _
    refine XS.icmpYes X0.here hx rfl (pc0 := 37) (pc' := 44) rfl (hb hby d1_37) rfl (feq (by decide)).2 (by decide) (by decide) ?_
    show Steps p.tables e below (s₁.setTop (mkF m 44 #[.val (.int (10 : Int32))] [])) _
    refine XS.iloadN X0.here hx rfl (hb hby d1_44) rfl ?_
    show Steps p.tables e below (s₁.setTop (mkF m 45 #[.val (.int (10 : Int32))] [(.int (10 : Int32))])) _
    refine XS.iconst X0.here hx rfl (hb hby d1_45) ?_
    show Steps p.tables e below (s₁.setTop (mkF m 46 #[.val (.int (10 : Int32))] [(.int (5 : Int32)), (.int (10 : Int32))])) _
    refine XS.icmpYes X0.here hx rfl (pc0 := 46) (pc' := 53) rfl (hb hby d1_46) rfl (feq (by decide)).2 (by decide) (by decide) ?_
    show Steps p.tables e below (s₁.setTop (mkF m 53 #[.val (.int (10 : Int32))] [])) _
    refine XS.iloadN X0.here hx rfl (hb hby d1_53) rfl ?_
    show Steps p.tables e below (s₁.setTop (mkF m 54 #[.val (.int (10 : Int32))] [(.int (10 : Int32))])) _
    refine XS.bipush X0.here hx rfl (hb hby d1_54) ?_
    show Steps p.tables e below (s₁.setTop (mkF m 56 #[.val (.int (10 : Int32))] [(.int (6 : Int32)), (.int (10 : Int32))])) _
    refine XS.icmpYes X0.here hx rfl (pc0 := 56) (pc' := 63) rfl (hb hby d1_56) rfl (feq (by decide)).2 (by decide) (by decide) ?_
    show Steps p.tables e below (s₁.setTop (mkF m 63 #[.val (.int (10 : Int32))] [])) _
    refine XS.iloadN X0.here hx rfl (hb hby d1_63) rfl ?_
    show Steps p.tables e below (s₁.setTop (mkF m 64 #[.val (.int (10 : Int32))] [(.int (10 : Int32))])) _
    refine XS.bipush X0.here hx rfl (hb hby d1_64) ?_
    show Steps p.tables e below (s₁.setTop (mkF m 66 #[.val (.int (10 : Int32))] [(.int (7 : Int32)), (.int (10 : Int32))])) _
    refine XS.icmpYes X0.here hx rfl (pc0 := 66) (pc' := 73) rfl (hb hby d1_66) rfl (feq (by decide)).2 (by decide) (by decide) ?_
    show Steps p.tables e below (s₁.setTop (mkF m 73 #[.val (.int (10 : Int32))] [])) _
    refine XS.iloadN X0.here hx rfl (hb hby d1_73) rfl ?_
    show Steps p.tables e below (s₁.setTop (mkF m 74 #[.val (.int (10 : Int32))] [(.int (10 : Int32))])) _
    refine XS.bipush X0.here hx rfl (hb hby d1_74) ?_
    show Steps p.tables e below (s₁.setTop (mkF m 76 #[.val (.int (10 : Int32))] [(.int (8 : Int32)), (.int (10 : Int32))])) _
    refine XS.icmpYes X0.here hx rfl (pc0 := 76) (pc' := 83) rfl (hb hby d1_76) rfl (feq (by decide)).2 (by decide) (by decide) ?_
    show Steps p.tables e below (s₁.setTop (mkF m 83 #[.val (.int (10 : Int32))] [])) _
    refine XS.iloadN X0.here hx rfl (hb hby d1_83) rfl ?_
    show Steps p.tables e below (s₁.setTop (mkF m 84 #[.val (.int (10 : Int32))] [(.int (10 : Int32))])) _
    refine XS.bipush X0.here hx rfl (hb hby d1_84) ?_
    show Steps p.tables e below (s₁.setTop (mkF m 86 #[.val (.int (10 : Int32))] [(.int (9 : Int32)), (.int (10 : Int32))])) _
    refine XS.icmpYes X0.here hx rfl (pc0 := 86) (pc' := 93) rfl (hb hby d1_86) rfl (feq (by decide)).2 (by decide) (by decide) ?_
    show Steps p.tables e below (s₁.setTop (mkF m 93 #[.val (.int (10 : Int32))] [])) _
    refine XS.iloadN X0.here hx rfl (hb hby d1_93) rfl ?_
    show Steps p.tables e below (s₁.setTop (mkF m 94 #[.val (.int (10 : Int32))] [(.int (10 : Int32))])) _
    refine XS.bipush X0.here hx rfl (hb hby d1_94) ?_
    show Steps p.tables e below (s₁.setTop (mkF m 96 #[.val (.int (10 : Int32))] [(.int (10 : Int32)), (.int (10 : Int32))])) _
    refine XS.icmpNo X0.here hx rfl (hb hby d1_96) rfl (teq (by decide)).2 ?_
    show Steps p.tables e below (s₁.setTop (mkF m 99 #[.val (.int (10 : Int32))] [])) _
    refine st1 _ ?_
    exact Steps.refl _
  obtain ⟨fs, hr, hrun, hended, hW, hsame⟩ := X1.leave (v := some (.ref va)) (fun h => by rw [Bd.returns] at h; cases h)
  refine ⟨_, _, s2.trans ?_, hrun, hended, _, _, rfl, ?_, ⟨_, rfl⟩, hW, hsame.mono (by decide) (by decide)⟩
  · show Steps p.tables e below (T1.setTop (mkF m 102 #[.val (.int (10 : Int32))] [(.ref va)])) _
    jvm_step X1.here [X1.here.top, hx, (hb hby d1_102), X1.method', Bd.returns, Value.isRef, FieldType.isReference]
    first | (intro acts; rw [hr _ acts rfl rfl rfl]) | rw [hr _ _ rfl rfl rfl]
    exact Steps.refl _
  · show Qp10 Z va h0 n0 _ T1.heap _
    rw [e1]
    exact ⟨rfl, N0, rfl⟩
theorem d1_103 : decode method_3_code 103 = .ok (.iload_n 0, 1) := by decide +kernel
theorem d1_104 : decode method_3_code 104 = .ok (.bipush 11, 2) := by decide +kernel
theorem d1_106 : decode method_3_code 106 = .ok (.if_icmp .ne 7, 3) := by decide +kernel
theorem d1_109 : decode method_3_code 109 = .ok (.getstatic 58, 3) := by decide +kernel
theorem d1_112 : decode method_3_code 112 = .ok (.areturn, 1) := by decide +kernel
theorem ef_rmp11 (m : MethodId)  : entryFrame m #[(.int (11 : Int32))] 1 = mkF m 0 #[.val (.int (11 : Int32))] [] := by first | (simp [entryFrame, mkF, argsToLocals, Value.category]; done) | rfl
def Qp11 (Z : State) (va : Addr) (h0 : Heap) (n0 : Nat) (v : Option Value) (h : Heap) (L : List Loc) : Prop := v = some (.ref va) ∧ Fr n0 L ∧ h = h0
set_option maxRecDepth 65536 in
set_option maxHeartbeats 40000000 in
theorem rmp11 (l : Launch) (Z : State) (a0 : Array Value) (hw : ∀ d ∈ tables_1, d.before a0 Z = true) (ws : List Jvm.Cond) (va : Addr) (h0 : Heap) (n0 : Nat) (O0 : Old Z n0 h0) (F0_ : Sta Z Z.heap "com/example/schemactl/schemactl/MigrationState" "BASELINE" "Lcom/example/schemactl/schemactl/MigrationState;" (.ref va)) :
    MetFree l (⟨"com/example/schemactl/schemactl/MigrationStateIsProblemPinLaw", "pick", "(I)Lcom/example/schemactl/schemactl/MigrationState;"⟩ : MethodName) (head1 (Jvm.Cond.code (⟨"com/example/schemactl/schemactl/MigrationStateIsProblemPinLaw", "pick", "(I)Lcom/example/schemactl/schemactl/MigrationState;"⟩ : MethodName) method_3_code 1 (some (.object "com/example/schemactl/schemactl/MigrationState")) :: ws) ({ frames := 0, cells := 0, slots := 0, locals := 0 } : Room)) (fun a U => a = #[(.int (11 : Int32))] ∧ Z.Warmed39 U.vm ∧ U.heap = h0) (fun _ _ _ _ _ => True) (fun _ U o U' => ∃ v L, o = .returned v ∧ Qp11 Z va h0 n0 v U'.heap L ∧ FrameEnd U o U' L ({ frames := 0, cells := 0, slots := 0, locals := 0 } : Room).cells ({ frames := 0, cells := 0, slots := 0, locals := 0 } : Room).slots) := by
  refine MetFree.of_bodySF (plainFor_of_name pn_1) hisR ?_
  intro p e s m args below meth c s₁ Bd hml0 hP hK
  obtain ⟨rfl, hZ, hh⟩ := hP
  have hx := Bd.exec
  have hby := Bd.bytes
  have hml : c.maxLocals = 1 := hml0
  have hown : s.vm.findClass "com/example/schemactl/schemactl/MigrationStateIsProblemPinLaw" = some m.cls := findClass_of_methodNamed Bd.named
  have hnm := (name_of_methodNamed Bd.named Bd.method).1
  have X0 : Stand p l e ({ frames := 0, cells := 0, slots := 0, locals := 0 } : Room) s m #[(.int (11 : Int32))] below meth c s₁ [] 0 0 := Stand.of_body Bd
  have e0 : s₁.heap = h0 := by rw [← hh, Bd.state]; rfl
  have N0 := Fr.nil n0
  have s0 : Steps p.tables e below (s₁.setTop (entryFrame m #[(.int (11 : Int32))] 1)) (s₁.setTop (mkF m 0 #[.val (.int (11 : Int32))] [])) := castTop (ef_rmp11 m ) (Steps.refl _)
  obtain ⟨T1, X1, e1, st1⟩ := getS2 X0 hx hZ hown (host := "") (Or.inl (hw _ (List.mem_of_getElem? (i := 34) rfl))) Via.refl e0 (F0_.ext O0.2) (g := (mkF m 109 #[.val (.int (11 : Int32))] [])) rfl (hb hby d1_109)
  have s2 : Steps p.tables e below (s₁.setTop (entryFrame m #[(.int (11 : Int32))] 1)) (T1.setTop (mkF m 112 #[.val (.int (11 : Int32))] [(.ref va)])) := by
    refine s0.trans ?_
    show Steps p.tables e below (s₁.setTop (mkF m 0 #[.val (.int (11 : Int32))] [])) _
    refine XS.iloadN X0.here hx rfl (hb hby d1_0) rfl ?_
    show Steps p.tables e below (s₁.setTop (mkF m 1 #[.val (.int (11 : Int32))] [(.int (11 : Int32))])) _
    refine XS.ifYes X0.here hx rfl (pc0 := 1) (pc' := 8) rfl (hb hby d1_1) rfl ((if0 _ _).trans (feq (by decide)).2) (by decide) (by decide) ?_
    show Steps p.tables e below (s₁.setTop (mkF m 8 #[.val (.int (11 : Int32))] [])) _
    refine XS.iloadN X0.here hx rfl (hb hby d1_8) rfl ?_
    show Steps p.tables e below (s₁.setTop (mkF m 9 #[.val (.int (11 : Int32))] [(.int (11 : Int32))])) _
    refine XS.iconst X0.here hx rfl (hb hby d1_9) ?_
    show Steps p.tables e below (s₁.setTop (mkF m 10 #[.val (.int (11 : Int32))] [(.int (1 : Int32)), (.int (11 : Int32))])) _
    refine XS.icmpYes X0.here hx rfl (pc0 := 10) (pc' := 17) rfl (hb hby d1_10) rfl (feq (by decide)).2 (by decide) (by decide) ?_
    show Steps p.tables e below (s₁.setTop (mkF m 17 #[.val (.int (11 : Int32))] [])) _
    refine XS.iloadN X0.here hx rfl (hb hby d1_17) rfl ?_
    show Steps p.tables e below (s₁.setTop (mkF m 18 #[.val (.int (11 : Int32))] [(.int (11 : Int32))])) _
    refine XS.iconst X0.here hx rfl (hb hby d1_18) ?_
    show Steps p.tables e below (s₁.setTop (mkF m 19 #[.val (.int (11 : Int32))] [(.int (2 : Int32)), (.int (11 : Int32))])) _
    refine XS.icmpYes X0.here hx rfl (pc0 := 19) (pc' := 26) rfl (hb hby d1_19) rfl (feq (by decide)).2 (by decide) (by decide) ?_
    show Steps p.tables e below (s₁.setTop (mkF m 26 #[.val (.int (11 : Int32))] [])) _
    refine XS.iloadN X0.here hx rfl (hb hby d1_26) rfl ?_
    show Steps p.tables e below (s₁.setTop (mkF m 27 #[.val (.int (11 : Int32))] [(.int (11 : Int32))])) _
    refine XS.iconst X0.here hx rfl (hb hby d1_27) ?_
    show Steps p.tables e below (s₁.setTop (mkF m 28 #[.val (.int (11 : Int32))] [(.int (3 : Int32)), (.int (11 : Int32))])) _
    refine XS.icmpYes X0.here hx rfl (pc0 := 28) (pc' := 35) rfl (hb hby d1_28) rfl (feq (by decide)).2 (by decide) (by decide) ?_
    show Steps p.tables e below (s₁.setTop (mkF m 35 #[.val (.int (11 : Int32))] [])) _
    refine XS.iloadN X0.here hx rfl (hb hby d1_35) rfl ?_
    show Steps p.tables e below (s₁.setTop (mkF m 36 #[.val (.int (11 : Int32))] [(.int (11 : Int32))])) _
    refine XS.iconst X0.here hx rfl (hb hby d1_36) ?_
    show Steps p.tables e below (s₁.setTop (mkF m 37 #[.val (.int (11 : Int32))] [(.int (4 : Int32)), (.int (11 : Int32))])) _
    refine XS.icmpYes X0.here hx rfl (pc0 := 37) (pc' := 44) rfl (hb hby d1_37) rfl (feq (by decide)).2 (by decide) (by decide) ?_
    show Steps p.tables e below (s₁.setTop (mkF m 44 #[.val (.int (11 : Int32))] [])) _
    refine XS.iloadN X0.here hx rfl (hb hby d1_44) rfl ?_
    show Steps p.tables e below (s₁.setTop (mkF m 45 #[.val (.int (11 : Int32))] [(.int (11 : Int32))])) _
    refine XS.iconst X0.here hx rfl (hb hby d1_45) ?_
    show Steps p.tables e below (s₁.setTop (mkF m 46 #[.val (.int (11 : Int32))] [(.int (5 : Int32)), (.int (11 : Int32))])) _
    refine XS.icmpYes X0.here hx rfl (pc0 := 46) (pc' := 53) rfl (hb hby d1_46) rfl (feq (by decide)).2 (by decide) (by decide) ?_
    show Steps p.tables e below (s₁.setTop (mkF m 53 #[.val (.int (11 : Int32))] [])) _
    refine XS.iloadN X0.here hx rfl (hb hby d1_53) rfl ?_
    show Steps p.tables e below (s₁.setTop (mkF m 54 #[.val (.int (11 : Int32))] [(.int (11 : Int32))])) _
    refine XS.bipush X0.here hx rfl (hb hby d1_54) ?_
    show Steps p.tables e below (s₁.setTop (mkF m 56 #[.val (.int (11 : Int32))] [(.int (6 : Int32)), (.int (11 : Int32))])) _
    refine XS.icmpYes X0.here hx rfl (pc0 := 56) (pc' := 63) rfl (hb hby d1_56) rfl (feq (by decide)).2 (by decide) (by decide) ?_
    show Steps p.tables e below (s₁.setTop (mkF m 63 #[.val (.int (11 : Int32))] [])) _
    refine XS.iloadN X0.here hx rfl (hb hby d1_63) rfl ?_
    show Steps p.tables e below (s₁.setTop (mkF m 64 #[.val (.int (11 : Int32))] [(.int (11 : Int32))])) _
    refine XS.bipush X0.here hx rfl (hb hby d1_64) ?_
    show Steps p.tables e below (s₁.setTop (mkF m 66 #[.val (.int (11 : Int32))] [(.int (7 : Int32)), (.int (11 : Int32))])) _
    refine XS.icmpYes X0.here hx rfl (pc0 := 66) (pc' := 73) rfl (hb hby d1_66) rfl (feq (by decide)).2 (by decide) (by decide) ?_
    show Steps p.tables e below (s₁.setTop (mkF m 73 #[.val (.int (11 : Int32))] [])) _
    refine XS.iloadN X0.here hx rfl (hb hby d1_73) rfl ?_
    show Steps p.tables e below (s₁.setTop (mkF m 74 #[.val (.int (11 : Int32))] [(.int (11 : Int32))])) _
    refine XS.bipush X0.here hx rfl (hb hby d1_74) ?_
    show Steps p.tables e below (s₁.setTop (mkF m 76 #[.val (.int (11 : Int32))] [(.int (8 : Int32)), (.int (11 : Int32))])) _
    refine XS.icmpYes X0.here hx rfl (pc0 := 76) (pc' := 83) rfl (hb hby d1_76) rfl (feq (by decide)).2 (by decide) (by decide) ?_
    show Steps p.tables e below (s₁.setTop (mkF m 83 #[.val (.int (11 : Int32))] [])) _
    refine XS.iloadN X0.here hx rfl (hb hby d1_83) rfl ?_
    show Steps p.tables e below (s₁.setTop (mkF m 84 #[.val (.int (11 : Int32))] [(.int (11 : Int32))])) _
    refine XS.bipush X0.here hx rfl (hb hby d1_84) ?_
    show Steps p.tables e below (s₁.setTop (mkF m 86 #[.val (.int (11 : Int32))] [(.int (9 : Int32)), (.int (11 : Int32))])) _
    refine XS.icmpYes X0.here hx rfl (pc0 := 86) (pc' := 93) rfl (hb hby d1_86) rfl (feq (by decide)).2 (by decide) (by decide) ?_
    show Steps p.tables e below (s₁.setTop (mkF m 93 #[.val (.int (11 : Int32))] [])) _
    refine XS.iloadN X0.here hx rfl (hb hby d1_93) rfl ?_
    show Steps p.tables e below (s₁.setTop (mkF m 94 #[.val (.int (11 : Int32))] [(.int (11 : Int32))])) _
    refine XS.bipush X0.here hx rfl (hb hby d1_94) ?_
    show Steps p.tables e below (s₁.setTop (mkF m 96 #[.val (.int (11 : Int32))] [(.int (10 : Int32)), (.int (11 : Int32))])) _
    refine XS.icmpYes X0.here hx rfl (pc0 := 96) (pc' := 103) rfl (hb hby d1_96) rfl (feq (by decide)).2 (by decide) (by decide) ?_
    show Steps p.tables e below (s₁.setTop (mkF m 103 #[.val (.int (11 : Int32))] [])) _
    refine XS.iloadN X0.here hx rfl (hb hby d1_103) rfl ?_
    show Steps p.tables e below (s₁.setTop (mkF m 104 #[.val (.int (11 : Int32))] [(.int (11 : Int32))])) _
    refine XS.bipush X0.here hx rfl (hb hby d1_104) ?_
    show Steps p.tables e below (s₁.setTop (mkF m 106 #[.val (.int (11 : Int32))] [(.int (11 : Int32)), (.int (11 : Int32))])) _
    refine XS.icmpNo X0.here hx rfl (hb hby d1_106) rfl (teq (by decide)).2 ?_
    show Steps p.tables e below (s₁.setTop (mkF m 109 #[.val (.int (11 : Int32))] [])) _
    refine st1 _ ?_
    exact Steps.refl _
  obtain ⟨fs, hr, hrun, hended, hW, hsame⟩ := X1.leave (v := some (.ref va)) (fun h => by rw [Bd.returns] at h; cases h)
  refine ⟨_, _, s2.trans ?_, hrun, hended, _, _, rfl, ?_, ⟨_, rfl⟩, hW, hsame.mono (by decide) (by decide)⟩
  · show Steps p.tables e below (T1.setTop (mkF m 112 #[.val (.int (11 : Int32))] [(.ref va)])) _
    jvm_step X1.here [X1.here.top, hx, (hb hby d1_112), X1.method', Bd.returns, Value.isRef, FieldType.isReference]
    first | (intro acts; rw [hr _ acts rfl rfl rfl]) | rw [hr _ _ rfl rfl rfl]
    exact Steps.refl _
  · show Qp11 Z va h0 n0 _ T1.heap _
    rw [e1]
    exact ⟨rfl, N0, rfl⟩
theorem d1_113 : decode method_3_code 113 = .ok (.getstatic 61, 3) := by decide +kernel
theorem d1_116 : decode method_3_code 116 = .ok (.areturn, 1) := by decide +kernel
theorem ef_rmp12 (m : MethodId)  : entryFrame m #[(.int (12 : Int32))] 1 = mkF m 0 #[.val (.int (12 : Int32))] [] := by first | (simp [entryFrame, mkF, argsToLocals, Value.category]; done) | rfl
def Qp12 (Z : State) (va : Addr) (h0 : Heap) (n0 : Nat) (v : Option Value) (h : Heap) (L : List Loc) : Prop := v = some (.ref va) ∧ Fr n0 L ∧ h = h0
set_option maxRecDepth 65536 in
set_option maxHeartbeats 40000000 in
theorem rmp12 (l : Launch) (Z : State) (a0 : Array Value) (hw : ∀ d ∈ tables_1, d.before a0 Z = true) (ws : List Jvm.Cond) (va : Addr) (h0 : Heap) (n0 : Nat) (O0 : Old Z n0 h0) (F0_ : Sta Z Z.heap "com/example/schemactl/schemactl/MigrationState" "BELOW_BASELINE" "Lcom/example/schemactl/schemactl/MigrationState;" (.ref va)) :
    MetFree l (⟨"com/example/schemactl/schemactl/MigrationStateIsProblemPinLaw", "pick", "(I)Lcom/example/schemactl/schemactl/MigrationState;"⟩ : MethodName) (head1 (Jvm.Cond.code (⟨"com/example/schemactl/schemactl/MigrationStateIsProblemPinLaw", "pick", "(I)Lcom/example/schemactl/schemactl/MigrationState;"⟩ : MethodName) method_3_code 1 (some (.object "com/example/schemactl/schemactl/MigrationState")) :: ws) ({ frames := 0, cells := 0, slots := 0, locals := 0 } : Room)) (fun a U => a = #[(.int (12 : Int32))] ∧ Z.Warmed39 U.vm ∧ U.heap = h0) (fun _ _ _ _ _ => True) (fun _ U o U' => ∃ v L, o = .returned v ∧ Qp12 Z va h0 n0 v U'.heap L ∧ FrameEnd U o U' L ({ frames := 0, cells := 0, slots := 0, locals := 0 } : Room).cells ({ frames := 0, cells := 0, slots := 0, locals := 0 } : Room).slots) := by
  refine MetFree.of_bodySF (plainFor_of_name pn_1) hisR ?_
  intro p e s m args below meth c s₁ Bd hml0 hP hK
  obtain ⟨rfl, hZ, hh⟩ := hP
  have hx := Bd.exec
  have hby := Bd.bytes
  have hml : c.maxLocals = 1 := hml0
  have hown : s.vm.findClass "com/example/schemactl/schemactl/MigrationStateIsProblemPinLaw" = some m.cls := findClass_of_methodNamed Bd.named
  have hnm := (name_of_methodNamed Bd.named Bd.method).1
  have X0 : Stand p l e ({ frames := 0, cells := 0, slots := 0, locals := 0 } : Room) s m #[(.int (12 : Int32))] below meth c s₁ [] 0 0 := Stand.of_body Bd
  have e0 : s₁.heap = h0 := by rw [← hh, Bd.state]; rfl
  have N0 := Fr.nil n0
  have s0 : Steps p.tables e below (s₁.setTop (entryFrame m #[(.int (12 : Int32))] 1)) (s₁.setTop (mkF m 0 #[.val (.int (12 : Int32))] [])) := castTop (ef_rmp12 m ) (Steps.refl _)
  obtain ⟨T1, X1, e1, st1⟩ := getS2 X0 hx hZ hown (host := "") (Or.inl (hw _ (List.mem_of_getElem? (i := 42) rfl))) Via.refl e0 (F0_.ext O0.2) (g := (mkF m 113 #[.val (.int (12 : Int32))] [])) rfl (hb hby d1_113)
  have s2 : Steps p.tables e below (s₁.setTop (entryFrame m #[(.int (12 : Int32))] 1)) (T1.setTop (mkF m 116 #[.val (.int (12 : Int32))] [(.ref va)])) := by
    refine s0.trans ?_
    show Steps p.tables e below (s₁.setTop (mkF m 0 #[.val (.int (12 : Int32))] [])) _
    refine XS.iloadN X0.here hx rfl (hb hby d1_0) rfl ?_
    show Steps p.tables e below (s₁.setTop (mkF m 1 #[.val (.int (12 : Int32))] [(.int (12 : Int32))])) _
    refine XS.ifYes X0.here hx rfl (pc0 := 1) (pc' := 8) rfl (hb hby d1_1) rfl ((if0 _ _).trans (feq (by decide)).2) (by decide) (by decide) ?_
    show Steps p.tables e below (s₁.setTop (mkF m 8 #[.val (.int (12 : Int32))] [])) _
    refine XS.iloadN X0.here hx rfl (hb hby d1_8) rfl ?_
    show Steps p.tables e below (s₁.setTop (mkF m 9 #[.val (.int (12 : Int32))] [(.int (12 : Int32))])) _
    refine XS.iconst X0.here hx rfl (hb hby d1_9) ?_
    show Steps p.tables e below (s₁.setTop (mkF m 10 #[.val (.int (12 : Int32))] [(.int (1 : Int32)), (.int (12 : Int32))])) _
    refine XS.icmpYes X0.here hx rfl (pc0 := 10) (pc' := 17) rfl (hb hby d1_10) rfl (feq (by decide)).2 (by decide) (by decide) ?_
    show Steps p.tables e below (s₁.setTop (mkF m 17 #[.val (.int (12 : Int32))] [])) _
    refine XS.iloadN X0.here hx rfl (hb hby d1_17) rfl ?_
    show Steps p.tables e below (s₁.setTop (mkF m 18 #[.val (.int (12 : Int32))] [(.int (12 : Int32))])) _
    refine XS.iconst X0.here hx rfl (hb hby d1_18) ?_
    show Steps p.tables e below (s₁.setTop (mkF m 19 #[.val (.int (12 : Int32))] [(.int (2 : Int32)), (.int (12 : Int32))])) _
    refine XS.icmpYes X0.here hx rfl (pc0 := 19) (pc' := 26) rfl (hb hby d1_19) rfl (feq (by decide)).2 (by decide) (by decide) ?_
    show Steps p.tables e below (s₁.setTop (mkF m 26 #[.val (.int (12 : Int32))] [])) _
    refine XS.iloadN X0.here hx rfl (hb hby d1_26) rfl ?_
    show Steps p.tables e below (s₁.setTop (mkF m 27 #[.val (.int (12 : Int32))] [(.int (12 : Int32))])) _
    refine XS.iconst X0.here hx rfl (hb hby d1_27) ?_
    show Steps p.tables e below (s₁.setTop (mkF m 28 #[.val (.int (12 : Int32))] [(.int (3 : Int32)), (.int (12 : Int32))])) _
    refine XS.icmpYes X0.here hx rfl (pc0 := 28) (pc' := 35) rfl (hb hby d1_28) rfl (feq (by decide)).2 (by decide) (by decide) ?_
    show Steps p.tables e below (s₁.setTop (mkF m 35 #[.val (.int (12 : Int32))] [])) _
    refine XS.iloadN X0.here hx rfl (hb hby d1_35) rfl ?_
    show Steps p.tables e below (s₁.setTop (mkF m 36 #[.val (.int (12 : Int32))] [(.int (12 : Int32))])) _
    refine XS.iconst X0.here hx rfl (hb hby d1_36) ?_
    show Steps p.tables e below (s₁.setTop (mkF m 37 #[.val (.int (12 : Int32))] [(.int (4 : Int32)), (.int (12 : Int32))])) _
    refine XS.icmpYes X0.here hx rfl (pc0 := 37) (pc' := 44) rfl (hb hby d1_37) rfl (feq (by decide)).2 (by decide) (by decide) ?_
    show Steps p.tables e below (s₁.setTop (mkF m 44 #[.val (.int (12 : Int32))] [])) _
    refine XS.iloadN X0.here hx rfl (hb hby d1_44) rfl ?_
    show Steps p.tables e below (s₁.setTop (mkF m 45 #[.val (.int (12 : Int32))] [(.int (12 : Int32))])) _
    refine XS.iconst X0.here hx rfl (hb hby d1_45) ?_
    show Steps p.tables e below (s₁.setTop (mkF m 46 #[.val (.int (12 : Int32))] [(.int (5 : Int32)), (.int (12 : Int32))])) _
    refine XS.icmpYes X0.here hx rfl (pc0 := 46) (pc' := 53) rfl (hb hby d1_46) rfl (feq (by decide)).2 (by decide) (by decide) ?_
    show Steps p.tables e below (s₁.setTop (mkF m 53 #[.val (.int (12 : Int32))] [])) _
    refine XS.iloadN X0.here hx rfl (hb hby d1_53) rfl ?_
    show Steps p.tables e below (s₁.setTop (mkF m 54 #[.val (.int (12 : Int32))] [(.int (12 : Int32))])) _
    refine XS.bipush X0.here hx rfl (hb hby d1_54) ?_
    show Steps p.tables e below (s₁.setTop (mkF m 56 #[.val (.int (12 : Int32))] [(.int (6 : Int32)), (.int (12 : Int32))])) _
    refine XS.icmpYes X0.here hx rfl (pc0 := 56) (pc' := 63) rfl (hb hby d1_56) rfl (feq (by decide)).2 (by decide) (by decide) ?_
    show Steps p.tables e below (s₁.setTop (mkF m 63 #[.val (.int (12 : Int32))] [])) _
    refine XS.iloadN X0.here hx rfl (hb hby d1_63) rfl ?_
    show Steps p.tables e below (s₁.setTop (mkF m 64 #[.val (.int (12 : Int32))] [(.int (12 : Int32))])) _
    refine XS.bipush X0.here hx rfl (hb hby d1_64) ?_
    show Steps p.tables e below (s₁.setTop (mkF m 66 #[.val (.int (12 : Int32))] [(.int (7 : Int32)), (.int (12 : Int32))])) _
    refine XS.icmpYes X0.here hx rfl (pc0 := 66) (pc' := 73) rfl (hb hby d1_66) rfl (feq (by decide)).2 (by decide) (by decide) ?_
    show Steps p.tables e below (s₁.setTop (mkF m 73 #[.val (.int (12 : Int32))] [])) _
    refine XS.iloadN X0.here hx rfl (hb hby d1_73) rfl ?_
    show Steps p.tables e below (s₁.setTop (mkF m 74 #[.val (.int (12 : Int32))] [(.int (12 : Int32))])) _
    refine XS.bipush X0.here hx rfl (hb hby d1_74) ?_
    show Steps p.tables e below (s₁.setTop (mkF m 76 #[.val (.int (12 : Int32))] [(.int (8 : Int32)), (.int (12 : Int32))])) _
    refine XS.icmpYes X0.here hx rfl (pc0 := 76) (pc' := 83) rfl (hb hby d1_76) rfl (feq (by decide)).2 (by decide) (by decide) ?_
    show Steps p.tables e below (s₁.setTop (mkF m 83 #[.val (.int (12 : Int32))] [])) _
    refine XS.iloadN X0.here hx rfl (hb hby d1_83) rfl ?_
    show Steps p.tables e below (s₁.setTop (mkF m 84 #[.val (.int (12 : Int32))] [(.int (12 : Int32))])) _
    refine XS.bipush X0.here hx rfl (hb hby d1_84) ?_
    show Steps p.tables e below (s₁.setTop (mkF m 86 #[.val (.int (12 : Int32))] [(.int (9 : Int32)), (.int (12 : Int32))])) _
    refine XS.icmpYes X0.here hx rfl (pc0 := 86) (pc' := 93) rfl (hb hby d1_86) rfl (feq (by decide)).2 (by decide) (by decide) ?_
    show Steps p.tables e below (s₁.setTop (mkF m 93 #[.val (.int (12 : Int32))] [])) _
    refine XS.iloadN X0.here hx rfl (hb hby d1_93) rfl ?_
    show Steps p.tables e below (s₁.setTop (mkF m 94 #[.val (.int (12 : Int32))] [(.int (12 : Int32))])) _
    refine XS.bipush X0.here hx rfl (hb hby d1_94) ?_
    show Steps p.tables e below (s₁.setTop (mkF m 96 #[.val (.int (12 : Int32))] [(.int (10 : Int32)), (.int (12 : Int32))])) _
    refine XS.icmpYes X0.here hx rfl (pc0 := 96) (pc' := 103) rfl (hb hby d1_96) rfl (feq (by decide)).2 (by decide) (by decide) ?_
    show Steps p.tables e below (s₁.setTop (mkF m 103 #[.val (.int (12 : Int32))] [])) _
    refine XS.iloadN X0.here hx rfl (hb hby d1_103) rfl ?_
    show Steps p.tables e below (s₁.setTop (mkF m 104 #[.val (.int (12 : Int32))] [(.int (12 : Int32))])) _
    refine XS.bipush X0.here hx rfl (hb hby d1_104) ?_
    show Steps p.tables e below (s₁.setTop (mkF m 106 #[.val (.int (12 : Int32))] [(.int (11 : Int32)), (.int (12 : Int32))])) _
    refine XS.icmpYes X0.here hx rfl (pc0 := 106) (pc' := 113) rfl (hb hby d1_106) rfl (feq (by decide)).2 (by decide) (by decide) ?_
    show Steps p.tables e below (s₁.setTop (mkF m 113 #[.val (.int (12 : Int32))] [])) _
    refine st1 _ ?_
    exact Steps.refl _
  obtain ⟨fs, hr, hrun, hended, hW, hsame⟩ := X1.leave (v := some (.ref va)) (fun h => by rw [Bd.returns] at h; cases h)
  refine ⟨_, _, s2.trans ?_, hrun, hended, _, _, rfl, ?_, ⟨_, rfl⟩, hW, hsame.mono (by decide) (by decide)⟩
  · show Steps p.tables e below (T1.setTop (mkF m 116 #[.val (.int (12 : Int32))] [(.ref va)])) _
    jvm_step X1.here [X1.here.top, hx, (hb hby d1_116), X1.method', Bd.returns, Value.isRef, FieldType.isReference]
    first | (intro acts; rw [hr _ acts rfl rfl rfl]) | rw [hr _ _ rfl rfl rfl]
    exact Steps.refl _
  · show Qp12 Z va h0 n0 _ T1.heap _
    rw [e1]
    exact ⟨rfl, N0, rfl⟩
theorem d2_0 : decode prog_14_method_6_code 0 = .ok (.aload_n 0, 1) := by decide +kernel
theorem d2_1 : decode prog_14_method_6_code 1 = .ok (.getfield 72, 3) := by decide +kernel
theorem d2_4 : decode prog_14_method_6_code 4 = .ok (.ifnull 7, 3) := by decide +kernel
theorem d2_11 : decode prog_14_method_6_code 11 = .ok (.iconst 0, 1) := by decide +kernel
theorem d2_12 : decode prog_14_method_6_code 12 = .ok (.ireturn, 1) := by decide +kernel
theorem pn_2 : plainName "com/example/schemactl/schemactl/MigrationState" = true := by first | (simp [plainName, overriddenIn]; done) | decide +kernel
theorem ef_rmi0 (m : MethodId) (p0 : Addr) : entryFrame m #[(.ref p0)] 1 = mkF m 0 #[.val (.ref p0)] [] := by first | (simp [entryFrame, mkF, argsToLocals, Value.category]; done) | rfl
def Qi0 (Z : State) (p0 : Addr) (h0 : Heap) (n0 : Nat) (v : Option Value) (h : Heap) (L : List Loc) : Prop := v = some (.int (0 : Int32)) ∧ Fr n0 L ∧ h = h0
set_option maxRecDepth 65536 in
set_option maxHeartbeats 40000000 in
theorem rmi0 (l : Launch) (Z : State) (a0 : Array Value) (hw : ∀ d ∈ tables_1, d.before a0 Z = true) (ws : List Jvm.Cond) (p0 : Addr) (h0 : Heap) (n0 : Nat) (O0 : Old Z n0 h0) (F0_ : Fld Z h0 p0 "com/example/schemactl/schemactl/MigrationState" "reason" "Ljava/lang/String;" .null) :
    MetFree l (⟨"com/example/schemactl/schemactl/MigrationState", "isProblem", "()Z"⟩ : MethodName) (head1 (Jvm.Cond.code (⟨"com/example/schemactl/schemactl/MigrationState", "isProblem", "()Z"⟩ : MethodName) prog_14_method_6_code 1 (some .boolean) :: ws) ({ frames := 0, cells := 0, slots := 0, locals := 0 } : Room)) (fun a U => a = #[(.ref p0)] ∧ Z.Warmed39 U.vm ∧ U.heap = h0) (fun _ _ _ _ _ => True) (fun _ U o U' => ∃ v L, o = .returned v ∧ Qi0 Z p0 h0 n0 v U'.heap L ∧ FrameEnd U o U' L ({ frames := 0, cells := 0, slots := 0, locals := 0 } : Room).cells ({ frames := 0, cells := 0, slots := 0, locals := 0 } : Room).slots) := by
  refine MetFree.of_bodySF (plainFor_of_name pn_2) hisR ?_
  intro p e s m args below meth c s₁ Bd hml0 hP hK
  obtain ⟨rfl, hZ, hh⟩ := hP
  have hx := Bd.exec
  have hby := Bd.bytes
  have hml : c.maxLocals = 1 := hml0
  have hown : s.vm.findClass "com/example/schemactl/schemactl/MigrationState" = some m.cls := findClass_of_methodNamed Bd.named
  have hnm := (name_of_methodNamed Bd.named Bd.method).1
  have X0 : Stand p l e ({ frames := 0, cells := 0, slots := 0, locals := 0 } : Room) s m #[(.ref p0)] below meth c s₁ [] 0 0 := Stand.of_body Bd
  have e0 : s₁.heap = h0 := by rw [← hh, Bd.state]; rfl
  have N0 := Fr.nil n0
  have s0 : Steps p.tables e below (s₁.setTop (entryFrame m #[(.ref p0)] 1)) (s₁.setTop (mkF m 0 #[.val (.ref p0)] [])) := castTop (ef_rmi0 m p0) (Steps.refl _)
  obtain ⟨T1, X1, e1, st1⟩ := getF X0 hx hZ hown (host := "") (Or.inl (hw _ (List.mem_of_getElem? (i := 13) rfl))) Via.refl e0 F0_ (g := (mkF m 1 #[.val (.ref p0)] [(.ref p0)])) rfl rfl (hb hby d2_1)
  have s2 : Steps p.tables e below (s₁.setTop (entryFrame m #[(.ref p0)] 1)) (T1.setTop (mkF m 12 #[.val (.ref p0)] [(.int (0 : Int32))])) := by
    refine s0.trans ?_
    show Steps p.tables e below (s₁.setTop (mkF m 0 #[.val (.ref p0)] [])) _
    refine XS.aloadN X0.here hx rfl (hb hby d2_0) rfl rfl ?_
    show Steps p.tables e below (s₁.setTop (mkF m 1 #[.val (.ref p0)] [(.ref p0)])) _
    refine st1 _ ?_
    show Steps p.tables e below (T1.setTop (mkF m 4 #[.val (.ref p0)] [.null])) _
    refine XS.ifnullYes X1.here hx rfl (pc0 := 4) (pc' := 11) rfl (hb hby d2_4) rfl (by decide) (by decide) ?_
    show Steps p.tables e below (T1.setTop (mkF m 11 #[.val (.ref p0)] [])) _
    refine XS.iconst X1.here hx rfl (hb hby d2_11) ?_
    exact Steps.refl _
  obtain ⟨fs, hr, hrun, hended, hW, hsame⟩ := X1.leave (v := some (.int (0 : Int32))) (fun h => by rw [Bd.returns] at h; cases h)
  refine ⟨_, _, s2.trans ?_, hrun, hended, _, _, rfl, ?_, ⟨_, rfl⟩, hW, hsame.mono (by decide) (by decide)⟩
  · show Steps p.tables e below (T1.setTop (mkF m 12 #[.val (.ref p0)] [(.int (0 : Int32))])) _
    exact retN X1 hx (t := .boolean) Bd.returns (by simp) (hb hby d2_12) hr
  · show Qi0 Z p0 h0 n0 _ T1.heap _
    rw [e1]
    exact ⟨rfl, N0, rfl⟩
theorem d2_7 : decode prog_14_method_6_code 7 = .ok (.iconst 1, 1) := by decide +kernel
theorem d2_8 : decode prog_14_method_6_code 8 = .ok (.goto 4, 3) := by decide +kernel
theorem ef_rmi1 (m : MethodId) (p0 : Addr) : entryFrame m #[(.ref p0)] 1 = mkF m 0 #[.val (.ref p0)] [] := by first | (simp [entryFrame, mkF, argsToLocals, Value.category]; done) | rfl
def Qi1 (Z : State) (p0 : Addr) (u : Addr) (h0 : Heap) (n0 : Nat) (v : Option Value) (h : Heap) (L : List Loc) : Prop := v = some (.int (1 : Int32)) ∧ Fr n0 L ∧ h = h0
set_option maxRecDepth 65536 in
set_option maxHeartbeats 40000000 in
theorem rmi1 (l : Launch) (Z : State) (a0 : Array Value) (hw : ∀ d ∈ tables_1, d.before a0 Z = true) (ws : List Jvm.Cond) (p0 : Addr) (u : Addr) (h0 : Heap) (n0 : Nat) (O0 : Old Z n0 h0) (F0_ : Fld Z h0 p0 "com/example/schemactl/schemactl/MigrationState" "reason" "Ljava/lang/String;" (.ref u)) :
    MetFree l (⟨"com/example/schemactl/schemactl/MigrationState", "isProblem", "()Z"⟩ : MethodName) (head1 (Jvm.Cond.code (⟨"com/example/schemactl/schemactl/MigrationState", "isProblem", "()Z"⟩ : MethodName) prog_14_method_6_code 1 (some .boolean) :: ws) ({ frames := 0, cells := 0, slots := 0, locals := 0 } : Room)) (fun a U => a = #[(.ref p0)] ∧ Z.Warmed39 U.vm ∧ U.heap = h0) (fun _ _ _ _ _ => True) (fun _ U o U' => ∃ v L, o = .returned v ∧ Qi1 Z p0 u h0 n0 v U'.heap L ∧ FrameEnd U o U' L ({ frames := 0, cells := 0, slots := 0, locals := 0 } : Room).cells ({ frames := 0, cells := 0, slots := 0, locals := 0 } : Room).slots) := by
  refine MetFree.of_bodySF (plainFor_of_name pn_2) hisR ?_
  intro p e s m args below meth c s₁ Bd hml0 hP hK
  obtain ⟨rfl, hZ, hh⟩ := hP
  have hx := Bd.exec
  have hby := Bd.bytes
  have hml : c.maxLocals = 1 := hml0
  have hown : s.vm.findClass "com/example/schemactl/schemactl/MigrationState" = some m.cls := findClass_of_methodNamed Bd.named
  have hnm := (name_of_methodNamed Bd.named Bd.method).1
  have X0 : Stand p l e ({ frames := 0, cells := 0, slots := 0, locals := 0 } : Room) s m #[(.ref p0)] below meth c s₁ [] 0 0 := Stand.of_body Bd
  have e0 : s₁.heap = h0 := by rw [← hh, Bd.state]; rfl
  have N0 := Fr.nil n0
  have s0 : Steps p.tables e below (s₁.setTop (entryFrame m #[(.ref p0)] 1)) (s₁.setTop (mkF m 0 #[.val (.ref p0)] [])) := castTop (ef_rmi1 m p0) (Steps.refl _)
  obtain ⟨T1, X1, e1, st1⟩ := getF X0 hx hZ hown (host := "") (Or.inl (hw _ (List.mem_of_getElem? (i := 13) rfl))) Via.refl e0 F0_ (g := (mkF m 1 #[.val (.ref p0)] [(.ref p0)])) rfl rfl (hb hby d2_1)
  have s2 : Steps p.tables e below (s₁.setTop (entryFrame m #[(.ref p0)] 1)) (T1.setTop (mkF m 12 #[.val (.ref p0)] [(.int (1 : Int32))])) := by
    refine s0.trans ?_
    show Steps p.tables e below (s₁.setTop (mkF m 0 #[.val (.ref p0)] [])) _
    refine XS.aloadN X0.here hx rfl (hb hby d2_0) rfl rfl ?_
    show Steps p.tables e below (s₁.setTop (mkF m 1 #[.val (.ref p0)] [(.ref p0)])) _
    refine st1 _ ?_
    show Steps p.tables e below (T1.setTop (mkF m 4 #[.val (.ref p0)] [(.ref u)])) _
    refine XS.ifnullNo X1.here hx rfl (hb hby d2_4) rfl ?_
    show Steps p.tables e below (T1.setTop (mkF m 7 #[.val (.ref p0)] [])) _
    refine XS.iconst X1.here hx rfl (hb hby d2_7) ?_
    show Steps p.tables e below (T1.setTop (mkF m 8 #[.val (.ref p0)] [(.int (1 : Int32))])) _
    refine XS.goto X1.here hx rfl (pc0 := 8) (pc' := 12) rfl (hb hby d2_8) (by decide) (by decide) ?_
    exact Steps.refl _
  obtain ⟨fs, hr, hrun, hended, hW, hsame⟩ := X1.leave (v := some (.int (1 : Int32))) (fun h => by rw [Bd.returns] at h; cases h)
  refine ⟨_, _, s2.trans ?_, hrun, hended, _, _, rfl, ?_, ⟨_, rfl⟩, hW, hsame.mono (by decide) (by decide)⟩
  · show Steps p.tables e below (T1.setTop (mkF m 12 #[.val (.ref p0)] [(.int (1 : Int32))])) _
    exact retN X1 hx (t := .boolean) Bd.returns (by simp) (hb hby d2_12) hr
  · show Qi1 Z p0 u h0 n0 _ T1.heap _
    rw [e1]
    exact ⟨rfl, N0, rfl⟩
theorem d3_0 : decode prog_14_method_7_code 0 = .ok (.aload_n 0, 1) := by decide +kernel
theorem d3_1 : decode prog_14_method_7_code 1 = .ok (.getfield 69, 3) := by decide +kernel
theorem d3_4 : decode prog_14_method_7_code 4 = .ok (.areturn, 1) := by decide +kernel
theorem ef_rmr0 (m : MethodId) (p0 : Addr) : entryFrame m #[(.ref p0)] 1 = mkF m 0 #[.val (.ref p0)] [] := by first | (simp [entryFrame, mkF, argsToLocals, Value.category]; done) | rfl
def Qr0 (Z : State) (p0 : Addr) (h0 : Heap) (n0 : Nat) (v : Option Value) (h : Heap) (L : List Loc) : Prop := v = some .null ∧ Fr n0 L ∧ h = h0
set_option maxRecDepth 65536 in
set_option maxHeartbeats 40000000 in
theorem rmr0 (l : Launch) (Z : State) (a0 : Array Value) (hw : ∀ d ∈ tables_1, d.before a0 Z = true) (ws : List Jvm.Cond) (p0 : Addr) (h0 : Heap) (n0 : Nat) (O0 : Old Z n0 h0) (F0_ : Fld Z h0 p0 "com/example/schemactl/schemactl/MigrationState" "reportWord" "Ljava/lang/String;" .null) :
    MetFree l (⟨"com/example/schemactl/schemactl/MigrationState", "reportWord", "()Ljava/lang/String;"⟩ : MethodName) (head1 (Jvm.Cond.code (⟨"com/example/schemactl/schemactl/MigrationState", "reportWord", "()Ljava/lang/String;"⟩ : MethodName) prog_14_method_7_code 1 (some (.object "java/lang/String")) :: ws) ({ frames := 0, cells := 0, slots := 0, locals := 0 } : Room)) (fun a U => a = #[(.ref p0)] ∧ Z.Warmed39 U.vm ∧ U.heap = h0) (fun _ _ _ _ _ => True) (fun _ U o U' => ∃ v L, o = .returned v ∧ Qr0 Z p0 h0 n0 v U'.heap L ∧ FrameEnd U o U' L ({ frames := 0, cells := 0, slots := 0, locals := 0 } : Room).cells ({ frames := 0, cells := 0, slots := 0, locals := 0 } : Room).slots) := by
  refine MetFree.of_bodySF (plainFor_of_name pn_2) hisR ?_
  intro p e s m args below meth c s₁ Bd hml0 hP hK
  obtain ⟨rfl, hZ, hh⟩ := hP
  have hx := Bd.exec
  have hby := Bd.bytes
  have hml : c.maxLocals = 1 := hml0
  have hown : s.vm.findClass "com/example/schemactl/schemactl/MigrationState" = some m.cls := findClass_of_methodNamed Bd.named
  have hnm := (name_of_methodNamed Bd.named Bd.method).1
  have X0 : Stand p l e ({ frames := 0, cells := 0, slots := 0, locals := 0 } : Room) s m #[(.ref p0)] below meth c s₁ [] 0 0 := Stand.of_body Bd
  have e0 : s₁.heap = h0 := by rw [← hh, Bd.state]; rfl
  have N0 := Fr.nil n0
  have s0 : Steps p.tables e below (s₁.setTop (entryFrame m #[(.ref p0)] 1)) (s₁.setTop (mkF m 0 #[.val (.ref p0)] [])) := castTop (ef_rmr0 m p0) (Steps.refl _)
  obtain ⟨T1, X1, e1, st1⟩ := getF X0 hx hZ hown (host := "") (Or.inl (hw _ (List.mem_of_getElem? (i := 20) rfl))) Via.refl e0 F0_ (g := (mkF m 1 #[.val (.ref p0)] [(.ref p0)])) rfl rfl (hb hby d3_1)
  have s2 : Steps p.tables e below (s₁.setTop (entryFrame m #[(.ref p0)] 1)) (T1.setTop (mkF m 4 #[.val (.ref p0)] [.null])) := by
    refine s0.trans ?_
    show Steps p.tables e below (s₁.setTop (mkF m 0 #[.val (.ref p0)] [])) _
    refine XS.aloadN X0.here hx rfl (hb hby d3_0) rfl rfl ?_
    show Steps p.tables e below (s₁.setTop (mkF m 1 #[.val (.ref p0)] [(.ref p0)])) _
    refine st1 _ ?_
    exact Steps.refl _
  obtain ⟨fs, hr, hrun, hended, hW, hsame⟩ := X1.leave (v := some .null) (fun h => by rw [Bd.returns] at h; cases h)
  refine ⟨_, _, s2.trans ?_, hrun, hended, _, _, rfl, ?_, ⟨_, rfl⟩, hW, hsame.mono (by decide) (by decide)⟩
  · show Steps p.tables e below (T1.setTop (mkF m 4 #[.val (.ref p0)] [.null])) _
    jvm_step X1.here [X1.here.top, hx, (hb hby d3_4), X1.method', Bd.returns, Value.isRef, FieldType.isReference]
    first | (intro acts; rw [hr _ acts rfl rfl rfl]) | rw [hr _ _ rfl rfl rfl]
    exact Steps.refl _
  · show Qr0 Z p0 h0 n0 _ T1.heap _
    rw [e1]
    exact ⟨rfl, N0, rfl⟩
theorem ef_rmr1 (m : MethodId) (p0 : Addr) : entryFrame m #[(.ref p0)] 1 = mkF m 0 #[.val (.ref p0)] [] := by first | (simp [entryFrame, mkF, argsToLocals, Value.category]; done) | rfl
def Qr1 (Z : State) (p0 : Addr) (u : Addr) (h0 : Heap) (n0 : Nat) (v : Option Value) (h : Heap) (L : List Loc) : Prop := v = some (.ref u) ∧ Fr n0 L ∧ h = h0
set_option maxRecDepth 65536 in
set_option maxHeartbeats 40000000 in
theorem rmr1 (l : Launch) (Z : State) (a0 : Array Value) (hw : ∀ d ∈ tables_1, d.before a0 Z = true) (ws : List Jvm.Cond) (p0 : Addr) (u : Addr) (h0 : Heap) (n0 : Nat) (O0 : Old Z n0 h0) (F0_ : Fld Z h0 p0 "com/example/schemactl/schemactl/MigrationState" "reportWord" "Ljava/lang/String;" (.ref u)) :
    MetFree l (⟨"com/example/schemactl/schemactl/MigrationState", "reportWord", "()Ljava/lang/String;"⟩ : MethodName) (head1 (Jvm.Cond.code (⟨"com/example/schemactl/schemactl/MigrationState", "reportWord", "()Ljava/lang/String;"⟩ : MethodName) prog_14_method_7_code 1 (some (.object "java/lang/String")) :: ws) ({ frames := 0, cells := 0, slots := 0, locals := 0 } : Room)) (fun a U => a = #[(.ref p0)] ∧ Z.Warmed39 U.vm ∧ U.heap = h0) (fun _ _ _ _ _ => True) (fun _ U o U' => ∃ v L, o = .returned v ∧ Qr1 Z p0 u h0 n0 v U'.heap L ∧ FrameEnd U o U' L ({ frames := 0, cells := 0, slots := 0, locals := 0 } : Room).cells ({ frames := 0, cells := 0, slots := 0, locals := 0 } : Room).slots) := by
  refine MetFree.of_bodySF (plainFor_of_name pn_2) hisR ?_
  intro p e s m args below meth c s₁ Bd hml0 hP hK
  obtain ⟨rfl, hZ, hh⟩ := hP
  have hx := Bd.exec
  have hby := Bd.bytes
  have hml : c.maxLocals = 1 := hml0
  have hown : s.vm.findClass "com/example/schemactl/schemactl/MigrationState" = some m.cls := findClass_of_methodNamed Bd.named
  have hnm := (name_of_methodNamed Bd.named Bd.method).1
  have X0 : Stand p l e ({ frames := 0, cells := 0, slots := 0, locals := 0 } : Room) s m #[(.ref p0)] below meth c s₁ [] 0 0 := Stand.of_body Bd
  have e0 : s₁.heap = h0 := by rw [← hh, Bd.state]; rfl
  have N0 := Fr.nil n0
  have s0 : Steps p.tables e below (s₁.setTop (entryFrame m #[(.ref p0)] 1)) (s₁.setTop (mkF m 0 #[.val (.ref p0)] [])) := castTop (ef_rmr1 m p0) (Steps.refl _)
  obtain ⟨T1, X1, e1, st1⟩ := getF X0 hx hZ hown (host := "") (Or.inl (hw _ (List.mem_of_getElem? (i := 20) rfl))) Via.refl e0 F0_ (g := (mkF m 1 #[.val (.ref p0)] [(.ref p0)])) rfl rfl (hb hby d3_1)
  have s2 : Steps p.tables e below (s₁.setTop (entryFrame m #[(.ref p0)] 1)) (T1.setTop (mkF m 4 #[.val (.ref p0)] [(.ref u)])) := by
    refine s0.trans ?_
    show Steps p.tables e below (s₁.setTop (mkF m 0 #[.val (.ref p0)] [])) _
    refine XS.aloadN X0.here hx rfl (hb hby d3_0) rfl rfl ?_
    show Steps p.tables e below (s₁.setTop (mkF m 1 #[.val (.ref p0)] [(.ref p0)])) _
    refine st1 _ ?_
    exact Steps.refl _
  obtain ⟨fs, hr, hrun, hended, hW, hsame⟩ := X1.leave (v := some (.ref u)) (fun h => by rw [Bd.returns] at h; cases h)
  refine ⟨_, _, s2.trans ?_, hrun, hended, _, _, rfl, ?_, ⟨_, rfl⟩, hW, hsame.mono (by decide) (by decide)⟩
  · show Steps p.tables e below (T1.setTop (mkF m 4 #[.val (.ref p0)] [(.ref u)])) _
    jvm_step X1.here [X1.here.top, hx, (hb hby d3_4), X1.method', Bd.returns, Value.isRef, FieldType.isReference]
    first | (intro acts; rw [hr _ acts rfl rfl rfl]) | rw [hr _ _ rfl rfl rfl]
    exact Steps.refl _
  · show Qr1 Z p0 u h0 n0 _ T1.heap _
    rw [e1]
    exact ⟨rfl, N0, rfl⟩
theorem pd_rm0_0 : parseMethodDescriptor "(I)Lcom/example/schemactl/schemactl/MigrationState;" = some ⟨[.int], some (.object "com/example/schemactl/schemactl/MigrationState")⟩ := by decide +kernel
theorem pd_rm0_1 : parseMethodDescriptor "()Z" = some ⟨[], some .boolean⟩ := by decide +kernel
theorem pd_rm0_2 : parseMethodDescriptor "()Ljava/lang/String;" = some ⟨[], some (.object "java/lang/String")⟩ := by decide +kernel
theorem ef_rm0 (m : MethodId) (p0 : Int32) : entryFrame m #[(.int p0)] maxLocals = mkF m 0 #[.val (.int p0), .unset, .unset, .unset, .unset] [] := by first | (simp [entryFrame, mkF, argsToLocals, Value.category, maxLocals]; done) | rfl
def Q0 (Z : State) (p0 : Int32) (v_APPLIED : Addr) (v_CHANGED : Addr) (x_v_CHANGED_reason : Addr) (x_v_CHANGED_reportWord : Addr) (v_OUT_OF_ORDER : Addr) (x_v_OUT_OF_ORDER_reason : Addr) (x_v_OUT_OF_ORDER_reportWord : Addr) (v_NEWER : Addr) (v_FAILED : Addr) (x_v_FAILED_reason : Addr) (x_v_FAILED_reportWord : Addr) (v_INTERRUPTED : Addr) (x_v_INTERRUPTED_reason : Addr) (v_OUTDATED : Addr) (v_BASELINE : Addr) (v_PENDING : Addr) (v_INCOMPLETE : Addr) (v_APPLYING : Addr) (v_BELOW_BASELINE : Addr) (v_MISSING : Addr) (x_v_MISSING_reason : Addr) (x_v_MISSING_reportWord : Addr) (h0 : Heap) (n0 : Nat) (v : Option Value) (h : Heap) (L : List Loc) : Prop := v = some (.int (1 : Int32)) ∧ Fr n0 L
set_option maxRecDepth 65536 in
set_option maxHeartbeats 40000000 in
theorem rm0 (l : Launch) (Z : State) (a0 : Array Value) (hw : ∀ d ∈ tables_1, d.before a0 Z = true) (ws : List Jvm.Cond) (p0 : Int32) (v_APPLIED : Addr) (v_CHANGED : Addr) (x_v_CHANGED_reason : Addr) (x_v_CHANGED_reportWord : Addr) (v_OUT_OF_ORDER : Addr) (x_v_OUT_OF_ORDER_reason : Addr) (x_v_OUT_OF_ORDER_reportWord : Addr) (v_NEWER : Addr) (v_FAILED : Addr) (x_v_FAILED_reason : Addr) (x_v_FAILED_reportWord : Addr) (v_INTERRUPTED : Addr) (x_v_INTERRUPTED_reason : Addr) (v_OUTDATED : Addr) (v_BASELINE : Addr) (v_PENDING : Addr) (v_INCOMPLETE : Addr) (v_APPLYING : Addr) (v_BELOW_BASELINE : Addr) (v_MISSING : Addr) (x_v_MISSING_reason : Addr) (x_v_MISSING_reportWord : Addr) (h0 : Heap) (n0 : Nat) (O0 : Old Z n0 h0) (F0_ : Sta Z Z.heap "com/example/schemactl/schemactl/MigrationState" "APPLIED" "Lcom/example/schemactl/schemactl/MigrationState;" (.ref v_APPLIED)) (F1_ : Exa Z Z.heap v_APPLIED "com/example/schemactl/schemactl/MigrationState") (F2_ : Fld Z Z.heap v_APPLIED "com/example/schemactl/schemactl/MigrationState" "reason" "Ljava/lang/String;" .null) (F3_ : Fld Z Z.heap v_APPLIED "com/example/schemactl/schemactl/MigrationState" "reportWord" "Ljava/lang/String;" .null) (F4_ : Sta Z Z.heap "com/example/schemactl/schemactl/MigrationState" "CHANGED" "Lcom/example/schemactl/schemactl/MigrationState;" (.ref v_CHANGED)) (F5_ : Exa Z Z.heap v_CHANGED "com/example/schemactl/schemactl/MigrationState") (F6_ : Fld Z Z.heap v_CHANGED "com/example/schemactl/schemactl/MigrationState" "reason" "Ljava/lang/String;" (.ref x_v_CHANGED_reason)) (F7_ : Fld Z Z.heap v_CHANGED "com/example/schemactl/schemactl/MigrationState" "reportWord" "Ljava/lang/String;" (.ref x_v_CHANGED_reportWord)) (F8_ : Sta Z Z.heap "com/example/schemactl/schemactl/MigrationState" "OUT_OF_ORDER" "Lcom/example/schemactl/schemactl/MigrationState;" (.ref v_OUT_OF_ORDER)) (F9_ : Exa Z Z.heap v_OUT_OF_ORDER "com/example/schemactl/schemactl/MigrationState") (F10_ : Fld Z Z.heap v_OUT_OF_ORDER "com/example/schemactl/schemactl/MigrationState" "reason" "Ljava/lang/String;" (.ref x_v_OUT_OF_ORDER_reason)) (F11_ : Fld Z Z.heap v_OUT_OF_ORDER "com/example/schemactl/schemactl/MigrationState" "reportWord" "Ljava/lang/String;" (.ref x_v_OUT_OF_ORDER_reportWord)) (F12_ : Sta Z Z.heap "com/example/schemactl/schemactl/MigrationState" "NEWER" "Lcom/example/schemactl/schemactl/MigrationState;" (.ref v_NEWER)) (F13_ : Exa Z Z.heap v_NEWER "com/example/schemactl/schemactl/MigrationState") (F14_ : Fld Z Z.heap v_NEWER "com/example/schemactl/schemactl/MigrationState" "reason" "Ljava/lang/String;" .null) (F15_ : Fld Z Z.heap v_NEWER "com/example/schemactl/schemactl/MigrationState" "reportWord" "Ljava/lang/String;" .null) (F16_ : Sta Z Z.heap "com/example/schemactl/schemactl/MigrationState" "FAILED" "Lcom/example/schemactl/schemactl/MigrationState;" (.ref v_FAILED)) (F17_ : Exa Z Z.heap v_FAILED "com/example/schemactl/schemactl/MigrationState") (F18_ : Fld Z Z.heap v_FAILED "com/example/schemactl/schemactl/MigrationState" "reason" "Ljava/lang/String;" (.ref x_v_FAILED_reason)) (F19_ : Fld Z Z.heap v_FAILED "com/example/schemactl/schemactl/MigrationState" "reportWord" "Ljava/lang/String;" (.ref x_v_FAILED_reportWord)) (F20_ : Sta Z Z.heap "com/example/schemactl/schemactl/MigrationState" "INTERRUPTED" "Lcom/example/schemactl/schemactl/MigrationState;" (.ref v_INTERRUPTED)) (F21_ : Exa Z Z.heap v_INTERRUPTED "com/example/schemactl/schemactl/MigrationState") (F22_ : Fld Z Z.heap v_INTERRUPTED "com/example/schemactl/schemactl/MigrationState" "reason" "Ljava/lang/String;" (.ref x_v_INTERRUPTED_reason)) (F23_ : Fld Z Z.heap v_INTERRUPTED "com/example/schemactl/schemactl/MigrationState" "reportWord" "Ljava/lang/String;" (.ref x_v_FAILED_reportWord)) (F24_ : Sta Z Z.heap "com/example/schemactl/schemactl/MigrationState" "OUTDATED" "Lcom/example/schemactl/schemactl/MigrationState;" (.ref v_OUTDATED)) (F25_ : Exa Z Z.heap v_OUTDATED "com/example/schemactl/schemactl/MigrationState") (F26_ : Fld Z Z.heap v_OUTDATED "com/example/schemactl/schemactl/MigrationState" "reason" "Ljava/lang/String;" .null) (F27_ : Fld Z Z.heap v_OUTDATED "com/example/schemactl/schemactl/MigrationState" "reportWord" "Ljava/lang/String;" .null) (F28_ : Sta Z Z.heap "com/example/schemactl/schemactl/MigrationState" "BASELINE" "Lcom/example/schemactl/schemactl/MigrationState;" (.ref v_BASELINE)) (F29_ : Exa Z Z.heap v_BASELINE "com/example/schemactl/schemactl/MigrationState") (F30_ : Fld Z Z.heap v_BASELINE "com/example/schemactl/schemactl/MigrationState" "reason" "Ljava/lang/String;" .null) (F31_ : Fld Z Z.heap v_BASELINE "com/example/schemactl/schemactl/MigrationState" "reportWord" "Ljava/lang/String;" .null) (F32_ : Sta Z Z.heap "com/example/schemactl/schemactl/MigrationState" "PENDING" "Lcom/example/schemactl/schemactl/MigrationState;" (.ref v_PENDING)) (F33_ : Exa Z Z.heap v_PENDING "com/example/schemactl/schemactl/MigrationState") (F34_ : Fld Z Z.heap v_PENDING "com/example/schemactl/schemactl/MigrationState" "reason" "Ljava/lang/String;" .null) (F35_ : Fld Z Z.heap v_PENDING "com/example/schemactl/schemactl/MigrationState" "reportWord" "Ljava/lang/String;" .null) (F36_ : Sta Z Z.heap "com/example/schemactl/schemactl/MigrationState" "INCOMPLETE" "Lcom/example/schemactl/schemactl/MigrationState;" (.ref v_INCOMPLETE)) (F37_ : Exa Z Z.heap v_INCOMPLETE "com/example/schemactl/schemactl/MigrationState") (F38_ : Fld Z Z.heap v_INCOMPLETE "com/example/schemactl/schemactl/MigrationState" "reason" "Ljava/lang/String;" .null) (F39_ : Fld Z Z.heap v_INCOMPLETE "com/example/schemactl/schemactl/MigrationState" "reportWord" "Ljava/lang/String;" .null) (F40_ : Sta Z Z.heap "com/example/schemactl/schemactl/MigrationState" "APPLYING" "Lcom/example/schemactl/schemactl/MigrationState;" (.ref v_APPLYING)) (F41_ : Exa Z Z.heap v_APPLYING "com/example/schemactl/schemactl/MigrationState") (F42_ : Fld Z Z.heap v_APPLYING "com/example/schemactl/schemactl/MigrationState" "reason" "Ljava/lang/String;" .null) (F43_ : Fld Z Z.heap v_APPLYING "com/example/schemactl/schemactl/MigrationState" "reportWord" "Ljava/lang/String;" .null) (F44_ : Sta Z Z.heap "com/example/schemactl/schemactl/MigrationState" "BELOW_BASELINE" "Lcom/example/schemactl/schemactl/MigrationState;" (.ref v_BELOW_BASELINE)) (F45_ : Exa Z Z.heap v_BELOW_BASELINE "com/example/schemactl/schemactl/MigrationState") (F46_ : Fld Z Z.heap v_BELOW_BASELINE "com/example/schemactl/schemactl/MigrationState" "reason" "Ljava/lang/String;" .null) (F47_ : Fld Z Z.heap v_BELOW_BASELINE "com/example/schemactl/schemactl/MigrationState" "reportWord" "Ljava/lang/String;" .null) (F48_ : Sta Z Z.heap "com/example/schemactl/schemactl/MigrationState" "MISSING" "Lcom/example/schemactl/schemactl/MigrationState;" (.ref v_MISSING)) (F49_ : Exa Z Z.heap v_MISSING "com/example/schemactl/schemactl/MigrationState") (F50_ : Fld Z Z.heap v_MISSING "com/example/schemactl/schemactl/MigrationState" "reason" "Ljava/lang/String;" (.ref x_v_MISSING_reason)) (F51_ : Fld Z Z.heap v_MISSING "com/example/schemactl/schemactl/MigrationState" "reportWord" "Ljava/lang/String;" (.ref x_v_MISSING_reportWord)) :
    MetFree l x (head1 (Jvm.Cond.code x code maxLocals ret :: ws) room_1) (fun a U => a = #[(.int p0)] ∧ Z.Warmed39 U.vm ∧ U.heap = h0) (fun _ _ _ _ _ => True) (fun _ U o U' => ∃ v L, o = .returned v ∧ Q0 Z p0 v_APPLIED v_CHANGED x_v_CHANGED_reason x_v_CHANGED_reportWord v_OUT_OF_ORDER x_v_OUT_OF_ORDER_reason x_v_OUT_OF_ORDER_reportWord v_NEWER v_FAILED x_v_FAILED_reason x_v_FAILED_reportWord v_INTERRUPTED x_v_INTERRUPTED_reason v_OUTDATED v_BASELINE v_PENDING v_INCOMPLETE v_APPLYING v_BELOW_BASELINE v_MISSING x_v_MISSING_reason x_v_MISSING_reportWord h0 n0 v U'.heap L ∧ FrameEnd U o U' L room_1.cells room_1.slots) := by
  refine MetFree.of_bodySF (plainFor_of_name pn_1) hisR ?_
  intro p e s m args below meth c s₁ Bd hml0 hP hK
  obtain ⟨rfl, hZ, hh⟩ := hP
  have hx := Bd.exec
  have hby := Bd.bytes
  have hml : c.maxLocals = 5 := hml0
  have hown : s.vm.findClass "com/example/schemactl/schemactl/MigrationStateIsProblemPinLaw" = some m.cls := findClass_of_methodNamed Bd.named
  have hnm := (name_of_methodNamed Bd.named Bd.method).1
  have X0 : Stand p l e room_1 s m #[(.int p0)] below meth c s₁ [] 0 0 := Stand.of_body Bd
  have e0 : s₁.heap = h0 := by rw [← hh, Bd.state]; rfl
  have N0 := Fr.nil n0
  have s0 : Steps p.tables e below (s₁.setTop (entryFrame m #[(.int p0)] maxLocals)) (s₁.setTop (mkF m 0 #[.val (.int p0), .unset, .unset, .unset, .unset] [])) := castTop (ef_rm0 m p0) (Steps.refl _)
  have s1 : Steps p.tables e below (s₁.setTop (entryFrame m #[(.int p0)] maxLocals)) (s₁.setTop (mkF m 7 #[.val (.int p0), .unset, .unset, .unset, .unset] [(.int ((p0 &&& (2147483647 : Int32)) % (13 : Int32)))])) := by
    refine s0.trans ?_
    show Steps p.tables e below (s₁.setTop (mkF m 0 #[.val (.int p0), .unset, .unset, .unset, .unset] [])) _
    refine XS.iloadN X0.here hx rfl (hb hby at_0) rfl ?_
    show Steps p.tables e below (s₁.setTop (mkF m 1 #[.val (.int p0), .unset, .unset, .unset, .unset] [(.int p0)])) _
    refine X0.ldcInt hx hown (mvT hZ (hw _ (List.mem_of_getElem? (i := 0) rfl))) (g := (mkF m 1 #[.val (.int p0), .unset, .unset, .unset, .unset] [(.int p0)])) rfl (hb hby at_1) _ ?_
    show Steps p.tables e below (s₁.setTop (mkF m 3 #[.val (.int p0), .unset, .unset, .unset, .unset] [(.int (2147483647 : Int32)), (.int p0)])) _
    refine XS.iand X0.here hx rfl (hb hby at_3) rfl ?_
    show Steps p.tables e below (s₁.setTop (mkF m 4 #[.val (.int p0), .unset, .unset, .unset, .unset] [(.int (p0 &&& (2147483647 : Int32)))])) _
    refine XS.bipush X0.here hx rfl (hb hby at_4) ?_
    show Steps p.tables e below (s₁.setTop (mkF m 6 #[.val (.int p0), .unset, .unset, .unset, .unset] [(.int (13 : Int32)), (.int (p0 &&& (2147483647 : Int32)))])) _
    refine Jvm.RoadKit.iremM (g := (mkF m 6 #[.val (.int p0), .unset, .unset, .unset, .unset] [(.int (13 : Int32)), (.int (p0 &&& (2147483647 : Int32)))])) X0 hx rfl (hb hby at_6) rfl (by decide) ?_
    exact Steps.refl _
  rcases own_mod13 p0 with hk2 | hk2 | hk2 | hk2 | hk2 | hk2 | hk2 | hk2 | hk2 | hk2 | hk2 | hk2 | hk2
  · have s3 := s1
    rw [hk2] at s3
    obtain ⟨_, _, ⟨T4, L4, k4, n4⟩, -, X4, ⟨Lc4, hQ4, l4, y4, z4⟩, st4⟩ := Jvm.LawKit.callS X0 hx (y := (⟨"com/example/schemactl/schemactl/MigrationStateIsProblemPinLaw", "pick", "(I)Lcom/example/schemactl/schemactl/MigrationState;"⟩ : MethodName)) hown (mvT hZ (hw _ (List.mem_of_getElem? (i := 1) rfl))) (mvT hZ (hw _ (List.mem_of_getElem? (i := 2) rfl))) (mvT hZ (hw _ (List.mem_of_getElem? (i := 3) rfl))) (mvT hZ (hw _ (List.mem_of_getElem? (i := 4) rfl))) (by decide) (backOf (W := 0) (rmp0 l Z a0 hw [] v_APPLIED h0 n0 O0 F0_) hZ (hw _ (List.mem_of_getElem? (i := 4) rfl)) (hw _ (List.mem_of_getElem? (i := 3) rfl)) (by decide) (by decide)) (g := (mkF m 9 #[.val (.int p0), .val (.int (0 : Int32)), .unset, .unset, .unset] [(.int (0 : Int32))])) rfl (by rw [hml]; rfl) (argsL := [(.int (0 : Int32))]) (rest := []) (lenOf pd_rm0_0 rfl) rfl (by show 2 * 0 + _ ≤ _; exact Nat.le_of_eq rfl) (hb hby at_9) (fun _ _ => ⟨rfl, e0, (by decide : 0 + 0 ≤ _), (by decide : 0 + 0 ≤ _)⟩)
    dsimp only [Pt.U, Pt.locs, Pt.cells, Pt.slots] at X4 l4 y4 z4 st4 hQ4
    subst l4 y4 z4
    obtain ⟨rfl, Nq4, e4⟩ := hQ4
    have N4 := Fr.app N0 Nq4
    obtain ⟨cq5, kq5, q5a, q5b, q5c⟩ := isOf hZ e4 (F1_.ext O0.2)
    obtain ⟨_, _, ⟨T5, L5, k5, n5⟩, -, X5, ⟨Lc5, hQ5, l5, y5, z5⟩, st5⟩ := X4.virtualBack hx (y := (⟨"com/example/schemactl/schemactl/MigrationState", "isProblem", "()Z"⟩ : MethodName)) (z := (⟨"com/example/schemactl/schemactl/MigrationState", "isProblem", "()Z"⟩ : MethodName)) hown (mvT hZ (hw _ (List.mem_of_getElem? (i := 8) rfl))) (mvT hZ (hw _ (List.mem_of_getElem? (i := 9) rfl))) (notFace_of_selects (args := #[]) (mvT hZ (hw _ (List.mem_of_getElem? (i := 11) rfl)))) (mvT hZ (hw _ (List.mem_of_getElem? (i := 11) rfl))) (mvT hZ (hw _ (List.mem_of_getElem? (i := 10) rfl))) (by decide) (backOf (W := 0) (rmi0 l Z a0 hw [] v_APPLIED h0 n0 O0 (F2_.ext O0.2)) hZ (hw _ (List.mem_of_getElem? (i := 12) rfl)) (hw _ (List.mem_of_getElem? (i := 6) rfl)) (by decide) (by decide)) q5a q5c (g := (mkF m 48 #[.val (.int p0), .val (.int (0 : Int32)), .val (.ref v_APPLIED), .val (.int (0 : Int32)), .unset] [(.ref v_APPLIED)])) rfl (by rw [hml]; rfl) (Steps.refl _) (argsL := []) (rest := []) (lenOf pd_rm0_1 rfl) rfl (by show 2 * 0 + _ ≤ _; exact Nat.le_of_eq rfl) (hb hby at_48) (fun _ _ => ⟨rfl, e4, (by decide : 0 + 0 ≤ _), (by decide : 0 + 0 ≤ _)⟩)
    dsimp only [Pt.U, Pt.locs, Pt.cells, Pt.slots] at X5 l5 y5 z5 st5 hQ5
    subst l5 y5 z5
    obtain ⟨rfl, Nq5, e5⟩ := hQ5
    have N5 := Fr.app N4 Nq5
    obtain ⟨cq6, kq6, q6a, q6b, q6c⟩ := isOf hZ e5 (F1_.ext O0.2)
    obtain ⟨_, _, ⟨T6, L6, k6, n6⟩, -, X6, ⟨Lc6, hQ6, l6, y6, z6⟩, st6⟩ := X5.virtualBack hx (y := (⟨"com/example/schemactl/schemactl/MigrationState", "reportWord", "()Ljava/lang/String;"⟩ : MethodName)) (z := (⟨"com/example/schemactl/schemactl/MigrationState", "reportWord", "()Ljava/lang/String;"⟩ : MethodName)) hown (mvT hZ (hw _ (List.mem_of_getElem? (i := 15) rfl))) (mvT hZ (hw _ (List.mem_of_getElem? (i := 16) rfl))) (notFace_of_selects (args := #[]) (mvT hZ (hw _ (List.mem_of_getElem? (i := 18) rfl)))) (mvT hZ (hw _ (List.mem_of_getElem? (i := 18) rfl))) (mvT hZ (hw _ (List.mem_of_getElem? (i := 17) rfl))) (by decide) (backOf (W := 1) (rmr0 l Z a0 hw [] v_APPLIED h0 n0 O0 (F3_.ext O0.2)) hZ (hw _ (List.mem_of_getElem? (i := 19) rfl)) (hw _ (List.mem_of_getElem? (i := 6) rfl)) (by decide) (by decide)) q6a q6c (g := (mkF m 62 #[.val (.int p0), .val (.int (0 : Int32)), .val (.ref v_APPLIED), .val (.int (0 : Int32)), .val (.int (0 : Int32))] [(.ref v_APPLIED), (.int (0 : Int32))])) rfl (by rw [hml]; rfl) (Steps.refl _) (argsL := []) (rest := [(.int (0 : Int32))]) (lenOf pd_rm0_2 rfl) rfl (by show 2 * 0 + _ ≤ _; exact Nat.le_of_eq rfl) (hb hby at_62) (fun _ _ => ⟨rfl, e5, (by decide : 0 + 0 ≤ _), (by decide : 0 + 0 ≤ _)⟩)
    dsimp only [Pt.U, Pt.locs, Pt.cells, Pt.slots] at X6 l6 y6 z6 st6 hQ6
    subst l6 y6 z6
    obtain ⟨rfl, Nq6, e6⟩ := hQ6
    have N6 := Fr.app N5 Nq6
    have s7 : Steps p.tables e below (s₁.setTop (entryFrame m #[(.int p0)] maxLocals)) (T6.setTop (mkF m 81 #[.val (.int p0), .val (.int (0 : Int32)), .val (.ref v_APPLIED), .val (.int (0 : Int32)), .val (.int (0 : Int32))] [(.int (1 : Int32))])) := by
      refine s3.trans ?_
      show Steps p.tables e below (s₁.setTop (mkF m 7 #[.val (.int p0), .unset, .unset, .unset, .unset] [(.int (0 : Int32))])) _
      refine XS.istoreN X0.here hx rfl (hb hby at_7) rfl (l' := #[.val (.int p0), .val (.int (0 : Int32)), .unset, .unset, .unset]) rfl ?_
      show Steps p.tables e below (s₁.setTop (mkF m 8 #[.val (.int p0), .val (.int (0 : Int32)), .unset, .unset, .unset] [])) _
      refine XS.iloadN X0.here hx rfl (hb hby at_8) rfl ?_
      show Steps p.tables e below (s₁.setTop (mkF m 9 #[.val (.int p0), .val (.int (0 : Int32)), .unset, .unset, .unset] [(.int (0 : Int32))])) _
      refine st4 _ ?_
      show Steps p.tables e below (T4.setTop (mkF m 12 #[.val (.int p0), .val (.int (0 : Int32)), .unset, .unset, .unset] [(.ref v_APPLIED)])) _
      refine XS.astoreN X4.here hx rfl (hb hby at_12) rfl rfl (l' := #[.val (.int p0), .val (.int (0 : Int32)), .val (.ref v_APPLIED), .unset, .unset]) rfl ?_
      show Steps p.tables e below (T4.setTop (mkF m 13 #[.val (.int p0), .val (.int (0 : Int32)), .val (.ref v_APPLIED), .unset, .unset] [])) _
      refine XS.iloadN X4.here hx rfl (hb hby at_13) rfl ?_
      show Steps p.tables e below (T4.setTop (mkF m 14 #[.val (.int p0), .val (.int (0 : Int32)), .val (.ref v_APPLIED), .unset, .unset] [(.int (0 : Int32))])) _
      refine XS.iconst X4.here hx rfl (hb hby at_14) ?_
      show Steps p.tables e below (T4.setTop (mkF m 15 #[.val (.int p0), .val (.int (0 : Int32)), .val (.ref v_APPLIED), .unset, .unset] [(.int (3 : Int32)), (.int (0 : Int32))])) _
      refine XS.icmpNo X4.here hx rfl (hb hby at_15) rfl (feq (by decide)).1 ?_
      show Steps p.tables e below (T4.setTop (mkF m 18 #[.val (.int p0), .val (.int (0 : Int32)), .val (.ref v_APPLIED), .unset, .unset] [])) _
      refine XS.iloadN X4.here hx rfl (hb hby at_18) rfl ?_
      show Steps p.tables e below (T4.setTop (mkF m 19 #[.val (.int p0), .val (.int (0 : Int32)), .val (.ref v_APPLIED), .unset, .unset] [(.int (0 : Int32))])) _
      refine XS.iconst X4.here hx rfl (hb hby at_19) ?_
      show Steps p.tables e below (T4.setTop (mkF m 20 #[.val (.int p0), .val (.int (0 : Int32)), .val (.ref v_APPLIED), .unset, .unset] [(.int (4 : Int32)), (.int (0 : Int32))])) _
      refine XS.icmpNo X4.here hx rfl (hb hby at_20) rfl (feq (by decide)).1 ?_
      show Steps p.tables e below (T4.setTop (mkF m 23 #[.val (.int p0), .val (.int (0 : Int32)), .val (.ref v_APPLIED), .unset, .unset] [])) _
      refine XS.iloadN X4.here hx rfl (hb hby at_23) rfl ?_
      show Steps p.tables e below (T4.setTop (mkF m 24 #[.val (.int p0), .val (.int (0 : Int32)), .val (.ref v_APPLIED), .unset, .unset] [(.int (0 : Int32))])) _
      refine XS.bipush X4.here hx rfl (hb hby at_24) ?_
      show Steps p.tables e below (T4.setTop (mkF m 26 #[.val (.int p0), .val (.int (0 : Int32)), .val (.ref v_APPLIED), .unset, .unset] [(.int (6 : Int32)), (.int (0 : Int32))])) _
      refine XS.icmpNo X4.here hx rfl (hb hby at_26) rfl (feq (by decide)).1 ?_
      show Steps p.tables e below (T4.setTop (mkF m 29 #[.val (.int p0), .val (.int (0 : Int32)), .val (.ref v_APPLIED), .unset, .unset] [])) _
      refine XS.iloadN X4.here hx rfl (hb hby at_29) rfl ?_
      show Steps p.tables e below (T4.setTop (mkF m 30 #[.val (.int p0), .val (.int (0 : Int32)), .val (.ref v_APPLIED), .unset, .unset] [(.int (0 : Int32))])) _
      refine XS.bipush X4.here hx rfl (hb hby at_30) ?_
      show Steps p.tables e below (T4.setTop (mkF m 32 #[.val (.int p0), .val (.int (0 : Int32)), .val (.ref v_APPLIED), .unset, .unset] [(.int (7 : Int32)), (.int (0 : Int32))])) _
      refine XS.icmpNo X4.here hx rfl (hb hby at_32) rfl (feq (by decide)).1 ?_
      show Steps p.tables e below (T4.setTop (mkF m 35 #[.val (.int p0), .val (.int (0 : Int32)), .val (.ref v_APPLIED), .unset, .unset] [])) _
      refine XS.iloadN X4.here hx rfl (hb hby at_35) rfl ?_
      show Steps p.tables e below (T4.setTop (mkF m 36 #[.val (.int p0), .val (.int (0 : Int32)), .val (.ref v_APPLIED), .unset, .unset] [(.int (0 : Int32))])) _
      refine XS.bipush X4.here hx rfl (hb hby at_36) ?_
      show Steps p.tables e below (T4.setTop (mkF m 38 #[.val (.int p0), .val (.int (0 : Int32)), .val (.ref v_APPLIED), .unset, .unset] [(.int (9 : Int32)), (.int (0 : Int32))])) _
      refine XS.icmpYes X4.here hx rfl (pc0 := 38) (pc' := 45) rfl (hb hby at_38) rfl (feq (by decide)).2 (by decide) (by decide) ?_
      show Steps p.tables e below (T4.setTop (mkF m 45 #[.val (.int p0), .val (.int (0 : Int32)), .val (.ref v_APPLIED), .unset, .unset] [])) _
      refine XS.iconst X4.here hx rfl (hb hby at_45) ?_
      show Steps p.tables e below (T4.setTop (mkF m 46 #[.val (.int p0), .val (.int (0 : Int32)), .val (.ref v_APPLIED), .unset, .unset] [(.int (0 : Int32))])) _
      refine XS.istoreN X4.here hx rfl (hb hby at_46) rfl (l' := #[.val (.int p0), .val (.int (0 : Int32)), .val (.ref v_APPLIED), .val (.int (0 : Int32)), .unset]) rfl ?_
      show Steps p.tables e below (T4.setTop (mkF m 47 #[.val (.int p0), .val (.int (0 : Int32)), .val (.ref v_APPLIED), .val (.int (0 : Int32)), .unset] [])) _
      refine XS.aloadN X4.here hx rfl (hb hby at_47) rfl rfl ?_
      show Steps p.tables e below (T4.setTop (mkF m 48 #[.val (.int p0), .val (.int (0 : Int32)), .val (.ref v_APPLIED), .val (.int (0 : Int32)), .unset] [(.ref v_APPLIED)])) _
      refine st5.trans ?_
      show Steps p.tables e below (T5.setTop (mkF m 51 #[.val (.int p0), .val (.int (0 : Int32)), .val (.ref v_APPLIED), .val (.int (0 : Int32)), .unset] [(.int (0 : Int32))])) _
      refine XS.istore X5.here hx rfl (hb hby at_51) rfl (l' := #[.val (.int p0), .val (.int (0 : Int32)), .val (.ref v_APPLIED), .val (.int (0 : Int32)), .val (.int (0 : Int32))]) rfl ?_
      show Steps p.tables e below (T5.setTop (mkF m 53 #[.val (.int p0), .val (.int (0 : Int32)), .val (.ref v_APPLIED), .val (.int (0 : Int32)), .val (.int (0 : Int32))] [])) _
      refine XS.iload X5.here hx rfl (hb hby at_53) rfl ?_
      show Steps p.tables e below (T5.setTop (mkF m 55 #[.val (.int p0), .val (.int (0 : Int32)), .val (.ref v_APPLIED), .val (.int (0 : Int32)), .val (.int (0 : Int32))] [(.int (0 : Int32))])) _
      refine XS.iloadN X5.here hx rfl (hb hby at_55) rfl ?_
      show Steps p.tables e below (T5.setTop (mkF m 56 #[.val (.int p0), .val (.int (0 : Int32)), .val (.ref v_APPLIED), .val (.int (0 : Int32)), .val (.int (0 : Int32))] [(.int (0 : Int32)), (.int (0 : Int32))])) _
      refine XS.icmpNo X5.here hx rfl (hb hby at_56) rfl (teq (by decide)).2 ?_
      show Steps p.tables e below (T5.setTop (mkF m 59 #[.val (.int p0), .val (.int (0 : Int32)), .val (.ref v_APPLIED), .val (.int (0 : Int32)), .val (.int (0 : Int32))] [])) _
      refine XS.iload X5.here hx rfl (hb hby at_59) rfl ?_
      show Steps p.tables e below (T5.setTop (mkF m 61 #[.val (.int p0), .val (.int (0 : Int32)), .val (.ref v_APPLIED), .val (.int (0 : Int32)), .val (.int (0 : Int32))] [(.int (0 : Int32))])) _
      refine XS.aloadN X5.here hx rfl (hb hby at_61) rfl rfl ?_
      show Steps p.tables e below (T5.setTop (mkF m 62 #[.val (.int p0), .val (.int (0 : Int32)), .val (.ref v_APPLIED), .val (.int (0 : Int32)), .val (.int (0 : Int32))] [(.ref v_APPLIED), (.int (0 : Int32))])) _
      refine st6.trans ?_
      show Steps p.tables e below (T6.setTop (mkF m 65 #[.val (.int p0), .val (.int (0 : Int32)), .val (.ref v_APPLIED), .val (.int (0 : Int32)), .val (.int (0 : Int32))] [.null, (.int (0 : Int32))])) _
      refine XS.ifnullYes X6.here hx rfl (pc0 := 65) (pc' := 72) rfl (hb hby at_65) rfl (by decide) (by decide) ?_
      show Steps p.tables e below (T6.setTop (mkF m 72 #[.val (.int p0), .val (.int (0 : Int32)), .val (.ref v_APPLIED), .val (.int (0 : Int32)), .val (.int (0 : Int32))] [(.int (0 : Int32))])) _
      refine XS.iconst X6.here hx rfl (hb hby at_72) ?_
      show Steps p.tables e below (T6.setTop (mkF m 73 #[.val (.int p0), .val (.int (0 : Int32)), .val (.ref v_APPLIED), .val (.int (0 : Int32)), .val (.int (0 : Int32))] [(.int (0 : Int32)), (.int (0 : Int32))])) _
      refine XS.icmpNo X6.here hx rfl (hb hby at_73) rfl (teq (by decide)).2 ?_
      show Steps p.tables e below (T6.setTop (mkF m 76 #[.val (.int p0), .val (.int (0 : Int32)), .val (.ref v_APPLIED), .val (.int (0 : Int32)), .val (.int (0 : Int32))] [])) _
      refine XS.iconst X6.here hx rfl (hb hby at_76) ?_
      show Steps p.tables e below (T6.setTop (mkF m 77 #[.val (.int p0), .val (.int (0 : Int32)), .val (.ref v_APPLIED), .val (.int (0 : Int32)), .val (.int (0 : Int32))] [(.int (1 : Int32))])) _
      refine XS.goto X6.here hx rfl (pc0 := 77) (pc' := 81) rfl (hb hby at_77) (by decide) (by decide) ?_
      exact Steps.refl _
    obtain ⟨fs, hr, hrun, hended, hW, hsame⟩ := X6.leave (v := some (.int (1 : Int32))) (fun h => by rw [Bd.returns] at h; cases h)
    refine ⟨_, _, s7.trans ?_, hrun, hended, _, _, rfl, ?_, ⟨_, rfl⟩, hW, hsame.mono (by decide) (by decide)⟩
    · show Steps p.tables e below (T6.setTop (mkF m 81 #[.val (.int p0), .val (.int (0 : Int32)), .val (.ref v_APPLIED), .val (.int (0 : Int32)), .val (.int (0 : Int32))] [(.int (1 : Int32))])) _
      exact retN X6 hx (t := .boolean) Bd.returns (by simp) (hb hby at_81) hr
    · show Q0 Z p0 v_APPLIED v_CHANGED x_v_CHANGED_reason x_v_CHANGED_reportWord v_OUT_OF_ORDER x_v_OUT_OF_ORDER_reason x_v_OUT_OF_ORDER_reportWord v_NEWER v_FAILED x_v_FAILED_reason x_v_FAILED_reportWord v_INTERRUPTED x_v_INTERRUPTED_reason v_OUTDATED v_BASELINE v_PENDING v_INCOMPLETE v_APPLYING v_BELOW_BASELINE v_MISSING x_v_MISSING_reason x_v_MISSING_reportWord h0 n0 _ T6.heap _
      rw [e6]
      exact ⟨rfl, N6⟩
  · have s8 := s1
    rw [hk2] at s8
    obtain ⟨_, _, ⟨T9, L9, k9, n9⟩, -, X9, ⟨Lc9, hQ9, l9, y9, z9⟩, st9⟩ := Jvm.LawKit.callS X0 hx (y := (⟨"com/example/schemactl/schemactl/MigrationStateIsProblemPinLaw", "pick", "(I)Lcom/example/schemactl/schemactl/MigrationState;"⟩ : MethodName)) hown (mvT hZ (hw _ (List.mem_of_getElem? (i := 1) rfl))) (mvT hZ (hw _ (List.mem_of_getElem? (i := 2) rfl))) (mvT hZ (hw _ (List.mem_of_getElem? (i := 3) rfl))) (mvT hZ (hw _ (List.mem_of_getElem? (i := 4) rfl))) (by decide) (backOf (W := 0) (rmp1 l Z a0 hw [] v_PENDING h0 n0 O0 F32_) hZ (hw _ (List.mem_of_getElem? (i := 4) rfl)) (hw _ (List.mem_of_getElem? (i := 3) rfl)) (by decide) (by decide)) (g := (mkF m 9 #[.val (.int p0), .val (.int (1 : Int32)), .unset, .unset, .unset] [(.int (1 : Int32))])) rfl (by rw [hml]; rfl) (argsL := [(.int (1 : Int32))]) (rest := []) (lenOf pd_rm0_0 rfl) rfl (by show 2 * 0 + _ ≤ _; exact Nat.le_of_eq rfl) (hb hby at_9) (fun _ _ => ⟨rfl, e0, (by decide : 0 + 0 ≤ _), (by decide : 0 + 0 ≤ _)⟩)
    dsimp only [Pt.U, Pt.locs, Pt.cells, Pt.slots] at X9 l9 y9 z9 st9 hQ9
    subst l9 y9 z9
    obtain ⟨rfl, Nq9, e9⟩ := hQ9
    have N9 := Fr.app N0 Nq9
    obtain ⟨cq10, kq10, q10a, q10b, q10c⟩ := isOf hZ e9 (F33_.ext O0.2)
    obtain ⟨_, _, ⟨T10, L10, k10, n10⟩, -, X10, ⟨Lc10, hQ10, l10, y10, z10⟩, st10⟩ := X9.virtualBack hx (y := (⟨"com/example/schemactl/schemactl/MigrationState", "isProblem", "()Z"⟩ : MethodName)) (z := (⟨"com/example/schemactl/schemactl/MigrationState", "isProblem", "()Z"⟩ : MethodName)) hown (mvT hZ (hw _ (List.mem_of_getElem? (i := 8) rfl))) (mvT hZ (hw _ (List.mem_of_getElem? (i := 9) rfl))) (notFace_of_selects (args := #[]) (mvT hZ (hw _ (List.mem_of_getElem? (i := 11) rfl)))) (mvT hZ (hw _ (List.mem_of_getElem? (i := 11) rfl))) (mvT hZ (hw _ (List.mem_of_getElem? (i := 10) rfl))) (by decide) (backOf (W := 0) (rmi0 l Z a0 hw [] v_PENDING h0 n0 O0 (F34_.ext O0.2)) hZ (hw _ (List.mem_of_getElem? (i := 12) rfl)) (hw _ (List.mem_of_getElem? (i := 6) rfl)) (by decide) (by decide)) q10a q10c (g := (mkF m 48 #[.val (.int p0), .val (.int (1 : Int32)), .val (.ref v_PENDING), .val (.int (0 : Int32)), .unset] [(.ref v_PENDING)])) rfl (by rw [hml]; rfl) (Steps.refl _) (argsL := []) (rest := []) (lenOf pd_rm0_1 rfl) rfl (by show 2 * 0 + _ ≤ _; exact Nat.le_of_eq rfl) (hb hby at_48) (fun _ _ => ⟨rfl, e9, (by decide : 0 + 0 ≤ _), (by decide : 0 + 0 ≤ _)⟩)
    dsimp only [Pt.U, Pt.locs, Pt.cells, Pt.slots] at X10 l10 y10 z10 st10 hQ10
    subst l10 y10 z10
    obtain ⟨rfl, Nq10, e10⟩ := hQ10
    have N10 := Fr.app N9 Nq10
    obtain ⟨cq11, kq11, q11a, q11b, q11c⟩ := isOf hZ e10 (F33_.ext O0.2)
    obtain ⟨_, _, ⟨T11, L11, k11, n11⟩, -, X11, ⟨Lc11, hQ11, l11, y11, z11⟩, st11⟩ := X10.virtualBack hx (y := (⟨"com/example/schemactl/schemactl/MigrationState", "reportWord", "()Ljava/lang/String;"⟩ : MethodName)) (z := (⟨"com/example/schemactl/schemactl/MigrationState", "reportWord", "()Ljava/lang/String;"⟩ : MethodName)) hown (mvT hZ (hw _ (List.mem_of_getElem? (i := 15) rfl))) (mvT hZ (hw _ (List.mem_of_getElem? (i := 16) rfl))) (notFace_of_selects (args := #[]) (mvT hZ (hw _ (List.mem_of_getElem? (i := 18) rfl)))) (mvT hZ (hw _ (List.mem_of_getElem? (i := 18) rfl))) (mvT hZ (hw _ (List.mem_of_getElem? (i := 17) rfl))) (by decide) (backOf (W := 1) (rmr0 l Z a0 hw [] v_PENDING h0 n0 O0 (F35_.ext O0.2)) hZ (hw _ (List.mem_of_getElem? (i := 19) rfl)) (hw _ (List.mem_of_getElem? (i := 6) rfl)) (by decide) (by decide)) q11a q11c (g := (mkF m 62 #[.val (.int p0), .val (.int (1 : Int32)), .val (.ref v_PENDING), .val (.int (0 : Int32)), .val (.int (0 : Int32))] [(.ref v_PENDING), (.int (0 : Int32))])) rfl (by rw [hml]; rfl) (Steps.refl _) (argsL := []) (rest := [(.int (0 : Int32))]) (lenOf pd_rm0_2 rfl) rfl (by show 2 * 0 + _ ≤ _; exact Nat.le_of_eq rfl) (hb hby at_62) (fun _ _ => ⟨rfl, e10, (by decide : 0 + 0 ≤ _), (by decide : 0 + 0 ≤ _)⟩)
    dsimp only [Pt.U, Pt.locs, Pt.cells, Pt.slots] at X11 l11 y11 z11 st11 hQ11
    subst l11 y11 z11
    obtain ⟨rfl, Nq11, e11⟩ := hQ11
    have N11 := Fr.app N10 Nq11
    have s12 : Steps p.tables e below (s₁.setTop (entryFrame m #[(.int p0)] maxLocals)) (T11.setTop (mkF m 81 #[.val (.int p0), .val (.int (1 : Int32)), .val (.ref v_PENDING), .val (.int (0 : Int32)), .val (.int (0 : Int32))] [(.int (1 : Int32))])) := by
      refine s8.trans ?_
      show Steps p.tables e below (s₁.setTop (mkF m 7 #[.val (.int p0), .unset, .unset, .unset, .unset] [(.int (1 : Int32))])) _
      refine XS.istoreN X0.here hx rfl (hb hby at_7) rfl (l' := #[.val (.int p0), .val (.int (1 : Int32)), .unset, .unset, .unset]) rfl ?_
      show Steps p.tables e below (s₁.setTop (mkF m 8 #[.val (.int p0), .val (.int (1 : Int32)), .unset, .unset, .unset] [])) _
      refine XS.iloadN X0.here hx rfl (hb hby at_8) rfl ?_
      show Steps p.tables e below (s₁.setTop (mkF m 9 #[.val (.int p0), .val (.int (1 : Int32)), .unset, .unset, .unset] [(.int (1 : Int32))])) _
      refine st9 _ ?_
      show Steps p.tables e below (T9.setTop (mkF m 12 #[.val (.int p0), .val (.int (1 : Int32)), .unset, .unset, .unset] [(.ref v_PENDING)])) _
      refine XS.astoreN X9.here hx rfl (hb hby at_12) rfl rfl (l' := #[.val (.int p0), .val (.int (1 : Int32)), .val (.ref v_PENDING), .unset, .unset]) rfl ?_
      show Steps p.tables e below (T9.setTop (mkF m 13 #[.val (.int p0), .val (.int (1 : Int32)), .val (.ref v_PENDING), .unset, .unset] [])) _
      refine XS.iloadN X9.here hx rfl (hb hby at_13) rfl ?_
      show Steps p.tables e below (T9.setTop (mkF m 14 #[.val (.int p0), .val (.int (1 : Int32)), .val (.ref v_PENDING), .unset, .unset] [(.int (1 : Int32))])) _
      refine XS.iconst X9.here hx rfl (hb hby at_14) ?_
      show Steps p.tables e below (T9.setTop (mkF m 15 #[.val (.int p0), .val (.int (1 : Int32)), .val (.ref v_PENDING), .unset, .unset] [(.int (3 : Int32)), (.int (1 : Int32))])) _
      refine XS.icmpNo X9.here hx rfl (hb hby at_15) rfl (feq (by decide)).1 ?_
      show Steps p.tables e below (T9.setTop (mkF m 18 #[.val (.int p0), .val (.int (1 : Int32)), .val (.ref v_PENDING), .unset, .unset] [])) _
      refine XS.iloadN X9.here hx rfl (hb hby at_18) rfl ?_
      show Steps p.tables e below (T9.setTop (mkF m 19 #[.val (.int p0), .val (.int (1 : Int32)), .val (.ref v_PENDING), .unset, .unset] [(.int (1 : Int32))])) _
      refine XS.iconst X9.here hx rfl (hb hby at_19) ?_
      show Steps p.tables e below (T9.setTop (mkF m 20 #[.val (.int p0), .val (.int (1 : Int32)), .val (.ref v_PENDING), .unset, .unset] [(.int (4 : Int32)), (.int (1 : Int32))])) _
      refine XS.icmpNo X9.here hx rfl (hb hby at_20) rfl (feq (by decide)).1 ?_
      show Steps p.tables e below (T9.setTop (mkF m 23 #[.val (.int p0), .val (.int (1 : Int32)), .val (.ref v_PENDING), .unset, .unset] [])) _
      refine XS.iloadN X9.here hx rfl (hb hby at_23) rfl ?_
      show Steps p.tables e below (T9.setTop (mkF m 24 #[.val (.int p0), .val (.int (1 : Int32)), .val (.ref v_PENDING), .unset, .unset] [(.int (1 : Int32))])) _
      refine XS.bipush X9.here hx rfl (hb hby at_24) ?_
      show Steps p.tables e below (T9.setTop (mkF m 26 #[.val (.int p0), .val (.int (1 : Int32)), .val (.ref v_PENDING), .unset, .unset] [(.int (6 : Int32)), (.int (1 : Int32))])) _
      refine XS.icmpNo X9.here hx rfl (hb hby at_26) rfl (feq (by decide)).1 ?_
      show Steps p.tables e below (T9.setTop (mkF m 29 #[.val (.int p0), .val (.int (1 : Int32)), .val (.ref v_PENDING), .unset, .unset] [])) _
      refine XS.iloadN X9.here hx rfl (hb hby at_29) rfl ?_
      show Steps p.tables e below (T9.setTop (mkF m 30 #[.val (.int p0), .val (.int (1 : Int32)), .val (.ref v_PENDING), .unset, .unset] [(.int (1 : Int32))])) _
      refine XS.bipush X9.here hx rfl (hb hby at_30) ?_
      show Steps p.tables e below (T9.setTop (mkF m 32 #[.val (.int p0), .val (.int (1 : Int32)), .val (.ref v_PENDING), .unset, .unset] [(.int (7 : Int32)), (.int (1 : Int32))])) _
      refine XS.icmpNo X9.here hx rfl (hb hby at_32) rfl (feq (by decide)).1 ?_
      show Steps p.tables e below (T9.setTop (mkF m 35 #[.val (.int p0), .val (.int (1 : Int32)), .val (.ref v_PENDING), .unset, .unset] [])) _
      refine XS.iloadN X9.here hx rfl (hb hby at_35) rfl ?_
      show Steps p.tables e below (T9.setTop (mkF m 36 #[.val (.int p0), .val (.int (1 : Int32)), .val (.ref v_PENDING), .unset, .unset] [(.int (1 : Int32))])) _
      refine XS.bipush X9.here hx rfl (hb hby at_36) ?_
      show Steps p.tables e below (T9.setTop (mkF m 38 #[.val (.int p0), .val (.int (1 : Int32)), .val (.ref v_PENDING), .unset, .unset] [(.int (9 : Int32)), (.int (1 : Int32))])) _
      refine XS.icmpYes X9.here hx rfl (pc0 := 38) (pc' := 45) rfl (hb hby at_38) rfl (feq (by decide)).2 (by decide) (by decide) ?_
      show Steps p.tables e below (T9.setTop (mkF m 45 #[.val (.int p0), .val (.int (1 : Int32)), .val (.ref v_PENDING), .unset, .unset] [])) _
      refine XS.iconst X9.here hx rfl (hb hby at_45) ?_
      show Steps p.tables e below (T9.setTop (mkF m 46 #[.val (.int p0), .val (.int (1 : Int32)), .val (.ref v_PENDING), .unset, .unset] [(.int (0 : Int32))])) _
      refine XS.istoreN X9.here hx rfl (hb hby at_46) rfl (l' := #[.val (.int p0), .val (.int (1 : Int32)), .val (.ref v_PENDING), .val (.int (0 : Int32)), .unset]) rfl ?_
      show Steps p.tables e below (T9.setTop (mkF m 47 #[.val (.int p0), .val (.int (1 : Int32)), .val (.ref v_PENDING), .val (.int (0 : Int32)), .unset] [])) _
      refine XS.aloadN X9.here hx rfl (hb hby at_47) rfl rfl ?_
      show Steps p.tables e below (T9.setTop (mkF m 48 #[.val (.int p0), .val (.int (1 : Int32)), .val (.ref v_PENDING), .val (.int (0 : Int32)), .unset] [(.ref v_PENDING)])) _
      refine st10.trans ?_
      show Steps p.tables e below (T10.setTop (mkF m 51 #[.val (.int p0), .val (.int (1 : Int32)), .val (.ref v_PENDING), .val (.int (0 : Int32)), .unset] [(.int (0 : Int32))])) _
      refine XS.istore X10.here hx rfl (hb hby at_51) rfl (l' := #[.val (.int p0), .val (.int (1 : Int32)), .val (.ref v_PENDING), .val (.int (0 : Int32)), .val (.int (0 : Int32))]) rfl ?_
      show Steps p.tables e below (T10.setTop (mkF m 53 #[.val (.int p0), .val (.int (1 : Int32)), .val (.ref v_PENDING), .val (.int (0 : Int32)), .val (.int (0 : Int32))] [])) _
      refine XS.iload X10.here hx rfl (hb hby at_53) rfl ?_
      show Steps p.tables e below (T10.setTop (mkF m 55 #[.val (.int p0), .val (.int (1 : Int32)), .val (.ref v_PENDING), .val (.int (0 : Int32)), .val (.int (0 : Int32))] [(.int (0 : Int32))])) _
      refine XS.iloadN X10.here hx rfl (hb hby at_55) rfl ?_
      show Steps p.tables e below (T10.setTop (mkF m 56 #[.val (.int p0), .val (.int (1 : Int32)), .val (.ref v_PENDING), .val (.int (0 : Int32)), .val (.int (0 : Int32))] [(.int (0 : Int32)), (.int (0 : Int32))])) _
      refine XS.icmpNo X10.here hx rfl (hb hby at_56) rfl (teq (by decide)).2 ?_
      show Steps p.tables e below (T10.setTop (mkF m 59 #[.val (.int p0), .val (.int (1 : Int32)), .val (.ref v_PENDING), .val (.int (0 : Int32)), .val (.int (0 : Int32))] [])) _
      refine XS.iload X10.here hx rfl (hb hby at_59) rfl ?_
      show Steps p.tables e below (T10.setTop (mkF m 61 #[.val (.int p0), .val (.int (1 : Int32)), .val (.ref v_PENDING), .val (.int (0 : Int32)), .val (.int (0 : Int32))] [(.int (0 : Int32))])) _
      refine XS.aloadN X10.here hx rfl (hb hby at_61) rfl rfl ?_
      show Steps p.tables e below (T10.setTop (mkF m 62 #[.val (.int p0), .val (.int (1 : Int32)), .val (.ref v_PENDING), .val (.int (0 : Int32)), .val (.int (0 : Int32))] [(.ref v_PENDING), (.int (0 : Int32))])) _
      refine st11.trans ?_
      show Steps p.tables e below (T11.setTop (mkF m 65 #[.val (.int p0), .val (.int (1 : Int32)), .val (.ref v_PENDING), .val (.int (0 : Int32)), .val (.int (0 : Int32))] [.null, (.int (0 : Int32))])) _
      refine XS.ifnullYes X11.here hx rfl (pc0 := 65) (pc' := 72) rfl (hb hby at_65) rfl (by decide) (by decide) ?_
      show Steps p.tables e below (T11.setTop (mkF m 72 #[.val (.int p0), .val (.int (1 : Int32)), .val (.ref v_PENDING), .val (.int (0 : Int32)), .val (.int (0 : Int32))] [(.int (0 : Int32))])) _
      refine XS.iconst X11.here hx rfl (hb hby at_72) ?_
      show Steps p.tables e below (T11.setTop (mkF m 73 #[.val (.int p0), .val (.int (1 : Int32)), .val (.ref v_PENDING), .val (.int (0 : Int32)), .val (.int (0 : Int32))] [(.int (0 : Int32)), (.int (0 : Int32))])) _
      refine XS.icmpNo X11.here hx rfl (hb hby at_73) rfl (teq (by decide)).2 ?_
      show Steps p.tables e below (T11.setTop (mkF m 76 #[.val (.int p0), .val (.int (1 : Int32)), .val (.ref v_PENDING), .val (.int (0 : Int32)), .val (.int (0 : Int32))] [])) _
      refine XS.iconst X11.here hx rfl (hb hby at_76) ?_
      show Steps p.tables e below (T11.setTop (mkF m 77 #[.val (.int p0), .val (.int (1 : Int32)), .val (.ref v_PENDING), .val (.int (0 : Int32)), .val (.int (0 : Int32))] [(.int (1 : Int32))])) _
      refine XS.goto X11.here hx rfl (pc0 := 77) (pc' := 81) rfl (hb hby at_77) (by decide) (by decide) ?_
      exact Steps.refl _
    obtain ⟨fs, hr, hrun, hended, hW, hsame⟩ := X11.leave (v := some (.int (1 : Int32))) (fun h => by rw [Bd.returns] at h; cases h)
    refine ⟨_, _, s12.trans ?_, hrun, hended, _, _, rfl, ?_, ⟨_, rfl⟩, hW, hsame.mono (by decide) (by decide)⟩
    · show Steps p.tables e below (T11.setTop (mkF m 81 #[.val (.int p0), .val (.int (1 : Int32)), .val (.ref v_PENDING), .val (.int (0 : Int32)), .val (.int (0 : Int32))] [(.int (1 : Int32))])) _
      exact retN X11 hx (t := .boolean) Bd.returns (by simp) (hb hby at_81) hr
    · show Q0 Z p0 v_APPLIED v_CHANGED x_v_CHANGED_reason x_v_CHANGED_reportWord v_OUT_OF_ORDER x_v_OUT_OF_ORDER_reason x_v_OUT_OF_ORDER_reportWord v_NEWER v_FAILED x_v_FAILED_reason x_v_FAILED_reportWord v_INTERRUPTED x_v_INTERRUPTED_reason v_OUTDATED v_BASELINE v_PENDING v_INCOMPLETE v_APPLYING v_BELOW_BASELINE v_MISSING x_v_MISSING_reason x_v_MISSING_reportWord h0 n0 _ T11.heap _
      rw [e11]
      exact ⟨rfl, N11⟩
  · have s13 := s1
    rw [hk2] at s13
    obtain ⟨_, _, ⟨T14, L14, k14, n14⟩, -, X14, ⟨Lc14, hQ14, l14, y14, z14⟩, st14⟩ := Jvm.LawKit.callS X0 hx (y := (⟨"com/example/schemactl/schemactl/MigrationStateIsProblemPinLaw", "pick", "(I)Lcom/example/schemactl/schemactl/MigrationState;"⟩ : MethodName)) hown (mvT hZ (hw _ (List.mem_of_getElem? (i := 1) rfl))) (mvT hZ (hw _ (List.mem_of_getElem? (i := 2) rfl))) (mvT hZ (hw _ (List.mem_of_getElem? (i := 3) rfl))) (mvT hZ (hw _ (List.mem_of_getElem? (i := 4) rfl))) (by decide) (backOf (W := 0) (rmp2 l Z a0 hw [] v_OUTDATED h0 n0 O0 F24_) hZ (hw _ (List.mem_of_getElem? (i := 4) rfl)) (hw _ (List.mem_of_getElem? (i := 3) rfl)) (by decide) (by decide)) (g := (mkF m 9 #[.val (.int p0), .val (.int (2 : Int32)), .unset, .unset, .unset] [(.int (2 : Int32))])) rfl (by rw [hml]; rfl) (argsL := [(.int (2 : Int32))]) (rest := []) (lenOf pd_rm0_0 rfl) rfl (by show 2 * 0 + _ ≤ _; exact Nat.le_of_eq rfl) (hb hby at_9) (fun _ _ => ⟨rfl, e0, (by decide : 0 + 0 ≤ _), (by decide : 0 + 0 ≤ _)⟩)
    dsimp only [Pt.U, Pt.locs, Pt.cells, Pt.slots] at X14 l14 y14 z14 st14 hQ14
    subst l14 y14 z14
    obtain ⟨rfl, Nq14, e14⟩ := hQ14
    have N14 := Fr.app N0 Nq14
    obtain ⟨cq15, kq15, q15a, q15b, q15c⟩ := isOf hZ e14 (F25_.ext O0.2)
    obtain ⟨_, _, ⟨T15, L15, k15, n15⟩, -, X15, ⟨Lc15, hQ15, l15, y15, z15⟩, st15⟩ := X14.virtualBack hx (y := (⟨"com/example/schemactl/schemactl/MigrationState", "isProblem", "()Z"⟩ : MethodName)) (z := (⟨"com/example/schemactl/schemactl/MigrationState", "isProblem", "()Z"⟩ : MethodName)) hown (mvT hZ (hw _ (List.mem_of_getElem? (i := 8) rfl))) (mvT hZ (hw _ (List.mem_of_getElem? (i := 9) rfl))) (notFace_of_selects (args := #[]) (mvT hZ (hw _ (List.mem_of_getElem? (i := 11) rfl)))) (mvT hZ (hw _ (List.mem_of_getElem? (i := 11) rfl))) (mvT hZ (hw _ (List.mem_of_getElem? (i := 10) rfl))) (by decide) (backOf (W := 0) (rmi0 l Z a0 hw [] v_OUTDATED h0 n0 O0 (F26_.ext O0.2)) hZ (hw _ (List.mem_of_getElem? (i := 12) rfl)) (hw _ (List.mem_of_getElem? (i := 6) rfl)) (by decide) (by decide)) q15a q15c (g := (mkF m 48 #[.val (.int p0), .val (.int (2 : Int32)), .val (.ref v_OUTDATED), .val (.int (0 : Int32)), .unset] [(.ref v_OUTDATED)])) rfl (by rw [hml]; rfl) (Steps.refl _) (argsL := []) (rest := []) (lenOf pd_rm0_1 rfl) rfl (by show 2 * 0 + _ ≤ _; exact Nat.le_of_eq rfl) (hb hby at_48) (fun _ _ => ⟨rfl, e14, (by decide : 0 + 0 ≤ _), (by decide : 0 + 0 ≤ _)⟩)
    dsimp only [Pt.U, Pt.locs, Pt.cells, Pt.slots] at X15 l15 y15 z15 st15 hQ15
    subst l15 y15 z15
    obtain ⟨rfl, Nq15, e15⟩ := hQ15
    have N15 := Fr.app N14 Nq15
    obtain ⟨cq16, kq16, q16a, q16b, q16c⟩ := isOf hZ e15 (F25_.ext O0.2)
    obtain ⟨_, _, ⟨T16, L16, k16, n16⟩, -, X16, ⟨Lc16, hQ16, l16, y16, z16⟩, st16⟩ := X15.virtualBack hx (y := (⟨"com/example/schemactl/schemactl/MigrationState", "reportWord", "()Ljava/lang/String;"⟩ : MethodName)) (z := (⟨"com/example/schemactl/schemactl/MigrationState", "reportWord", "()Ljava/lang/String;"⟩ : MethodName)) hown (mvT hZ (hw _ (List.mem_of_getElem? (i := 15) rfl))) (mvT hZ (hw _ (List.mem_of_getElem? (i := 16) rfl))) (notFace_of_selects (args := #[]) (mvT hZ (hw _ (List.mem_of_getElem? (i := 18) rfl)))) (mvT hZ (hw _ (List.mem_of_getElem? (i := 18) rfl))) (mvT hZ (hw _ (List.mem_of_getElem? (i := 17) rfl))) (by decide) (backOf (W := 1) (rmr0 l Z a0 hw [] v_OUTDATED h0 n0 O0 (F27_.ext O0.2)) hZ (hw _ (List.mem_of_getElem? (i := 19) rfl)) (hw _ (List.mem_of_getElem? (i := 6) rfl)) (by decide) (by decide)) q16a q16c (g := (mkF m 62 #[.val (.int p0), .val (.int (2 : Int32)), .val (.ref v_OUTDATED), .val (.int (0 : Int32)), .val (.int (0 : Int32))] [(.ref v_OUTDATED), (.int (0 : Int32))])) rfl (by rw [hml]; rfl) (Steps.refl _) (argsL := []) (rest := [(.int (0 : Int32))]) (lenOf pd_rm0_2 rfl) rfl (by show 2 * 0 + _ ≤ _; exact Nat.le_of_eq rfl) (hb hby at_62) (fun _ _ => ⟨rfl, e15, (by decide : 0 + 0 ≤ _), (by decide : 0 + 0 ≤ _)⟩)
    dsimp only [Pt.U, Pt.locs, Pt.cells, Pt.slots] at X16 l16 y16 z16 st16 hQ16
    subst l16 y16 z16
    obtain ⟨rfl, Nq16, e16⟩ := hQ16
    have N16 := Fr.app N15 Nq16
    have s17 : Steps p.tables e below (s₁.setTop (entryFrame m #[(.int p0)] maxLocals)) (T16.setTop (mkF m 81 #[.val (.int p0), .val (.int (2 : Int32)), .val (.ref v_OUTDATED), .val (.int (0 : Int32)), .val (.int (0 : Int32))] [(.int (1 : Int32))])) := by
      refine s13.trans ?_
      show Steps p.tables e below (s₁.setTop (mkF m 7 #[.val (.int p0), .unset, .unset, .unset, .unset] [(.int (2 : Int32))])) _
      refine XS.istoreN X0.here hx rfl (hb hby at_7) rfl (l' := #[.val (.int p0), .val (.int (2 : Int32)), .unset, .unset, .unset]) rfl ?_
      show Steps p.tables e below (s₁.setTop (mkF m 8 #[.val (.int p0), .val (.int (2 : Int32)), .unset, .unset, .unset] [])) _
      refine XS.iloadN X0.here hx rfl (hb hby at_8) rfl ?_
      show Steps p.tables e below (s₁.setTop (mkF m 9 #[.val (.int p0), .val (.int (2 : Int32)), .unset, .unset, .unset] [(.int (2 : Int32))])) _
      refine st14 _ ?_
      show Steps p.tables e below (T14.setTop (mkF m 12 #[.val (.int p0), .val (.int (2 : Int32)), .unset, .unset, .unset] [(.ref v_OUTDATED)])) _
      refine XS.astoreN X14.here hx rfl (hb hby at_12) rfl rfl (l' := #[.val (.int p0), .val (.int (2 : Int32)), .val (.ref v_OUTDATED), .unset, .unset]) rfl ?_
      show Steps p.tables e below (T14.setTop (mkF m 13 #[.val (.int p0), .val (.int (2 : Int32)), .val (.ref v_OUTDATED), .unset, .unset] [])) _
      refine XS.iloadN X14.here hx rfl (hb hby at_13) rfl ?_
      show Steps p.tables e below (T14.setTop (mkF m 14 #[.val (.int p0), .val (.int (2 : Int32)), .val (.ref v_OUTDATED), .unset, .unset] [(.int (2 : Int32))])) _
      refine XS.iconst X14.here hx rfl (hb hby at_14) ?_
      show Steps p.tables e below (T14.setTop (mkF m 15 #[.val (.int p0), .val (.int (2 : Int32)), .val (.ref v_OUTDATED), .unset, .unset] [(.int (3 : Int32)), (.int (2 : Int32))])) _
      refine XS.icmpNo X14.here hx rfl (hb hby at_15) rfl (feq (by decide)).1 ?_
      show Steps p.tables e below (T14.setTop (mkF m 18 #[.val (.int p0), .val (.int (2 : Int32)), .val (.ref v_OUTDATED), .unset, .unset] [])) _
      refine XS.iloadN X14.here hx rfl (hb hby at_18) rfl ?_
      show Steps p.tables e below (T14.setTop (mkF m 19 #[.val (.int p0), .val (.int (2 : Int32)), .val (.ref v_OUTDATED), .unset, .unset] [(.int (2 : Int32))])) _
      refine XS.iconst X14.here hx rfl (hb hby at_19) ?_
      show Steps p.tables e below (T14.setTop (mkF m 20 #[.val (.int p0), .val (.int (2 : Int32)), .val (.ref v_OUTDATED), .unset, .unset] [(.int (4 : Int32)), (.int (2 : Int32))])) _
      refine XS.icmpNo X14.here hx rfl (hb hby at_20) rfl (feq (by decide)).1 ?_
      show Steps p.tables e below (T14.setTop (mkF m 23 #[.val (.int p0), .val (.int (2 : Int32)), .val (.ref v_OUTDATED), .unset, .unset] [])) _
      refine XS.iloadN X14.here hx rfl (hb hby at_23) rfl ?_
      show Steps p.tables e below (T14.setTop (mkF m 24 #[.val (.int p0), .val (.int (2 : Int32)), .val (.ref v_OUTDATED), .unset, .unset] [(.int (2 : Int32))])) _
      refine XS.bipush X14.here hx rfl (hb hby at_24) ?_
      show Steps p.tables e below (T14.setTop (mkF m 26 #[.val (.int p0), .val (.int (2 : Int32)), .val (.ref v_OUTDATED), .unset, .unset] [(.int (6 : Int32)), (.int (2 : Int32))])) _
      refine XS.icmpNo X14.here hx rfl (hb hby at_26) rfl (feq (by decide)).1 ?_
      show Steps p.tables e below (T14.setTop (mkF m 29 #[.val (.int p0), .val (.int (2 : Int32)), .val (.ref v_OUTDATED), .unset, .unset] [])) _
      refine XS.iloadN X14.here hx rfl (hb hby at_29) rfl ?_
      show Steps p.tables e below (T14.setTop (mkF m 30 #[.val (.int p0), .val (.int (2 : Int32)), .val (.ref v_OUTDATED), .unset, .unset] [(.int (2 : Int32))])) _
      refine XS.bipush X14.here hx rfl (hb hby at_30) ?_
      show Steps p.tables e below (T14.setTop (mkF m 32 #[.val (.int p0), .val (.int (2 : Int32)), .val (.ref v_OUTDATED), .unset, .unset] [(.int (7 : Int32)), (.int (2 : Int32))])) _
      refine XS.icmpNo X14.here hx rfl (hb hby at_32) rfl (feq (by decide)).1 ?_
      show Steps p.tables e below (T14.setTop (mkF m 35 #[.val (.int p0), .val (.int (2 : Int32)), .val (.ref v_OUTDATED), .unset, .unset] [])) _
      refine XS.iloadN X14.here hx rfl (hb hby at_35) rfl ?_
      show Steps p.tables e below (T14.setTop (mkF m 36 #[.val (.int p0), .val (.int (2 : Int32)), .val (.ref v_OUTDATED), .unset, .unset] [(.int (2 : Int32))])) _
      refine XS.bipush X14.here hx rfl (hb hby at_36) ?_
      show Steps p.tables e below (T14.setTop (mkF m 38 #[.val (.int p0), .val (.int (2 : Int32)), .val (.ref v_OUTDATED), .unset, .unset] [(.int (9 : Int32)), (.int (2 : Int32))])) _
      refine XS.icmpYes X14.here hx rfl (pc0 := 38) (pc' := 45) rfl (hb hby at_38) rfl (feq (by decide)).2 (by decide) (by decide) ?_
      show Steps p.tables e below (T14.setTop (mkF m 45 #[.val (.int p0), .val (.int (2 : Int32)), .val (.ref v_OUTDATED), .unset, .unset] [])) _
      refine XS.iconst X14.here hx rfl (hb hby at_45) ?_
      show Steps p.tables e below (T14.setTop (mkF m 46 #[.val (.int p0), .val (.int (2 : Int32)), .val (.ref v_OUTDATED), .unset, .unset] [(.int (0 : Int32))])) _
      refine XS.istoreN X14.here hx rfl (hb hby at_46) rfl (l' := #[.val (.int p0), .val (.int (2 : Int32)), .val (.ref v_OUTDATED), .val (.int (0 : Int32)), .unset]) rfl ?_
      show Steps p.tables e below (T14.setTop (mkF m 47 #[.val (.int p0), .val (.int (2 : Int32)), .val (.ref v_OUTDATED), .val (.int (0 : Int32)), .unset] [])) _
      refine XS.aloadN X14.here hx rfl (hb hby at_47) rfl rfl ?_
      show Steps p.tables e below (T14.setTop (mkF m 48 #[.val (.int p0), .val (.int (2 : Int32)), .val (.ref v_OUTDATED), .val (.int (0 : Int32)), .unset] [(.ref v_OUTDATED)])) _
      refine st15.trans ?_
      show Steps p.tables e below (T15.setTop (mkF m 51 #[.val (.int p0), .val (.int (2 : Int32)), .val (.ref v_OUTDATED), .val (.int (0 : Int32)), .unset] [(.int (0 : Int32))])) _
      refine XS.istore X15.here hx rfl (hb hby at_51) rfl (l' := #[.val (.int p0), .val (.int (2 : Int32)), .val (.ref v_OUTDATED), .val (.int (0 : Int32)), .val (.int (0 : Int32))]) rfl ?_
      show Steps p.tables e below (T15.setTop (mkF m 53 #[.val (.int p0), .val (.int (2 : Int32)), .val (.ref v_OUTDATED), .val (.int (0 : Int32)), .val (.int (0 : Int32))] [])) _
      refine XS.iload X15.here hx rfl (hb hby at_53) rfl ?_
      show Steps p.tables e below (T15.setTop (mkF m 55 #[.val (.int p0), .val (.int (2 : Int32)), .val (.ref v_OUTDATED), .val (.int (0 : Int32)), .val (.int (0 : Int32))] [(.int (0 : Int32))])) _
      refine XS.iloadN X15.here hx rfl (hb hby at_55) rfl ?_
      show Steps p.tables e below (T15.setTop (mkF m 56 #[.val (.int p0), .val (.int (2 : Int32)), .val (.ref v_OUTDATED), .val (.int (0 : Int32)), .val (.int (0 : Int32))] [(.int (0 : Int32)), (.int (0 : Int32))])) _
      refine XS.icmpNo X15.here hx rfl (hb hby at_56) rfl (teq (by decide)).2 ?_
      show Steps p.tables e below (T15.setTop (mkF m 59 #[.val (.int p0), .val (.int (2 : Int32)), .val (.ref v_OUTDATED), .val (.int (0 : Int32)), .val (.int (0 : Int32))] [])) _
      refine XS.iload X15.here hx rfl (hb hby at_59) rfl ?_
      show Steps p.tables e below (T15.setTop (mkF m 61 #[.val (.int p0), .val (.int (2 : Int32)), .val (.ref v_OUTDATED), .val (.int (0 : Int32)), .val (.int (0 : Int32))] [(.int (0 : Int32))])) _
      refine XS.aloadN X15.here hx rfl (hb hby at_61) rfl rfl ?_
      show Steps p.tables e below (T15.setTop (mkF m 62 #[.val (.int p0), .val (.int (2 : Int32)), .val (.ref v_OUTDATED), .val (.int (0 : Int32)), .val (.int (0 : Int32))] [(.ref v_OUTDATED), (.int (0 : Int32))])) _
      refine st16.trans ?_
      show Steps p.tables e below (T16.setTop (mkF m 65 #[.val (.int p0), .val (.int (2 : Int32)), .val (.ref v_OUTDATED), .val (.int (0 : Int32)), .val (.int (0 : Int32))] [.null, (.int (0 : Int32))])) _
      refine XS.ifnullYes X16.here hx rfl (pc0 := 65) (pc' := 72) rfl (hb hby at_65) rfl (by decide) (by decide) ?_
      show Steps p.tables e below (T16.setTop (mkF m 72 #[.val (.int p0), .val (.int (2 : Int32)), .val (.ref v_OUTDATED), .val (.int (0 : Int32)), .val (.int (0 : Int32))] [(.int (0 : Int32))])) _
      refine XS.iconst X16.here hx rfl (hb hby at_72) ?_
      show Steps p.tables e below (T16.setTop (mkF m 73 #[.val (.int p0), .val (.int (2 : Int32)), .val (.ref v_OUTDATED), .val (.int (0 : Int32)), .val (.int (0 : Int32))] [(.int (0 : Int32)), (.int (0 : Int32))])) _
      refine XS.icmpNo X16.here hx rfl (hb hby at_73) rfl (teq (by decide)).2 ?_
      show Steps p.tables e below (T16.setTop (mkF m 76 #[.val (.int p0), .val (.int (2 : Int32)), .val (.ref v_OUTDATED), .val (.int (0 : Int32)), .val (.int (0 : Int32))] [])) _
      refine XS.iconst X16.here hx rfl (hb hby at_76) ?_
      show Steps p.tables e below (T16.setTop (mkF m 77 #[.val (.int p0), .val (.int (2 : Int32)), .val (.ref v_OUTDATED), .val (.int (0 : Int32)), .val (.int (0 : Int32))] [(.int (1 : Int32))])) _
      refine XS.goto X16.here hx rfl (pc0 := 77) (pc' := 81) rfl (hb hby at_77) (by decide) (by decide) ?_
      exact Steps.refl _
    obtain ⟨fs, hr, hrun, hended, hW, hsame⟩ := X16.leave (v := some (.int (1 : Int32))) (fun h => by rw [Bd.returns] at h; cases h)
    refine ⟨_, _, s17.trans ?_, hrun, hended, _, _, rfl, ?_, ⟨_, rfl⟩, hW, hsame.mono (by decide) (by decide)⟩
    · show Steps p.tables e below (T16.setTop (mkF m 81 #[.val (.int p0), .val (.int (2 : Int32)), .val (.ref v_OUTDATED), .val (.int (0 : Int32)), .val (.int (0 : Int32))] [(.int (1 : Int32))])) _
      exact retN X16 hx (t := .boolean) Bd.returns (by simp) (hb hby at_81) hr
    · show Q0 Z p0 v_APPLIED v_CHANGED x_v_CHANGED_reason x_v_CHANGED_reportWord v_OUT_OF_ORDER x_v_OUT_OF_ORDER_reason x_v_OUT_OF_ORDER_reportWord v_NEWER v_FAILED x_v_FAILED_reason x_v_FAILED_reportWord v_INTERRUPTED x_v_INTERRUPTED_reason v_OUTDATED v_BASELINE v_PENDING v_INCOMPLETE v_APPLYING v_BELOW_BASELINE v_MISSING x_v_MISSING_reason x_v_MISSING_reportWord h0 n0 _ T16.heap _
      rw [e16]
      exact ⟨rfl, N16⟩
  · have s18 := s1
    rw [hk2] at s18
    obtain ⟨_, _, ⟨T19, L19, k19, n19⟩, -, X19, ⟨Lc19, hQ19, l19, y19, z19⟩, st19⟩ := Jvm.LawKit.callS X0 hx (y := (⟨"com/example/schemactl/schemactl/MigrationStateIsProblemPinLaw", "pick", "(I)Lcom/example/schemactl/schemactl/MigrationState;"⟩ : MethodName)) hown (mvT hZ (hw _ (List.mem_of_getElem? (i := 1) rfl))) (mvT hZ (hw _ (List.mem_of_getElem? (i := 2) rfl))) (mvT hZ (hw _ (List.mem_of_getElem? (i := 3) rfl))) (mvT hZ (hw _ (List.mem_of_getElem? (i := 4) rfl))) (by decide) (backOf (W := 0) (rmp3 l Z a0 hw [] v_CHANGED h0 n0 O0 F4_) hZ (hw _ (List.mem_of_getElem? (i := 4) rfl)) (hw _ (List.mem_of_getElem? (i := 3) rfl)) (by decide) (by decide)) (g := (mkF m 9 #[.val (.int p0), .val (.int (3 : Int32)), .unset, .unset, .unset] [(.int (3 : Int32))])) rfl (by rw [hml]; rfl) (argsL := [(.int (3 : Int32))]) (rest := []) (lenOf pd_rm0_0 rfl) rfl (by show 2 * 0 + _ ≤ _; exact Nat.le_of_eq rfl) (hb hby at_9) (fun _ _ => ⟨rfl, e0, (by decide : 0 + 0 ≤ _), (by decide : 0 + 0 ≤ _)⟩)
    dsimp only [Pt.U, Pt.locs, Pt.cells, Pt.slots] at X19 l19 y19 z19 st19 hQ19
    subst l19 y19 z19
    obtain ⟨rfl, Nq19, e19⟩ := hQ19
    have N19 := Fr.app N0 Nq19
    obtain ⟨cq20, kq20, q20a, q20b, q20c⟩ := isOf hZ e19 (F5_.ext O0.2)
    obtain ⟨_, _, ⟨T20, L20, k20, n20⟩, -, X20, ⟨Lc20, hQ20, l20, y20, z20⟩, st20⟩ := X19.virtualBack hx (y := (⟨"com/example/schemactl/schemactl/MigrationState", "isProblem", "()Z"⟩ : MethodName)) (z := (⟨"com/example/schemactl/schemactl/MigrationState", "isProblem", "()Z"⟩ : MethodName)) hown (mvT hZ (hw _ (List.mem_of_getElem? (i := 8) rfl))) (mvT hZ (hw _ (List.mem_of_getElem? (i := 9) rfl))) (notFace_of_selects (args := #[]) (mvT hZ (hw _ (List.mem_of_getElem? (i := 11) rfl)))) (mvT hZ (hw _ (List.mem_of_getElem? (i := 11) rfl))) (mvT hZ (hw _ (List.mem_of_getElem? (i := 10) rfl))) (by decide) (backOf (W := 0) (rmi1 l Z a0 hw [] v_CHANGED x_v_CHANGED_reason h0 n0 O0 (F6_.ext O0.2)) hZ (hw _ (List.mem_of_getElem? (i := 12) rfl)) (hw _ (List.mem_of_getElem? (i := 6) rfl)) (by decide) (by decide)) q20a q20c (g := (mkF m 48 #[.val (.int p0), .val (.int (3 : Int32)), .val (.ref v_CHANGED), .val (.int (1 : Int32)), .unset] [(.ref v_CHANGED)])) rfl (by rw [hml]; rfl) (Steps.refl _) (argsL := []) (rest := []) (lenOf pd_rm0_1 rfl) rfl (by show 2 * 0 + _ ≤ _; exact Nat.le_of_eq rfl) (hb hby at_48) (fun _ _ => ⟨rfl, e19, (by decide : 0 + 0 ≤ _), (by decide : 0 + 0 ≤ _)⟩)
    dsimp only [Pt.U, Pt.locs, Pt.cells, Pt.slots] at X20 l20 y20 z20 st20 hQ20
    subst l20 y20 z20
    obtain ⟨rfl, Nq20, e20⟩ := hQ20
    have N20 := Fr.app N19 Nq20
    obtain ⟨cq21, kq21, q21a, q21b, q21c⟩ := isOf hZ e20 (F5_.ext O0.2)
    obtain ⟨_, _, ⟨T21, L21, k21, n21⟩, -, X21, ⟨Lc21, hQ21, l21, y21, z21⟩, st21⟩ := X20.virtualBack hx (y := (⟨"com/example/schemactl/schemactl/MigrationState", "reportWord", "()Ljava/lang/String;"⟩ : MethodName)) (z := (⟨"com/example/schemactl/schemactl/MigrationState", "reportWord", "()Ljava/lang/String;"⟩ : MethodName)) hown (mvT hZ (hw _ (List.mem_of_getElem? (i := 15) rfl))) (mvT hZ (hw _ (List.mem_of_getElem? (i := 16) rfl))) (notFace_of_selects (args := #[]) (mvT hZ (hw _ (List.mem_of_getElem? (i := 18) rfl)))) (mvT hZ (hw _ (List.mem_of_getElem? (i := 18) rfl))) (mvT hZ (hw _ (List.mem_of_getElem? (i := 17) rfl))) (by decide) (backOf (W := 1) (rmr1 l Z a0 hw [] v_CHANGED x_v_CHANGED_reportWord h0 n0 O0 (F7_.ext O0.2)) hZ (hw _ (List.mem_of_getElem? (i := 19) rfl)) (hw _ (List.mem_of_getElem? (i := 6) rfl)) (by decide) (by decide)) q21a q21c (g := (mkF m 62 #[.val (.int p0), .val (.int (3 : Int32)), .val (.ref v_CHANGED), .val (.int (1 : Int32)), .val (.int (1 : Int32))] [(.ref v_CHANGED), (.int (1 : Int32))])) rfl (by rw [hml]; rfl) (Steps.refl _) (argsL := []) (rest := [(.int (1 : Int32))]) (lenOf pd_rm0_2 rfl) rfl (by show 2 * 0 + _ ≤ _; exact Nat.le_of_eq rfl) (hb hby at_62) (fun _ _ => ⟨rfl, e20, (by decide : 0 + 0 ≤ _), (by decide : 0 + 0 ≤ _)⟩)
    dsimp only [Pt.U, Pt.locs, Pt.cells, Pt.slots] at X21 l21 y21 z21 st21 hQ21
    subst l21 y21 z21
    obtain ⟨rfl, Nq21, e21⟩ := hQ21
    have N21 := Fr.app N20 Nq21
    have s22 : Steps p.tables e below (s₁.setTop (entryFrame m #[(.int p0)] maxLocals)) (T21.setTop (mkF m 81 #[.val (.int p0), .val (.int (3 : Int32)), .val (.ref v_CHANGED), .val (.int (1 : Int32)), .val (.int (1 : Int32))] [(.int (1 : Int32))])) := by
      refine s18.trans ?_
      show Steps p.tables e below (s₁.setTop (mkF m 7 #[.val (.int p0), .unset, .unset, .unset, .unset] [(.int (3 : Int32))])) _
      refine XS.istoreN X0.here hx rfl (hb hby at_7) rfl (l' := #[.val (.int p0), .val (.int (3 : Int32)), .unset, .unset, .unset]) rfl ?_
      show Steps p.tables e below (s₁.setTop (mkF m 8 #[.val (.int p0), .val (.int (3 : Int32)), .unset, .unset, .unset] [])) _
      refine XS.iloadN X0.here hx rfl (hb hby at_8) rfl ?_
      show Steps p.tables e below (s₁.setTop (mkF m 9 #[.val (.int p0), .val (.int (3 : Int32)), .unset, .unset, .unset] [(.int (3 : Int32))])) _
      refine st19 _ ?_
      show Steps p.tables e below (T19.setTop (mkF m 12 #[.val (.int p0), .val (.int (3 : Int32)), .unset, .unset, .unset] [(.ref v_CHANGED)])) _
      refine XS.astoreN X19.here hx rfl (hb hby at_12) rfl rfl (l' := #[.val (.int p0), .val (.int (3 : Int32)), .val (.ref v_CHANGED), .unset, .unset]) rfl ?_
      show Steps p.tables e below (T19.setTop (mkF m 13 #[.val (.int p0), .val (.int (3 : Int32)), .val (.ref v_CHANGED), .unset, .unset] [])) _
      refine XS.iloadN X19.here hx rfl (hb hby at_13) rfl ?_
      show Steps p.tables e below (T19.setTop (mkF m 14 #[.val (.int p0), .val (.int (3 : Int32)), .val (.ref v_CHANGED), .unset, .unset] [(.int (3 : Int32))])) _
      refine XS.iconst X19.here hx rfl (hb hby at_14) ?_
      show Steps p.tables e below (T19.setTop (mkF m 15 #[.val (.int p0), .val (.int (3 : Int32)), .val (.ref v_CHANGED), .unset, .unset] [(.int (3 : Int32)), (.int (3 : Int32))])) _
      refine XS.icmpYes X19.here hx rfl (pc0 := 15) (pc' := 41) rfl (hb hby at_15) rfl (teq (by decide)).1 (by decide) (by decide) ?_
      show Steps p.tables e below (T19.setTop (mkF m 41 #[.val (.int p0), .val (.int (3 : Int32)), .val (.ref v_CHANGED), .unset, .unset] [])) _
      refine XS.iconst X19.here hx rfl (hb hby at_41) ?_
      show Steps p.tables e below (T19.setTop (mkF m 42 #[.val (.int p0), .val (.int (3 : Int32)), .val (.ref v_CHANGED), .unset, .unset] [(.int (1 : Int32))])) _
      refine XS.goto X19.here hx rfl (pc0 := 42) (pc' := 46) rfl (hb hby at_42) (by decide) (by decide) ?_
      show Steps p.tables e below (T19.setTop (mkF m 46 #[.val (.int p0), .val (.int (3 : Int32)), .val (.ref v_CHANGED), .unset, .unset] [(.int (1 : Int32))])) _
      refine XS.istoreN X19.here hx rfl (hb hby at_46) rfl (l' := #[.val (.int p0), .val (.int (3 : Int32)), .val (.ref v_CHANGED), .val (.int (1 : Int32)), .unset]) rfl ?_
      show Steps p.tables e below (T19.setTop (mkF m 47 #[.val (.int p0), .val (.int (3 : Int32)), .val (.ref v_CHANGED), .val (.int (1 : Int32)), .unset] [])) _
      refine XS.aloadN X19.here hx rfl (hb hby at_47) rfl rfl ?_
      show Steps p.tables e below (T19.setTop (mkF m 48 #[.val (.int p0), .val (.int (3 : Int32)), .val (.ref v_CHANGED), .val (.int (1 : Int32)), .unset] [(.ref v_CHANGED)])) _
      refine st20.trans ?_
      show Steps p.tables e below (T20.setTop (mkF m 51 #[.val (.int p0), .val (.int (3 : Int32)), .val (.ref v_CHANGED), .val (.int (1 : Int32)), .unset] [(.int (1 : Int32))])) _
      refine XS.istore X20.here hx rfl (hb hby at_51) rfl (l' := #[.val (.int p0), .val (.int (3 : Int32)), .val (.ref v_CHANGED), .val (.int (1 : Int32)), .val (.int (1 : Int32))]) rfl ?_
      show Steps p.tables e below (T20.setTop (mkF m 53 #[.val (.int p0), .val (.int (3 : Int32)), .val (.ref v_CHANGED), .val (.int (1 : Int32)), .val (.int (1 : Int32))] [])) _
      refine XS.iload X20.here hx rfl (hb hby at_53) rfl ?_
      show Steps p.tables e below (T20.setTop (mkF m 55 #[.val (.int p0), .val (.int (3 : Int32)), .val (.ref v_CHANGED), .val (.int (1 : Int32)), .val (.int (1 : Int32))] [(.int (1 : Int32))])) _
      refine XS.iloadN X20.here hx rfl (hb hby at_55) rfl ?_
      show Steps p.tables e below (T20.setTop (mkF m 56 #[.val (.int p0), .val (.int (3 : Int32)), .val (.ref v_CHANGED), .val (.int (1 : Int32)), .val (.int (1 : Int32))] [(.int (1 : Int32)), (.int (1 : Int32))])) _
      refine XS.icmpNo X20.here hx rfl (hb hby at_56) rfl (teq (by decide)).2 ?_
      show Steps p.tables e below (T20.setTop (mkF m 59 #[.val (.int p0), .val (.int (3 : Int32)), .val (.ref v_CHANGED), .val (.int (1 : Int32)), .val (.int (1 : Int32))] [])) _
      refine XS.iload X20.here hx rfl (hb hby at_59) rfl ?_
      show Steps p.tables e below (T20.setTop (mkF m 61 #[.val (.int p0), .val (.int (3 : Int32)), .val (.ref v_CHANGED), .val (.int (1 : Int32)), .val (.int (1 : Int32))] [(.int (1 : Int32))])) _
      refine XS.aloadN X20.here hx rfl (hb hby at_61) rfl rfl ?_
      show Steps p.tables e below (T20.setTop (mkF m 62 #[.val (.int p0), .val (.int (3 : Int32)), .val (.ref v_CHANGED), .val (.int (1 : Int32)), .val (.int (1 : Int32))] [(.ref v_CHANGED), (.int (1 : Int32))])) _
      refine st21.trans ?_
      show Steps p.tables e below (T21.setTop (mkF m 65 #[.val (.int p0), .val (.int (3 : Int32)), .val (.ref v_CHANGED), .val (.int (1 : Int32)), .val (.int (1 : Int32))] [(.ref x_v_CHANGED_reportWord), (.int (1 : Int32))])) _
      refine XS.ifnullNo X21.here hx rfl (hb hby at_65) rfl ?_
      show Steps p.tables e below (T21.setTop (mkF m 68 #[.val (.int p0), .val (.int (3 : Int32)), .val (.ref v_CHANGED), .val (.int (1 : Int32)), .val (.int (1 : Int32))] [(.int (1 : Int32))])) _
      refine XS.iconst X21.here hx rfl (hb hby at_68) ?_
      show Steps p.tables e below (T21.setTop (mkF m 69 #[.val (.int p0), .val (.int (3 : Int32)), .val (.ref v_CHANGED), .val (.int (1 : Int32)), .val (.int (1 : Int32))] [(.int (1 : Int32)), (.int (1 : Int32))])) _
      refine XS.goto X21.here hx rfl (pc0 := 69) (pc' := 73) rfl (hb hby at_69) (by decide) (by decide) ?_
      show Steps p.tables e below (T21.setTop (mkF m 73 #[.val (.int p0), .val (.int (3 : Int32)), .val (.ref v_CHANGED), .val (.int (1 : Int32)), .val (.int (1 : Int32))] [(.int (1 : Int32)), (.int (1 : Int32))])) _
      refine XS.icmpNo X21.here hx rfl (hb hby at_73) rfl (teq (by decide)).2 ?_
      show Steps p.tables e below (T21.setTop (mkF m 76 #[.val (.int p0), .val (.int (3 : Int32)), .val (.ref v_CHANGED), .val (.int (1 : Int32)), .val (.int (1 : Int32))] [])) _
      refine XS.iconst X21.here hx rfl (hb hby at_76) ?_
      show Steps p.tables e below (T21.setTop (mkF m 77 #[.val (.int p0), .val (.int (3 : Int32)), .val (.ref v_CHANGED), .val (.int (1 : Int32)), .val (.int (1 : Int32))] [(.int (1 : Int32))])) _
      refine XS.goto X21.here hx rfl (pc0 := 77) (pc' := 81) rfl (hb hby at_77) (by decide) (by decide) ?_
      exact Steps.refl _
    obtain ⟨fs, hr, hrun, hended, hW, hsame⟩ := X21.leave (v := some (.int (1 : Int32))) (fun h => by rw [Bd.returns] at h; cases h)
    refine ⟨_, _, s22.trans ?_, hrun, hended, _, _, rfl, ?_, ⟨_, rfl⟩, hW, hsame.mono (by decide) (by decide)⟩
    · show Steps p.tables e below (T21.setTop (mkF m 81 #[.val (.int p0), .val (.int (3 : Int32)), .val (.ref v_CHANGED), .val (.int (1 : Int32)), .val (.int (1 : Int32))] [(.int (1 : Int32))])) _
      exact retN X21 hx (t := .boolean) Bd.returns (by simp) (hb hby at_81) hr
    · show Q0 Z p0 v_APPLIED v_CHANGED x_v_CHANGED_reason x_v_CHANGED_reportWord v_OUT_OF_ORDER x_v_OUT_OF_ORDER_reason x_v_OUT_OF_ORDER_reportWord v_NEWER v_FAILED x_v_FAILED_reason x_v_FAILED_reportWord v_INTERRUPTED x_v_INTERRUPTED_reason v_OUTDATED v_BASELINE v_PENDING v_INCOMPLETE v_APPLYING v_BELOW_BASELINE v_MISSING x_v_MISSING_reason x_v_MISSING_reportWord h0 n0 _ T21.heap _
      rw [e21]
      exact ⟨rfl, N21⟩
  · have s23 := s1
    rw [hk2] at s23
    obtain ⟨_, _, ⟨T24, L24, k24, n24⟩, -, X24, ⟨Lc24, hQ24, l24, y24, z24⟩, st24⟩ := Jvm.LawKit.callS X0 hx (y := (⟨"com/example/schemactl/schemactl/MigrationStateIsProblemPinLaw", "pick", "(I)Lcom/example/schemactl/schemactl/MigrationState;"⟩ : MethodName)) hown (mvT hZ (hw _ (List.mem_of_getElem? (i := 1) rfl))) (mvT hZ (hw _ (List.mem_of_getElem? (i := 2) rfl))) (mvT hZ (hw _ (List.mem_of_getElem? (i := 3) rfl))) (mvT hZ (hw _ (List.mem_of_getElem? (i := 4) rfl))) (by decide) (backOf (W := 0) (rmp4 l Z a0 hw [] v_MISSING h0 n0 O0 F48_) hZ (hw _ (List.mem_of_getElem? (i := 4) rfl)) (hw _ (List.mem_of_getElem? (i := 3) rfl)) (by decide) (by decide)) (g := (mkF m 9 #[.val (.int p0), .val (.int (4 : Int32)), .unset, .unset, .unset] [(.int (4 : Int32))])) rfl (by rw [hml]; rfl) (argsL := [(.int (4 : Int32))]) (rest := []) (lenOf pd_rm0_0 rfl) rfl (by show 2 * 0 + _ ≤ _; exact Nat.le_of_eq rfl) (hb hby at_9) (fun _ _ => ⟨rfl, e0, (by decide : 0 + 0 ≤ _), (by decide : 0 + 0 ≤ _)⟩)
    dsimp only [Pt.U, Pt.locs, Pt.cells, Pt.slots] at X24 l24 y24 z24 st24 hQ24
    subst l24 y24 z24
    obtain ⟨rfl, Nq24, e24⟩ := hQ24
    have N24 := Fr.app N0 Nq24
    obtain ⟨cq25, kq25, q25a, q25b, q25c⟩ := isOf hZ e24 (F49_.ext O0.2)
    obtain ⟨_, _, ⟨T25, L25, k25, n25⟩, -, X25, ⟨Lc25, hQ25, l25, y25, z25⟩, st25⟩ := X24.virtualBack hx (y := (⟨"com/example/schemactl/schemactl/MigrationState", "isProblem", "()Z"⟩ : MethodName)) (z := (⟨"com/example/schemactl/schemactl/MigrationState", "isProblem", "()Z"⟩ : MethodName)) hown (mvT hZ (hw _ (List.mem_of_getElem? (i := 8) rfl))) (mvT hZ (hw _ (List.mem_of_getElem? (i := 9) rfl))) (notFace_of_selects (args := #[]) (mvT hZ (hw _ (List.mem_of_getElem? (i := 11) rfl)))) (mvT hZ (hw _ (List.mem_of_getElem? (i := 11) rfl))) (mvT hZ (hw _ (List.mem_of_getElem? (i := 10) rfl))) (by decide) (backOf (W := 0) (rmi1 l Z a0 hw [] v_MISSING x_v_MISSING_reason h0 n0 O0 (F50_.ext O0.2)) hZ (hw _ (List.mem_of_getElem? (i := 12) rfl)) (hw _ (List.mem_of_getElem? (i := 6) rfl)) (by decide) (by decide)) q25a q25c (g := (mkF m 48 #[.val (.int p0), .val (.int (4 : Int32)), .val (.ref v_MISSING), .val (.int (1 : Int32)), .unset] [(.ref v_MISSING)])) rfl (by rw [hml]; rfl) (Steps.refl _) (argsL := []) (rest := []) (lenOf pd_rm0_1 rfl) rfl (by show 2 * 0 + _ ≤ _; exact Nat.le_of_eq rfl) (hb hby at_48) (fun _ _ => ⟨rfl, e24, (by decide : 0 + 0 ≤ _), (by decide : 0 + 0 ≤ _)⟩)
    dsimp only [Pt.U, Pt.locs, Pt.cells, Pt.slots] at X25 l25 y25 z25 st25 hQ25
    subst l25 y25 z25
    obtain ⟨rfl, Nq25, e25⟩ := hQ25
    have N25 := Fr.app N24 Nq25
    obtain ⟨cq26, kq26, q26a, q26b, q26c⟩ := isOf hZ e25 (F49_.ext O0.2)
    obtain ⟨_, _, ⟨T26, L26, k26, n26⟩, -, X26, ⟨Lc26, hQ26, l26, y26, z26⟩, st26⟩ := X25.virtualBack hx (y := (⟨"com/example/schemactl/schemactl/MigrationState", "reportWord", "()Ljava/lang/String;"⟩ : MethodName)) (z := (⟨"com/example/schemactl/schemactl/MigrationState", "reportWord", "()Ljava/lang/String;"⟩ : MethodName)) hown (mvT hZ (hw _ (List.mem_of_getElem? (i := 15) rfl))) (mvT hZ (hw _ (List.mem_of_getElem? (i := 16) rfl))) (notFace_of_selects (args := #[]) (mvT hZ (hw _ (List.mem_of_getElem? (i := 18) rfl)))) (mvT hZ (hw _ (List.mem_of_getElem? (i := 18) rfl))) (mvT hZ (hw _ (List.mem_of_getElem? (i := 17) rfl))) (by decide) (backOf (W := 1) (rmr1 l Z a0 hw [] v_MISSING x_v_MISSING_reportWord h0 n0 O0 (F51_.ext O0.2)) hZ (hw _ (List.mem_of_getElem? (i := 19) rfl)) (hw _ (List.mem_of_getElem? (i := 6) rfl)) (by decide) (by decide)) q26a q26c (g := (mkF m 62 #[.val (.int p0), .val (.int (4 : Int32)), .val (.ref v_MISSING), .val (.int (1 : Int32)), .val (.int (1 : Int32))] [(.ref v_MISSING), (.int (1 : Int32))])) rfl (by rw [hml]; rfl) (Steps.refl _) (argsL := []) (rest := [(.int (1 : Int32))]) (lenOf pd_rm0_2 rfl) rfl (by show 2 * 0 + _ ≤ _; exact Nat.le_of_eq rfl) (hb hby at_62) (fun _ _ => ⟨rfl, e25, (by decide : 0 + 0 ≤ _), (by decide : 0 + 0 ≤ _)⟩)
    dsimp only [Pt.U, Pt.locs, Pt.cells, Pt.slots] at X26 l26 y26 z26 st26 hQ26
    subst l26 y26 z26
    obtain ⟨rfl, Nq26, e26⟩ := hQ26
    have N26 := Fr.app N25 Nq26
    have s27 : Steps p.tables e below (s₁.setTop (entryFrame m #[(.int p0)] maxLocals)) (T26.setTop (mkF m 81 #[.val (.int p0), .val (.int (4 : Int32)), .val (.ref v_MISSING), .val (.int (1 : Int32)), .val (.int (1 : Int32))] [(.int (1 : Int32))])) := by
      refine s23.trans ?_
      show Steps p.tables e below (s₁.setTop (mkF m 7 #[.val (.int p0), .unset, .unset, .unset, .unset] [(.int (4 : Int32))])) _
      refine XS.istoreN X0.here hx rfl (hb hby at_7) rfl (l' := #[.val (.int p0), .val (.int (4 : Int32)), .unset, .unset, .unset]) rfl ?_
      show Steps p.tables e below (s₁.setTop (mkF m 8 #[.val (.int p0), .val (.int (4 : Int32)), .unset, .unset, .unset] [])) _
      refine XS.iloadN X0.here hx rfl (hb hby at_8) rfl ?_
      show Steps p.tables e below (s₁.setTop (mkF m 9 #[.val (.int p0), .val (.int (4 : Int32)), .unset, .unset, .unset] [(.int (4 : Int32))])) _
      refine st24 _ ?_
      show Steps p.tables e below (T24.setTop (mkF m 12 #[.val (.int p0), .val (.int (4 : Int32)), .unset, .unset, .unset] [(.ref v_MISSING)])) _
      refine XS.astoreN X24.here hx rfl (hb hby at_12) rfl rfl (l' := #[.val (.int p0), .val (.int (4 : Int32)), .val (.ref v_MISSING), .unset, .unset]) rfl ?_
      show Steps p.tables e below (T24.setTop (mkF m 13 #[.val (.int p0), .val (.int (4 : Int32)), .val (.ref v_MISSING), .unset, .unset] [])) _
      refine XS.iloadN X24.here hx rfl (hb hby at_13) rfl ?_
      show Steps p.tables e below (T24.setTop (mkF m 14 #[.val (.int p0), .val (.int (4 : Int32)), .val (.ref v_MISSING), .unset, .unset] [(.int (4 : Int32))])) _
      refine XS.iconst X24.here hx rfl (hb hby at_14) ?_
      show Steps p.tables e below (T24.setTop (mkF m 15 #[.val (.int p0), .val (.int (4 : Int32)), .val (.ref v_MISSING), .unset, .unset] [(.int (3 : Int32)), (.int (4 : Int32))])) _
      refine XS.icmpNo X24.here hx rfl (hb hby at_15) rfl (feq (by decide)).1 ?_
      show Steps p.tables e below (T24.setTop (mkF m 18 #[.val (.int p0), .val (.int (4 : Int32)), .val (.ref v_MISSING), .unset, .unset] [])) _
      refine XS.iloadN X24.here hx rfl (hb hby at_18) rfl ?_
      show Steps p.tables e below (T24.setTop (mkF m 19 #[.val (.int p0), .val (.int (4 : Int32)), .val (.ref v_MISSING), .unset, .unset] [(.int (4 : Int32))])) _
      refine XS.iconst X24.here hx rfl (hb hby at_19) ?_
      show Steps p.tables e below (T24.setTop (mkF m 20 #[.val (.int p0), .val (.int (4 : Int32)), .val (.ref v_MISSING), .unset, .unset] [(.int (4 : Int32)), (.int (4 : Int32))])) _
      refine XS.icmpYes X24.here hx rfl (pc0 := 20) (pc' := 41) rfl (hb hby at_20) rfl (teq (by decide)).1 (by decide) (by decide) ?_
      show Steps p.tables e below (T24.setTop (mkF m 41 #[.val (.int p0), .val (.int (4 : Int32)), .val (.ref v_MISSING), .unset, .unset] [])) _
      refine XS.iconst X24.here hx rfl (hb hby at_41) ?_
      show Steps p.tables e below (T24.setTop (mkF m 42 #[.val (.int p0), .val (.int (4 : Int32)), .val (.ref v_MISSING), .unset, .unset] [(.int (1 : Int32))])) _
      refine XS.goto X24.here hx rfl (pc0 := 42) (pc' := 46) rfl (hb hby at_42) (by decide) (by decide) ?_
      show Steps p.tables e below (T24.setTop (mkF m 46 #[.val (.int p0), .val (.int (4 : Int32)), .val (.ref v_MISSING), .unset, .unset] [(.int (1 : Int32))])) _
      refine XS.istoreN X24.here hx rfl (hb hby at_46) rfl (l' := #[.val (.int p0), .val (.int (4 : Int32)), .val (.ref v_MISSING), .val (.int (1 : Int32)), .unset]) rfl ?_
      show Steps p.tables e below (T24.setTop (mkF m 47 #[.val (.int p0), .val (.int (4 : Int32)), .val (.ref v_MISSING), .val (.int (1 : Int32)), .unset] [])) _
      refine XS.aloadN X24.here hx rfl (hb hby at_47) rfl rfl ?_
      show Steps p.tables e below (T24.setTop (mkF m 48 #[.val (.int p0), .val (.int (4 : Int32)), .val (.ref v_MISSING), .val (.int (1 : Int32)), .unset] [(.ref v_MISSING)])) _
      refine st25.trans ?_
      show Steps p.tables e below (T25.setTop (mkF m 51 #[.val (.int p0), .val (.int (4 : Int32)), .val (.ref v_MISSING), .val (.int (1 : Int32)), .unset] [(.int (1 : Int32))])) _
      refine XS.istore X25.here hx rfl (hb hby at_51) rfl (l' := #[.val (.int p0), .val (.int (4 : Int32)), .val (.ref v_MISSING), .val (.int (1 : Int32)), .val (.int (1 : Int32))]) rfl ?_
      show Steps p.tables e below (T25.setTop (mkF m 53 #[.val (.int p0), .val (.int (4 : Int32)), .val (.ref v_MISSING), .val (.int (1 : Int32)), .val (.int (1 : Int32))] [])) _
      refine XS.iload X25.here hx rfl (hb hby at_53) rfl ?_
      show Steps p.tables e below (T25.setTop (mkF m 55 #[.val (.int p0), .val (.int (4 : Int32)), .val (.ref v_MISSING), .val (.int (1 : Int32)), .val (.int (1 : Int32))] [(.int (1 : Int32))])) _
      refine XS.iloadN X25.here hx rfl (hb hby at_55) rfl ?_
      show Steps p.tables e below (T25.setTop (mkF m 56 #[.val (.int p0), .val (.int (4 : Int32)), .val (.ref v_MISSING), .val (.int (1 : Int32)), .val (.int (1 : Int32))] [(.int (1 : Int32)), (.int (1 : Int32))])) _
      refine XS.icmpNo X25.here hx rfl (hb hby at_56) rfl (teq (by decide)).2 ?_
      show Steps p.tables e below (T25.setTop (mkF m 59 #[.val (.int p0), .val (.int (4 : Int32)), .val (.ref v_MISSING), .val (.int (1 : Int32)), .val (.int (1 : Int32))] [])) _
      refine XS.iload X25.here hx rfl (hb hby at_59) rfl ?_
      show Steps p.tables e below (T25.setTop (mkF m 61 #[.val (.int p0), .val (.int (4 : Int32)), .val (.ref v_MISSING), .val (.int (1 : Int32)), .val (.int (1 : Int32))] [(.int (1 : Int32))])) _
      refine XS.aloadN X25.here hx rfl (hb hby at_61) rfl rfl ?_
      show Steps p.tables e below (T25.setTop (mkF m 62 #[.val (.int p0), .val (.int (4 : Int32)), .val (.ref v_MISSING), .val (.int (1 : Int32)), .val (.int (1 : Int32))] [(.ref v_MISSING), (.int (1 : Int32))])) _
      refine st26.trans ?_
      show Steps p.tables e below (T26.setTop (mkF m 65 #[.val (.int p0), .val (.int (4 : Int32)), .val (.ref v_MISSING), .val (.int (1 : Int32)), .val (.int (1 : Int32))] [(.ref x_v_MISSING_reportWord), (.int (1 : Int32))])) _
      refine XS.ifnullNo X26.here hx rfl (hb hby at_65) rfl ?_
      show Steps p.tables e below (T26.setTop (mkF m 68 #[.val (.int p0), .val (.int (4 : Int32)), .val (.ref v_MISSING), .val (.int (1 : Int32)), .val (.int (1 : Int32))] [(.int (1 : Int32))])) _
      refine XS.iconst X26.here hx rfl (hb hby at_68) ?_
      show Steps p.tables e below (T26.setTop (mkF m 69 #[.val (.int p0), .val (.int (4 : Int32)), .val (.ref v_MISSING), .val (.int (1 : Int32)), .val (.int (1 : Int32))] [(.int (1 : Int32)), (.int (1 : Int32))])) _
      refine XS.goto X26.here hx rfl (pc0 := 69) (pc' := 73) rfl (hb hby at_69) (by decide) (by decide) ?_
      show Steps p.tables e below (T26.setTop (mkF m 73 #[.val (.int p0), .val (.int (4 : Int32)), .val (.ref v_MISSING), .val (.int (1 : Int32)), .val (.int (1 : Int32))] [(.int (1 : Int32)), (.int (1 : Int32))])) _
      refine XS.icmpNo X26.here hx rfl (hb hby at_73) rfl (teq (by decide)).2 ?_
      show Steps p.tables e below (T26.setTop (mkF m 76 #[.val (.int p0), .val (.int (4 : Int32)), .val (.ref v_MISSING), .val (.int (1 : Int32)), .val (.int (1 : Int32))] [])) _
      refine XS.iconst X26.here hx rfl (hb hby at_76) ?_
      show Steps p.tables e below (T26.setTop (mkF m 77 #[.val (.int p0), .val (.int (4 : Int32)), .val (.ref v_MISSING), .val (.int (1 : Int32)), .val (.int (1 : Int32))] [(.int (1 : Int32))])) _
      refine XS.goto X26.here hx rfl (pc0 := 77) (pc' := 81) rfl (hb hby at_77) (by decide) (by decide) ?_
      exact Steps.refl _
    obtain ⟨fs, hr, hrun, hended, hW, hsame⟩ := X26.leave (v := some (.int (1 : Int32))) (fun h => by rw [Bd.returns] at h; cases h)
    refine ⟨_, _, s27.trans ?_, hrun, hended, _, _, rfl, ?_, ⟨_, rfl⟩, hW, hsame.mono (by decide) (by decide)⟩
    · show Steps p.tables e below (T26.setTop (mkF m 81 #[.val (.int p0), .val (.int (4 : Int32)), .val (.ref v_MISSING), .val (.int (1 : Int32)), .val (.int (1 : Int32))] [(.int (1 : Int32))])) _
      exact retN X26 hx (t := .boolean) Bd.returns (by simp) (hb hby at_81) hr
    · show Q0 Z p0 v_APPLIED v_CHANGED x_v_CHANGED_reason x_v_CHANGED_reportWord v_OUT_OF_ORDER x_v_OUT_OF_ORDER_reason x_v_OUT_OF_ORDER_reportWord v_NEWER v_FAILED x_v_FAILED_reason x_v_FAILED_reportWord v_INTERRUPTED x_v_INTERRUPTED_reason v_OUTDATED v_BASELINE v_PENDING v_INCOMPLETE v_APPLYING v_BELOW_BASELINE v_MISSING x_v_MISSING_reason x_v_MISSING_reportWord h0 n0 _ T26.heap _
      rw [e26]
      exact ⟨rfl, N26⟩
  · have s28 := s1
    rw [hk2] at s28
    obtain ⟨_, _, ⟨T29, L29, k29, n29⟩, -, X29, ⟨Lc29, hQ29, l29, y29, z29⟩, st29⟩ := Jvm.LawKit.callS X0 hx (y := (⟨"com/example/schemactl/schemactl/MigrationStateIsProblemPinLaw", "pick", "(I)Lcom/example/schemactl/schemactl/MigrationState;"⟩ : MethodName)) hown (mvT hZ (hw _ (List.mem_of_getElem? (i := 1) rfl))) (mvT hZ (hw _ (List.mem_of_getElem? (i := 2) rfl))) (mvT hZ (hw _ (List.mem_of_getElem? (i := 3) rfl))) (mvT hZ (hw _ (List.mem_of_getElem? (i := 4) rfl))) (by decide) (backOf (W := 0) (rmp5 l Z a0 hw [] v_NEWER h0 n0 O0 F12_) hZ (hw _ (List.mem_of_getElem? (i := 4) rfl)) (hw _ (List.mem_of_getElem? (i := 3) rfl)) (by decide) (by decide)) (g := (mkF m 9 #[.val (.int p0), .val (.int (5 : Int32)), .unset, .unset, .unset] [(.int (5 : Int32))])) rfl (by rw [hml]; rfl) (argsL := [(.int (5 : Int32))]) (rest := []) (lenOf pd_rm0_0 rfl) rfl (by show 2 * 0 + _ ≤ _; exact Nat.le_of_eq rfl) (hb hby at_9) (fun _ _ => ⟨rfl, e0, (by decide : 0 + 0 ≤ _), (by decide : 0 + 0 ≤ _)⟩)
    dsimp only [Pt.U, Pt.locs, Pt.cells, Pt.slots] at X29 l29 y29 z29 st29 hQ29
    subst l29 y29 z29
    obtain ⟨rfl, Nq29, e29⟩ := hQ29
    have N29 := Fr.app N0 Nq29
    obtain ⟨cq30, kq30, q30a, q30b, q30c⟩ := isOf hZ e29 (F13_.ext O0.2)
    obtain ⟨_, _, ⟨T30, L30, k30, n30⟩, -, X30, ⟨Lc30, hQ30, l30, y30, z30⟩, st30⟩ := X29.virtualBack hx (y := (⟨"com/example/schemactl/schemactl/MigrationState", "isProblem", "()Z"⟩ : MethodName)) (z := (⟨"com/example/schemactl/schemactl/MigrationState", "isProblem", "()Z"⟩ : MethodName)) hown (mvT hZ (hw _ (List.mem_of_getElem? (i := 8) rfl))) (mvT hZ (hw _ (List.mem_of_getElem? (i := 9) rfl))) (notFace_of_selects (args := #[]) (mvT hZ (hw _ (List.mem_of_getElem? (i := 11) rfl)))) (mvT hZ (hw _ (List.mem_of_getElem? (i := 11) rfl))) (mvT hZ (hw _ (List.mem_of_getElem? (i := 10) rfl))) (by decide) (backOf (W := 0) (rmi0 l Z a0 hw [] v_NEWER h0 n0 O0 (F14_.ext O0.2)) hZ (hw _ (List.mem_of_getElem? (i := 12) rfl)) (hw _ (List.mem_of_getElem? (i := 6) rfl)) (by decide) (by decide)) q30a q30c (g := (mkF m 48 #[.val (.int p0), .val (.int (5 : Int32)), .val (.ref v_NEWER), .val (.int (0 : Int32)), .unset] [(.ref v_NEWER)])) rfl (by rw [hml]; rfl) (Steps.refl _) (argsL := []) (rest := []) (lenOf pd_rm0_1 rfl) rfl (by show 2 * 0 + _ ≤ _; exact Nat.le_of_eq rfl) (hb hby at_48) (fun _ _ => ⟨rfl, e29, (by decide : 0 + 0 ≤ _), (by decide : 0 + 0 ≤ _)⟩)
    dsimp only [Pt.U, Pt.locs, Pt.cells, Pt.slots] at X30 l30 y30 z30 st30 hQ30
    subst l30 y30 z30
    obtain ⟨rfl, Nq30, e30⟩ := hQ30
    have N30 := Fr.app N29 Nq30
    obtain ⟨cq31, kq31, q31a, q31b, q31c⟩ := isOf hZ e30 (F13_.ext O0.2)
    obtain ⟨_, _, ⟨T31, L31, k31, n31⟩, -, X31, ⟨Lc31, hQ31, l31, y31, z31⟩, st31⟩ := X30.virtualBack hx (y := (⟨"com/example/schemactl/schemactl/MigrationState", "reportWord", "()Ljava/lang/String;"⟩ : MethodName)) (z := (⟨"com/example/schemactl/schemactl/MigrationState", "reportWord", "()Ljava/lang/String;"⟩ : MethodName)) hown (mvT hZ (hw _ (List.mem_of_getElem? (i := 15) rfl))) (mvT hZ (hw _ (List.mem_of_getElem? (i := 16) rfl))) (notFace_of_selects (args := #[]) (mvT hZ (hw _ (List.mem_of_getElem? (i := 18) rfl)))) (mvT hZ (hw _ (List.mem_of_getElem? (i := 18) rfl))) (mvT hZ (hw _ (List.mem_of_getElem? (i := 17) rfl))) (by decide) (backOf (W := 1) (rmr0 l Z a0 hw [] v_NEWER h0 n0 O0 (F15_.ext O0.2)) hZ (hw _ (List.mem_of_getElem? (i := 19) rfl)) (hw _ (List.mem_of_getElem? (i := 6) rfl)) (by decide) (by decide)) q31a q31c (g := (mkF m 62 #[.val (.int p0), .val (.int (5 : Int32)), .val (.ref v_NEWER), .val (.int (0 : Int32)), .val (.int (0 : Int32))] [(.ref v_NEWER), (.int (0 : Int32))])) rfl (by rw [hml]; rfl) (Steps.refl _) (argsL := []) (rest := [(.int (0 : Int32))]) (lenOf pd_rm0_2 rfl) rfl (by show 2 * 0 + _ ≤ _; exact Nat.le_of_eq rfl) (hb hby at_62) (fun _ _ => ⟨rfl, e30, (by decide : 0 + 0 ≤ _), (by decide : 0 + 0 ≤ _)⟩)
    dsimp only [Pt.U, Pt.locs, Pt.cells, Pt.slots] at X31 l31 y31 z31 st31 hQ31
    subst l31 y31 z31
    obtain ⟨rfl, Nq31, e31⟩ := hQ31
    have N31 := Fr.app N30 Nq31
    have s32 : Steps p.tables e below (s₁.setTop (entryFrame m #[(.int p0)] maxLocals)) (T31.setTop (mkF m 81 #[.val (.int p0), .val (.int (5 : Int32)), .val (.ref v_NEWER), .val (.int (0 : Int32)), .val (.int (0 : Int32))] [(.int (1 : Int32))])) := by
      refine s28.trans ?_
      show Steps p.tables e below (s₁.setTop (mkF m 7 #[.val (.int p0), .unset, .unset, .unset, .unset] [(.int (5 : Int32))])) _
      refine XS.istoreN X0.here hx rfl (hb hby at_7) rfl (l' := #[.val (.int p0), .val (.int (5 : Int32)), .unset, .unset, .unset]) rfl ?_
      show Steps p.tables e below (s₁.setTop (mkF m 8 #[.val (.int p0), .val (.int (5 : Int32)), .unset, .unset, .unset] [])) _
      refine XS.iloadN X0.here hx rfl (hb hby at_8) rfl ?_
      show Steps p.tables e below (s₁.setTop (mkF m 9 #[.val (.int p0), .val (.int (5 : Int32)), .unset, .unset, .unset] [(.int (5 : Int32))])) _
      refine st29 _ ?_
      show Steps p.tables e below (T29.setTop (mkF m 12 #[.val (.int p0), .val (.int (5 : Int32)), .unset, .unset, .unset] [(.ref v_NEWER)])) _
      refine XS.astoreN X29.here hx rfl (hb hby at_12) rfl rfl (l' := #[.val (.int p0), .val (.int (5 : Int32)), .val (.ref v_NEWER), .unset, .unset]) rfl ?_
      show Steps p.tables e below (T29.setTop (mkF m 13 #[.val (.int p0), .val (.int (5 : Int32)), .val (.ref v_NEWER), .unset, .unset] [])) _
      refine XS.iloadN X29.here hx rfl (hb hby at_13) rfl ?_
      show Steps p.tables e below (T29.setTop (mkF m 14 #[.val (.int p0), .val (.int (5 : Int32)), .val (.ref v_NEWER), .unset, .unset] [(.int (5 : Int32))])) _
      refine XS.iconst X29.here hx rfl (hb hby at_14) ?_
      show Steps p.tables e below (T29.setTop (mkF m 15 #[.val (.int p0), .val (.int (5 : Int32)), .val (.ref v_NEWER), .unset, .unset] [(.int (3 : Int32)), (.int (5 : Int32))])) _
      refine XS.icmpNo X29.here hx rfl (hb hby at_15) rfl (feq (by decide)).1 ?_
      show Steps p.tables e below (T29.setTop (mkF m 18 #[.val (.int p0), .val (.int (5 : Int32)), .val (.ref v_NEWER), .unset, .unset] [])) _
      refine XS.iloadN X29.here hx rfl (hb hby at_18) rfl ?_
      show Steps p.tables e below (T29.setTop (mkF m 19 #[.val (.int p0), .val (.int (5 : Int32)), .val (.ref v_NEWER), .unset, .unset] [(.int (5 : Int32))])) _
      refine XS.iconst X29.here hx rfl (hb hby at_19) ?_
      show Steps p.tables e below (T29.setTop (mkF m 20 #[.val (.int p0), .val (.int (5 : Int32)), .val (.ref v_NEWER), .unset, .unset] [(.int (4 : Int32)), (.int (5 : Int32))])) _
      refine XS.icmpNo X29.here hx rfl (hb hby at_20) rfl (feq (by decide)).1 ?_
      show Steps p.tables e below (T29.setTop (mkF m 23 #[.val (.int p0), .val (.int (5 : Int32)), .val (.ref v_NEWER), .unset, .unset] [])) _
      refine XS.iloadN X29.here hx rfl (hb hby at_23) rfl ?_
      show Steps p.tables e below (T29.setTop (mkF m 24 #[.val (.int p0), .val (.int (5 : Int32)), .val (.ref v_NEWER), .unset, .unset] [(.int (5 : Int32))])) _
      refine XS.bipush X29.here hx rfl (hb hby at_24) ?_
      show Steps p.tables e below (T29.setTop (mkF m 26 #[.val (.int p0), .val (.int (5 : Int32)), .val (.ref v_NEWER), .unset, .unset] [(.int (6 : Int32)), (.int (5 : Int32))])) _
      refine XS.icmpNo X29.here hx rfl (hb hby at_26) rfl (feq (by decide)).1 ?_
      show Steps p.tables e below (T29.setTop (mkF m 29 #[.val (.int p0), .val (.int (5 : Int32)), .val (.ref v_NEWER), .unset, .unset] [])) _
      refine XS.iloadN X29.here hx rfl (hb hby at_29) rfl ?_
      show Steps p.tables e below (T29.setTop (mkF m 30 #[.val (.int p0), .val (.int (5 : Int32)), .val (.ref v_NEWER), .unset, .unset] [(.int (5 : Int32))])) _
      refine XS.bipush X29.here hx rfl (hb hby at_30) ?_
      show Steps p.tables e below (T29.setTop (mkF m 32 #[.val (.int p0), .val (.int (5 : Int32)), .val (.ref v_NEWER), .unset, .unset] [(.int (7 : Int32)), (.int (5 : Int32))])) _
      refine XS.icmpNo X29.here hx rfl (hb hby at_32) rfl (feq (by decide)).1 ?_
      show Steps p.tables e below (T29.setTop (mkF m 35 #[.val (.int p0), .val (.int (5 : Int32)), .val (.ref v_NEWER), .unset, .unset] [])) _
      refine XS.iloadN X29.here hx rfl (hb hby at_35) rfl ?_
      show Steps p.tables e below (T29.setTop (mkF m 36 #[.val (.int p0), .val (.int (5 : Int32)), .val (.ref v_NEWER), .unset, .unset] [(.int (5 : Int32))])) _
      refine XS.bipush X29.here hx rfl (hb hby at_36) ?_
      show Steps p.tables e below (T29.setTop (mkF m 38 #[.val (.int p0), .val (.int (5 : Int32)), .val (.ref v_NEWER), .unset, .unset] [(.int (9 : Int32)), (.int (5 : Int32))])) _
      refine XS.icmpYes X29.here hx rfl (pc0 := 38) (pc' := 45) rfl (hb hby at_38) rfl (feq (by decide)).2 (by decide) (by decide) ?_
      show Steps p.tables e below (T29.setTop (mkF m 45 #[.val (.int p0), .val (.int (5 : Int32)), .val (.ref v_NEWER), .unset, .unset] [])) _
      refine XS.iconst X29.here hx rfl (hb hby at_45) ?_
      show Steps p.tables e below (T29.setTop (mkF m 46 #[.val (.int p0), .val (.int (5 : Int32)), .val (.ref v_NEWER), .unset, .unset] [(.int (0 : Int32))])) _
      refine XS.istoreN X29.here hx rfl (hb hby at_46) rfl (l' := #[.val (.int p0), .val (.int (5 : Int32)), .val (.ref v_NEWER), .val (.int (0 : Int32)), .unset]) rfl ?_
      show Steps p.tables e below (T29.setTop (mkF m 47 #[.val (.int p0), .val (.int (5 : Int32)), .val (.ref v_NEWER), .val (.int (0 : Int32)), .unset] [])) _
      refine XS.aloadN X29.here hx rfl (hb hby at_47) rfl rfl ?_
      show Steps p.tables e below (T29.setTop (mkF m 48 #[.val (.int p0), .val (.int (5 : Int32)), .val (.ref v_NEWER), .val (.int (0 : Int32)), .unset] [(.ref v_NEWER)])) _
      refine st30.trans ?_
      show Steps p.tables e below (T30.setTop (mkF m 51 #[.val (.int p0), .val (.int (5 : Int32)), .val (.ref v_NEWER), .val (.int (0 : Int32)), .unset] [(.int (0 : Int32))])) _
      refine XS.istore X30.here hx rfl (hb hby at_51) rfl (l' := #[.val (.int p0), .val (.int (5 : Int32)), .val (.ref v_NEWER), .val (.int (0 : Int32)), .val (.int (0 : Int32))]) rfl ?_
      show Steps p.tables e below (T30.setTop (mkF m 53 #[.val (.int p0), .val (.int (5 : Int32)), .val (.ref v_NEWER), .val (.int (0 : Int32)), .val (.int (0 : Int32))] [])) _
      refine XS.iload X30.here hx rfl (hb hby at_53) rfl ?_
      show Steps p.tables e below (T30.setTop (mkF m 55 #[.val (.int p0), .val (.int (5 : Int32)), .val (.ref v_NEWER), .val (.int (0 : Int32)), .val (.int (0 : Int32))] [(.int (0 : Int32))])) _
      refine XS.iloadN X30.here hx rfl (hb hby at_55) rfl ?_
      show Steps p.tables e below (T30.setTop (mkF m 56 #[.val (.int p0), .val (.int (5 : Int32)), .val (.ref v_NEWER), .val (.int (0 : Int32)), .val (.int (0 : Int32))] [(.int (0 : Int32)), (.int (0 : Int32))])) _
      refine XS.icmpNo X30.here hx rfl (hb hby at_56) rfl (teq (by decide)).2 ?_
      show Steps p.tables e below (T30.setTop (mkF m 59 #[.val (.int p0), .val (.int (5 : Int32)), .val (.ref v_NEWER), .val (.int (0 : Int32)), .val (.int (0 : Int32))] [])) _
      refine XS.iload X30.here hx rfl (hb hby at_59) rfl ?_
      show Steps p.tables e below (T30.setTop (mkF m 61 #[.val (.int p0), .val (.int (5 : Int32)), .val (.ref v_NEWER), .val (.int (0 : Int32)), .val (.int (0 : Int32))] [(.int (0 : Int32))])) _
      refine XS.aloadN X30.here hx rfl (hb hby at_61) rfl rfl ?_
      show Steps p.tables e below (T30.setTop (mkF m 62 #[.val (.int p0), .val (.int (5 : Int32)), .val (.ref v_NEWER), .val (.int (0 : Int32)), .val (.int (0 : Int32))] [(.ref v_NEWER), (.int (0 : Int32))])) _
      refine st31.trans ?_
      show Steps p.tables e below (T31.setTop (mkF m 65 #[.val (.int p0), .val (.int (5 : Int32)), .val (.ref v_NEWER), .val (.int (0 : Int32)), .val (.int (0 : Int32))] [.null, (.int (0 : Int32))])) _
      refine XS.ifnullYes X31.here hx rfl (pc0 := 65) (pc' := 72) rfl (hb hby at_65) rfl (by decide) (by decide) ?_
      show Steps p.tables e below (T31.setTop (mkF m 72 #[.val (.int p0), .val (.int (5 : Int32)), .val (.ref v_NEWER), .val (.int (0 : Int32)), .val (.int (0 : Int32))] [(.int (0 : Int32))])) _
      refine XS.iconst X31.here hx rfl (hb hby at_72) ?_
      show Steps p.tables e below (T31.setTop (mkF m 73 #[.val (.int p0), .val (.int (5 : Int32)), .val (.ref v_NEWER), .val (.int (0 : Int32)), .val (.int (0 : Int32))] [(.int (0 : Int32)), (.int (0 : Int32))])) _
      refine XS.icmpNo X31.here hx rfl (hb hby at_73) rfl (teq (by decide)).2 ?_
      show Steps p.tables e below (T31.setTop (mkF m 76 #[.val (.int p0), .val (.int (5 : Int32)), .val (.ref v_NEWER), .val (.int (0 : Int32)), .val (.int (0 : Int32))] [])) _
      refine XS.iconst X31.here hx rfl (hb hby at_76) ?_
      show Steps p.tables e below (T31.setTop (mkF m 77 #[.val (.int p0), .val (.int (5 : Int32)), .val (.ref v_NEWER), .val (.int (0 : Int32)), .val (.int (0 : Int32))] [(.int (1 : Int32))])) _
      refine XS.goto X31.here hx rfl (pc0 := 77) (pc' := 81) rfl (hb hby at_77) (by decide) (by decide) ?_
      exact Steps.refl _
    obtain ⟨fs, hr, hrun, hended, hW, hsame⟩ := X31.leave (v := some (.int (1 : Int32))) (fun h => by rw [Bd.returns] at h; cases h)
    refine ⟨_, _, s32.trans ?_, hrun, hended, _, _, rfl, ?_, ⟨_, rfl⟩, hW, hsame.mono (by decide) (by decide)⟩
    · show Steps p.tables e below (T31.setTop (mkF m 81 #[.val (.int p0), .val (.int (5 : Int32)), .val (.ref v_NEWER), .val (.int (0 : Int32)), .val (.int (0 : Int32))] [(.int (1 : Int32))])) _
      exact retN X31 hx (t := .boolean) Bd.returns (by simp) (hb hby at_81) hr
    · show Q0 Z p0 v_APPLIED v_CHANGED x_v_CHANGED_reason x_v_CHANGED_reportWord v_OUT_OF_ORDER x_v_OUT_OF_ORDER_reason x_v_OUT_OF_ORDER_reportWord v_NEWER v_FAILED x_v_FAILED_reason x_v_FAILED_reportWord v_INTERRUPTED x_v_INTERRUPTED_reason v_OUTDATED v_BASELINE v_PENDING v_INCOMPLETE v_APPLYING v_BELOW_BASELINE v_MISSING x_v_MISSING_reason x_v_MISSING_reportWord h0 n0 _ T31.heap _
      rw [e31]
      exact ⟨rfl, N31⟩
  · have s33 := s1
    rw [hk2] at s33
    obtain ⟨_, _, ⟨T34, L34, k34, n34⟩, -, X34, ⟨Lc34, hQ34, l34, y34, z34⟩, st34⟩ := Jvm.LawKit.callS X0 hx (y := (⟨"com/example/schemactl/schemactl/MigrationStateIsProblemPinLaw", "pick", "(I)Lcom/example/schemactl/schemactl/MigrationState;"⟩ : MethodName)) hown (mvT hZ (hw _ (List.mem_of_getElem? (i := 1) rfl))) (mvT hZ (hw _ (List.mem_of_getElem? (i := 2) rfl))) (mvT hZ (hw _ (List.mem_of_getElem? (i := 3) rfl))) (mvT hZ (hw _ (List.mem_of_getElem? (i := 4) rfl))) (by decide) (backOf (W := 0) (rmp6 l Z a0 hw [] v_OUT_OF_ORDER h0 n0 O0 F8_) hZ (hw _ (List.mem_of_getElem? (i := 4) rfl)) (hw _ (List.mem_of_getElem? (i := 3) rfl)) (by decide) (by decide)) (g := (mkF m 9 #[.val (.int p0), .val (.int (6 : Int32)), .unset, .unset, .unset] [(.int (6 : Int32))])) rfl (by rw [hml]; rfl) (argsL := [(.int (6 : Int32))]) (rest := []) (lenOf pd_rm0_0 rfl) rfl (by show 2 * 0 + _ ≤ _; exact Nat.le_of_eq rfl) (hb hby at_9) (fun _ _ => ⟨rfl, e0, (by decide : 0 + 0 ≤ _), (by decide : 0 + 0 ≤ _)⟩)
    dsimp only [Pt.U, Pt.locs, Pt.cells, Pt.slots] at X34 l34 y34 z34 st34 hQ34
    subst l34 y34 z34
    obtain ⟨rfl, Nq34, e34⟩ := hQ34
    have N34 := Fr.app N0 Nq34
    obtain ⟨cq35, kq35, q35a, q35b, q35c⟩ := isOf hZ e34 (F9_.ext O0.2)
    obtain ⟨_, _, ⟨T35, L35, k35, n35⟩, -, X35, ⟨Lc35, hQ35, l35, y35, z35⟩, st35⟩ := X34.virtualBack hx (y := (⟨"com/example/schemactl/schemactl/MigrationState", "isProblem", "()Z"⟩ : MethodName)) (z := (⟨"com/example/schemactl/schemactl/MigrationState", "isProblem", "()Z"⟩ : MethodName)) hown (mvT hZ (hw _ (List.mem_of_getElem? (i := 8) rfl))) (mvT hZ (hw _ (List.mem_of_getElem? (i := 9) rfl))) (notFace_of_selects (args := #[]) (mvT hZ (hw _ (List.mem_of_getElem? (i := 11) rfl)))) (mvT hZ (hw _ (List.mem_of_getElem? (i := 11) rfl))) (mvT hZ (hw _ (List.mem_of_getElem? (i := 10) rfl))) (by decide) (backOf (W := 0) (rmi1 l Z a0 hw [] v_OUT_OF_ORDER x_v_OUT_OF_ORDER_reason h0 n0 O0 (F10_.ext O0.2)) hZ (hw _ (List.mem_of_getElem? (i := 12) rfl)) (hw _ (List.mem_of_getElem? (i := 6) rfl)) (by decide) (by decide)) q35a q35c (g := (mkF m 48 #[.val (.int p0), .val (.int (6 : Int32)), .val (.ref v_OUT_OF_ORDER), .val (.int (1 : Int32)), .unset] [(.ref v_OUT_OF_ORDER)])) rfl (by rw [hml]; rfl) (Steps.refl _) (argsL := []) (rest := []) (lenOf pd_rm0_1 rfl) rfl (by show 2 * 0 + _ ≤ _; exact Nat.le_of_eq rfl) (hb hby at_48) (fun _ _ => ⟨rfl, e34, (by decide : 0 + 0 ≤ _), (by decide : 0 + 0 ≤ _)⟩)
    dsimp only [Pt.U, Pt.locs, Pt.cells, Pt.slots] at X35 l35 y35 z35 st35 hQ35
    subst l35 y35 z35
    obtain ⟨rfl, Nq35, e35⟩ := hQ35
    have N35 := Fr.app N34 Nq35
    obtain ⟨cq36, kq36, q36a, q36b, q36c⟩ := isOf hZ e35 (F9_.ext O0.2)
    obtain ⟨_, _, ⟨T36, L36, k36, n36⟩, -, X36, ⟨Lc36, hQ36, l36, y36, z36⟩, st36⟩ := X35.virtualBack hx (y := (⟨"com/example/schemactl/schemactl/MigrationState", "reportWord", "()Ljava/lang/String;"⟩ : MethodName)) (z := (⟨"com/example/schemactl/schemactl/MigrationState", "reportWord", "()Ljava/lang/String;"⟩ : MethodName)) hown (mvT hZ (hw _ (List.mem_of_getElem? (i := 15) rfl))) (mvT hZ (hw _ (List.mem_of_getElem? (i := 16) rfl))) (notFace_of_selects (args := #[]) (mvT hZ (hw _ (List.mem_of_getElem? (i := 18) rfl)))) (mvT hZ (hw _ (List.mem_of_getElem? (i := 18) rfl))) (mvT hZ (hw _ (List.mem_of_getElem? (i := 17) rfl))) (by decide) (backOf (W := 1) (rmr1 l Z a0 hw [] v_OUT_OF_ORDER x_v_OUT_OF_ORDER_reportWord h0 n0 O0 (F11_.ext O0.2)) hZ (hw _ (List.mem_of_getElem? (i := 19) rfl)) (hw _ (List.mem_of_getElem? (i := 6) rfl)) (by decide) (by decide)) q36a q36c (g := (mkF m 62 #[.val (.int p0), .val (.int (6 : Int32)), .val (.ref v_OUT_OF_ORDER), .val (.int (1 : Int32)), .val (.int (1 : Int32))] [(.ref v_OUT_OF_ORDER), (.int (1 : Int32))])) rfl (by rw [hml]; rfl) (Steps.refl _) (argsL := []) (rest := [(.int (1 : Int32))]) (lenOf pd_rm0_2 rfl) rfl (by show 2 * 0 + _ ≤ _; exact Nat.le_of_eq rfl) (hb hby at_62) (fun _ _ => ⟨rfl, e35, (by decide : 0 + 0 ≤ _), (by decide : 0 + 0 ≤ _)⟩)
    dsimp only [Pt.U, Pt.locs, Pt.cells, Pt.slots] at X36 l36 y36 z36 st36 hQ36
    subst l36 y36 z36
    obtain ⟨rfl, Nq36, e36⟩ := hQ36
    have N36 := Fr.app N35 Nq36
    have s37 : Steps p.tables e below (s₁.setTop (entryFrame m #[(.int p0)] maxLocals)) (T36.setTop (mkF m 81 #[.val (.int p0), .val (.int (6 : Int32)), .val (.ref v_OUT_OF_ORDER), .val (.int (1 : Int32)), .val (.int (1 : Int32))] [(.int (1 : Int32))])) := by
      refine s33.trans ?_
      show Steps p.tables e below (s₁.setTop (mkF m 7 #[.val (.int p0), .unset, .unset, .unset, .unset] [(.int (6 : Int32))])) _
      refine XS.istoreN X0.here hx rfl (hb hby at_7) rfl (l' := #[.val (.int p0), .val (.int (6 : Int32)), .unset, .unset, .unset]) rfl ?_
      show Steps p.tables e below (s₁.setTop (mkF m 8 #[.val (.int p0), .val (.int (6 : Int32)), .unset, .unset, .unset] [])) _
      refine XS.iloadN X0.here hx rfl (hb hby at_8) rfl ?_
      show Steps p.tables e below (s₁.setTop (mkF m 9 #[.val (.int p0), .val (.int (6 : Int32)), .unset, .unset, .unset] [(.int (6 : Int32))])) _
      refine st34 _ ?_
      show Steps p.tables e below (T34.setTop (mkF m 12 #[.val (.int p0), .val (.int (6 : Int32)), .unset, .unset, .unset] [(.ref v_OUT_OF_ORDER)])) _
      refine XS.astoreN X34.here hx rfl (hb hby at_12) rfl rfl (l' := #[.val (.int p0), .val (.int (6 : Int32)), .val (.ref v_OUT_OF_ORDER), .unset, .unset]) rfl ?_
      show Steps p.tables e below (T34.setTop (mkF m 13 #[.val (.int p0), .val (.int (6 : Int32)), .val (.ref v_OUT_OF_ORDER), .unset, .unset] [])) _
      refine XS.iloadN X34.here hx rfl (hb hby at_13) rfl ?_
      show Steps p.tables e below (T34.setTop (mkF m 14 #[.val (.int p0), .val (.int (6 : Int32)), .val (.ref v_OUT_OF_ORDER), .unset, .unset] [(.int (6 : Int32))])) _
      refine XS.iconst X34.here hx rfl (hb hby at_14) ?_
      show Steps p.tables e below (T34.setTop (mkF m 15 #[.val (.int p0), .val (.int (6 : Int32)), .val (.ref v_OUT_OF_ORDER), .unset, .unset] [(.int (3 : Int32)), (.int (6 : Int32))])) _
      refine XS.icmpNo X34.here hx rfl (hb hby at_15) rfl (feq (by decide)).1 ?_
      show Steps p.tables e below (T34.setTop (mkF m 18 #[.val (.int p0), .val (.int (6 : Int32)), .val (.ref v_OUT_OF_ORDER), .unset, .unset] [])) _
      refine XS.iloadN X34.here hx rfl (hb hby at_18) rfl ?_
      show Steps p.tables e below (T34.setTop (mkF m 19 #[.val (.int p0), .val (.int (6 : Int32)), .val (.ref v_OUT_OF_ORDER), .unset, .unset] [(.int (6 : Int32))])) _
      refine XS.iconst X34.here hx rfl (hb hby at_19) ?_
      show Steps p.tables e below (T34.setTop (mkF m 20 #[.val (.int p0), .val (.int (6 : Int32)), .val (.ref v_OUT_OF_ORDER), .unset, .unset] [(.int (4 : Int32)), (.int (6 : Int32))])) _
      refine XS.icmpNo X34.here hx rfl (hb hby at_20) rfl (feq (by decide)).1 ?_
      show Steps p.tables e below (T34.setTop (mkF m 23 #[.val (.int p0), .val (.int (6 : Int32)), .val (.ref v_OUT_OF_ORDER), .unset, .unset] [])) _
      refine XS.iloadN X34.here hx rfl (hb hby at_23) rfl ?_
      show Steps p.tables e below (T34.setTop (mkF m 24 #[.val (.int p0), .val (.int (6 : Int32)), .val (.ref v_OUT_OF_ORDER), .unset, .unset] [(.int (6 : Int32))])) _
      refine XS.bipush X34.here hx rfl (hb hby at_24) ?_
      show Steps p.tables e below (T34.setTop (mkF m 26 #[.val (.int p0), .val (.int (6 : Int32)), .val (.ref v_OUT_OF_ORDER), .unset, .unset] [(.int (6 : Int32)), (.int (6 : Int32))])) _
      refine XS.icmpYes X34.here hx rfl (pc0 := 26) (pc' := 41) rfl (hb hby at_26) rfl (teq (by decide)).1 (by decide) (by decide) ?_
      show Steps p.tables e below (T34.setTop (mkF m 41 #[.val (.int p0), .val (.int (6 : Int32)), .val (.ref v_OUT_OF_ORDER), .unset, .unset] [])) _
      refine XS.iconst X34.here hx rfl (hb hby at_41) ?_
      show Steps p.tables e below (T34.setTop (mkF m 42 #[.val (.int p0), .val (.int (6 : Int32)), .val (.ref v_OUT_OF_ORDER), .unset, .unset] [(.int (1 : Int32))])) _
      refine XS.goto X34.here hx rfl (pc0 := 42) (pc' := 46) rfl (hb hby at_42) (by decide) (by decide) ?_
      show Steps p.tables e below (T34.setTop (mkF m 46 #[.val (.int p0), .val (.int (6 : Int32)), .val (.ref v_OUT_OF_ORDER), .unset, .unset] [(.int (1 : Int32))])) _
      refine XS.istoreN X34.here hx rfl (hb hby at_46) rfl (l' := #[.val (.int p0), .val (.int (6 : Int32)), .val (.ref v_OUT_OF_ORDER), .val (.int (1 : Int32)), .unset]) rfl ?_
      show Steps p.tables e below (T34.setTop (mkF m 47 #[.val (.int p0), .val (.int (6 : Int32)), .val (.ref v_OUT_OF_ORDER), .val (.int (1 : Int32)), .unset] [])) _
      refine XS.aloadN X34.here hx rfl (hb hby at_47) rfl rfl ?_
      show Steps p.tables e below (T34.setTop (mkF m 48 #[.val (.int p0), .val (.int (6 : Int32)), .val (.ref v_OUT_OF_ORDER), .val (.int (1 : Int32)), .unset] [(.ref v_OUT_OF_ORDER)])) _
      refine st35.trans ?_
      show Steps p.tables e below (T35.setTop (mkF m 51 #[.val (.int p0), .val (.int (6 : Int32)), .val (.ref v_OUT_OF_ORDER), .val (.int (1 : Int32)), .unset] [(.int (1 : Int32))])) _
      refine XS.istore X35.here hx rfl (hb hby at_51) rfl (l' := #[.val (.int p0), .val (.int (6 : Int32)), .val (.ref v_OUT_OF_ORDER), .val (.int (1 : Int32)), .val (.int (1 : Int32))]) rfl ?_
      show Steps p.tables e below (T35.setTop (mkF m 53 #[.val (.int p0), .val (.int (6 : Int32)), .val (.ref v_OUT_OF_ORDER), .val (.int (1 : Int32)), .val (.int (1 : Int32))] [])) _
      refine XS.iload X35.here hx rfl (hb hby at_53) rfl ?_
      show Steps p.tables e below (T35.setTop (mkF m 55 #[.val (.int p0), .val (.int (6 : Int32)), .val (.ref v_OUT_OF_ORDER), .val (.int (1 : Int32)), .val (.int (1 : Int32))] [(.int (1 : Int32))])) _
      refine XS.iloadN X35.here hx rfl (hb hby at_55) rfl ?_
      show Steps p.tables e below (T35.setTop (mkF m 56 #[.val (.int p0), .val (.int (6 : Int32)), .val (.ref v_OUT_OF_ORDER), .val (.int (1 : Int32)), .val (.int (1 : Int32))] [(.int (1 : Int32)), (.int (1 : Int32))])) _
      refine XS.icmpNo X35.here hx rfl (hb hby at_56) rfl (teq (by decide)).2 ?_
      show Steps p.tables e below (T35.setTop (mkF m 59 #[.val (.int p0), .val (.int (6 : Int32)), .val (.ref v_OUT_OF_ORDER), .val (.int (1 : Int32)), .val (.int (1 : Int32))] [])) _
      refine XS.iload X35.here hx rfl (hb hby at_59) rfl ?_
      show Steps p.tables e below (T35.setTop (mkF m 61 #[.val (.int p0), .val (.int (6 : Int32)), .val (.ref v_OUT_OF_ORDER), .val (.int (1 : Int32)), .val (.int (1 : Int32))] [(.int (1 : Int32))])) _
      refine XS.aloadN X35.here hx rfl (hb hby at_61) rfl rfl ?_
      show Steps p.tables e below (T35.setTop (mkF m 62 #[.val (.int p0), .val (.int (6 : Int32)), .val (.ref v_OUT_OF_ORDER), .val (.int (1 : Int32)), .val (.int (1 : Int32))] [(.ref v_OUT_OF_ORDER), (.int (1 : Int32))])) _
      refine st36.trans ?_
      show Steps p.tables e below (T36.setTop (mkF m 65 #[.val (.int p0), .val (.int (6 : Int32)), .val (.ref v_OUT_OF_ORDER), .val (.int (1 : Int32)), .val (.int (1 : Int32))] [(.ref x_v_OUT_OF_ORDER_reportWord), (.int (1 : Int32))])) _
      refine XS.ifnullNo X36.here hx rfl (hb hby at_65) rfl ?_
      show Steps p.tables e below (T36.setTop (mkF m 68 #[.val (.int p0), .val (.int (6 : Int32)), .val (.ref v_OUT_OF_ORDER), .val (.int (1 : Int32)), .val (.int (1 : Int32))] [(.int (1 : Int32))])) _
      refine XS.iconst X36.here hx rfl (hb hby at_68) ?_
      show Steps p.tables e below (T36.setTop (mkF m 69 #[.val (.int p0), .val (.int (6 : Int32)), .val (.ref v_OUT_OF_ORDER), .val (.int (1 : Int32)), .val (.int (1 : Int32))] [(.int (1 : Int32)), (.int (1 : Int32))])) _
      refine XS.goto X36.here hx rfl (pc0 := 69) (pc' := 73) rfl (hb hby at_69) (by decide) (by decide) ?_
      show Steps p.tables e below (T36.setTop (mkF m 73 #[.val (.int p0), .val (.int (6 : Int32)), .val (.ref v_OUT_OF_ORDER), .val (.int (1 : Int32)), .val (.int (1 : Int32))] [(.int (1 : Int32)), (.int (1 : Int32))])) _
      refine XS.icmpNo X36.here hx rfl (hb hby at_73) rfl (teq (by decide)).2 ?_
      show Steps p.tables e below (T36.setTop (mkF m 76 #[.val (.int p0), .val (.int (6 : Int32)), .val (.ref v_OUT_OF_ORDER), .val (.int (1 : Int32)), .val (.int (1 : Int32))] [])) _
      refine XS.iconst X36.here hx rfl (hb hby at_76) ?_
      show Steps p.tables e below (T36.setTop (mkF m 77 #[.val (.int p0), .val (.int (6 : Int32)), .val (.ref v_OUT_OF_ORDER), .val (.int (1 : Int32)), .val (.int (1 : Int32))] [(.int (1 : Int32))])) _
      refine XS.goto X36.here hx rfl (pc0 := 77) (pc' := 81) rfl (hb hby at_77) (by decide) (by decide) ?_
      exact Steps.refl _
    obtain ⟨fs, hr, hrun, hended, hW, hsame⟩ := X36.leave (v := some (.int (1 : Int32))) (fun h => by rw [Bd.returns] at h; cases h)
    refine ⟨_, _, s37.trans ?_, hrun, hended, _, _, rfl, ?_, ⟨_, rfl⟩, hW, hsame.mono (by decide) (by decide)⟩
    · show Steps p.tables e below (T36.setTop (mkF m 81 #[.val (.int p0), .val (.int (6 : Int32)), .val (.ref v_OUT_OF_ORDER), .val (.int (1 : Int32)), .val (.int (1 : Int32))] [(.int (1 : Int32))])) _
      exact retN X36 hx (t := .boolean) Bd.returns (by simp) (hb hby at_81) hr
    · show Q0 Z p0 v_APPLIED v_CHANGED x_v_CHANGED_reason x_v_CHANGED_reportWord v_OUT_OF_ORDER x_v_OUT_OF_ORDER_reason x_v_OUT_OF_ORDER_reportWord v_NEWER v_FAILED x_v_FAILED_reason x_v_FAILED_reportWord v_INTERRUPTED x_v_INTERRUPTED_reason v_OUTDATED v_BASELINE v_PENDING v_INCOMPLETE v_APPLYING v_BELOW_BASELINE v_MISSING x_v_MISSING_reason x_v_MISSING_reportWord h0 n0 _ T36.heap _
      rw [e36]
      exact ⟨rfl, N36⟩
  · have s38 := s1
    rw [hk2] at s38
    obtain ⟨_, _, ⟨T39, L39, k39, n39⟩, -, X39, ⟨Lc39, hQ39, l39, y39, z39⟩, st39⟩ := Jvm.LawKit.callS X0 hx (y := (⟨"com/example/schemactl/schemactl/MigrationStateIsProblemPinLaw", "pick", "(I)Lcom/example/schemactl/schemactl/MigrationState;"⟩ : MethodName)) hown (mvT hZ (hw _ (List.mem_of_getElem? (i := 1) rfl))) (mvT hZ (hw _ (List.mem_of_getElem? (i := 2) rfl))) (mvT hZ (hw _ (List.mem_of_getElem? (i := 3) rfl))) (mvT hZ (hw _ (List.mem_of_getElem? (i := 4) rfl))) (by decide) (backOf (W := 0) (rmp7 l Z a0 hw [] v_FAILED h0 n0 O0 F16_) hZ (hw _ (List.mem_of_getElem? (i := 4) rfl)) (hw _ (List.mem_of_getElem? (i := 3) rfl)) (by decide) (by decide)) (g := (mkF m 9 #[.val (.int p0), .val (.int (7 : Int32)), .unset, .unset, .unset] [(.int (7 : Int32))])) rfl (by rw [hml]; rfl) (argsL := [(.int (7 : Int32))]) (rest := []) (lenOf pd_rm0_0 rfl) rfl (by show 2 * 0 + _ ≤ _; exact Nat.le_of_eq rfl) (hb hby at_9) (fun _ _ => ⟨rfl, e0, (by decide : 0 + 0 ≤ _), (by decide : 0 + 0 ≤ _)⟩)
    dsimp only [Pt.U, Pt.locs, Pt.cells, Pt.slots] at X39 l39 y39 z39 st39 hQ39
    subst l39 y39 z39
    obtain ⟨rfl, Nq39, e39⟩ := hQ39
    have N39 := Fr.app N0 Nq39
    obtain ⟨cq40, kq40, q40a, q40b, q40c⟩ := isOf hZ e39 (F17_.ext O0.2)
    obtain ⟨_, _, ⟨T40, L40, k40, n40⟩, -, X40, ⟨Lc40, hQ40, l40, y40, z40⟩, st40⟩ := X39.virtualBack hx (y := (⟨"com/example/schemactl/schemactl/MigrationState", "isProblem", "()Z"⟩ : MethodName)) (z := (⟨"com/example/schemactl/schemactl/MigrationState", "isProblem", "()Z"⟩ : MethodName)) hown (mvT hZ (hw _ (List.mem_of_getElem? (i := 8) rfl))) (mvT hZ (hw _ (List.mem_of_getElem? (i := 9) rfl))) (notFace_of_selects (args := #[]) (mvT hZ (hw _ (List.mem_of_getElem? (i := 11) rfl)))) (mvT hZ (hw _ (List.mem_of_getElem? (i := 11) rfl))) (mvT hZ (hw _ (List.mem_of_getElem? (i := 10) rfl))) (by decide) (backOf (W := 0) (rmi1 l Z a0 hw [] v_FAILED x_v_FAILED_reason h0 n0 O0 (F18_.ext O0.2)) hZ (hw _ (List.mem_of_getElem? (i := 12) rfl)) (hw _ (List.mem_of_getElem? (i := 6) rfl)) (by decide) (by decide)) q40a q40c (g := (mkF m 48 #[.val (.int p0), .val (.int (7 : Int32)), .val (.ref v_FAILED), .val (.int (1 : Int32)), .unset] [(.ref v_FAILED)])) rfl (by rw [hml]; rfl) (Steps.refl _) (argsL := []) (rest := []) (lenOf pd_rm0_1 rfl) rfl (by show 2 * 0 + _ ≤ _; exact Nat.le_of_eq rfl) (hb hby at_48) (fun _ _ => ⟨rfl, e39, (by decide : 0 + 0 ≤ _), (by decide : 0 + 0 ≤ _)⟩)
    dsimp only [Pt.U, Pt.locs, Pt.cells, Pt.slots] at X40 l40 y40 z40 st40 hQ40
    subst l40 y40 z40
    obtain ⟨rfl, Nq40, e40⟩ := hQ40
    have N40 := Fr.app N39 Nq40
    obtain ⟨cq41, kq41, q41a, q41b, q41c⟩ := isOf hZ e40 (F17_.ext O0.2)
    obtain ⟨_, _, ⟨T41, L41, k41, n41⟩, -, X41, ⟨Lc41, hQ41, l41, y41, z41⟩, st41⟩ := X40.virtualBack hx (y := (⟨"com/example/schemactl/schemactl/MigrationState", "reportWord", "()Ljava/lang/String;"⟩ : MethodName)) (z := (⟨"com/example/schemactl/schemactl/MigrationState", "reportWord", "()Ljava/lang/String;"⟩ : MethodName)) hown (mvT hZ (hw _ (List.mem_of_getElem? (i := 15) rfl))) (mvT hZ (hw _ (List.mem_of_getElem? (i := 16) rfl))) (notFace_of_selects (args := #[]) (mvT hZ (hw _ (List.mem_of_getElem? (i := 18) rfl)))) (mvT hZ (hw _ (List.mem_of_getElem? (i := 18) rfl))) (mvT hZ (hw _ (List.mem_of_getElem? (i := 17) rfl))) (by decide) (backOf (W := 1) (rmr1 l Z a0 hw [] v_FAILED x_v_FAILED_reportWord h0 n0 O0 (F19_.ext O0.2)) hZ (hw _ (List.mem_of_getElem? (i := 19) rfl)) (hw _ (List.mem_of_getElem? (i := 6) rfl)) (by decide) (by decide)) q41a q41c (g := (mkF m 62 #[.val (.int p0), .val (.int (7 : Int32)), .val (.ref v_FAILED), .val (.int (1 : Int32)), .val (.int (1 : Int32))] [(.ref v_FAILED), (.int (1 : Int32))])) rfl (by rw [hml]; rfl) (Steps.refl _) (argsL := []) (rest := [(.int (1 : Int32))]) (lenOf pd_rm0_2 rfl) rfl (by show 2 * 0 + _ ≤ _; exact Nat.le_of_eq rfl) (hb hby at_62) (fun _ _ => ⟨rfl, e40, (by decide : 0 + 0 ≤ _), (by decide : 0 + 0 ≤ _)⟩)
    dsimp only [Pt.U, Pt.locs, Pt.cells, Pt.slots] at X41 l41 y41 z41 st41 hQ41
    subst l41 y41 z41
    obtain ⟨rfl, Nq41, e41⟩ := hQ41
    have N41 := Fr.app N40 Nq41
    have s42 : Steps p.tables e below (s₁.setTop (entryFrame m #[(.int p0)] maxLocals)) (T41.setTop (mkF m 81 #[.val (.int p0), .val (.int (7 : Int32)), .val (.ref v_FAILED), .val (.int (1 : Int32)), .val (.int (1 : Int32))] [(.int (1 : Int32))])) := by
      refine s38.trans ?_
      show Steps p.tables e below (s₁.setTop (mkF m 7 #[.val (.int p0), .unset, .unset, .unset, .unset] [(.int (7 : Int32))])) _
      refine XS.istoreN X0.here hx rfl (hb hby at_7) rfl (l' := #[.val (.int p0), .val (.int (7 : Int32)), .unset, .unset, .unset]) rfl ?_
      show Steps p.tables e below (s₁.setTop (mkF m 8 #[.val (.int p0), .val (.int (7 : Int32)), .unset, .unset, .unset] [])) _
      refine XS.iloadN X0.here hx rfl (hb hby at_8) rfl ?_
      show Steps p.tables e below (s₁.setTop (mkF m 9 #[.val (.int p0), .val (.int (7 : Int32)), .unset, .unset, .unset] [(.int (7 : Int32))])) _
      refine st39 _ ?_
      show Steps p.tables e below (T39.setTop (mkF m 12 #[.val (.int p0), .val (.int (7 : Int32)), .unset, .unset, .unset] [(.ref v_FAILED)])) _
      refine XS.astoreN X39.here hx rfl (hb hby at_12) rfl rfl (l' := #[.val (.int p0), .val (.int (7 : Int32)), .val (.ref v_FAILED), .unset, .unset]) rfl ?_
      show Steps p.tables e below (T39.setTop (mkF m 13 #[.val (.int p0), .val (.int (7 : Int32)), .val (.ref v_FAILED), .unset, .unset] [])) _
      refine XS.iloadN X39.here hx rfl (hb hby at_13) rfl ?_
      show Steps p.tables e below (T39.setTop (mkF m 14 #[.val (.int p0), .val (.int (7 : Int32)), .val (.ref v_FAILED), .unset, .unset] [(.int (7 : Int32))])) _
      refine XS.iconst X39.here hx rfl (hb hby at_14) ?_
      show Steps p.tables e below (T39.setTop (mkF m 15 #[.val (.int p0), .val (.int (7 : Int32)), .val (.ref v_FAILED), .unset, .unset] [(.int (3 : Int32)), (.int (7 : Int32))])) _
      refine XS.icmpNo X39.here hx rfl (hb hby at_15) rfl (feq (by decide)).1 ?_
      show Steps p.tables e below (T39.setTop (mkF m 18 #[.val (.int p0), .val (.int (7 : Int32)), .val (.ref v_FAILED), .unset, .unset] [])) _
      refine XS.iloadN X39.here hx rfl (hb hby at_18) rfl ?_
      show Steps p.tables e below (T39.setTop (mkF m 19 #[.val (.int p0), .val (.int (7 : Int32)), .val (.ref v_FAILED), .unset, .unset] [(.int (7 : Int32))])) _
      refine XS.iconst X39.here hx rfl (hb hby at_19) ?_
      show Steps p.tables e below (T39.setTop (mkF m 20 #[.val (.int p0), .val (.int (7 : Int32)), .val (.ref v_FAILED), .unset, .unset] [(.int (4 : Int32)), (.int (7 : Int32))])) _
      refine XS.icmpNo X39.here hx rfl (hb hby at_20) rfl (feq (by decide)).1 ?_
      show Steps p.tables e below (T39.setTop (mkF m 23 #[.val (.int p0), .val (.int (7 : Int32)), .val (.ref v_FAILED), .unset, .unset] [])) _
      refine XS.iloadN X39.here hx rfl (hb hby at_23) rfl ?_
      show Steps p.tables e below (T39.setTop (mkF m 24 #[.val (.int p0), .val (.int (7 : Int32)), .val (.ref v_FAILED), .unset, .unset] [(.int (7 : Int32))])) _
      refine XS.bipush X39.here hx rfl (hb hby at_24) ?_
      show Steps p.tables e below (T39.setTop (mkF m 26 #[.val (.int p0), .val (.int (7 : Int32)), .val (.ref v_FAILED), .unset, .unset] [(.int (6 : Int32)), (.int (7 : Int32))])) _
      refine XS.icmpNo X39.here hx rfl (hb hby at_26) rfl (feq (by decide)).1 ?_
      show Steps p.tables e below (T39.setTop (mkF m 29 #[.val (.int p0), .val (.int (7 : Int32)), .val (.ref v_FAILED), .unset, .unset] [])) _
      refine XS.iloadN X39.here hx rfl (hb hby at_29) rfl ?_
      show Steps p.tables e below (T39.setTop (mkF m 30 #[.val (.int p0), .val (.int (7 : Int32)), .val (.ref v_FAILED), .unset, .unset] [(.int (7 : Int32))])) _
      refine XS.bipush X39.here hx rfl (hb hby at_30) ?_
      show Steps p.tables e below (T39.setTop (mkF m 32 #[.val (.int p0), .val (.int (7 : Int32)), .val (.ref v_FAILED), .unset, .unset] [(.int (7 : Int32)), (.int (7 : Int32))])) _
      refine XS.icmpYes X39.here hx rfl (pc0 := 32) (pc' := 41) rfl (hb hby at_32) rfl (teq (by decide)).1 (by decide) (by decide) ?_
      show Steps p.tables e below (T39.setTop (mkF m 41 #[.val (.int p0), .val (.int (7 : Int32)), .val (.ref v_FAILED), .unset, .unset] [])) _
      refine XS.iconst X39.here hx rfl (hb hby at_41) ?_
      show Steps p.tables e below (T39.setTop (mkF m 42 #[.val (.int p0), .val (.int (7 : Int32)), .val (.ref v_FAILED), .unset, .unset] [(.int (1 : Int32))])) _
      refine XS.goto X39.here hx rfl (pc0 := 42) (pc' := 46) rfl (hb hby at_42) (by decide) (by decide) ?_
      show Steps p.tables e below (T39.setTop (mkF m 46 #[.val (.int p0), .val (.int (7 : Int32)), .val (.ref v_FAILED), .unset, .unset] [(.int (1 : Int32))])) _
      refine XS.istoreN X39.here hx rfl (hb hby at_46) rfl (l' := #[.val (.int p0), .val (.int (7 : Int32)), .val (.ref v_FAILED), .val (.int (1 : Int32)), .unset]) rfl ?_
      show Steps p.tables e below (T39.setTop (mkF m 47 #[.val (.int p0), .val (.int (7 : Int32)), .val (.ref v_FAILED), .val (.int (1 : Int32)), .unset] [])) _
      refine XS.aloadN X39.here hx rfl (hb hby at_47) rfl rfl ?_
      show Steps p.tables e below (T39.setTop (mkF m 48 #[.val (.int p0), .val (.int (7 : Int32)), .val (.ref v_FAILED), .val (.int (1 : Int32)), .unset] [(.ref v_FAILED)])) _
      refine st40.trans ?_
      show Steps p.tables e below (T40.setTop (mkF m 51 #[.val (.int p0), .val (.int (7 : Int32)), .val (.ref v_FAILED), .val (.int (1 : Int32)), .unset] [(.int (1 : Int32))])) _
      refine XS.istore X40.here hx rfl (hb hby at_51) rfl (l' := #[.val (.int p0), .val (.int (7 : Int32)), .val (.ref v_FAILED), .val (.int (1 : Int32)), .val (.int (1 : Int32))]) rfl ?_
      show Steps p.tables e below (T40.setTop (mkF m 53 #[.val (.int p0), .val (.int (7 : Int32)), .val (.ref v_FAILED), .val (.int (1 : Int32)), .val (.int (1 : Int32))] [])) _
      refine XS.iload X40.here hx rfl (hb hby at_53) rfl ?_
      show Steps p.tables e below (T40.setTop (mkF m 55 #[.val (.int p0), .val (.int (7 : Int32)), .val (.ref v_FAILED), .val (.int (1 : Int32)), .val (.int (1 : Int32))] [(.int (1 : Int32))])) _
      refine XS.iloadN X40.here hx rfl (hb hby at_55) rfl ?_
      show Steps p.tables e below (T40.setTop (mkF m 56 #[.val (.int p0), .val (.int (7 : Int32)), .val (.ref v_FAILED), .val (.int (1 : Int32)), .val (.int (1 : Int32))] [(.int (1 : Int32)), (.int (1 : Int32))])) _
      refine XS.icmpNo X40.here hx rfl (hb hby at_56) rfl (teq (by decide)).2 ?_
      show Steps p.tables e below (T40.setTop (mkF m 59 #[.val (.int p0), .val (.int (7 : Int32)), .val (.ref v_FAILED), .val (.int (1 : Int32)), .val (.int (1 : Int32))] [])) _
      refine XS.iload X40.here hx rfl (hb hby at_59) rfl ?_
      show Steps p.tables e below (T40.setTop (mkF m 61 #[.val (.int p0), .val (.int (7 : Int32)), .val (.ref v_FAILED), .val (.int (1 : Int32)), .val (.int (1 : Int32))] [(.int (1 : Int32))])) _
      refine XS.aloadN X40.here hx rfl (hb hby at_61) rfl rfl ?_
      show Steps p.tables e below (T40.setTop (mkF m 62 #[.val (.int p0), .val (.int (7 : Int32)), .val (.ref v_FAILED), .val (.int (1 : Int32)), .val (.int (1 : Int32))] [(.ref v_FAILED), (.int (1 : Int32))])) _
      refine st41.trans ?_
      show Steps p.tables e below (T41.setTop (mkF m 65 #[.val (.int p0), .val (.int (7 : Int32)), .val (.ref v_FAILED), .val (.int (1 : Int32)), .val (.int (1 : Int32))] [(.ref x_v_FAILED_reportWord), (.int (1 : Int32))])) _
      refine XS.ifnullNo X41.here hx rfl (hb hby at_65) rfl ?_
      show Steps p.tables e below (T41.setTop (mkF m 68 #[.val (.int p0), .val (.int (7 : Int32)), .val (.ref v_FAILED), .val (.int (1 : Int32)), .val (.int (1 : Int32))] [(.int (1 : Int32))])) _
      refine XS.iconst X41.here hx rfl (hb hby at_68) ?_
      show Steps p.tables e below (T41.setTop (mkF m 69 #[.val (.int p0), .val (.int (7 : Int32)), .val (.ref v_FAILED), .val (.int (1 : Int32)), .val (.int (1 : Int32))] [(.int (1 : Int32)), (.int (1 : Int32))])) _
      refine XS.goto X41.here hx rfl (pc0 := 69) (pc' := 73) rfl (hb hby at_69) (by decide) (by decide) ?_
      show Steps p.tables e below (T41.setTop (mkF m 73 #[.val (.int p0), .val (.int (7 : Int32)), .val (.ref v_FAILED), .val (.int (1 : Int32)), .val (.int (1 : Int32))] [(.int (1 : Int32)), (.int (1 : Int32))])) _
      refine XS.icmpNo X41.here hx rfl (hb hby at_73) rfl (teq (by decide)).2 ?_
      show Steps p.tables e below (T41.setTop (mkF m 76 #[.val (.int p0), .val (.int (7 : Int32)), .val (.ref v_FAILED), .val (.int (1 : Int32)), .val (.int (1 : Int32))] [])) _
      refine XS.iconst X41.here hx rfl (hb hby at_76) ?_
      show Steps p.tables e below (T41.setTop (mkF m 77 #[.val (.int p0), .val (.int (7 : Int32)), .val (.ref v_FAILED), .val (.int (1 : Int32)), .val (.int (1 : Int32))] [(.int (1 : Int32))])) _
      refine XS.goto X41.here hx rfl (pc0 := 77) (pc' := 81) rfl (hb hby at_77) (by decide) (by decide) ?_
      exact Steps.refl _
    obtain ⟨fs, hr, hrun, hended, hW, hsame⟩ := X41.leave (v := some (.int (1 : Int32))) (fun h => by rw [Bd.returns] at h; cases h)
    refine ⟨_, _, s42.trans ?_, hrun, hended, _, _, rfl, ?_, ⟨_, rfl⟩, hW, hsame.mono (by decide) (by decide)⟩
    · show Steps p.tables e below (T41.setTop (mkF m 81 #[.val (.int p0), .val (.int (7 : Int32)), .val (.ref v_FAILED), .val (.int (1 : Int32)), .val (.int (1 : Int32))] [(.int (1 : Int32))])) _
      exact retN X41 hx (t := .boolean) Bd.returns (by simp) (hb hby at_81) hr
    · show Q0 Z p0 v_APPLIED v_CHANGED x_v_CHANGED_reason x_v_CHANGED_reportWord v_OUT_OF_ORDER x_v_OUT_OF_ORDER_reason x_v_OUT_OF_ORDER_reportWord v_NEWER v_FAILED x_v_FAILED_reason x_v_FAILED_reportWord v_INTERRUPTED x_v_INTERRUPTED_reason v_OUTDATED v_BASELINE v_PENDING v_INCOMPLETE v_APPLYING v_BELOW_BASELINE v_MISSING x_v_MISSING_reason x_v_MISSING_reportWord h0 n0 _ T41.heap _
      rw [e41]
      exact ⟨rfl, N41⟩
  · have s43 := s1
    rw [hk2] at s43
    obtain ⟨_, _, ⟨T44, L44, k44, n44⟩, -, X44, ⟨Lc44, hQ44, l44, y44, z44⟩, st44⟩ := Jvm.LawKit.callS X0 hx (y := (⟨"com/example/schemactl/schemactl/MigrationStateIsProblemPinLaw", "pick", "(I)Lcom/example/schemactl/schemactl/MigrationState;"⟩ : MethodName)) hown (mvT hZ (hw _ (List.mem_of_getElem? (i := 1) rfl))) (mvT hZ (hw _ (List.mem_of_getElem? (i := 2) rfl))) (mvT hZ (hw _ (List.mem_of_getElem? (i := 3) rfl))) (mvT hZ (hw _ (List.mem_of_getElem? (i := 4) rfl))) (by decide) (backOf (W := 0) (rmp8 l Z a0 hw [] v_INCOMPLETE h0 n0 O0 F36_) hZ (hw _ (List.mem_of_getElem? (i := 4) rfl)) (hw _ (List.mem_of_getElem? (i := 3) rfl)) (by decide) (by decide)) (g := (mkF m 9 #[.val (.int p0), .val (.int (8 : Int32)), .unset, .unset, .unset] [(.int (8 : Int32))])) rfl (by rw [hml]; rfl) (argsL := [(.int (8 : Int32))]) (rest := []) (lenOf pd_rm0_0 rfl) rfl (by show 2 * 0 + _ ≤ _; exact Nat.le_of_eq rfl) (hb hby at_9) (fun _ _ => ⟨rfl, e0, (by decide : 0 + 0 ≤ _), (by decide : 0 + 0 ≤ _)⟩)
    dsimp only [Pt.U, Pt.locs, Pt.cells, Pt.slots] at X44 l44 y44 z44 st44 hQ44
    subst l44 y44 z44
    obtain ⟨rfl, Nq44, e44⟩ := hQ44
    have N44 := Fr.app N0 Nq44
    obtain ⟨cq45, kq45, q45a, q45b, q45c⟩ := isOf hZ e44 (F37_.ext O0.2)
    obtain ⟨_, _, ⟨T45, L45, k45, n45⟩, -, X45, ⟨Lc45, hQ45, l45, y45, z45⟩, st45⟩ := X44.virtualBack hx (y := (⟨"com/example/schemactl/schemactl/MigrationState", "isProblem", "()Z"⟩ : MethodName)) (z := (⟨"com/example/schemactl/schemactl/MigrationState", "isProblem", "()Z"⟩ : MethodName)) hown (mvT hZ (hw _ (List.mem_of_getElem? (i := 8) rfl))) (mvT hZ (hw _ (List.mem_of_getElem? (i := 9) rfl))) (notFace_of_selects (args := #[]) (mvT hZ (hw _ (List.mem_of_getElem? (i := 11) rfl)))) (mvT hZ (hw _ (List.mem_of_getElem? (i := 11) rfl))) (mvT hZ (hw _ (List.mem_of_getElem? (i := 10) rfl))) (by decide) (backOf (W := 0) (rmi0 l Z a0 hw [] v_INCOMPLETE h0 n0 O0 (F38_.ext O0.2)) hZ (hw _ (List.mem_of_getElem? (i := 12) rfl)) (hw _ (List.mem_of_getElem? (i := 6) rfl)) (by decide) (by decide)) q45a q45c (g := (mkF m 48 #[.val (.int p0), .val (.int (8 : Int32)), .val (.ref v_INCOMPLETE), .val (.int (0 : Int32)), .unset] [(.ref v_INCOMPLETE)])) rfl (by rw [hml]; rfl) (Steps.refl _) (argsL := []) (rest := []) (lenOf pd_rm0_1 rfl) rfl (by show 2 * 0 + _ ≤ _; exact Nat.le_of_eq rfl) (hb hby at_48) (fun _ _ => ⟨rfl, e44, (by decide : 0 + 0 ≤ _), (by decide : 0 + 0 ≤ _)⟩)
    dsimp only [Pt.U, Pt.locs, Pt.cells, Pt.slots] at X45 l45 y45 z45 st45 hQ45
    subst l45 y45 z45
    obtain ⟨rfl, Nq45, e45⟩ := hQ45
    have N45 := Fr.app N44 Nq45
    obtain ⟨cq46, kq46, q46a, q46b, q46c⟩ := isOf hZ e45 (F37_.ext O0.2)
    obtain ⟨_, _, ⟨T46, L46, k46, n46⟩, -, X46, ⟨Lc46, hQ46, l46, y46, z46⟩, st46⟩ := X45.virtualBack hx (y := (⟨"com/example/schemactl/schemactl/MigrationState", "reportWord", "()Ljava/lang/String;"⟩ : MethodName)) (z := (⟨"com/example/schemactl/schemactl/MigrationState", "reportWord", "()Ljava/lang/String;"⟩ : MethodName)) hown (mvT hZ (hw _ (List.mem_of_getElem? (i := 15) rfl))) (mvT hZ (hw _ (List.mem_of_getElem? (i := 16) rfl))) (notFace_of_selects (args := #[]) (mvT hZ (hw _ (List.mem_of_getElem? (i := 18) rfl)))) (mvT hZ (hw _ (List.mem_of_getElem? (i := 18) rfl))) (mvT hZ (hw _ (List.mem_of_getElem? (i := 17) rfl))) (by decide) (backOf (W := 1) (rmr0 l Z a0 hw [] v_INCOMPLETE h0 n0 O0 (F39_.ext O0.2)) hZ (hw _ (List.mem_of_getElem? (i := 19) rfl)) (hw _ (List.mem_of_getElem? (i := 6) rfl)) (by decide) (by decide)) q46a q46c (g := (mkF m 62 #[.val (.int p0), .val (.int (8 : Int32)), .val (.ref v_INCOMPLETE), .val (.int (0 : Int32)), .val (.int (0 : Int32))] [(.ref v_INCOMPLETE), (.int (0 : Int32))])) rfl (by rw [hml]; rfl) (Steps.refl _) (argsL := []) (rest := [(.int (0 : Int32))]) (lenOf pd_rm0_2 rfl) rfl (by show 2 * 0 + _ ≤ _; exact Nat.le_of_eq rfl) (hb hby at_62) (fun _ _ => ⟨rfl, e45, (by decide : 0 + 0 ≤ _), (by decide : 0 + 0 ≤ _)⟩)
    dsimp only [Pt.U, Pt.locs, Pt.cells, Pt.slots] at X46 l46 y46 z46 st46 hQ46
    subst l46 y46 z46
    obtain ⟨rfl, Nq46, e46⟩ := hQ46
    have N46 := Fr.app N45 Nq46
    have s47 : Steps p.tables e below (s₁.setTop (entryFrame m #[(.int p0)] maxLocals)) (T46.setTop (mkF m 81 #[.val (.int p0), .val (.int (8 : Int32)), .val (.ref v_INCOMPLETE), .val (.int (0 : Int32)), .val (.int (0 : Int32))] [(.int (1 : Int32))])) := by
      refine s43.trans ?_
      show Steps p.tables e below (s₁.setTop (mkF m 7 #[.val (.int p0), .unset, .unset, .unset, .unset] [(.int (8 : Int32))])) _
      refine XS.istoreN X0.here hx rfl (hb hby at_7) rfl (l' := #[.val (.int p0), .val (.int (8 : Int32)), .unset, .unset, .unset]) rfl ?_
      show Steps p.tables e below (s₁.setTop (mkF m 8 #[.val (.int p0), .val (.int (8 : Int32)), .unset, .unset, .unset] [])) _
      refine XS.iloadN X0.here hx rfl (hb hby at_8) rfl ?_
      show Steps p.tables e below (s₁.setTop (mkF m 9 #[.val (.int p0), .val (.int (8 : Int32)), .unset, .unset, .unset] [(.int (8 : Int32))])) _
      refine st44 _ ?_
      show Steps p.tables e below (T44.setTop (mkF m 12 #[.val (.int p0), .val (.int (8 : Int32)), .unset, .unset, .unset] [(.ref v_INCOMPLETE)])) _
      refine XS.astoreN X44.here hx rfl (hb hby at_12) rfl rfl (l' := #[.val (.int p0), .val (.int (8 : Int32)), .val (.ref v_INCOMPLETE), .unset, .unset]) rfl ?_
      show Steps p.tables e below (T44.setTop (mkF m 13 #[.val (.int p0), .val (.int (8 : Int32)), .val (.ref v_INCOMPLETE), .unset, .unset] [])) _
      refine XS.iloadN X44.here hx rfl (hb hby at_13) rfl ?_
      show Steps p.tables e below (T44.setTop (mkF m 14 #[.val (.int p0), .val (.int (8 : Int32)), .val (.ref v_INCOMPLETE), .unset, .unset] [(.int (8 : Int32))])) _
      refine XS.iconst X44.here hx rfl (hb hby at_14) ?_
      show Steps p.tables e below (T44.setTop (mkF m 15 #[.val (.int p0), .val (.int (8 : Int32)), .val (.ref v_INCOMPLETE), .unset, .unset] [(.int (3 : Int32)), (.int (8 : Int32))])) _
      refine XS.icmpNo X44.here hx rfl (hb hby at_15) rfl (feq (by decide)).1 ?_
      show Steps p.tables e below (T44.setTop (mkF m 18 #[.val (.int p0), .val (.int (8 : Int32)), .val (.ref v_INCOMPLETE), .unset, .unset] [])) _
      refine XS.iloadN X44.here hx rfl (hb hby at_18) rfl ?_
      show Steps p.tables e below (T44.setTop (mkF m 19 #[.val (.int p0), .val (.int (8 : Int32)), .val (.ref v_INCOMPLETE), .unset, .unset] [(.int (8 : Int32))])) _
      refine XS.iconst X44.here hx rfl (hb hby at_19) ?_
      show Steps p.tables e below (T44.setTop (mkF m 20 #[.val (.int p0), .val (.int (8 : Int32)), .val (.ref v_INCOMPLETE), .unset, .unset] [(.int (4 : Int32)), (.int (8 : Int32))])) _
      refine XS.icmpNo X44.here hx rfl (hb hby at_20) rfl (feq (by decide)).1 ?_
      show Steps p.tables e below (T44.setTop (mkF m 23 #[.val (.int p0), .val (.int (8 : Int32)), .val (.ref v_INCOMPLETE), .unset, .unset] [])) _
      refine XS.iloadN X44.here hx rfl (hb hby at_23) rfl ?_
      show Steps p.tables e below (T44.setTop (mkF m 24 #[.val (.int p0), .val (.int (8 : Int32)), .val (.ref v_INCOMPLETE), .unset, .unset] [(.int (8 : Int32))])) _
      refine XS.bipush X44.here hx rfl (hb hby at_24) ?_
      show Steps p.tables e below (T44.setTop (mkF m 26 #[.val (.int p0), .val (.int (8 : Int32)), .val (.ref v_INCOMPLETE), .unset, .unset] [(.int (6 : Int32)), (.int (8 : Int32))])) _
      refine XS.icmpNo X44.here hx rfl (hb hby at_26) rfl (feq (by decide)).1 ?_
      show Steps p.tables e below (T44.setTop (mkF m 29 #[.val (.int p0), .val (.int (8 : Int32)), .val (.ref v_INCOMPLETE), .unset, .unset] [])) _
      refine XS.iloadN X44.here hx rfl (hb hby at_29) rfl ?_
      show Steps p.tables e below (T44.setTop (mkF m 30 #[.val (.int p0), .val (.int (8 : Int32)), .val (.ref v_INCOMPLETE), .unset, .unset] [(.int (8 : Int32))])) _
      refine XS.bipush X44.here hx rfl (hb hby at_30) ?_
      show Steps p.tables e below (T44.setTop (mkF m 32 #[.val (.int p0), .val (.int (8 : Int32)), .val (.ref v_INCOMPLETE), .unset, .unset] [(.int (7 : Int32)), (.int (8 : Int32))])) _
      refine XS.icmpNo X44.here hx rfl (hb hby at_32) rfl (feq (by decide)).1 ?_
      show Steps p.tables e below (T44.setTop (mkF m 35 #[.val (.int p0), .val (.int (8 : Int32)), .val (.ref v_INCOMPLETE), .unset, .unset] [])) _
      refine XS.iloadN X44.here hx rfl (hb hby at_35) rfl ?_
      show Steps p.tables e below (T44.setTop (mkF m 36 #[.val (.int p0), .val (.int (8 : Int32)), .val (.ref v_INCOMPLETE), .unset, .unset] [(.int (8 : Int32))])) _
      refine XS.bipush X44.here hx rfl (hb hby at_36) ?_
      show Steps p.tables e below (T44.setTop (mkF m 38 #[.val (.int p0), .val (.int (8 : Int32)), .val (.ref v_INCOMPLETE), .unset, .unset] [(.int (9 : Int32)), (.int (8 : Int32))])) _
      refine XS.icmpYes X44.here hx rfl (pc0 := 38) (pc' := 45) rfl (hb hby at_38) rfl (feq (by decide)).2 (by decide) (by decide) ?_
      show Steps p.tables e below (T44.setTop (mkF m 45 #[.val (.int p0), .val (.int (8 : Int32)), .val (.ref v_INCOMPLETE), .unset, .unset] [])) _
      refine XS.iconst X44.here hx rfl (hb hby at_45) ?_
      show Steps p.tables e below (T44.setTop (mkF m 46 #[.val (.int p0), .val (.int (8 : Int32)), .val (.ref v_INCOMPLETE), .unset, .unset] [(.int (0 : Int32))])) _
      refine XS.istoreN X44.here hx rfl (hb hby at_46) rfl (l' := #[.val (.int p0), .val (.int (8 : Int32)), .val (.ref v_INCOMPLETE), .val (.int (0 : Int32)), .unset]) rfl ?_
      show Steps p.tables e below (T44.setTop (mkF m 47 #[.val (.int p0), .val (.int (8 : Int32)), .val (.ref v_INCOMPLETE), .val (.int (0 : Int32)), .unset] [])) _
      refine XS.aloadN X44.here hx rfl (hb hby at_47) rfl rfl ?_
      show Steps p.tables e below (T44.setTop (mkF m 48 #[.val (.int p0), .val (.int (8 : Int32)), .val (.ref v_INCOMPLETE), .val (.int (0 : Int32)), .unset] [(.ref v_INCOMPLETE)])) _
      refine st45.trans ?_
      show Steps p.tables e below (T45.setTop (mkF m 51 #[.val (.int p0), .val (.int (8 : Int32)), .val (.ref v_INCOMPLETE), .val (.int (0 : Int32)), .unset] [(.int (0 : Int32))])) _
      refine XS.istore X45.here hx rfl (hb hby at_51) rfl (l' := #[.val (.int p0), .val (.int (8 : Int32)), .val (.ref v_INCOMPLETE), .val (.int (0 : Int32)), .val (.int (0 : Int32))]) rfl ?_
      show Steps p.tables e below (T45.setTop (mkF m 53 #[.val (.int p0), .val (.int (8 : Int32)), .val (.ref v_INCOMPLETE), .val (.int (0 : Int32)), .val (.int (0 : Int32))] [])) _
      refine XS.iload X45.here hx rfl (hb hby at_53) rfl ?_
      show Steps p.tables e below (T45.setTop (mkF m 55 #[.val (.int p0), .val (.int (8 : Int32)), .val (.ref v_INCOMPLETE), .val (.int (0 : Int32)), .val (.int (0 : Int32))] [(.int (0 : Int32))])) _
      refine XS.iloadN X45.here hx rfl (hb hby at_55) rfl ?_
      show Steps p.tables e below (T45.setTop (mkF m 56 #[.val (.int p0), .val (.int (8 : Int32)), .val (.ref v_INCOMPLETE), .val (.int (0 : Int32)), .val (.int (0 : Int32))] [(.int (0 : Int32)), (.int (0 : Int32))])) _
      refine XS.icmpNo X45.here hx rfl (hb hby at_56) rfl (teq (by decide)).2 ?_
      show Steps p.tables e below (T45.setTop (mkF m 59 #[.val (.int p0), .val (.int (8 : Int32)), .val (.ref v_INCOMPLETE), .val (.int (0 : Int32)), .val (.int (0 : Int32))] [])) _
      refine XS.iload X45.here hx rfl (hb hby at_59) rfl ?_
      show Steps p.tables e below (T45.setTop (mkF m 61 #[.val (.int p0), .val (.int (8 : Int32)), .val (.ref v_INCOMPLETE), .val (.int (0 : Int32)), .val (.int (0 : Int32))] [(.int (0 : Int32))])) _
      refine XS.aloadN X45.here hx rfl (hb hby at_61) rfl rfl ?_
      show Steps p.tables e below (T45.setTop (mkF m 62 #[.val (.int p0), .val (.int (8 : Int32)), .val (.ref v_INCOMPLETE), .val (.int (0 : Int32)), .val (.int (0 : Int32))] [(.ref v_INCOMPLETE), (.int (0 : Int32))])) _
      refine st46.trans ?_
      show Steps p.tables e below (T46.setTop (mkF m 65 #[.val (.int p0), .val (.int (8 : Int32)), .val (.ref v_INCOMPLETE), .val (.int (0 : Int32)), .val (.int (0 : Int32))] [.null, (.int (0 : Int32))])) _
      refine XS.ifnullYes X46.here hx rfl (pc0 := 65) (pc' := 72) rfl (hb hby at_65) rfl (by decide) (by decide) ?_
      show Steps p.tables e below (T46.setTop (mkF m 72 #[.val (.int p0), .val (.int (8 : Int32)), .val (.ref v_INCOMPLETE), .val (.int (0 : Int32)), .val (.int (0 : Int32))] [(.int (0 : Int32))])) _
      refine XS.iconst X46.here hx rfl (hb hby at_72) ?_
      show Steps p.tables e below (T46.setTop (mkF m 73 #[.val (.int p0), .val (.int (8 : Int32)), .val (.ref v_INCOMPLETE), .val (.int (0 : Int32)), .val (.int (0 : Int32))] [(.int (0 : Int32)), (.int (0 : Int32))])) _
      refine XS.icmpNo X46.here hx rfl (hb hby at_73) rfl (teq (by decide)).2 ?_
      show Steps p.tables e below (T46.setTop (mkF m 76 #[.val (.int p0), .val (.int (8 : Int32)), .val (.ref v_INCOMPLETE), .val (.int (0 : Int32)), .val (.int (0 : Int32))] [])) _
      refine XS.iconst X46.here hx rfl (hb hby at_76) ?_
      show Steps p.tables e below (T46.setTop (mkF m 77 #[.val (.int p0), .val (.int (8 : Int32)), .val (.ref v_INCOMPLETE), .val (.int (0 : Int32)), .val (.int (0 : Int32))] [(.int (1 : Int32))])) _
      refine XS.goto X46.here hx rfl (pc0 := 77) (pc' := 81) rfl (hb hby at_77) (by decide) (by decide) ?_
      exact Steps.refl _
    obtain ⟨fs, hr, hrun, hended, hW, hsame⟩ := X46.leave (v := some (.int (1 : Int32))) (fun h => by rw [Bd.returns] at h; cases h)
    refine ⟨_, _, s47.trans ?_, hrun, hended, _, _, rfl, ?_, ⟨_, rfl⟩, hW, hsame.mono (by decide) (by decide)⟩
    · show Steps p.tables e below (T46.setTop (mkF m 81 #[.val (.int p0), .val (.int (8 : Int32)), .val (.ref v_INCOMPLETE), .val (.int (0 : Int32)), .val (.int (0 : Int32))] [(.int (1 : Int32))])) _
      exact retN X46 hx (t := .boolean) Bd.returns (by simp) (hb hby at_81) hr
    · show Q0 Z p0 v_APPLIED v_CHANGED x_v_CHANGED_reason x_v_CHANGED_reportWord v_OUT_OF_ORDER x_v_OUT_OF_ORDER_reason x_v_OUT_OF_ORDER_reportWord v_NEWER v_FAILED x_v_FAILED_reason x_v_FAILED_reportWord v_INTERRUPTED x_v_INTERRUPTED_reason v_OUTDATED v_BASELINE v_PENDING v_INCOMPLETE v_APPLYING v_BELOW_BASELINE v_MISSING x_v_MISSING_reason x_v_MISSING_reportWord h0 n0 _ T46.heap _
      rw [e46]
      exact ⟨rfl, N46⟩
  · have s48 := s1
    rw [hk2] at s48
    obtain ⟨_, _, ⟨T49, L49, k49, n49⟩, -, X49, ⟨Lc49, hQ49, l49, y49, z49⟩, st49⟩ := Jvm.LawKit.callS X0 hx (y := (⟨"com/example/schemactl/schemactl/MigrationStateIsProblemPinLaw", "pick", "(I)Lcom/example/schemactl/schemactl/MigrationState;"⟩ : MethodName)) hown (mvT hZ (hw _ (List.mem_of_getElem? (i := 1) rfl))) (mvT hZ (hw _ (List.mem_of_getElem? (i := 2) rfl))) (mvT hZ (hw _ (List.mem_of_getElem? (i := 3) rfl))) (mvT hZ (hw _ (List.mem_of_getElem? (i := 4) rfl))) (by decide) (backOf (W := 0) (rmp9 l Z a0 hw [] v_INTERRUPTED h0 n0 O0 F20_) hZ (hw _ (List.mem_of_getElem? (i := 4) rfl)) (hw _ (List.mem_of_getElem? (i := 3) rfl)) (by decide) (by decide)) (g := (mkF m 9 #[.val (.int p0), .val (.int (9 : Int32)), .unset, .unset, .unset] [(.int (9 : Int32))])) rfl (by rw [hml]; rfl) (argsL := [(.int (9 : Int32))]) (rest := []) (lenOf pd_rm0_0 rfl) rfl (by show 2 * 0 + _ ≤ _; exact Nat.le_of_eq rfl) (hb hby at_9) (fun _ _ => ⟨rfl, e0, (by decide : 0 + 0 ≤ _), (by decide : 0 + 0 ≤ _)⟩)
    dsimp only [Pt.U, Pt.locs, Pt.cells, Pt.slots] at X49 l49 y49 z49 st49 hQ49
    subst l49 y49 z49
    obtain ⟨rfl, Nq49, e49⟩ := hQ49
    have N49 := Fr.app N0 Nq49
    obtain ⟨cq50, kq50, q50a, q50b, q50c⟩ := isOf hZ e49 (F21_.ext O0.2)
    obtain ⟨_, _, ⟨T50, L50, k50, n50⟩, -, X50, ⟨Lc50, hQ50, l50, y50, z50⟩, st50⟩ := X49.virtualBack hx (y := (⟨"com/example/schemactl/schemactl/MigrationState", "isProblem", "()Z"⟩ : MethodName)) (z := (⟨"com/example/schemactl/schemactl/MigrationState", "isProblem", "()Z"⟩ : MethodName)) hown (mvT hZ (hw _ (List.mem_of_getElem? (i := 8) rfl))) (mvT hZ (hw _ (List.mem_of_getElem? (i := 9) rfl))) (notFace_of_selects (args := #[]) (mvT hZ (hw _ (List.mem_of_getElem? (i := 11) rfl)))) (mvT hZ (hw _ (List.mem_of_getElem? (i := 11) rfl))) (mvT hZ (hw _ (List.mem_of_getElem? (i := 10) rfl))) (by decide) (backOf (W := 0) (rmi1 l Z a0 hw [] v_INTERRUPTED x_v_INTERRUPTED_reason h0 n0 O0 (F22_.ext O0.2)) hZ (hw _ (List.mem_of_getElem? (i := 12) rfl)) (hw _ (List.mem_of_getElem? (i := 6) rfl)) (by decide) (by decide)) q50a q50c (g := (mkF m 48 #[.val (.int p0), .val (.int (9 : Int32)), .val (.ref v_INTERRUPTED), .val (.int (1 : Int32)), .unset] [(.ref v_INTERRUPTED)])) rfl (by rw [hml]; rfl) (Steps.refl _) (argsL := []) (rest := []) (lenOf pd_rm0_1 rfl) rfl (by show 2 * 0 + _ ≤ _; exact Nat.le_of_eq rfl) (hb hby at_48) (fun _ _ => ⟨rfl, e49, (by decide : 0 + 0 ≤ _), (by decide : 0 + 0 ≤ _)⟩)
    dsimp only [Pt.U, Pt.locs, Pt.cells, Pt.slots] at X50 l50 y50 z50 st50 hQ50
    subst l50 y50 z50
    obtain ⟨rfl, Nq50, e50⟩ := hQ50
    have N50 := Fr.app N49 Nq50
    obtain ⟨cq51, kq51, q51a, q51b, q51c⟩ := isOf hZ e50 (F21_.ext O0.2)
    obtain ⟨_, _, ⟨T51, L51, k51, n51⟩, -, X51, ⟨Lc51, hQ51, l51, y51, z51⟩, st51⟩ := X50.virtualBack hx (y := (⟨"com/example/schemactl/schemactl/MigrationState", "reportWord", "()Ljava/lang/String;"⟩ : MethodName)) (z := (⟨"com/example/schemactl/schemactl/MigrationState", "reportWord", "()Ljava/lang/String;"⟩ : MethodName)) hown (mvT hZ (hw _ (List.mem_of_getElem? (i := 15) rfl))) (mvT hZ (hw _ (List.mem_of_getElem? (i := 16) rfl))) (notFace_of_selects (args := #[]) (mvT hZ (hw _ (List.mem_of_getElem? (i := 18) rfl)))) (mvT hZ (hw _ (List.mem_of_getElem? (i := 18) rfl))) (mvT hZ (hw _ (List.mem_of_getElem? (i := 17) rfl))) (by decide) (backOf (W := 1) (rmr1 l Z a0 hw [] v_INTERRUPTED x_v_FAILED_reportWord h0 n0 O0 (F23_.ext O0.2)) hZ (hw _ (List.mem_of_getElem? (i := 19) rfl)) (hw _ (List.mem_of_getElem? (i := 6) rfl)) (by decide) (by decide)) q51a q51c (g := (mkF m 62 #[.val (.int p0), .val (.int (9 : Int32)), .val (.ref v_INTERRUPTED), .val (.int (1 : Int32)), .val (.int (1 : Int32))] [(.ref v_INTERRUPTED), (.int (1 : Int32))])) rfl (by rw [hml]; rfl) (Steps.refl _) (argsL := []) (rest := [(.int (1 : Int32))]) (lenOf pd_rm0_2 rfl) rfl (by show 2 * 0 + _ ≤ _; exact Nat.le_of_eq rfl) (hb hby at_62) (fun _ _ => ⟨rfl, e50, (by decide : 0 + 0 ≤ _), (by decide : 0 + 0 ≤ _)⟩)
    dsimp only [Pt.U, Pt.locs, Pt.cells, Pt.slots] at X51 l51 y51 z51 st51 hQ51
    subst l51 y51 z51
    obtain ⟨rfl, Nq51, e51⟩ := hQ51
    have N51 := Fr.app N50 Nq51
    have s52 : Steps p.tables e below (s₁.setTop (entryFrame m #[(.int p0)] maxLocals)) (T51.setTop (mkF m 81 #[.val (.int p0), .val (.int (9 : Int32)), .val (.ref v_INTERRUPTED), .val (.int (1 : Int32)), .val (.int (1 : Int32))] [(.int (1 : Int32))])) := by
      refine s48.trans ?_
      show Steps p.tables e below (s₁.setTop (mkF m 7 #[.val (.int p0), .unset, .unset, .unset, .unset] [(.int (9 : Int32))])) _
      refine XS.istoreN X0.here hx rfl (hb hby at_7) rfl (l' := #[.val (.int p0), .val (.int (9 : Int32)), .unset, .unset, .unset]) rfl ?_
      show Steps p.tables e below (s₁.setTop (mkF m 8 #[.val (.int p0), .val (.int (9 : Int32)), .unset, .unset, .unset] [])) _
      refine XS.iloadN X0.here hx rfl (hb hby at_8) rfl ?_
      show Steps p.tables e below (s₁.setTop (mkF m 9 #[.val (.int p0), .val (.int (9 : Int32)), .unset, .unset, .unset] [(.int (9 : Int32))])) _
      refine st49 _ ?_
      show Steps p.tables e below (T49.setTop (mkF m 12 #[.val (.int p0), .val (.int (9 : Int32)), .unset, .unset, .unset] [(.ref v_INTERRUPTED)])) _
      refine XS.astoreN X49.here hx rfl (hb hby at_12) rfl rfl (l' := #[.val (.int p0), .val (.int (9 : Int32)), .val (.ref v_INTERRUPTED), .unset, .unset]) rfl ?_
      show Steps p.tables e below (T49.setTop (mkF m 13 #[.val (.int p0), .val (.int (9 : Int32)), .val (.ref v_INTERRUPTED), .unset, .unset] [])) _
      refine XS.iloadN X49.here hx rfl (hb hby at_13) rfl ?_
      show Steps p.tables e below (T49.setTop (mkF m 14 #[.val (.int p0), .val (.int (9 : Int32)), .val (.ref v_INTERRUPTED), .unset, .unset] [(.int (9 : Int32))])) _
      refine XS.iconst X49.here hx rfl (hb hby at_14) ?_
      show Steps p.tables e below (T49.setTop (mkF m 15 #[.val (.int p0), .val (.int (9 : Int32)), .val (.ref v_INTERRUPTED), .unset, .unset] [(.int (3 : Int32)), (.int (9 : Int32))])) _
      refine XS.icmpNo X49.here hx rfl (hb hby at_15) rfl (feq (by decide)).1 ?_
      show Steps p.tables e below (T49.setTop (mkF m 18 #[.val (.int p0), .val (.int (9 : Int32)), .val (.ref v_INTERRUPTED), .unset, .unset] [])) _
      refine XS.iloadN X49.here hx rfl (hb hby at_18) rfl ?_
      show Steps p.tables e below (T49.setTop (mkF m 19 #[.val (.int p0), .val (.int (9 : Int32)), .val (.ref v_INTERRUPTED), .unset, .unset] [(.int (9 : Int32))])) _
      refine XS.iconst X49.here hx rfl (hb hby at_19) ?_
      show Steps p.tables e below (T49.setTop (mkF m 20 #[.val (.int p0), .val (.int (9 : Int32)), .val (.ref v_INTERRUPTED), .unset, .unset] [(.int (4 : Int32)), (.int (9 : Int32))])) _
      refine XS.icmpNo X49.here hx rfl (hb hby at_20) rfl (feq (by decide)).1 ?_
      show Steps p.tables e below (T49.setTop (mkF m 23 #[.val (.int p0), .val (.int (9 : Int32)), .val (.ref v_INTERRUPTED), .unset, .unset] [])) _
      refine XS.iloadN X49.here hx rfl (hb hby at_23) rfl ?_
      show Steps p.tables e below (T49.setTop (mkF m 24 #[.val (.int p0), .val (.int (9 : Int32)), .val (.ref v_INTERRUPTED), .unset, .unset] [(.int (9 : Int32))])) _
      refine XS.bipush X49.here hx rfl (hb hby at_24) ?_
      show Steps p.tables e below (T49.setTop (mkF m 26 #[.val (.int p0), .val (.int (9 : Int32)), .val (.ref v_INTERRUPTED), .unset, .unset] [(.int (6 : Int32)), (.int (9 : Int32))])) _
      refine XS.icmpNo X49.here hx rfl (hb hby at_26) rfl (feq (by decide)).1 ?_
      show Steps p.tables e below (T49.setTop (mkF m 29 #[.val (.int p0), .val (.int (9 : Int32)), .val (.ref v_INTERRUPTED), .unset, .unset] [])) _
      refine XS.iloadN X49.here hx rfl (hb hby at_29) rfl ?_
      show Steps p.tables e below (T49.setTop (mkF m 30 #[.val (.int p0), .val (.int (9 : Int32)), .val (.ref v_INTERRUPTED), .unset, .unset] [(.int (9 : Int32))])) _
      refine XS.bipush X49.here hx rfl (hb hby at_30) ?_
      show Steps p.tables e below (T49.setTop (mkF m 32 #[.val (.int p0), .val (.int (9 : Int32)), .val (.ref v_INTERRUPTED), .unset, .unset] [(.int (7 : Int32)), (.int (9 : Int32))])) _
      refine XS.icmpNo X49.here hx rfl (hb hby at_32) rfl (feq (by decide)).1 ?_
      show Steps p.tables e below (T49.setTop (mkF m 35 #[.val (.int p0), .val (.int (9 : Int32)), .val (.ref v_INTERRUPTED), .unset, .unset] [])) _
      refine XS.iloadN X49.here hx rfl (hb hby at_35) rfl ?_
      show Steps p.tables e below (T49.setTop (mkF m 36 #[.val (.int p0), .val (.int (9 : Int32)), .val (.ref v_INTERRUPTED), .unset, .unset] [(.int (9 : Int32))])) _
      refine XS.bipush X49.here hx rfl (hb hby at_36) ?_
      show Steps p.tables e below (T49.setTop (mkF m 38 #[.val (.int p0), .val (.int (9 : Int32)), .val (.ref v_INTERRUPTED), .unset, .unset] [(.int (9 : Int32)), (.int (9 : Int32))])) _
      refine XS.icmpNo X49.here hx rfl (hb hby at_38) rfl (teq (by decide)).2 ?_
      show Steps p.tables e below (T49.setTop (mkF m 41 #[.val (.int p0), .val (.int (9 : Int32)), .val (.ref v_INTERRUPTED), .unset, .unset] [])) _
      refine XS.iconst X49.here hx rfl (hb hby at_41) ?_
      show Steps p.tables e below (T49.setTop (mkF m 42 #[.val (.int p0), .val (.int (9 : Int32)), .val (.ref v_INTERRUPTED), .unset, .unset] [(.int (1 : Int32))])) _
      refine XS.goto X49.here hx rfl (pc0 := 42) (pc' := 46) rfl (hb hby at_42) (by decide) (by decide) ?_
      show Steps p.tables e below (T49.setTop (mkF m 46 #[.val (.int p0), .val (.int (9 : Int32)), .val (.ref v_INTERRUPTED), .unset, .unset] [(.int (1 : Int32))])) _
      refine XS.istoreN X49.here hx rfl (hb hby at_46) rfl (l' := #[.val (.int p0), .val (.int (9 : Int32)), .val (.ref v_INTERRUPTED), .val (.int (1 : Int32)), .unset]) rfl ?_
      show Steps p.tables e below (T49.setTop (mkF m 47 #[.val (.int p0), .val (.int (9 : Int32)), .val (.ref v_INTERRUPTED), .val (.int (1 : Int32)), .unset] [])) _
      refine XS.aloadN X49.here hx rfl (hb hby at_47) rfl rfl ?_
      show Steps p.tables e below (T49.setTop (mkF m 48 #[.val (.int p0), .val (.int (9 : Int32)), .val (.ref v_INTERRUPTED), .val (.int (1 : Int32)), .unset] [(.ref v_INTERRUPTED)])) _
      refine st50.trans ?_
      show Steps p.tables e below (T50.setTop (mkF m 51 #[.val (.int p0), .val (.int (9 : Int32)), .val (.ref v_INTERRUPTED), .val (.int (1 : Int32)), .unset] [(.int (1 : Int32))])) _
      refine XS.istore X50.here hx rfl (hb hby at_51) rfl (l' := #[.val (.int p0), .val (.int (9 : Int32)), .val (.ref v_INTERRUPTED), .val (.int (1 : Int32)), .val (.int (1 : Int32))]) rfl ?_
      show Steps p.tables e below (T50.setTop (mkF m 53 #[.val (.int p0), .val (.int (9 : Int32)), .val (.ref v_INTERRUPTED), .val (.int (1 : Int32)), .val (.int (1 : Int32))] [])) _
      refine XS.iload X50.here hx rfl (hb hby at_53) rfl ?_
      show Steps p.tables e below (T50.setTop (mkF m 55 #[.val (.int p0), .val (.int (9 : Int32)), .val (.ref v_INTERRUPTED), .val (.int (1 : Int32)), .val (.int (1 : Int32))] [(.int (1 : Int32))])) _
      refine XS.iloadN X50.here hx rfl (hb hby at_55) rfl ?_
      show Steps p.tables e below (T50.setTop (mkF m 56 #[.val (.int p0), .val (.int (9 : Int32)), .val (.ref v_INTERRUPTED), .val (.int (1 : Int32)), .val (.int (1 : Int32))] [(.int (1 : Int32)), (.int (1 : Int32))])) _
      refine XS.icmpNo X50.here hx rfl (hb hby at_56) rfl (teq (by decide)).2 ?_
      show Steps p.tables e below (T50.setTop (mkF m 59 #[.val (.int p0), .val (.int (9 : Int32)), .val (.ref v_INTERRUPTED), .val (.int (1 : Int32)), .val (.int (1 : Int32))] [])) _
      refine XS.iload X50.here hx rfl (hb hby at_59) rfl ?_
      show Steps p.tables e below (T50.setTop (mkF m 61 #[.val (.int p0), .val (.int (9 : Int32)), .val (.ref v_INTERRUPTED), .val (.int (1 : Int32)), .val (.int (1 : Int32))] [(.int (1 : Int32))])) _
      refine XS.aloadN X50.here hx rfl (hb hby at_61) rfl rfl ?_
      show Steps p.tables e below (T50.setTop (mkF m 62 #[.val (.int p0), .val (.int (9 : Int32)), .val (.ref v_INTERRUPTED), .val (.int (1 : Int32)), .val (.int (1 : Int32))] [(.ref v_INTERRUPTED), (.int (1 : Int32))])) _
      refine st51.trans ?_
      show Steps p.tables e below (T51.setTop (mkF m 65 #[.val (.int p0), .val (.int (9 : Int32)), .val (.ref v_INTERRUPTED), .val (.int (1 : Int32)), .val (.int (1 : Int32))] [(.ref x_v_FAILED_reportWord), (.int (1 : Int32))])) _
      refine XS.ifnullNo X51.here hx rfl (hb hby at_65) rfl ?_
      show Steps p.tables e below (T51.setTop (mkF m 68 #[.val (.int p0), .val (.int (9 : Int32)), .val (.ref v_INTERRUPTED), .val (.int (1 : Int32)), .val (.int (1 : Int32))] [(.int (1 : Int32))])) _
      refine XS.iconst X51.here hx rfl (hb hby at_68) ?_
      show Steps p.tables e below (T51.setTop (mkF m 69 #[.val (.int p0), .val (.int (9 : Int32)), .val (.ref v_INTERRUPTED), .val (.int (1 : Int32)), .val (.int (1 : Int32))] [(.int (1 : Int32)), (.int (1 : Int32))])) _
      refine XS.goto X51.here hx rfl (pc0 := 69) (pc' := 73) rfl (hb hby at_69) (by decide) (by decide) ?_
      show Steps p.tables e below (T51.setTop (mkF m 73 #[.val (.int p0), .val (.int (9 : Int32)), .val (.ref v_INTERRUPTED), .val (.int (1 : Int32)), .val (.int (1 : Int32))] [(.int (1 : Int32)), (.int (1 : Int32))])) _
      refine XS.icmpNo X51.here hx rfl (hb hby at_73) rfl (teq (by decide)).2 ?_
      show Steps p.tables e below (T51.setTop (mkF m 76 #[.val (.int p0), .val (.int (9 : Int32)), .val (.ref v_INTERRUPTED), .val (.int (1 : Int32)), .val (.int (1 : Int32))] [])) _
      refine XS.iconst X51.here hx rfl (hb hby at_76) ?_
      show Steps p.tables e below (T51.setTop (mkF m 77 #[.val (.int p0), .val (.int (9 : Int32)), .val (.ref v_INTERRUPTED), .val (.int (1 : Int32)), .val (.int (1 : Int32))] [(.int (1 : Int32))])) _
      refine XS.goto X51.here hx rfl (pc0 := 77) (pc' := 81) rfl (hb hby at_77) (by decide) (by decide) ?_
      exact Steps.refl _
    obtain ⟨fs, hr, hrun, hended, hW, hsame⟩ := X51.leave (v := some (.int (1 : Int32))) (fun h => by rw [Bd.returns] at h; cases h)
    refine ⟨_, _, s52.trans ?_, hrun, hended, _, _, rfl, ?_, ⟨_, rfl⟩, hW, hsame.mono (by decide) (by decide)⟩
    · show Steps p.tables e below (T51.setTop (mkF m 81 #[.val (.int p0), .val (.int (9 : Int32)), .val (.ref v_INTERRUPTED), .val (.int (1 : Int32)), .val (.int (1 : Int32))] [(.int (1 : Int32))])) _
      exact retN X51 hx (t := .boolean) Bd.returns (by simp) (hb hby at_81) hr
    · show Q0 Z p0 v_APPLIED v_CHANGED x_v_CHANGED_reason x_v_CHANGED_reportWord v_OUT_OF_ORDER x_v_OUT_OF_ORDER_reason x_v_OUT_OF_ORDER_reportWord v_NEWER v_FAILED x_v_FAILED_reason x_v_FAILED_reportWord v_INTERRUPTED x_v_INTERRUPTED_reason v_OUTDATED v_BASELINE v_PENDING v_INCOMPLETE v_APPLYING v_BELOW_BASELINE v_MISSING x_v_MISSING_reason x_v_MISSING_reportWord h0 n0 _ T51.heap _
      rw [e51]
      exact ⟨rfl, N51⟩
  · have s53 := s1
    rw [hk2] at s53
    obtain ⟨_, _, ⟨T54, L54, k54, n54⟩, -, X54, ⟨Lc54, hQ54, l54, y54, z54⟩, st54⟩ := Jvm.LawKit.callS X0 hx (y := (⟨"com/example/schemactl/schemactl/MigrationStateIsProblemPinLaw", "pick", "(I)Lcom/example/schemactl/schemactl/MigrationState;"⟩ : MethodName)) hown (mvT hZ (hw _ (List.mem_of_getElem? (i := 1) rfl))) (mvT hZ (hw _ (List.mem_of_getElem? (i := 2) rfl))) (mvT hZ (hw _ (List.mem_of_getElem? (i := 3) rfl))) (mvT hZ (hw _ (List.mem_of_getElem? (i := 4) rfl))) (by decide) (backOf (W := 0) (rmp10 l Z a0 hw [] v_APPLYING h0 n0 O0 F40_) hZ (hw _ (List.mem_of_getElem? (i := 4) rfl)) (hw _ (List.mem_of_getElem? (i := 3) rfl)) (by decide) (by decide)) (g := (mkF m 9 #[.val (.int p0), .val (.int (10 : Int32)), .unset, .unset, .unset] [(.int (10 : Int32))])) rfl (by rw [hml]; rfl) (argsL := [(.int (10 : Int32))]) (rest := []) (lenOf pd_rm0_0 rfl) rfl (by show 2 * 0 + _ ≤ _; exact Nat.le_of_eq rfl) (hb hby at_9) (fun _ _ => ⟨rfl, e0, (by decide : 0 + 0 ≤ _), (by decide : 0 + 0 ≤ _)⟩)
    dsimp only [Pt.U, Pt.locs, Pt.cells, Pt.slots] at X54 l54 y54 z54 st54 hQ54
    subst l54 y54 z54
    obtain ⟨rfl, Nq54, e54⟩ := hQ54
    have N54 := Fr.app N0 Nq54
    obtain ⟨cq55, kq55, q55a, q55b, q55c⟩ := isOf hZ e54 (F41_.ext O0.2)
    obtain ⟨_, _, ⟨T55, L55, k55, n55⟩, -, X55, ⟨Lc55, hQ55, l55, y55, z55⟩, st55⟩ := X54.virtualBack hx (y := (⟨"com/example/schemactl/schemactl/MigrationState", "isProblem", "()Z"⟩ : MethodName)) (z := (⟨"com/example/schemactl/schemactl/MigrationState", "isProblem", "()Z"⟩ : MethodName)) hown (mvT hZ (hw _ (List.mem_of_getElem? (i := 8) rfl))) (mvT hZ (hw _ (List.mem_of_getElem? (i := 9) rfl))) (notFace_of_selects (args := #[]) (mvT hZ (hw _ (List.mem_of_getElem? (i := 11) rfl)))) (mvT hZ (hw _ (List.mem_of_getElem? (i := 11) rfl))) (mvT hZ (hw _ (List.mem_of_getElem? (i := 10) rfl))) (by decide) (backOf (W := 0) (rmi0 l Z a0 hw [] v_APPLYING h0 n0 O0 (F42_.ext O0.2)) hZ (hw _ (List.mem_of_getElem? (i := 12) rfl)) (hw _ (List.mem_of_getElem? (i := 6) rfl)) (by decide) (by decide)) q55a q55c (g := (mkF m 48 #[.val (.int p0), .val (.int (10 : Int32)), .val (.ref v_APPLYING), .val (.int (0 : Int32)), .unset] [(.ref v_APPLYING)])) rfl (by rw [hml]; rfl) (Steps.refl _) (argsL := []) (rest := []) (lenOf pd_rm0_1 rfl) rfl (by show 2 * 0 + _ ≤ _; exact Nat.le_of_eq rfl) (hb hby at_48) (fun _ _ => ⟨rfl, e54, (by decide : 0 + 0 ≤ _), (by decide : 0 + 0 ≤ _)⟩)
    dsimp only [Pt.U, Pt.locs, Pt.cells, Pt.slots] at X55 l55 y55 z55 st55 hQ55
    subst l55 y55 z55
    obtain ⟨rfl, Nq55, e55⟩ := hQ55
    have N55 := Fr.app N54 Nq55
    obtain ⟨cq56, kq56, q56a, q56b, q56c⟩ := isOf hZ e55 (F41_.ext O0.2)
    obtain ⟨_, _, ⟨T56, L56, k56, n56⟩, -, X56, ⟨Lc56, hQ56, l56, y56, z56⟩, st56⟩ := X55.virtualBack hx (y := (⟨"com/example/schemactl/schemactl/MigrationState", "reportWord", "()Ljava/lang/String;"⟩ : MethodName)) (z := (⟨"com/example/schemactl/schemactl/MigrationState", "reportWord", "()Ljava/lang/String;"⟩ : MethodName)) hown (mvT hZ (hw _ (List.mem_of_getElem? (i := 15) rfl))) (mvT hZ (hw _ (List.mem_of_getElem? (i := 16) rfl))) (notFace_of_selects (args := #[]) (mvT hZ (hw _ (List.mem_of_getElem? (i := 18) rfl)))) (mvT hZ (hw _ (List.mem_of_getElem? (i := 18) rfl))) (mvT hZ (hw _ (List.mem_of_getElem? (i := 17) rfl))) (by decide) (backOf (W := 1) (rmr0 l Z a0 hw [] v_APPLYING h0 n0 O0 (F43_.ext O0.2)) hZ (hw _ (List.mem_of_getElem? (i := 19) rfl)) (hw _ (List.mem_of_getElem? (i := 6) rfl)) (by decide) (by decide)) q56a q56c (g := (mkF m 62 #[.val (.int p0), .val (.int (10 : Int32)), .val (.ref v_APPLYING), .val (.int (0 : Int32)), .val (.int (0 : Int32))] [(.ref v_APPLYING), (.int (0 : Int32))])) rfl (by rw [hml]; rfl) (Steps.refl _) (argsL := []) (rest := [(.int (0 : Int32))]) (lenOf pd_rm0_2 rfl) rfl (by show 2 * 0 + _ ≤ _; exact Nat.le_of_eq rfl) (hb hby at_62) (fun _ _ => ⟨rfl, e55, (by decide : 0 + 0 ≤ _), (by decide : 0 + 0 ≤ _)⟩)
    dsimp only [Pt.U, Pt.locs, Pt.cells, Pt.slots] at X56 l56 y56 z56 st56 hQ56
    subst l56 y56 z56
    obtain ⟨rfl, Nq56, e56⟩ := hQ56
    have N56 := Fr.app N55 Nq56
    have s57 : Steps p.tables e below (s₁.setTop (entryFrame m #[(.int p0)] maxLocals)) (T56.setTop (mkF m 81 #[.val (.int p0), .val (.int (10 : Int32)), .val (.ref v_APPLYING), .val (.int (0 : Int32)), .val (.int (0 : Int32))] [(.int (1 : Int32))])) := by
      refine s53.trans ?_
      show Steps p.tables e below (s₁.setTop (mkF m 7 #[.val (.int p0), .unset, .unset, .unset, .unset] [(.int (10 : Int32))])) _
      refine XS.istoreN X0.here hx rfl (hb hby at_7) rfl (l' := #[.val (.int p0), .val (.int (10 : Int32)), .unset, .unset, .unset]) rfl ?_
      show Steps p.tables e below (s₁.setTop (mkF m 8 #[.val (.int p0), .val (.int (10 : Int32)), .unset, .unset, .unset] [])) _
      refine XS.iloadN X0.here hx rfl (hb hby at_8) rfl ?_
      show Steps p.tables e below (s₁.setTop (mkF m 9 #[.val (.int p0), .val (.int (10 : Int32)), .unset, .unset, .unset] [(.int (10 : Int32))])) _
      refine st54 _ ?_
      show Steps p.tables e below (T54.setTop (mkF m 12 #[.val (.int p0), .val (.int (10 : Int32)), .unset, .unset, .unset] [(.ref v_APPLYING)])) _
      refine XS.astoreN X54.here hx rfl (hb hby at_12) rfl rfl (l' := #[.val (.int p0), .val (.int (10 : Int32)), .val (.ref v_APPLYING), .unset, .unset]) rfl ?_
      show Steps p.tables e below (T54.setTop (mkF m 13 #[.val (.int p0), .val (.int (10 : Int32)), .val (.ref v_APPLYING), .unset, .unset] [])) _
      refine XS.iloadN X54.here hx rfl (hb hby at_13) rfl ?_
      show Steps p.tables e below (T54.setTop (mkF m 14 #[.val (.int p0), .val (.int (10 : Int32)), .val (.ref v_APPLYING), .unset, .unset] [(.int (10 : Int32))])) _
      refine XS.iconst X54.here hx rfl (hb hby at_14) ?_
      show Steps p.tables e below (T54.setTop (mkF m 15 #[.val (.int p0), .val (.int (10 : Int32)), .val (.ref v_APPLYING), .unset, .unset] [(.int (3 : Int32)), (.int (10 : Int32))])) _
      refine XS.icmpNo X54.here hx rfl (hb hby at_15) rfl (feq (by decide)).1 ?_
      show Steps p.tables e below (T54.setTop (mkF m 18 #[.val (.int p0), .val (.int (10 : Int32)), .val (.ref v_APPLYING), .unset, .unset] [])) _
      refine XS.iloadN X54.here hx rfl (hb hby at_18) rfl ?_
      show Steps p.tables e below (T54.setTop (mkF m 19 #[.val (.int p0), .val (.int (10 : Int32)), .val (.ref v_APPLYING), .unset, .unset] [(.int (10 : Int32))])) _
      refine XS.iconst X54.here hx rfl (hb hby at_19) ?_
      show Steps p.tables e below (T54.setTop (mkF m 20 #[.val (.int p0), .val (.int (10 : Int32)), .val (.ref v_APPLYING), .unset, .unset] [(.int (4 : Int32)), (.int (10 : Int32))])) _
      refine XS.icmpNo X54.here hx rfl (hb hby at_20) rfl (feq (by decide)).1 ?_
      show Steps p.tables e below (T54.setTop (mkF m 23 #[.val (.int p0), .val (.int (10 : Int32)), .val (.ref v_APPLYING), .unset, .unset] [])) _
      refine XS.iloadN X54.here hx rfl (hb hby at_23) rfl ?_
      show Steps p.tables e below (T54.setTop (mkF m 24 #[.val (.int p0), .val (.int (10 : Int32)), .val (.ref v_APPLYING), .unset, .unset] [(.int (10 : Int32))])) _
      refine XS.bipush X54.here hx rfl (hb hby at_24) ?_
      show Steps p.tables e below (T54.setTop (mkF m 26 #[.val (.int p0), .val (.int (10 : Int32)), .val (.ref v_APPLYING), .unset, .unset] [(.int (6 : Int32)), (.int (10 : Int32))])) _
      refine XS.icmpNo X54.here hx rfl (hb hby at_26) rfl (feq (by decide)).1 ?_
      show Steps p.tables e below (T54.setTop (mkF m 29 #[.val (.int p0), .val (.int (10 : Int32)), .val (.ref v_APPLYING), .unset, .unset] [])) _
      refine XS.iloadN X54.here hx rfl (hb hby at_29) rfl ?_
      show Steps p.tables e below (T54.setTop (mkF m 30 #[.val (.int p0), .val (.int (10 : Int32)), .val (.ref v_APPLYING), .unset, .unset] [(.int (10 : Int32))])) _
      refine XS.bipush X54.here hx rfl (hb hby at_30) ?_
      show Steps p.tables e below (T54.setTop (mkF m 32 #[.val (.int p0), .val (.int (10 : Int32)), .val (.ref v_APPLYING), .unset, .unset] [(.int (7 : Int32)), (.int (10 : Int32))])) _
      refine XS.icmpNo X54.here hx rfl (hb hby at_32) rfl (feq (by decide)).1 ?_
      show Steps p.tables e below (T54.setTop (mkF m 35 #[.val (.int p0), .val (.int (10 : Int32)), .val (.ref v_APPLYING), .unset, .unset] [])) _
      refine XS.iloadN X54.here hx rfl (hb hby at_35) rfl ?_
      show Steps p.tables e below (T54.setTop (mkF m 36 #[.val (.int p0), .val (.int (10 : Int32)), .val (.ref v_APPLYING), .unset, .unset] [(.int (10 : Int32))])) _
      refine XS.bipush X54.here hx rfl (hb hby at_36) ?_
      show Steps p.tables e below (T54.setTop (mkF m 38 #[.val (.int p0), .val (.int (10 : Int32)), .val (.ref v_APPLYING), .unset, .unset] [(.int (9 : Int32)), (.int (10 : Int32))])) _
      refine XS.icmpYes X54.here hx rfl (pc0 := 38) (pc' := 45) rfl (hb hby at_38) rfl (feq (by decide)).2 (by decide) (by decide) ?_
      show Steps p.tables e below (T54.setTop (mkF m 45 #[.val (.int p0), .val (.int (10 : Int32)), .val (.ref v_APPLYING), .unset, .unset] [])) _
      refine XS.iconst X54.here hx rfl (hb hby at_45) ?_
      show Steps p.tables e below (T54.setTop (mkF m 46 #[.val (.int p0), .val (.int (10 : Int32)), .val (.ref v_APPLYING), .unset, .unset] [(.int (0 : Int32))])) _
      refine XS.istoreN X54.here hx rfl (hb hby at_46) rfl (l' := #[.val (.int p0), .val (.int (10 : Int32)), .val (.ref v_APPLYING), .val (.int (0 : Int32)), .unset]) rfl ?_
      show Steps p.tables e below (T54.setTop (mkF m 47 #[.val (.int p0), .val (.int (10 : Int32)), .val (.ref v_APPLYING), .val (.int (0 : Int32)), .unset] [])) _
      refine XS.aloadN X54.here hx rfl (hb hby at_47) rfl rfl ?_
      show Steps p.tables e below (T54.setTop (mkF m 48 #[.val (.int p0), .val (.int (10 : Int32)), .val (.ref v_APPLYING), .val (.int (0 : Int32)), .unset] [(.ref v_APPLYING)])) _
      refine st55.trans ?_
      show Steps p.tables e below (T55.setTop (mkF m 51 #[.val (.int p0), .val (.int (10 : Int32)), .val (.ref v_APPLYING), .val (.int (0 : Int32)), .unset] [(.int (0 : Int32))])) _
      refine XS.istore X55.here hx rfl (hb hby at_51) rfl (l' := #[.val (.int p0), .val (.int (10 : Int32)), .val (.ref v_APPLYING), .val (.int (0 : Int32)), .val (.int (0 : Int32))]) rfl ?_
      show Steps p.tables e below (T55.setTop (mkF m 53 #[.val (.int p0), .val (.int (10 : Int32)), .val (.ref v_APPLYING), .val (.int (0 : Int32)), .val (.int (0 : Int32))] [])) _
      refine XS.iload X55.here hx rfl (hb hby at_53) rfl ?_
      show Steps p.tables e below (T55.setTop (mkF m 55 #[.val (.int p0), .val (.int (10 : Int32)), .val (.ref v_APPLYING), .val (.int (0 : Int32)), .val (.int (0 : Int32))] [(.int (0 : Int32))])) _
      refine XS.iloadN X55.here hx rfl (hb hby at_55) rfl ?_
      show Steps p.tables e below (T55.setTop (mkF m 56 #[.val (.int p0), .val (.int (10 : Int32)), .val (.ref v_APPLYING), .val (.int (0 : Int32)), .val (.int (0 : Int32))] [(.int (0 : Int32)), (.int (0 : Int32))])) _
      refine XS.icmpNo X55.here hx rfl (hb hby at_56) rfl (teq (by decide)).2 ?_
      show Steps p.tables e below (T55.setTop (mkF m 59 #[.val (.int p0), .val (.int (10 : Int32)), .val (.ref v_APPLYING), .val (.int (0 : Int32)), .val (.int (0 : Int32))] [])) _
      refine XS.iload X55.here hx rfl (hb hby at_59) rfl ?_
      show Steps p.tables e below (T55.setTop (mkF m 61 #[.val (.int p0), .val (.int (10 : Int32)), .val (.ref v_APPLYING), .val (.int (0 : Int32)), .val (.int (0 : Int32))] [(.int (0 : Int32))])) _
      refine XS.aloadN X55.here hx rfl (hb hby at_61) rfl rfl ?_
      show Steps p.tables e below (T55.setTop (mkF m 62 #[.val (.int p0), .val (.int (10 : Int32)), .val (.ref v_APPLYING), .val (.int (0 : Int32)), .val (.int (0 : Int32))] [(.ref v_APPLYING), (.int (0 : Int32))])) _
      refine st56.trans ?_
      show Steps p.tables e below (T56.setTop (mkF m 65 #[.val (.int p0), .val (.int (10 : Int32)), .val (.ref v_APPLYING), .val (.int (0 : Int32)), .val (.int (0 : Int32))] [.null, (.int (0 : Int32))])) _
      refine XS.ifnullYes X56.here hx rfl (pc0 := 65) (pc' := 72) rfl (hb hby at_65) rfl (by decide) (by decide) ?_
      show Steps p.tables e below (T56.setTop (mkF m 72 #[.val (.int p0), .val (.int (10 : Int32)), .val (.ref v_APPLYING), .val (.int (0 : Int32)), .val (.int (0 : Int32))] [(.int (0 : Int32))])) _
      refine XS.iconst X56.here hx rfl (hb hby at_72) ?_
      show Steps p.tables e below (T56.setTop (mkF m 73 #[.val (.int p0), .val (.int (10 : Int32)), .val (.ref v_APPLYING), .val (.int (0 : Int32)), .val (.int (0 : Int32))] [(.int (0 : Int32)), (.int (0 : Int32))])) _
      refine XS.icmpNo X56.here hx rfl (hb hby at_73) rfl (teq (by decide)).2 ?_
      show Steps p.tables e below (T56.setTop (mkF m 76 #[.val (.int p0), .val (.int (10 : Int32)), .val (.ref v_APPLYING), .val (.int (0 : Int32)), .val (.int (0 : Int32))] [])) _
      refine XS.iconst X56.here hx rfl (hb hby at_76) ?_
      show Steps p.tables e below (T56.setTop (mkF m 77 #[.val (.int p0), .val (.int (10 : Int32)), .val (.ref v_APPLYING), .val (.int (0 : Int32)), .val (.int (0 : Int32))] [(.int (1 : Int32))])) _
      refine XS.goto X56.here hx rfl (pc0 := 77) (pc' := 81) rfl (hb hby at_77) (by decide) (by decide) ?_
      exact Steps.refl _
    obtain ⟨fs, hr, hrun, hended, hW, hsame⟩ := X56.leave (v := some (.int (1 : Int32))) (fun h => by rw [Bd.returns] at h; cases h)
    refine ⟨_, _, s57.trans ?_, hrun, hended, _, _, rfl, ?_, ⟨_, rfl⟩, hW, hsame.mono (by decide) (by decide)⟩
    · show Steps p.tables e below (T56.setTop (mkF m 81 #[.val (.int p0), .val (.int (10 : Int32)), .val (.ref v_APPLYING), .val (.int (0 : Int32)), .val (.int (0 : Int32))] [(.int (1 : Int32))])) _
      exact retN X56 hx (t := .boolean) Bd.returns (by simp) (hb hby at_81) hr
    · show Q0 Z p0 v_APPLIED v_CHANGED x_v_CHANGED_reason x_v_CHANGED_reportWord v_OUT_OF_ORDER x_v_OUT_OF_ORDER_reason x_v_OUT_OF_ORDER_reportWord v_NEWER v_FAILED x_v_FAILED_reason x_v_FAILED_reportWord v_INTERRUPTED x_v_INTERRUPTED_reason v_OUTDATED v_BASELINE v_PENDING v_INCOMPLETE v_APPLYING v_BELOW_BASELINE v_MISSING x_v_MISSING_reason x_v_MISSING_reportWord h0 n0 _ T56.heap _
      rw [e56]
      exact ⟨rfl, N56⟩
  · have s58 := s1
    rw [hk2] at s58
    obtain ⟨_, _, ⟨T59, L59, k59, n59⟩, -, X59, ⟨Lc59, hQ59, l59, y59, z59⟩, st59⟩ := Jvm.LawKit.callS X0 hx (y := (⟨"com/example/schemactl/schemactl/MigrationStateIsProblemPinLaw", "pick", "(I)Lcom/example/schemactl/schemactl/MigrationState;"⟩ : MethodName)) hown (mvT hZ (hw _ (List.mem_of_getElem? (i := 1) rfl))) (mvT hZ (hw _ (List.mem_of_getElem? (i := 2) rfl))) (mvT hZ (hw _ (List.mem_of_getElem? (i := 3) rfl))) (mvT hZ (hw _ (List.mem_of_getElem? (i := 4) rfl))) (by decide) (backOf (W := 0) (rmp11 l Z a0 hw [] v_BASELINE h0 n0 O0 F28_) hZ (hw _ (List.mem_of_getElem? (i := 4) rfl)) (hw _ (List.mem_of_getElem? (i := 3) rfl)) (by decide) (by decide)) (g := (mkF m 9 #[.val (.int p0), .val (.int (11 : Int32)), .unset, .unset, .unset] [(.int (11 : Int32))])) rfl (by rw [hml]; rfl) (argsL := [(.int (11 : Int32))]) (rest := []) (lenOf pd_rm0_0 rfl) rfl (by show 2 * 0 + _ ≤ _; exact Nat.le_of_eq rfl) (hb hby at_9) (fun _ _ => ⟨rfl, e0, (by decide : 0 + 0 ≤ _), (by decide : 0 + 0 ≤ _)⟩)
    dsimp only [Pt.U, Pt.locs, Pt.cells, Pt.slots] at X59 l59 y59 z59 st59 hQ59
    subst l59 y59 z59
    obtain ⟨rfl, Nq59, e59⟩ := hQ59
    have N59 := Fr.app N0 Nq59
    obtain ⟨cq60, kq60, q60a, q60b, q60c⟩ := isOf hZ e59 (F29_.ext O0.2)
    obtain ⟨_, _, ⟨T60, L60, k60, n60⟩, -, X60, ⟨Lc60, hQ60, l60, y60, z60⟩, st60⟩ := X59.virtualBack hx (y := (⟨"com/example/schemactl/schemactl/MigrationState", "isProblem", "()Z"⟩ : MethodName)) (z := (⟨"com/example/schemactl/schemactl/MigrationState", "isProblem", "()Z"⟩ : MethodName)) hown (mvT hZ (hw _ (List.mem_of_getElem? (i := 8) rfl))) (mvT hZ (hw _ (List.mem_of_getElem? (i := 9) rfl))) (notFace_of_selects (args := #[]) (mvT hZ (hw _ (List.mem_of_getElem? (i := 11) rfl)))) (mvT hZ (hw _ (List.mem_of_getElem? (i := 11) rfl))) (mvT hZ (hw _ (List.mem_of_getElem? (i := 10) rfl))) (by decide) (backOf (W := 0) (rmi0 l Z a0 hw [] v_BASELINE h0 n0 O0 (F30_.ext O0.2)) hZ (hw _ (List.mem_of_getElem? (i := 12) rfl)) (hw _ (List.mem_of_getElem? (i := 6) rfl)) (by decide) (by decide)) q60a q60c (g := (mkF m 48 #[.val (.int p0), .val (.int (11 : Int32)), .val (.ref v_BASELINE), .val (.int (0 : Int32)), .unset] [(.ref v_BASELINE)])) rfl (by rw [hml]; rfl) (Steps.refl _) (argsL := []) (rest := []) (lenOf pd_rm0_1 rfl) rfl (by show 2 * 0 + _ ≤ _; exact Nat.le_of_eq rfl) (hb hby at_48) (fun _ _ => ⟨rfl, e59, (by decide : 0 + 0 ≤ _), (by decide : 0 + 0 ≤ _)⟩)
    dsimp only [Pt.U, Pt.locs, Pt.cells, Pt.slots] at X60 l60 y60 z60 st60 hQ60
    subst l60 y60 z60
    obtain ⟨rfl, Nq60, e60⟩ := hQ60
    have N60 := Fr.app N59 Nq60
    obtain ⟨cq61, kq61, q61a, q61b, q61c⟩ := isOf hZ e60 (F29_.ext O0.2)
    obtain ⟨_, _, ⟨T61, L61, k61, n61⟩, -, X61, ⟨Lc61, hQ61, l61, y61, z61⟩, st61⟩ := X60.virtualBack hx (y := (⟨"com/example/schemactl/schemactl/MigrationState", "reportWord", "()Ljava/lang/String;"⟩ : MethodName)) (z := (⟨"com/example/schemactl/schemactl/MigrationState", "reportWord", "()Ljava/lang/String;"⟩ : MethodName)) hown (mvT hZ (hw _ (List.mem_of_getElem? (i := 15) rfl))) (mvT hZ (hw _ (List.mem_of_getElem? (i := 16) rfl))) (notFace_of_selects (args := #[]) (mvT hZ (hw _ (List.mem_of_getElem? (i := 18) rfl)))) (mvT hZ (hw _ (List.mem_of_getElem? (i := 18) rfl))) (mvT hZ (hw _ (List.mem_of_getElem? (i := 17) rfl))) (by decide) (backOf (W := 1) (rmr0 l Z a0 hw [] v_BASELINE h0 n0 O0 (F31_.ext O0.2)) hZ (hw _ (List.mem_of_getElem? (i := 19) rfl)) (hw _ (List.mem_of_getElem? (i := 6) rfl)) (by decide) (by decide)) q61a q61c (g := (mkF m 62 #[.val (.int p0), .val (.int (11 : Int32)), .val (.ref v_BASELINE), .val (.int (0 : Int32)), .val (.int (0 : Int32))] [(.ref v_BASELINE), (.int (0 : Int32))])) rfl (by rw [hml]; rfl) (Steps.refl _) (argsL := []) (rest := [(.int (0 : Int32))]) (lenOf pd_rm0_2 rfl) rfl (by show 2 * 0 + _ ≤ _; exact Nat.le_of_eq rfl) (hb hby at_62) (fun _ _ => ⟨rfl, e60, (by decide : 0 + 0 ≤ _), (by decide : 0 + 0 ≤ _)⟩)
    dsimp only [Pt.U, Pt.locs, Pt.cells, Pt.slots] at X61 l61 y61 z61 st61 hQ61
    subst l61 y61 z61
    obtain ⟨rfl, Nq61, e61⟩ := hQ61
    have N61 := Fr.app N60 Nq61
    have s62 : Steps p.tables e below (s₁.setTop (entryFrame m #[(.int p0)] maxLocals)) (T61.setTop (mkF m 81 #[.val (.int p0), .val (.int (11 : Int32)), .val (.ref v_BASELINE), .val (.int (0 : Int32)), .val (.int (0 : Int32))] [(.int (1 : Int32))])) := by
      refine s58.trans ?_
      show Steps p.tables e below (s₁.setTop (mkF m 7 #[.val (.int p0), .unset, .unset, .unset, .unset] [(.int (11 : Int32))])) _
      refine XS.istoreN X0.here hx rfl (hb hby at_7) rfl (l' := #[.val (.int p0), .val (.int (11 : Int32)), .unset, .unset, .unset]) rfl ?_
      show Steps p.tables e below (s₁.setTop (mkF m 8 #[.val (.int p0), .val (.int (11 : Int32)), .unset, .unset, .unset] [])) _
      refine XS.iloadN X0.here hx rfl (hb hby at_8) rfl ?_
      show Steps p.tables e below (s₁.setTop (mkF m 9 #[.val (.int p0), .val (.int (11 : Int32)), .unset, .unset, .unset] [(.int (11 : Int32))])) _
      refine st59 _ ?_
      show Steps p.tables e below (T59.setTop (mkF m 12 #[.val (.int p0), .val (.int (11 : Int32)), .unset, .unset, .unset] [(.ref v_BASELINE)])) _
      refine XS.astoreN X59.here hx rfl (hb hby at_12) rfl rfl (l' := #[.val (.int p0), .val (.int (11 : Int32)), .val (.ref v_BASELINE), .unset, .unset]) rfl ?_
      show Steps p.tables e below (T59.setTop (mkF m 13 #[.val (.int p0), .val (.int (11 : Int32)), .val (.ref v_BASELINE), .unset, .unset] [])) _
      refine XS.iloadN X59.here hx rfl (hb hby at_13) rfl ?_
      show Steps p.tables e below (T59.setTop (mkF m 14 #[.val (.int p0), .val (.int (11 : Int32)), .val (.ref v_BASELINE), .unset, .unset] [(.int (11 : Int32))])) _
      refine XS.iconst X59.here hx rfl (hb hby at_14) ?_
      show Steps p.tables e below (T59.setTop (mkF m 15 #[.val (.int p0), .val (.int (11 : Int32)), .val (.ref v_BASELINE), .unset, .unset] [(.int (3 : Int32)), (.int (11 : Int32))])) _
      refine XS.icmpNo X59.here hx rfl (hb hby at_15) rfl (feq (by decide)).1 ?_
      show Steps p.tables e below (T59.setTop (mkF m 18 #[.val (.int p0), .val (.int (11 : Int32)), .val (.ref v_BASELINE), .unset, .unset] [])) _
      refine XS.iloadN X59.here hx rfl (hb hby at_18) rfl ?_
      show Steps p.tables e below (T59.setTop (mkF m 19 #[.val (.int p0), .val (.int (11 : Int32)), .val (.ref v_BASELINE), .unset, .unset] [(.int (11 : Int32))])) _
      refine XS.iconst X59.here hx rfl (hb hby at_19) ?_
      show Steps p.tables e below (T59.setTop (mkF m 20 #[.val (.int p0), .val (.int (11 : Int32)), .val (.ref v_BASELINE), .unset, .unset] [(.int (4 : Int32)), (.int (11 : Int32))])) _
      refine XS.icmpNo X59.here hx rfl (hb hby at_20) rfl (feq (by decide)).1 ?_
      show Steps p.tables e below (T59.setTop (mkF m 23 #[.val (.int p0), .val (.int (11 : Int32)), .val (.ref v_BASELINE), .unset, .unset] [])) _
      refine XS.iloadN X59.here hx rfl (hb hby at_23) rfl ?_
      show Steps p.tables e below (T59.setTop (mkF m 24 #[.val (.int p0), .val (.int (11 : Int32)), .val (.ref v_BASELINE), .unset, .unset] [(.int (11 : Int32))])) _
      refine XS.bipush X59.here hx rfl (hb hby at_24) ?_
      show Steps p.tables e below (T59.setTop (mkF m 26 #[.val (.int p0), .val (.int (11 : Int32)), .val (.ref v_BASELINE), .unset, .unset] [(.int (6 : Int32)), (.int (11 : Int32))])) _
      refine XS.icmpNo X59.here hx rfl (hb hby at_26) rfl (feq (by decide)).1 ?_
      show Steps p.tables e below (T59.setTop (mkF m 29 #[.val (.int p0), .val (.int (11 : Int32)), .val (.ref v_BASELINE), .unset, .unset] [])) _
      refine XS.iloadN X59.here hx rfl (hb hby at_29) rfl ?_
      show Steps p.tables e below (T59.setTop (mkF m 30 #[.val (.int p0), .val (.int (11 : Int32)), .val (.ref v_BASELINE), .unset, .unset] [(.int (11 : Int32))])) _
      refine XS.bipush X59.here hx rfl (hb hby at_30) ?_
      show Steps p.tables e below (T59.setTop (mkF m 32 #[.val (.int p0), .val (.int (11 : Int32)), .val (.ref v_BASELINE), .unset, .unset] [(.int (7 : Int32)), (.int (11 : Int32))])) _
      refine XS.icmpNo X59.here hx rfl (hb hby at_32) rfl (feq (by decide)).1 ?_
      show Steps p.tables e below (T59.setTop (mkF m 35 #[.val (.int p0), .val (.int (11 : Int32)), .val (.ref v_BASELINE), .unset, .unset] [])) _
      refine XS.iloadN X59.here hx rfl (hb hby at_35) rfl ?_
      show Steps p.tables e below (T59.setTop (mkF m 36 #[.val (.int p0), .val (.int (11 : Int32)), .val (.ref v_BASELINE), .unset, .unset] [(.int (11 : Int32))])) _
      refine XS.bipush X59.here hx rfl (hb hby at_36) ?_
      show Steps p.tables e below (T59.setTop (mkF m 38 #[.val (.int p0), .val (.int (11 : Int32)), .val (.ref v_BASELINE), .unset, .unset] [(.int (9 : Int32)), (.int (11 : Int32))])) _
      refine XS.icmpYes X59.here hx rfl (pc0 := 38) (pc' := 45) rfl (hb hby at_38) rfl (feq (by decide)).2 (by decide) (by decide) ?_
      show Steps p.tables e below (T59.setTop (mkF m 45 #[.val (.int p0), .val (.int (11 : Int32)), .val (.ref v_BASELINE), .unset, .unset] [])) _
      refine XS.iconst X59.here hx rfl (hb hby at_45) ?_
      show Steps p.tables e below (T59.setTop (mkF m 46 #[.val (.int p0), .val (.int (11 : Int32)), .val (.ref v_BASELINE), .unset, .unset] [(.int (0 : Int32))])) _
      refine XS.istoreN X59.here hx rfl (hb hby at_46) rfl (l' := #[.val (.int p0), .val (.int (11 : Int32)), .val (.ref v_BASELINE), .val (.int (0 : Int32)), .unset]) rfl ?_
      show Steps p.tables e below (T59.setTop (mkF m 47 #[.val (.int p0), .val (.int (11 : Int32)), .val (.ref v_BASELINE), .val (.int (0 : Int32)), .unset] [])) _
      refine XS.aloadN X59.here hx rfl (hb hby at_47) rfl rfl ?_
      show Steps p.tables e below (T59.setTop (mkF m 48 #[.val (.int p0), .val (.int (11 : Int32)), .val (.ref v_BASELINE), .val (.int (0 : Int32)), .unset] [(.ref v_BASELINE)])) _
      refine st60.trans ?_
      show Steps p.tables e below (T60.setTop (mkF m 51 #[.val (.int p0), .val (.int (11 : Int32)), .val (.ref v_BASELINE), .val (.int (0 : Int32)), .unset] [(.int (0 : Int32))])) _
      refine XS.istore X60.here hx rfl (hb hby at_51) rfl (l' := #[.val (.int p0), .val (.int (11 : Int32)), .val (.ref v_BASELINE), .val (.int (0 : Int32)), .val (.int (0 : Int32))]) rfl ?_
      show Steps p.tables e below (T60.setTop (mkF m 53 #[.val (.int p0), .val (.int (11 : Int32)), .val (.ref v_BASELINE), .val (.int (0 : Int32)), .val (.int (0 : Int32))] [])) _
      refine XS.iload X60.here hx rfl (hb hby at_53) rfl ?_
      show Steps p.tables e below (T60.setTop (mkF m 55 #[.val (.int p0), .val (.int (11 : Int32)), .val (.ref v_BASELINE), .val (.int (0 : Int32)), .val (.int (0 : Int32))] [(.int (0 : Int32))])) _
      refine XS.iloadN X60.here hx rfl (hb hby at_55) rfl ?_
      show Steps p.tables e below (T60.setTop (mkF m 56 #[.val (.int p0), .val (.int (11 : Int32)), .val (.ref v_BASELINE), .val (.int (0 : Int32)), .val (.int (0 : Int32))] [(.int (0 : Int32)), (.int (0 : Int32))])) _
      refine XS.icmpNo X60.here hx rfl (hb hby at_56) rfl (teq (by decide)).2 ?_
      show Steps p.tables e below (T60.setTop (mkF m 59 #[.val (.int p0), .val (.int (11 : Int32)), .val (.ref v_BASELINE), .val (.int (0 : Int32)), .val (.int (0 : Int32))] [])) _
      refine XS.iload X60.here hx rfl (hb hby at_59) rfl ?_
      show Steps p.tables e below (T60.setTop (mkF m 61 #[.val (.int p0), .val (.int (11 : Int32)), .val (.ref v_BASELINE), .val (.int (0 : Int32)), .val (.int (0 : Int32))] [(.int (0 : Int32))])) _
      refine XS.aloadN X60.here hx rfl (hb hby at_61) rfl rfl ?_
      show Steps p.tables e below (T60.setTop (mkF m 62 #[.val (.int p0), .val (.int (11 : Int32)), .val (.ref v_BASELINE), .val (.int (0 : Int32)), .val (.int (0 : Int32))] [(.ref v_BASELINE), (.int (0 : Int32))])) _
      refine st61.trans ?_
      show Steps p.tables e below (T61.setTop (mkF m 65 #[.val (.int p0), .val (.int (11 : Int32)), .val (.ref v_BASELINE), .val (.int (0 : Int32)), .val (.int (0 : Int32))] [.null, (.int (0 : Int32))])) _
      refine XS.ifnullYes X61.here hx rfl (pc0 := 65) (pc' := 72) rfl (hb hby at_65) rfl (by decide) (by decide) ?_
      show Steps p.tables e below (T61.setTop (mkF m 72 #[.val (.int p0), .val (.int (11 : Int32)), .val (.ref v_BASELINE), .val (.int (0 : Int32)), .val (.int (0 : Int32))] [(.int (0 : Int32))])) _
      refine XS.iconst X61.here hx rfl (hb hby at_72) ?_
      show Steps p.tables e below (T61.setTop (mkF m 73 #[.val (.int p0), .val (.int (11 : Int32)), .val (.ref v_BASELINE), .val (.int (0 : Int32)), .val (.int (0 : Int32))] [(.int (0 : Int32)), (.int (0 : Int32))])) _
      refine XS.icmpNo X61.here hx rfl (hb hby at_73) rfl (teq (by decide)).2 ?_
      show Steps p.tables e below (T61.setTop (mkF m 76 #[.val (.int p0), .val (.int (11 : Int32)), .val (.ref v_BASELINE), .val (.int (0 : Int32)), .val (.int (0 : Int32))] [])) _
      refine XS.iconst X61.here hx rfl (hb hby at_76) ?_
      show Steps p.tables e below (T61.setTop (mkF m 77 #[.val (.int p0), .val (.int (11 : Int32)), .val (.ref v_BASELINE), .val (.int (0 : Int32)), .val (.int (0 : Int32))] [(.int (1 : Int32))])) _
      refine XS.goto X61.here hx rfl (pc0 := 77) (pc' := 81) rfl (hb hby at_77) (by decide) (by decide) ?_
      exact Steps.refl _
    obtain ⟨fs, hr, hrun, hended, hW, hsame⟩ := X61.leave (v := some (.int (1 : Int32))) (fun h => by rw [Bd.returns] at h; cases h)
    refine ⟨_, _, s62.trans ?_, hrun, hended, _, _, rfl, ?_, ⟨_, rfl⟩, hW, hsame.mono (by decide) (by decide)⟩
    · show Steps p.tables e below (T61.setTop (mkF m 81 #[.val (.int p0), .val (.int (11 : Int32)), .val (.ref v_BASELINE), .val (.int (0 : Int32)), .val (.int (0 : Int32))] [(.int (1 : Int32))])) _
      exact retN X61 hx (t := .boolean) Bd.returns (by simp) (hb hby at_81) hr
    · show Q0 Z p0 v_APPLIED v_CHANGED x_v_CHANGED_reason x_v_CHANGED_reportWord v_OUT_OF_ORDER x_v_OUT_OF_ORDER_reason x_v_OUT_OF_ORDER_reportWord v_NEWER v_FAILED x_v_FAILED_reason x_v_FAILED_reportWord v_INTERRUPTED x_v_INTERRUPTED_reason v_OUTDATED v_BASELINE v_PENDING v_INCOMPLETE v_APPLYING v_BELOW_BASELINE v_MISSING x_v_MISSING_reason x_v_MISSING_reportWord h0 n0 _ T61.heap _
      rw [e61]
      exact ⟨rfl, N61⟩
  · have s63 := s1
    rw [hk2] at s63
    obtain ⟨_, _, ⟨T64, L64, k64, n64⟩, -, X64, ⟨Lc64, hQ64, l64, y64, z64⟩, st64⟩ := Jvm.LawKit.callS X0 hx (y := (⟨"com/example/schemactl/schemactl/MigrationStateIsProblemPinLaw", "pick", "(I)Lcom/example/schemactl/schemactl/MigrationState;"⟩ : MethodName)) hown (mvT hZ (hw _ (List.mem_of_getElem? (i := 1) rfl))) (mvT hZ (hw _ (List.mem_of_getElem? (i := 2) rfl))) (mvT hZ (hw _ (List.mem_of_getElem? (i := 3) rfl))) (mvT hZ (hw _ (List.mem_of_getElem? (i := 4) rfl))) (by decide) (backOf (W := 0) (rmp12 l Z a0 hw [] v_BELOW_BASELINE h0 n0 O0 F44_) hZ (hw _ (List.mem_of_getElem? (i := 4) rfl)) (hw _ (List.mem_of_getElem? (i := 3) rfl)) (by decide) (by decide)) (g := (mkF m 9 #[.val (.int p0), .val (.int (12 : Int32)), .unset, .unset, .unset] [(.int (12 : Int32))])) rfl (by rw [hml]; rfl) (argsL := [(.int (12 : Int32))]) (rest := []) (lenOf pd_rm0_0 rfl) rfl (by show 2 * 0 + _ ≤ _; exact Nat.le_of_eq rfl) (hb hby at_9) (fun _ _ => ⟨rfl, e0, (by decide : 0 + 0 ≤ _), (by decide : 0 + 0 ≤ _)⟩)
    dsimp only [Pt.U, Pt.locs, Pt.cells, Pt.slots] at X64 l64 y64 z64 st64 hQ64
    subst l64 y64 z64
    obtain ⟨rfl, Nq64, e64⟩ := hQ64
    have N64 := Fr.app N0 Nq64
    obtain ⟨cq65, kq65, q65a, q65b, q65c⟩ := isOf hZ e64 (F45_.ext O0.2)
    obtain ⟨_, _, ⟨T65, L65, k65, n65⟩, -, X65, ⟨Lc65, hQ65, l65, y65, z65⟩, st65⟩ := X64.virtualBack hx (y := (⟨"com/example/schemactl/schemactl/MigrationState", "isProblem", "()Z"⟩ : MethodName)) (z := (⟨"com/example/schemactl/schemactl/MigrationState", "isProblem", "()Z"⟩ : MethodName)) hown (mvT hZ (hw _ (List.mem_of_getElem? (i := 8) rfl))) (mvT hZ (hw _ (List.mem_of_getElem? (i := 9) rfl))) (notFace_of_selects (args := #[]) (mvT hZ (hw _ (List.mem_of_getElem? (i := 11) rfl)))) (mvT hZ (hw _ (List.mem_of_getElem? (i := 11) rfl))) (mvT hZ (hw _ (List.mem_of_getElem? (i := 10) rfl))) (by decide) (backOf (W := 0) (rmi0 l Z a0 hw [] v_BELOW_BASELINE h0 n0 O0 (F46_.ext O0.2)) hZ (hw _ (List.mem_of_getElem? (i := 12) rfl)) (hw _ (List.mem_of_getElem? (i := 6) rfl)) (by decide) (by decide)) q65a q65c (g := (mkF m 48 #[.val (.int p0), .val (.int (12 : Int32)), .val (.ref v_BELOW_BASELINE), .val (.int (0 : Int32)), .unset] [(.ref v_BELOW_BASELINE)])) rfl (by rw [hml]; rfl) (Steps.refl _) (argsL := []) (rest := []) (lenOf pd_rm0_1 rfl) rfl (by show 2 * 0 + _ ≤ _; exact Nat.le_of_eq rfl) (hb hby at_48) (fun _ _ => ⟨rfl, e64, (by decide : 0 + 0 ≤ _), (by decide : 0 + 0 ≤ _)⟩)
    dsimp only [Pt.U, Pt.locs, Pt.cells, Pt.slots] at X65 l65 y65 z65 st65 hQ65
    subst l65 y65 z65
    obtain ⟨rfl, Nq65, e65⟩ := hQ65
    have N65 := Fr.app N64 Nq65
    obtain ⟨cq66, kq66, q66a, q66b, q66c⟩ := isOf hZ e65 (F45_.ext O0.2)
    obtain ⟨_, _, ⟨T66, L66, k66, n66⟩, -, X66, ⟨Lc66, hQ66, l66, y66, z66⟩, st66⟩ := X65.virtualBack hx (y := (⟨"com/example/schemactl/schemactl/MigrationState", "reportWord", "()Ljava/lang/String;"⟩ : MethodName)) (z := (⟨"com/example/schemactl/schemactl/MigrationState", "reportWord", "()Ljava/lang/String;"⟩ : MethodName)) hown (mvT hZ (hw _ (List.mem_of_getElem? (i := 15) rfl))) (mvT hZ (hw _ (List.mem_of_getElem? (i := 16) rfl))) (notFace_of_selects (args := #[]) (mvT hZ (hw _ (List.mem_of_getElem? (i := 18) rfl)))) (mvT hZ (hw _ (List.mem_of_getElem? (i := 18) rfl))) (mvT hZ (hw _ (List.mem_of_getElem? (i := 17) rfl))) (by decide) (backOf (W := 1) (rmr0 l Z a0 hw [] v_BELOW_BASELINE h0 n0 O0 (F47_.ext O0.2)) hZ (hw _ (List.mem_of_getElem? (i := 19) rfl)) (hw _ (List.mem_of_getElem? (i := 6) rfl)) (by decide) (by decide)) q66a q66c (g := (mkF m 62 #[.val (.int p0), .val (.int (12 : Int32)), .val (.ref v_BELOW_BASELINE), .val (.int (0 : Int32)), .val (.int (0 : Int32))] [(.ref v_BELOW_BASELINE), (.int (0 : Int32))])) rfl (by rw [hml]; rfl) (Steps.refl _) (argsL := []) (rest := [(.int (0 : Int32))]) (lenOf pd_rm0_2 rfl) rfl (by show 2 * 0 + _ ≤ _; exact Nat.le_of_eq rfl) (hb hby at_62) (fun _ _ => ⟨rfl, e65, (by decide : 0 + 0 ≤ _), (by decide : 0 + 0 ≤ _)⟩)
    dsimp only [Pt.U, Pt.locs, Pt.cells, Pt.slots] at X66 l66 y66 z66 st66 hQ66
    subst l66 y66 z66
    obtain ⟨rfl, Nq66, e66⟩ := hQ66
    have N66 := Fr.app N65 Nq66
    have s67 : Steps p.tables e below (s₁.setTop (entryFrame m #[(.int p0)] maxLocals)) (T66.setTop (mkF m 81 #[.val (.int p0), .val (.int (12 : Int32)), .val (.ref v_BELOW_BASELINE), .val (.int (0 : Int32)), .val (.int (0 : Int32))] [(.int (1 : Int32))])) := by
      refine s63.trans ?_
      show Steps p.tables e below (s₁.setTop (mkF m 7 #[.val (.int p0), .unset, .unset, .unset, .unset] [(.int (12 : Int32))])) _
      refine XS.istoreN X0.here hx rfl (hb hby at_7) rfl (l' := #[.val (.int p0), .val (.int (12 : Int32)), .unset, .unset, .unset]) rfl ?_
      show Steps p.tables e below (s₁.setTop (mkF m 8 #[.val (.int p0), .val (.int (12 : Int32)), .unset, .unset, .unset] [])) _
      refine XS.iloadN X0.here hx rfl (hb hby at_8) rfl ?_
      show Steps p.tables e below (s₁.setTop (mkF m 9 #[.val (.int p0), .val (.int (12 : Int32)), .unset, .unset, .unset] [(.int (12 : Int32))])) _
      refine st64 _ ?_
      show Steps p.tables e below (T64.setTop (mkF m 12 #[.val (.int p0), .val (.int (12 : Int32)), .unset, .unset, .unset] [(.ref v_BELOW_BASELINE)])) _
      refine XS.astoreN X64.here hx rfl (hb hby at_12) rfl rfl (l' := #[.val (.int p0), .val (.int (12 : Int32)), .val (.ref v_BELOW_BASELINE), .unset, .unset]) rfl ?_
      show Steps p.tables e below (T64.setTop (mkF m 13 #[.val (.int p0), .val (.int (12 : Int32)), .val (.ref v_BELOW_BASELINE), .unset, .unset] [])) _
      refine XS.iloadN X64.here hx rfl (hb hby at_13) rfl ?_
      show Steps p.tables e below (T64.setTop (mkF m 14 #[.val (.int p0), .val (.int (12 : Int32)), .val (.ref v_BELOW_BASELINE), .unset, .unset] [(.int (12 : Int32))])) _
      refine XS.iconst X64.here hx rfl (hb hby at_14) ?_
      show Steps p.tables e below (T64.setTop (mkF m 15 #[.val (.int p0), .val (.int (12 : Int32)), .val (.ref v_BELOW_BASELINE), .unset, .unset] [(.int (3 : Int32)), (.int (12 : Int32))])) _
      refine XS.icmpNo X64.here hx rfl (hb hby at_15) rfl (feq (by decide)).1 ?_
      show Steps p.tables e below (T64.setTop (mkF m 18 #[.val (.int p0), .val (.int (12 : Int32)), .val (.ref v_BELOW_BASELINE), .unset, .unset] [])) _
      refine XS.iloadN X64.here hx rfl (hb hby at_18) rfl ?_
      show Steps p.tables e below (T64.setTop (mkF m 19 #[.val (.int p0), .val (.int (12 : Int32)), .val (.ref v_BELOW_BASELINE), .unset, .unset] [(.int (12 : Int32))])) _
      refine XS.iconst X64.here hx rfl (hb hby at_19) ?_
      show Steps p.tables e below (T64.setTop (mkF m 20 #[.val (.int p0), .val (.int (12 : Int32)), .val (.ref v_BELOW_BASELINE), .unset, .unset] [(.int (4 : Int32)), (.int (12 : Int32))])) _
      refine XS.icmpNo X64.here hx rfl (hb hby at_20) rfl (feq (by decide)).1 ?_
      show Steps p.tables e below (T64.setTop (mkF m 23 #[.val (.int p0), .val (.int (12 : Int32)), .val (.ref v_BELOW_BASELINE), .unset, .unset] [])) _
      refine XS.iloadN X64.here hx rfl (hb hby at_23) rfl ?_
      show Steps p.tables e below (T64.setTop (mkF m 24 #[.val (.int p0), .val (.int (12 : Int32)), .val (.ref v_BELOW_BASELINE), .unset, .unset] [(.int (12 : Int32))])) _
      refine XS.bipush X64.here hx rfl (hb hby at_24) ?_
      show Steps p.tables e below (T64.setTop (mkF m 26 #[.val (.int p0), .val (.int (12 : Int32)), .val (.ref v_BELOW_BASELINE), .unset, .unset] [(.int (6 : Int32)), (.int (12 : Int32))])) _
      refine XS.icmpNo X64.here hx rfl (hb hby at_26) rfl (feq (by decide)).1 ?_
      show Steps p.tables e below (T64.setTop (mkF m 29 #[.val (.int p0), .val (.int (12 : Int32)), .val (.ref v_BELOW_BASELINE), .unset, .unset] [])) _
      refine XS.iloadN X64.here hx rfl (hb hby at_29) rfl ?_
      show Steps p.tables e below (T64.setTop (mkF m 30 #[.val (.int p0), .val (.int (12 : Int32)), .val (.ref v_BELOW_BASELINE), .unset, .unset] [(.int (12 : Int32))])) _
      refine XS.bipush X64.here hx rfl (hb hby at_30) ?_
      show Steps p.tables e below (T64.setTop (mkF m 32 #[.val (.int p0), .val (.int (12 : Int32)), .val (.ref v_BELOW_BASELINE), .unset, .unset] [(.int (7 : Int32)), (.int (12 : Int32))])) _
      refine XS.icmpNo X64.here hx rfl (hb hby at_32) rfl (feq (by decide)).1 ?_
      show Steps p.tables e below (T64.setTop (mkF m 35 #[.val (.int p0), .val (.int (12 : Int32)), .val (.ref v_BELOW_BASELINE), .unset, .unset] [])) _
      refine XS.iloadN X64.here hx rfl (hb hby at_35) rfl ?_
      show Steps p.tables e below (T64.setTop (mkF m 36 #[.val (.int p0), .val (.int (12 : Int32)), .val (.ref v_BELOW_BASELINE), .unset, .unset] [(.int (12 : Int32))])) _
      refine XS.bipush X64.here hx rfl (hb hby at_36) ?_
      show Steps p.tables e below (T64.setTop (mkF m 38 #[.val (.int p0), .val (.int (12 : Int32)), .val (.ref v_BELOW_BASELINE), .unset, .unset] [(.int (9 : Int32)), (.int (12 : Int32))])) _
      refine XS.icmpYes X64.here hx rfl (pc0 := 38) (pc' := 45) rfl (hb hby at_38) rfl (feq (by decide)).2 (by decide) (by decide) ?_
      show Steps p.tables e below (T64.setTop (mkF m 45 #[.val (.int p0), .val (.int (12 : Int32)), .val (.ref v_BELOW_BASELINE), .unset, .unset] [])) _
      refine XS.iconst X64.here hx rfl (hb hby at_45) ?_
      show Steps p.tables e below (T64.setTop (mkF m 46 #[.val (.int p0), .val (.int (12 : Int32)), .val (.ref v_BELOW_BASELINE), .unset, .unset] [(.int (0 : Int32))])) _
      refine XS.istoreN X64.here hx rfl (hb hby at_46) rfl (l' := #[.val (.int p0), .val (.int (12 : Int32)), .val (.ref v_BELOW_BASELINE), .val (.int (0 : Int32)), .unset]) rfl ?_
      show Steps p.tables e below (T64.setTop (mkF m 47 #[.val (.int p0), .val (.int (12 : Int32)), .val (.ref v_BELOW_BASELINE), .val (.int (0 : Int32)), .unset] [])) _
      refine XS.aloadN X64.here hx rfl (hb hby at_47) rfl rfl ?_
      show Steps p.tables e below (T64.setTop (mkF m 48 #[.val (.int p0), .val (.int (12 : Int32)), .val (.ref v_BELOW_BASELINE), .val (.int (0 : Int32)), .unset] [(.ref v_BELOW_BASELINE)])) _
      refine st65.trans ?_
      show Steps p.tables e below (T65.setTop (mkF m 51 #[.val (.int p0), .val (.int (12 : Int32)), .val (.ref v_BELOW_BASELINE), .val (.int (0 : Int32)), .unset] [(.int (0 : Int32))])) _
      refine XS.istore X65.here hx rfl (hb hby at_51) rfl (l' := #[.val (.int p0), .val (.int (12 : Int32)), .val (.ref v_BELOW_BASELINE), .val (.int (0 : Int32)), .val (.int (0 : Int32))]) rfl ?_
      show Steps p.tables e below (T65.setTop (mkF m 53 #[.val (.int p0), .val (.int (12 : Int32)), .val (.ref v_BELOW_BASELINE), .val (.int (0 : Int32)), .val (.int (0 : Int32))] [])) _
      refine XS.iload X65.here hx rfl (hb hby at_53) rfl ?_
      show Steps p.tables e below (T65.setTop (mkF m 55 #[.val (.int p0), .val (.int (12 : Int32)), .val (.ref v_BELOW_BASELINE), .val (.int (0 : Int32)), .val (.int (0 : Int32))] [(.int (0 : Int32))])) _
      refine XS.iloadN X65.here hx rfl (hb hby at_55) rfl ?_
      show Steps p.tables e below (T65.setTop (mkF m 56 #[.val (.int p0), .val (.int (12 : Int32)), .val (.ref v_BELOW_BASELINE), .val (.int (0 : Int32)), .val (.int (0 : Int32))] [(.int (0 : Int32)), (.int (0 : Int32))])) _
      refine XS.icmpNo X65.here hx rfl (hb hby at_56) rfl (teq (by decide)).2 ?_
      show Steps p.tables e below (T65.setTop (mkF m 59 #[.val (.int p0), .val (.int (12 : Int32)), .val (.ref v_BELOW_BASELINE), .val (.int (0 : Int32)), .val (.int (0 : Int32))] [])) _
      refine XS.iload X65.here hx rfl (hb hby at_59) rfl ?_
      show Steps p.tables e below (T65.setTop (mkF m 61 #[.val (.int p0), .val (.int (12 : Int32)), .val (.ref v_BELOW_BASELINE), .val (.int (0 : Int32)), .val (.int (0 : Int32))] [(.int (0 : Int32))])) _
      refine XS.aloadN X65.here hx rfl (hb hby at_61) rfl rfl ?_
      show Steps p.tables e below (T65.setTop (mkF m 62 #[.val (.int p0), .val (.int (12 : Int32)), .val (.ref v_BELOW_BASELINE), .val (.int (0 : Int32)), .val (.int (0 : Int32))] [(.ref v_BELOW_BASELINE), (.int (0 : Int32))])) _
      refine st66.trans ?_
      show Steps p.tables e below (T66.setTop (mkF m 65 #[.val (.int p0), .val (.int (12 : Int32)), .val (.ref v_BELOW_BASELINE), .val (.int (0 : Int32)), .val (.int (0 : Int32))] [.null, (.int (0 : Int32))])) _
      refine XS.ifnullYes X66.here hx rfl (pc0 := 65) (pc' := 72) rfl (hb hby at_65) rfl (by decide) (by decide) ?_
      show Steps p.tables e below (T66.setTop (mkF m 72 #[.val (.int p0), .val (.int (12 : Int32)), .val (.ref v_BELOW_BASELINE), .val (.int (0 : Int32)), .val (.int (0 : Int32))] [(.int (0 : Int32))])) _
      refine XS.iconst X66.here hx rfl (hb hby at_72) ?_
      show Steps p.tables e below (T66.setTop (mkF m 73 #[.val (.int p0), .val (.int (12 : Int32)), .val (.ref v_BELOW_BASELINE), .val (.int (0 : Int32)), .val (.int (0 : Int32))] [(.int (0 : Int32)), (.int (0 : Int32))])) _
      refine XS.icmpNo X66.here hx rfl (hb hby at_73) rfl (teq (by decide)).2 ?_
      show Steps p.tables e below (T66.setTop (mkF m 76 #[.val (.int p0), .val (.int (12 : Int32)), .val (.ref v_BELOW_BASELINE), .val (.int (0 : Int32)), .val (.int (0 : Int32))] [])) _
      refine XS.iconst X66.here hx rfl (hb hby at_76) ?_
      show Steps p.tables e below (T66.setTop (mkF m 77 #[.val (.int p0), .val (.int (12 : Int32)), .val (.ref v_BELOW_BASELINE), .val (.int (0 : Int32)), .val (.int (0 : Int32))] [(.int (1 : Int32))])) _
      refine XS.goto X66.here hx rfl (pc0 := 77) (pc' := 81) rfl (hb hby at_77) (by decide) (by decide) ?_
      exact Steps.refl _
    obtain ⟨fs, hr, hrun, hended, hW, hsame⟩ := X66.leave (v := some (.int (1 : Int32))) (fun h => by rw [Bd.returns] at h; cases h)
    refine ⟨_, _, s67.trans ?_, hrun, hended, _, _, rfl, ?_, ⟨_, rfl⟩, hW, hsame.mono (by decide) (by decide)⟩
    · show Steps p.tables e below (T66.setTop (mkF m 81 #[.val (.int p0), .val (.int (12 : Int32)), .val (.ref v_BELOW_BASELINE), .val (.int (0 : Int32)), .val (.int (0 : Int32))] [(.int (1 : Int32))])) _
      exact retN X66 hx (t := .boolean) Bd.returns (by simp) (hb hby at_81) hr
    · show Q0 Z p0 v_APPLIED v_CHANGED x_v_CHANGED_reason x_v_CHANGED_reportWord v_OUT_OF_ORDER x_v_OUT_OF_ORDER_reason x_v_OUT_OF_ORDER_reportWord v_NEWER v_FAILED x_v_FAILED_reason x_v_FAILED_reportWord v_INTERRUPTED x_v_INTERRUPTED_reason v_OUTDATED v_BASELINE v_PENDING v_INCOMPLETE v_APPLYING v_BELOW_BASELINE v_MISSING x_v_MISSING_reason x_v_MISSING_reportWord h0 n0 _ T66.heap _
      rw [e66]
      exact ⟨rfl, N66⟩
set_option maxRecDepth 65536 in
set_option maxHeartbeats 40000000 in
theorem comes_1 {Post : Tables → Env → Array Value → State → Outcome → State → Prop} (hpost : ∀ tb e args s v u, (limb_1_1.after args s (.returned v) u = true ∧ limb_1_2.after args s (.returned v) u = true ∧ True) → FrameEnd s (.returned v) u (Jvm.fieldLocs frame_1_writes args s ++ Jvm.arrayLocs frame_1_arrays args s ++ Jvm.staticLocs frame_1_statics s) 0 0 → Post tb e args s (.returned v) u) :
    ArmFor flags0 classFile x code maxLocals ret World_1 tables_1 room_1 Calls_1 rest_1 Pre_1 Post := by
  intro l hfl _ _ p e ha hc hk s m args below hf hA hF happ hP
  obtain ⟨hcalls, hrest, hpre⟩ := hP
  obtain ⟨-, -, -, hnamed, -, -, -, hat⟩ := (Spec.applies_iff hf).mp happ
  obtain ⟨hg, hn⟩ := and_e (Cond.before_iff.mp (show (Jvm.Cond.and given_1 narrow_1).before args s = true from hpre))
  obtain ⟨gc, gk0⟩ := and_e hg
  obtain ⟨w0, rfl⟩ : ∃ w0 : Value, args = #[w0] := by
    have hs : args.size = 1 := by simpa [Cond.value, given_1] using gc
    obtain ⟨L⟩ := args
    match L, hs with
    | [w0], _ => exact ⟨w0, rfl⟩
  have hw := fun d (hd : d ∈ tables_1) => atoms_spec (ws := Jvm.Cond.code x code maxLocals ret :: tables_1) hat d (List.mem_cons_of_mem _ hd)
  have hfit : Fit s := fun {y c} hc i hi => by
    obtain ⟨ha, rfl⟩ := Array.getElem?_eq_some_iff.mp hc
    have q := List.all_eq_true.mp ((Array.all_eq_true_iff_forall_mem.mp hF) _ (Array.getElem_mem ha)) i (List.mem_range.mpr hi)
    simpa [Array.getElem?_eq_getElem hi] using q
  obtain ⟨i0, ei0⟩ := is_v gk0
  obtain rfl : w0 = (.int i0) := Option.some.inj ei0
  obtain ⟨n_0, nr_0⟩ := and_e hn
  obtain ⟨n_1, nr_1⟩ := and_e nr_0
  obtain ⟨n_2, nr_2⟩ := and_e nr_1
  obtain ⟨n_3, nr_3⟩ := and_e nr_2
  obtain ⟨n_4, nr_4⟩ := and_e nr_3
  obtain ⟨n_5, nr_5⟩ := and_e nr_4
  obtain ⟨n_6, nr_6⟩ := and_e nr_5
  obtain ⟨n_7, nr_7⟩ := and_e nr_6
  obtain ⟨n_8, nr_8⟩ := and_e nr_7
  obtain ⟨n_9, nr_9⟩ := and_e nr_8
  obtain ⟨n_10, nr_10⟩ := and_e nr_9
  obtain ⟨n_11, nr_11⟩ := and_e nr_10
  obtain ⟨n_12, nr_12⟩ := and_e nr_11
  obtain ⟨n_13, nr_13⟩ := and_e nr_12
  obtain ⟨n_14, nr_14⟩ := and_e nr_13
  obtain ⟨n_15, nr_15⟩ := and_e nr_14
  obtain ⟨n_16, nr_16⟩ := and_e nr_15
  obtain ⟨n_17, nr_17⟩ := and_e nr_16
  obtain ⟨n_18, nr_18⟩ := and_e nr_17
  obtain ⟨n_19, nr_19⟩ := and_e nr_18
  obtain ⟨n_20, nr_20⟩ := and_e nr_19
  obtain ⟨n_21, nr_21⟩ := and_e nr_20
  obtain ⟨n_22, nr_22⟩ := and_e nr_21
  obtain ⟨n_23, nr_23⟩ := and_e nr_22
  obtain ⟨n_24, nr_24⟩ := and_e nr_23
  obtain ⟨n_25, nr_25⟩ := and_e nr_24
  obtain ⟨n_26, nr_26⟩ := and_e nr_25
  obtain ⟨n_27, nr_27⟩ := and_e nr_26
  obtain ⟨n_28, nr_28⟩ := and_e nr_27
  obtain ⟨n_29, nr_29⟩ := and_e nr_28
  obtain ⟨n_30, nr_30⟩ := and_e nr_29
  obtain ⟨n_31, nr_31⟩ := and_e nr_30
  obtain ⟨n_32, nr_32⟩ := and_e nr_31
  obtain ⟨n_33, nr_33⟩ := and_e nr_32
  obtain ⟨n_34, nr_34⟩ := and_e nr_33
  obtain ⟨n_35, nr_35⟩ := and_e nr_34
  obtain ⟨n_36, nr_36⟩ := and_e nr_35
  obtain ⟨n_37, nr_37⟩ := and_e nr_36
  obtain ⟨v_APPLIED, ev_v_APPLIED⟩ := exa_v n_0
  have S_v_APPLIED : Sta s s.heap "com/example/schemactl/schemactl/MigrationState" "APPLIED" "Lcom/example/schemactl/schemactl/MigrationState;" (.ref v_APPLIED) := Sta.start ev_v_APPLIED (Or.inr ⟨(hw _ (List.mem_of_getElem? (i := 6) rfl)), (hw _ (List.mem_of_getElem? (i := 7) rfl))⟩)
  have E_v_APPLIED : Exa s s.heap v_APPLIED "com/example/schemactl/schemactl/MigrationState" := Exa.start ev_v_APPLIED n_0
  have F_v_APPLIED_reason : Fld s s.heap v_APPLIED "com/example/schemactl/schemactl/MigrationState" "reason" "Ljava/lang/String;" .null := Fld.start ((fld_at ev_v_APPLIED).symm.trans (null_v n_1))
  have F_v_APPLIED_reportWord : Fld s s.heap v_APPLIED "com/example/schemactl/schemactl/MigrationState" "reportWord" "Ljava/lang/String;" .null := Fld.start ((fld_at ev_v_APPLIED).symm.trans (null_v n_2))
  obtain ⟨v_CHANGED, ev_v_CHANGED⟩ := exa_v n_3
  have S_v_CHANGED : Sta s s.heap "com/example/schemactl/schemactl/MigrationState" "CHANGED" "Lcom/example/schemactl/schemactl/MigrationState;" (.ref v_CHANGED) := Sta.start ev_v_CHANGED (Or.inr ⟨(hw _ (List.mem_of_getElem? (i := 6) rfl)), (hw _ (List.mem_of_getElem? (i := 23) rfl))⟩)
  have E_v_CHANGED : Exa s s.heap v_CHANGED "com/example/schemactl/schemactl/MigrationState" := Exa.start ev_v_CHANGED n_3
  obtain ⟨x_v_CHANGED_reason, ev_x_v_CHANGED_reason⟩ := exa_v n_4
  have F_v_CHANGED_reason : Fld s s.heap v_CHANGED "com/example/schemactl/schemactl/MigrationState" "reason" "Ljava/lang/String;" (.ref x_v_CHANGED_reason) := Fld.start ((fld_at ev_v_CHANGED).symm.trans ev_x_v_CHANGED_reason)
  obtain ⟨x_v_CHANGED_reportWord, ev_x_v_CHANGED_reportWord⟩ := exa_v n_5
  have F_v_CHANGED_reportWord : Fld s s.heap v_CHANGED "com/example/schemactl/schemactl/MigrationState" "reportWord" "Ljava/lang/String;" (.ref x_v_CHANGED_reportWord) := Fld.start ((fld_at ev_v_CHANGED).symm.trans ev_x_v_CHANGED_reportWord)
  obtain ⟨v_OUT_OF_ORDER, ev_v_OUT_OF_ORDER⟩ := exa_v n_6
  have S_v_OUT_OF_ORDER : Sta s s.heap "com/example/schemactl/schemactl/MigrationState" "OUT_OF_ORDER" "Lcom/example/schemactl/schemactl/MigrationState;" (.ref v_OUT_OF_ORDER) := Sta.start ev_v_OUT_OF_ORDER (Or.inr ⟨(hw _ (List.mem_of_getElem? (i := 6) rfl)), (hw _ (List.mem_of_getElem? (i := 25) rfl))⟩)
  have E_v_OUT_OF_ORDER : Exa s s.heap v_OUT_OF_ORDER "com/example/schemactl/schemactl/MigrationState" := Exa.start ev_v_OUT_OF_ORDER n_6
  obtain ⟨x_v_OUT_OF_ORDER_reason, ev_x_v_OUT_OF_ORDER_reason⟩ := exa_v n_7
  have F_v_OUT_OF_ORDER_reason : Fld s s.heap v_OUT_OF_ORDER "com/example/schemactl/schemactl/MigrationState" "reason" "Ljava/lang/String;" (.ref x_v_OUT_OF_ORDER_reason) := Fld.start ((fld_at ev_v_OUT_OF_ORDER).symm.trans ev_x_v_OUT_OF_ORDER_reason)
  obtain ⟨x_v_OUT_OF_ORDER_reportWord, ev_x_v_OUT_OF_ORDER_reportWord⟩ := exa_v n_8
  have F_v_OUT_OF_ORDER_reportWord : Fld s s.heap v_OUT_OF_ORDER "com/example/schemactl/schemactl/MigrationState" "reportWord" "Ljava/lang/String;" (.ref x_v_OUT_OF_ORDER_reportWord) := Fld.start ((fld_at ev_v_OUT_OF_ORDER).symm.trans ev_x_v_OUT_OF_ORDER_reportWord)
  obtain ⟨v_NEWER, ev_v_NEWER⟩ := exa_v n_9
  have S_v_NEWER : Sta s s.heap "com/example/schemactl/schemactl/MigrationState" "NEWER" "Lcom/example/schemactl/schemactl/MigrationState;" (.ref v_NEWER) := Sta.start ev_v_NEWER (Or.inr ⟨(hw _ (List.mem_of_getElem? (i := 6) rfl)), (hw _ (List.mem_of_getElem? (i := 27) rfl))⟩)
  have E_v_NEWER : Exa s s.heap v_NEWER "com/example/schemactl/schemactl/MigrationState" := Exa.start ev_v_NEWER n_9
  have F_v_NEWER_reason : Fld s s.heap v_NEWER "com/example/schemactl/schemactl/MigrationState" "reason" "Ljava/lang/String;" .null := Fld.start ((fld_at ev_v_NEWER).symm.trans (null_v n_10))
  have F_v_NEWER_reportWord : Fld s s.heap v_NEWER "com/example/schemactl/schemactl/MigrationState" "reportWord" "Ljava/lang/String;" .null := Fld.start ((fld_at ev_v_NEWER).symm.trans (null_v n_11))
  obtain ⟨v_FAILED, ev_v_FAILED⟩ := exa_v n_12
  have S_v_FAILED : Sta s s.heap "com/example/schemactl/schemactl/MigrationState" "FAILED" "Lcom/example/schemactl/schemactl/MigrationState;" (.ref v_FAILED) := Sta.start ev_v_FAILED (Or.inr ⟨(hw _ (List.mem_of_getElem? (i := 6) rfl)), (hw _ (List.mem_of_getElem? (i := 29) rfl))⟩)
  have E_v_FAILED : Exa s s.heap v_FAILED "com/example/schemactl/schemactl/MigrationState" := Exa.start ev_v_FAILED n_12
  obtain ⟨x_v_FAILED_reason, ev_x_v_FAILED_reason⟩ := exa_v n_13
  have F_v_FAILED_reason : Fld s s.heap v_FAILED "com/example/schemactl/schemactl/MigrationState" "reason" "Ljava/lang/String;" (.ref x_v_FAILED_reason) := Fld.start ((fld_at ev_v_FAILED).symm.trans ev_x_v_FAILED_reason)
  obtain ⟨x_v_FAILED_reportWord, ev_x_v_FAILED_reportWord⟩ := exa_v n_14
  have F_v_FAILED_reportWord : Fld s s.heap v_FAILED "com/example/schemactl/schemactl/MigrationState" "reportWord" "Ljava/lang/String;" (.ref x_v_FAILED_reportWord) := Fld.start ((fld_at ev_v_FAILED).symm.trans ev_x_v_FAILED_reportWord)
  obtain ⟨v_INTERRUPTED, ev_v_INTERRUPTED⟩ := exa_v n_15
  have S_v_INTERRUPTED : Sta s s.heap "com/example/schemactl/schemactl/MigrationState" "INTERRUPTED" "Lcom/example/schemactl/schemactl/MigrationState;" (.ref v_INTERRUPTED) := Sta.start ev_v_INTERRUPTED (Or.inr ⟨(hw _ (List.mem_of_getElem? (i := 6) rfl)), (hw _ (List.mem_of_getElem? (i := 31) rfl))⟩)
  have E_v_INTERRUPTED : Exa s s.heap v_INTERRUPTED "com/example/schemactl/schemactl/MigrationState" := Exa.start ev_v_INTERRUPTED n_15
  obtain ⟨x_v_INTERRUPTED_reason, ev_x_v_INTERRUPTED_reason⟩ := exa_v n_16
  have F_v_INTERRUPTED_reason : Fld s s.heap v_INTERRUPTED "com/example/schemactl/schemactl/MigrationState" "reason" "Ljava/lang/String;" (.ref x_v_INTERRUPTED_reason) := Fld.start ((fld_at ev_v_INTERRUPTED).symm.trans ev_x_v_INTERRUPTED_reason)
  have F_v_INTERRUPTED_reportWord : Fld s s.heap v_INTERRUPTED "com/example/schemactl/schemactl/MigrationState" "reportWord" "Ljava/lang/String;" (.ref x_v_FAILED_reportWord) := Fld.start ((fld_at ev_v_INTERRUPTED).symm.trans (own_eq_ref n_17 ev_x_v_FAILED_reportWord))
  obtain ⟨v_OUTDATED, ev_v_OUTDATED⟩ := exa_v n_18
  have S_v_OUTDATED : Sta s s.heap "com/example/schemactl/schemactl/MigrationState" "OUTDATED" "Lcom/example/schemactl/schemactl/MigrationState;" (.ref v_OUTDATED) := Sta.start ev_v_OUTDATED (Or.inr ⟨(hw _ (List.mem_of_getElem? (i := 6) rfl)), (hw _ (List.mem_of_getElem? (i := 33) rfl))⟩)
  have E_v_OUTDATED : Exa s s.heap v_OUTDATED "com/example/schemactl/schemactl/MigrationState" := Exa.start ev_v_OUTDATED n_18
  have F_v_OUTDATED_reason : Fld s s.heap v_OUTDATED "com/example/schemactl/schemactl/MigrationState" "reason" "Ljava/lang/String;" .null := Fld.start ((fld_at ev_v_OUTDATED).symm.trans (null_v n_19))
  have F_v_OUTDATED_reportWord : Fld s s.heap v_OUTDATED "com/example/schemactl/schemactl/MigrationState" "reportWord" "Ljava/lang/String;" .null := Fld.start ((fld_at ev_v_OUTDATED).symm.trans (null_v n_20))
  obtain ⟨v_BASELINE, ev_v_BASELINE⟩ := exa_v n_21
  have S_v_BASELINE : Sta s s.heap "com/example/schemactl/schemactl/MigrationState" "BASELINE" "Lcom/example/schemactl/schemactl/MigrationState;" (.ref v_BASELINE) := Sta.start ev_v_BASELINE (Or.inr ⟨(hw _ (List.mem_of_getElem? (i := 6) rfl)), (hw _ (List.mem_of_getElem? (i := 35) rfl))⟩)
  have E_v_BASELINE : Exa s s.heap v_BASELINE "com/example/schemactl/schemactl/MigrationState" := Exa.start ev_v_BASELINE n_21
  have F_v_BASELINE_reason : Fld s s.heap v_BASELINE "com/example/schemactl/schemactl/MigrationState" "reason" "Ljava/lang/String;" .null := Fld.start ((fld_at ev_v_BASELINE).symm.trans (null_v n_22))
  have F_v_BASELINE_reportWord : Fld s s.heap v_BASELINE "com/example/schemactl/schemactl/MigrationState" "reportWord" "Ljava/lang/String;" .null := Fld.start ((fld_at ev_v_BASELINE).symm.trans (null_v n_23))
  obtain ⟨v_PENDING, ev_v_PENDING⟩ := exa_v n_24
  have S_v_PENDING : Sta s s.heap "com/example/schemactl/schemactl/MigrationState" "PENDING" "Lcom/example/schemactl/schemactl/MigrationState;" (.ref v_PENDING) := Sta.start ev_v_PENDING (Or.inr ⟨(hw _ (List.mem_of_getElem? (i := 6) rfl)), (hw _ (List.mem_of_getElem? (i := 37) rfl))⟩)
  have E_v_PENDING : Exa s s.heap v_PENDING "com/example/schemactl/schemactl/MigrationState" := Exa.start ev_v_PENDING n_24
  have F_v_PENDING_reason : Fld s s.heap v_PENDING "com/example/schemactl/schemactl/MigrationState" "reason" "Ljava/lang/String;" .null := Fld.start ((fld_at ev_v_PENDING).symm.trans (null_v n_25))
  have F_v_PENDING_reportWord : Fld s s.heap v_PENDING "com/example/schemactl/schemactl/MigrationState" "reportWord" "Ljava/lang/String;" .null := Fld.start ((fld_at ev_v_PENDING).symm.trans (null_v n_26))
  obtain ⟨v_INCOMPLETE, ev_v_INCOMPLETE⟩ := exa_v n_27
  have S_v_INCOMPLETE : Sta s s.heap "com/example/schemactl/schemactl/MigrationState" "INCOMPLETE" "Lcom/example/schemactl/schemactl/MigrationState;" (.ref v_INCOMPLETE) := Sta.start ev_v_INCOMPLETE (Or.inr ⟨(hw _ (List.mem_of_getElem? (i := 6) rfl)), (hw _ (List.mem_of_getElem? (i := 39) rfl))⟩)
  have E_v_INCOMPLETE : Exa s s.heap v_INCOMPLETE "com/example/schemactl/schemactl/MigrationState" := Exa.start ev_v_INCOMPLETE n_27
  have F_v_INCOMPLETE_reason : Fld s s.heap v_INCOMPLETE "com/example/schemactl/schemactl/MigrationState" "reason" "Ljava/lang/String;" .null := Fld.start ((fld_at ev_v_INCOMPLETE).symm.trans (null_v n_28))
  have F_v_INCOMPLETE_reportWord : Fld s s.heap v_INCOMPLETE "com/example/schemactl/schemactl/MigrationState" "reportWord" "Ljava/lang/String;" .null := Fld.start ((fld_at ev_v_INCOMPLETE).symm.trans (null_v n_29))
  obtain ⟨v_APPLYING, ev_v_APPLYING⟩ := exa_v n_30
  have S_v_APPLYING : Sta s s.heap "com/example/schemactl/schemactl/MigrationState" "APPLYING" "Lcom/example/schemactl/schemactl/MigrationState;" (.ref v_APPLYING) := Sta.start ev_v_APPLYING (Or.inr ⟨(hw _ (List.mem_of_getElem? (i := 6) rfl)), (hw _ (List.mem_of_getElem? (i := 41) rfl))⟩)
  have E_v_APPLYING : Exa s s.heap v_APPLYING "com/example/schemactl/schemactl/MigrationState" := Exa.start ev_v_APPLYING n_30
  have F_v_APPLYING_reason : Fld s s.heap v_APPLYING "com/example/schemactl/schemactl/MigrationState" "reason" "Ljava/lang/String;" .null := Fld.start ((fld_at ev_v_APPLYING).symm.trans (null_v n_31))
  have F_v_APPLYING_reportWord : Fld s s.heap v_APPLYING "com/example/schemactl/schemactl/MigrationState" "reportWord" "Ljava/lang/String;" .null := Fld.start ((fld_at ev_v_APPLYING).symm.trans (null_v n_32))
  obtain ⟨v_BELOW_BASELINE, ev_v_BELOW_BASELINE⟩ := exa_v n_33
  have S_v_BELOW_BASELINE : Sta s s.heap "com/example/schemactl/schemactl/MigrationState" "BELOW_BASELINE" "Lcom/example/schemactl/schemactl/MigrationState;" (.ref v_BELOW_BASELINE) := Sta.start ev_v_BELOW_BASELINE (Or.inr ⟨(hw _ (List.mem_of_getElem? (i := 6) rfl)), (hw _ (List.mem_of_getElem? (i := 43) rfl))⟩)
  have E_v_BELOW_BASELINE : Exa s s.heap v_BELOW_BASELINE "com/example/schemactl/schemactl/MigrationState" := Exa.start ev_v_BELOW_BASELINE n_33
  have F_v_BELOW_BASELINE_reason : Fld s s.heap v_BELOW_BASELINE "com/example/schemactl/schemactl/MigrationState" "reason" "Ljava/lang/String;" .null := Fld.start ((fld_at ev_v_BELOW_BASELINE).symm.trans (null_v n_34))
  have F_v_BELOW_BASELINE_reportWord : Fld s s.heap v_BELOW_BASELINE "com/example/schemactl/schemactl/MigrationState" "reportWord" "Ljava/lang/String;" .null := Fld.start ((fld_at ev_v_BELOW_BASELINE).symm.trans (null_v n_35))
  obtain ⟨v_MISSING, ev_v_MISSING⟩ := exa_v n_36
  have S_v_MISSING : Sta s s.heap "com/example/schemactl/schemactl/MigrationState" "MISSING" "Lcom/example/schemactl/schemactl/MigrationState;" (.ref v_MISSING) := Sta.start ev_v_MISSING (Or.inr ⟨(hw _ (List.mem_of_getElem? (i := 6) rfl)), (hw _ (List.mem_of_getElem? (i := 45) rfl))⟩)
  have E_v_MISSING : Exa s s.heap v_MISSING "com/example/schemactl/schemactl/MigrationState" := Exa.start ev_v_MISSING n_36
  obtain ⟨x_v_MISSING_reason, ev_x_v_MISSING_reason⟩ := exa_v n_37
  have F_v_MISSING_reason : Fld s s.heap v_MISSING "com/example/schemactl/schemactl/MigrationState" "reason" "Ljava/lang/String;" (.ref x_v_MISSING_reason) := Fld.start ((fld_at ev_v_MISSING).symm.trans ev_x_v_MISSING_reason)
  obtain ⟨x_v_MISSING_reportWord, ev_x_v_MISSING_reportWord⟩ := exa_v nr_37
  have F_v_MISSING_reportWord : Fld s s.heap v_MISSING "com/example/schemactl/schemactl/MigrationState" "reportWord" "Ljava/lang/String;" (.ref x_v_MISSING_reportWord) := Fld.start ((fld_at ev_v_MISSING).symm.trans ev_x_v_MISSING_reportWord)
  obtain ⟨n, o, h1, h2, h3, _, L, rfl, ⟨rfl, N⟩, hq⟩ := rm0 l s _ hw tables_1 i0 v_APPLIED v_CHANGED x_v_CHANGED_reason x_v_CHANGED_reportWord v_OUT_OF_ORDER x_v_OUT_OF_ORDER_reason x_v_OUT_OF_ORDER_reportWord v_NEWER v_FAILED x_v_FAILED_reason x_v_FAILED_reportWord v_INTERRUPTED x_v_INTERRUPTED_reason v_OUTDATED v_BASELINE v_PENDING v_INCOMPLETE v_APPLYING v_BELOW_BASELINE v_MISSING x_v_MISSING_reason x_v_MISSING_reportWord s.heap s.heap.size (Old.start s) S_v_APPLIED E_v_APPLIED F_v_APPLIED_reason F_v_APPLIED_reportWord S_v_CHANGED E_v_CHANGED F_v_CHANGED_reason F_v_CHANGED_reportWord S_v_OUT_OF_ORDER E_v_OUT_OF_ORDER F_v_OUT_OF_ORDER_reason F_v_OUT_OF_ORDER_reportWord S_v_NEWER E_v_NEWER F_v_NEWER_reason F_v_NEWER_reportWord S_v_FAILED E_v_FAILED F_v_FAILED_reason F_v_FAILED_reportWord S_v_INTERRUPTED E_v_INTERRUPTED F_v_INTERRUPTED_reason F_v_INTERRUPTED_reportWord S_v_OUTDATED E_v_OUTDATED F_v_OUTDATED_reason F_v_OUTDATED_reportWord S_v_BASELINE E_v_BASELINE F_v_BASELINE_reason F_v_BASELINE_reportWord S_v_PENDING E_v_PENDING F_v_PENDING_reason F_v_PENDING_reportWord S_v_INCOMPLETE E_v_INCOMPLETE F_v_INCOMPLETE_reason F_v_INCOMPLETE_reportWord S_v_APPLYING E_v_APPLYING F_v_APPLYING_reason F_v_APPLYING_reportWord S_v_BELOW_BASELINE E_v_BELOW_BASELINE F_v_BELOW_BASELINE_reason F_v_BELOW_BASELINE_reportWord S_v_MISSING E_v_MISSING F_v_MISSING_reason F_v_MISSING_reportWord p e ha hc hk s m _ below hf ((Spec.applies_iff_loose hf).mp happ).1 ⟨rfl, State.Warmed39.refl s, rfl⟩ trivial
  refine ⟨n, _, h1, h2, h3, hpost _ _ _ _ _ _ ⟨Cond.after_iff.mpr rfl, Cond.after_iff.mpr (eq_i res_at (Term.int_eval (1)) rfl), trivial⟩ ⟨hq.1, hq.2.1, (hq.2.2.sift fun y hy => Or.inr (N y hy)).mono (by decide) (by decide)⟩⟩
theorem main_1_1 : Claimed_1_1 := comes_1 fun _ _ _ _ _ _ h hF => ⟨h.1, hF⟩
theorem main_1_2 : Claimed_1_2 := comes_1 fun _ _ _ _ _ _ h hF => ⟨h.2.1, hF⟩
end Jvm.Pilot.@@N@@
namespace Jvm.Pilot.@@N@@
open Jvm Jvm.ClassFile Sem Op Lib Jvm.Free Jvm.Stand Jvm.Pilot.@@N@@.Jvm.D
/-! MADE BY PROGRAM (witnessworld.py) out of the Statement's table words and the real class files: 15 classes; the members and pool entries that the words name. The judged class is class 1, her method 1. -/
namespace start1
open Jvm.ClassFile
def u (s : String) : CpInfo := .utf8 (stringToUtf16 s)
/-- a pool by its gaps: so many unusable entries, then the entry; so many at the end -/
def gap : Nat → List CpInfo → List CpInfo
  | 0, r => r
  | n + 1, r => .unusable :: gap n r
def poolList (es : List (Nat × CpInfo)) (last : Nat) : List CpInfo := es.foldr (fun e r => gap e.1 (e.2 :: r)) (gap last [])
def pool (es : List (Nat × CpInfo)) (last : Nat) : Array CpInfo := ⟨poolList es last⟩
def fileOf (pool : Array CpInfo) (this : Nat) (attrs : Array Attribute := #[]) (ms : Array MethodInfo := #[]) (fl : Nat := 33) (sup : Nat := 0) (ifs : Array Nat := #[]) (fds : Array FieldInfo := #[]) : ClassFile where
  minorVersion := 0
  majorVersion := 65
  constantPool := pool
  accessFlags := fl
  thisClass := this
  superClass := sup
  interfaces := ifs
  fields := fds
  methods := ms
  attributes := attrs
def plain (name : String) (sup : Option ClassId) : Class where
  name := name
  kind := .ordinary
  loader := none
  accessFlags := 33
  super := sup
  interfaces := #[]
  cf := none
  fields := #[]
  methods := #[]
  instanceTypes := #[]
  staticTypes := #[]
  resolved := #[]
  callSites := []
  init := .initialized
  statics := none
  mirror := none

def pool0 : Array CpInfo := pool [(5, u "<init>"), (0, u "()V"), (1, .class_ 10), (1, u "java/lang/Object")] 113

def k0m0 : Method := { name := "<init>", desc := "()V", sig := { parameters := [], returnType := none }, accessFlags := 1, code := none }
/-- java/lang/Object -/
def k0 : Class := { plain "java/lang/Object" none with
  accessFlags := 33
  interfaces := #[]
  cf := some (fileOf pool0 8 #[] #[{ accessFlags := 1, nameIndex := 5, descriptorIndex := 6, attributes := #[] }] 33 0 #[] #[])
  fields := #[]
  methods := #[k0m0]
  instanceTypes := #[]
  staticTypes := #[]
  resolved := Array.replicate 124 none
  statics := none }

def pool1 : Array CpInfo := pool [(2, .class_ 4), (1, u "java/lang/Object"), (0, u "<init>"), (0, u "()V"), (0, .integer 2147483647), (0, .methodref 9 10), (0, .class_ 11), (0, .nameAndType 12 13), (0, u "com/example/schemactl/schemactl/MigrationStateIsProblemPinLaw"), (0, u "pick"), (0, u "(I)Lcom/example/schemactl/schemactl/MigrationState;"), (0, .methodref 15 16), (0, .class_ 17), (0, .nameAndType 18 19), (0, u "com/example/schemactl/schemactl/MigrationState"), (0, u "isProblem"), (0, u "()Z"), (0, .methodref 15 21), (0, .nameAndType 22 23), (0, u "reportWord"), (0, u "()Ljava/lang/String;"), (0, .fieldref 15 25), (0, .nameAndType 26 27), (0, u "APPLIED"), (0, u "Lcom/example/schemactl/schemactl/MigrationState;"), (0, .fieldref 15 29), (0, .nameAndType 30 27), (0, u "PENDING"), (0, .fieldref 15 32), (0, .nameAndType 33 27), (0, u "OUTDATED"), (0, .fieldref 15 35), (0, .nameAndType 36 27), (0, u "CHANGED"), (0, .fieldref 15 38), (0, .nameAndType 39 27), (0, u "MISSING"), (0, .fieldref 15 41), (0, .nameAndType 42 27), (0, u "NEWER"), (0, .fieldref 15 44), (0, .nameAndType 45 27), (0, u "OUT_OF_ORDER"), (0, .fieldref 15 47), (0, .nameAndType 48 27), (0, u "FAILED"), (0, .fieldref 15 50), (0, .nameAndType 51 27), (0, u "INCOMPLETE"), (0, .fieldref 15 53), (0, .nameAndType 54 27), (0, u "INTERRUPTED"), (0, .fieldref 15 56), (0, .nameAndType 57 27), (0, u "APPLYING"), (0, .fieldref 15 59), (0, .nameAndType 60 27), (0, u "BASELINE"), (0, .fieldref 15 62), (0, .nameAndType 63 27), (0, u "BELOW_BASELINE"), (2, u "law"), (0, u "(I)Z")] 3

def k1m0 : Method := { name := "<init>", desc := "()V", sig := { parameters := [], returnType := none }, accessFlags := 1, code := none }
def k1c1 : Code := { maxStack := 2, maxLocals := 5, code := code, exceptionTable := #[], attributes := #[] }
def k1m1 : Method := { name := "law", desc := "(I)Z", sig := { parameters := [.int], returnType := some .boolean }, accessFlags := 9, code := some k1c1 }
def k1c2 : Code := { maxStack := 2, maxLocals := 1, code := method_3_code, exceptionTable := #[], attributes := #[] }
def k1m2 : Method := { name := "pick", desc := "(I)Lcom/example/schemactl/schemactl/MigrationState;", sig := { parameters := [.int], returnType := some (.object "com/example/schemactl/schemactl/MigrationState") }, accessFlags := 10, code := some k1c2 }
/-- com/example/schemactl/schemactl/MigrationStateIsProblemPinLaw -/
def k1 : Class := { plain "com/example/schemactl/schemactl/MigrationStateIsProblemPinLaw" (some 0) with
  accessFlags := 49
  interfaces := #[]
  cf := some (fileOf pool1 9 #[] #[{ accessFlags := 1, nameIndex := 5, descriptorIndex := 6, attributes := #[] }, { accessFlags := 9, nameIndex := 66, descriptorIndex := 67, attributes := #[] }, { accessFlags := 10, nameIndex := 12, descriptorIndex := 13, attributes := #[] }] 49 2 #[] #[])
  fields := #[]
  methods := #[k1m0, k1m1, k1m2]
  instanceTypes := #[]
  staticTypes := #[]
  resolved := Array.replicate 71 none
  statics := none }

def pool2 : Array CpInfo := pool [(1, .class_ 2), (0, u "java/lang/constant/Constable"), (0, .class_ 4), (0, u "java/lang/Object")] 6

/-- java/lang/constant/Constable -/
def k2 : Class := { plain "java/lang/constant/Constable" (some 0) with
  accessFlags := 1537
  interfaces := #[]
  cf := some (fileOf pool2 1 #[] #[] 1537 3 #[] #[])
  fields := #[]
  methods := #[]
  instanceTypes := #[]
  staticTypes := #[]
  resolved := Array.replicate 11 none
  statics := none }

def pool3 : Array CpInfo := pool [(1, .class_ 2), (0, u "java/lang/Comparable"), (0, .class_ 4), (0, u "java/lang/Object")] 7

/-- java/lang/Comparable -/
def k3 : Class := { plain "java/lang/Comparable" (some 0) with
  accessFlags := 1537
  interfaces := #[]
  cf := some (fileOf pool3 1 #[] #[] 1537 3 #[] #[])
  fields := #[]
  methods := #[]
  instanceTypes := #[]
  staticTypes := #[]
  resolved := Array.replicate 12 none
  statics := none }

def pool4 : Array CpInfo := pool [(1, .class_ 2), (0, u "java/io/Serializable"), (0, .class_ 4), (0, u "java/lang/Object")] 2

/-- java/io/Serializable -/
def k4 : Class := { plain "java/io/Serializable" (some 0) with
  accessFlags := 1537
  interfaces := #[]
  cf := some (fileOf pool4 1 #[] #[] 1537 3 #[] #[])
  fields := #[]
  methods := #[]
  instanceTypes := #[]
  staticTypes := #[]
  resolved := Array.replicate 7 none
  statics := none }

def pool5 : Array CpInfo := pool [(2, .class_ 4), (1, u "java/lang/Enum"), (0, u "name"), (0, u "Ljava/lang/String;"), (2, u "ordinal"), (0, u "I"), (1, .class_ 14), (1, u "java/lang/Object"), (4, u "hash"), (86, .class_ 108), (1, u "java/lang/Enum$EnumDesc"), (2, .class_ 112), (0, u "java/lang/constant/Constable"), (0, .class_ 114), (0, u "java/lang/Comparable"), (0, .class_ 116), (0, u "java/io/Serializable")] 87

/-- java/lang/Enum -/
def k5 : Class := { plain "java/lang/Enum" (some 0) with
  accessFlags := 1057
  interfaces := #[2, 3, 4]
  cf := some (fileOf pool5 2 #[.nestMembers #[106]] #[] 1057 12 #[111, 113, 115] #[{ accessFlags := 18, nameIndex := 5, descriptorIndex := 6, attributes := #[] }, { accessFlags := 18, nameIndex := 9, descriptorIndex := 10, attributes := #[] }, { accessFlags := 2, nameIndex := 19, descriptorIndex := 10, attributes := #[] }])
  fields := #[{ name := "name", type := (.object "java/lang/String"), accessFlags := 18, slot := 0, constantValue := 0 }, { name := "ordinal", type := .int, accessFlags := 18, slot := 1, constantValue := 0 }, { name := "hash", type := .int, accessFlags := 2, slot := 2, constantValue := 0 }]
  methods := #[]
  instanceTypes := #[(.object "java/lang/String"), .int, .int]
  staticTypes := #[]
  resolved := Array.replicate 204 none
  statics := none }

def pool6 : Array CpInfo := pool [(1, .class_ 2), (0, u "com/example/schemactl/schemactl/MigrationState"), (2, u "APPLIED"), (0, u "Lcom/example/schemactl/schemactl/MigrationState;"), (2, u "PENDING"), (2, u "OUTDATED"), (2, u "CHANGED"), (2, u "MISSING"), (2, u "NEWER"), (2, u "OUT_OF_ORDER"), (2, u "FAILED"), (2, u "INCOMPLETE"), (2, u "INTERRUPTED"), (2, u "APPLYING"), (2, u "BASELINE"), (2, u "BELOW_BASELINE"), (2, u "$VALUES"), (0, u "[Lcom/example/schemactl/schemactl/MigrationState;"), (6, .class_ 55), (1, u "java/lang/Enum"), (11, u "label"), (0, u "Ljava/lang/String;"), (0, .fieldref 1 70), (0, .nameAndType 71 68), (0, u "reportWord"), (0, .fieldref 1 73), (0, .nameAndType 74 68), (0, u "reason"), (115, u "()Ljava/lang/String;"), (0, u "isProblem"), (0, u "()Z")] 31

def k6c0 : Code := { maxStack := 1, maxLocals := 1, code := prog_14_method_6_code, exceptionTable := #[], attributes := #[] }
def k6m0 : Method := { name := "isProblem", desc := "()Z", sig := { parameters := [], returnType := some .boolean }, accessFlags := 1, code := some k6c0 }
def k6c1 : Code := { maxStack := 1, maxLocals := 1, code := prog_14_method_7_code, exceptionTable := #[], attributes := #[] }
def k6m1 : Method := { name := "reportWord", desc := "()Ljava/lang/String;", sig := { parameters := [], returnType := some (.object "java/lang/String") }, accessFlags := 0, code := some k6c1 }
/-- com/example/schemactl/schemactl/MigrationState -/
def k6 : Class := { plain "com/example/schemactl/schemactl/MigrationState" (some 5) with
  accessFlags := 16433
  interfaces := #[]
  cf := some (fileOf pool6 1 #[] #[{ accessFlags := 1, nameIndex := 191, descriptorIndex := 192, attributes := #[] }, { accessFlags := 0, nameIndex := 71, descriptorIndex := 190, attributes := #[] }] 16433 53 #[] #[{ accessFlags := 16409, nameIndex := 5, descriptorIndex := 6, attributes := #[] }, { accessFlags := 16409, nameIndex := 9, descriptorIndex := 6, attributes := #[] }, { accessFlags := 16409, nameIndex := 12, descriptorIndex := 6, attributes := #[] }, { accessFlags := 16409, nameIndex := 15, descriptorIndex := 6, attributes := #[] }, { accessFlags := 16409, nameIndex := 18, descriptorIndex := 6, attributes := #[] }, { accessFlags := 16409, nameIndex := 21, descriptorIndex := 6, attributes := #[] }, { accessFlags := 16409, nameIndex := 24, descriptorIndex := 6, attributes := #[] }, { accessFlags := 16409, nameIndex := 27, descriptorIndex := 6, attributes := #[] }, { accessFlags := 16409, nameIndex := 30, descriptorIndex := 6, attributes := #[] }, { accessFlags := 16409, nameIndex := 33, descriptorIndex := 6, attributes := #[] }, { accessFlags := 16409, nameIndex := 36, descriptorIndex := 6, attributes := #[] }, { accessFlags := 16409, nameIndex := 39, descriptorIndex := 6, attributes := #[] }, { accessFlags := 16409, nameIndex := 42, descriptorIndex := 6, attributes := #[] }, { accessFlags := 18, nameIndex := 67, descriptorIndex := 68, attributes := #[] }, { accessFlags := 18, nameIndex := 71, descriptorIndex := 68, attributes := #[] }, { accessFlags := 18, nameIndex := 74, descriptorIndex := 68, attributes := #[] }, { accessFlags := 4122, nameIndex := 45, descriptorIndex := 46, attributes := #[] }])
  fields := #[{ name := "APPLIED", type := (.object "com/example/schemactl/schemactl/MigrationState"), accessFlags := 16409, slot := 0, constantValue := 0 }, { name := "PENDING", type := (.object "com/example/schemactl/schemactl/MigrationState"), accessFlags := 16409, slot := 1, constantValue := 0 }, { name := "OUTDATED", type := (.object "com/example/schemactl/schemactl/MigrationState"), accessFlags := 16409, slot := 2, constantValue := 0 }, { name := "CHANGED", type := (.object "com/example/schemactl/schemactl/MigrationState"), accessFlags := 16409, slot := 3, constantValue := 0 }, { name := "MISSING", type := (.object "com/example/schemactl/schemactl/MigrationState"), accessFlags := 16409, slot := 4, constantValue := 0 }, { name := "NEWER", type := (.object "com/example/schemactl/schemactl/MigrationState"), accessFlags := 16409, slot := 5, constantValue := 0 }, { name := "OUT_OF_ORDER", type := (.object "com/example/schemactl/schemactl/MigrationState"), accessFlags := 16409, slot := 6, constantValue := 0 }, { name := "FAILED", type := (.object "com/example/schemactl/schemactl/MigrationState"), accessFlags := 16409, slot := 7, constantValue := 0 }, { name := "INCOMPLETE", type := (.object "com/example/schemactl/schemactl/MigrationState"), accessFlags := 16409, slot := 8, constantValue := 0 }, { name := "INTERRUPTED", type := (.object "com/example/schemactl/schemactl/MigrationState"), accessFlags := 16409, slot := 9, constantValue := 0 }, { name := "APPLYING", type := (.object "com/example/schemactl/schemactl/MigrationState"), accessFlags := 16409, slot := 10, constantValue := 0 }, { name := "BASELINE", type := (.object "com/example/schemactl/schemactl/MigrationState"), accessFlags := 16409, slot := 11, constantValue := 0 }, { name := "BELOW_BASELINE", type := (.object "com/example/schemactl/schemactl/MigrationState"), accessFlags := 16409, slot := 12, constantValue := 0 }, { name := "label", type := (.object "java/lang/String"), accessFlags := 18, slot := 3, constantValue := 0 }, { name := "reportWord", type := (.object "java/lang/String"), accessFlags := 18, slot := 4, constantValue := 0 }, { name := "reason", type := (.object "java/lang/String"), accessFlags := 18, slot := 5, constantValue := 0 }, { name := "$VALUES", type := (.array (.object "com/example/schemactl/schemactl/MigrationState")), accessFlags := 4122, slot := 13, constantValue := 0 }]
  methods := #[k6m0, k6m1]
  instanceTypes := #[(.object "java/lang/String"), .int, .int, (.object "java/lang/String"), (.object "java/lang/String"), (.object "java/lang/String")]
  staticTypes := #[(.object "com/example/schemactl/schemactl/MigrationState"), (.object "com/example/schemactl/schemactl/MigrationState"), (.object "com/example/schemactl/schemactl/MigrationState"), (.object "com/example/schemactl/schemactl/MigrationState"), (.object "com/example/schemactl/schemactl/MigrationState"), (.object "com/example/schemactl/schemactl/MigrationState"), (.object "com/example/schemactl/schemactl/MigrationState"), (.object "com/example/schemactl/schemactl/MigrationState"), (.object "com/example/schemactl/schemactl/MigrationState"), (.object "com/example/schemactl/schemactl/MigrationState"), (.object "com/example/schemactl/schemactl/MigrationState"), (.object "com/example/schemactl/schemactl/MigrationState"), (.object "com/example/schemactl/schemactl/MigrationState"), (.array (.object "com/example/schemactl/schemactl/MigrationState"))]
  resolved := Array.replicate 224 none
  statics := some 0 }

def pool7 : Array CpInfo := pool [(2, .class_ 4), (1, u "java/lang/CharSequence"), (42, .class_ 48), (0, u "java/lang/CharSequence$1CodePointIterator"), (10, .class_ 60), (0, u "java/lang/CharSequence$1CharIterator"), (5, .class_ 67), (0, u "java/lang/Object")] 63

/-- java/lang/CharSequence -/
def k7 : Class := { plain "java/lang/CharSequence" (some 0) with
  accessFlags := 1537
  interfaces := #[]
  cf := some (fileOf pool7 2 #[.nestMembers #[47, 59]] #[] 1537 66 #[] #[])
  fields := #[]
  methods := #[]
  instanceTypes := #[]
  staticTypes := #[]
  resolved := Array.replicate 131 none
  statics := none }

def pool8 : Array CpInfo := pool [(1, .class_ 2), (0, u "java/lang/constant/ConstantDesc"), (0, .class_ 4), (0, u "java/lang/Object")] 32

/-- java/lang/constant/ConstantDesc -/
def k8 : Class := { plain "java/lang/constant/ConstantDesc" (some 0) with
  accessFlags := 1537
  interfaces := #[]
  cf := some (fileOf pool8 1 #[] #[] 1537 3 #[] #[])
  fields := #[]
  methods := #[]
  instanceTypes := #[]
  staticTypes := #[]
  resolved := Array.replicate 37 none
  statics := none }

def pool9 : Array CpInfo := pool [(2, .class_ 4), (1, u "java/lang/Object"), (0, u "<init>"), (0, u "()V"), (3, .class_ 12), (1, u "java/lang/String"), (0, u "value"), (0, u "[B"), (2, u "coder"), (0, u "B"), (2, u "hash"), (0, u "I"), (2, u "hashIsZero"), (0, u "Z"), (13, u "COMPACT_STRINGS"), (534, .class_ 576), (0, u "java/lang/CharSequence"), (22, u "CASE_INSENSITIVE_ORDER"), (0, u "Ljava/util/Comparator;"), (500, u "serialPersistentFields"), (0, u "[Ljava/io/ObjectStreamField;"), (0, .class_ 1104), (0, u "java/lang/String$CaseInsensitiveComparator"), (1, .class_ 1107), (0, u "java/io/Serializable"), (0, .class_ 1109), (0, u "java/lang/Comparable"), (0, .class_ 1111), (0, u "java/lang/constant/Constable"), (0, .class_ 1113), (0, u "java/lang/constant/ConstantDesc"), (2, u "serialVersionUID"), (0, u "J"), (3, u "REPL"), (0, u "C"), (2, u "LATIN1"), (1, u "UTF16")] 323

def k9m0 : Method := { name := "<init>", desc := "()V", sig := { parameters := [], returnType := none }, accessFlags := 1, code := none }
/-- java/lang/String -/
def k9 : Class := { plain "java/lang/String" (some 0) with
  accessFlags := 49
  interfaces := #[4, 3, 7, 2, 8]
  cf := some (fileOf pool9 10 #[.nestMembers #[1103]] #[{ accessFlags := 1, nameIndex := 5, descriptorIndex := 6, attributes := #[] }] 49 2 #[1106, 1108, 575, 1110, 1112] #[{ accessFlags := 18, nameIndex := 13, descriptorIndex := 14, attributes := #[] }, { accessFlags := 18, nameIndex := 17, descriptorIndex := 18, attributes := #[] }, { accessFlags := 2, nameIndex := 21, descriptorIndex := 22, attributes := #[] }, { accessFlags := 2, nameIndex := 25, descriptorIndex := 26, attributes := #[] }, { accessFlags := 26, nameIndex := 1116, descriptorIndex := 1117, attributes := #[] }, { accessFlags := 24, nameIndex := 40, descriptorIndex := 26, attributes := #[] }, { accessFlags := 26, nameIndex := 1101, descriptorIndex := 1102, attributes := #[] }, { accessFlags := 26, nameIndex := 1121, descriptorIndex := 1122, attributes := #[] }, { accessFlags := 25, nameIndex := 599, descriptorIndex := 600, attributes := #[] }, { accessFlags := 24, nameIndex := 1125, descriptorIndex := 18, attributes := #[] }, { accessFlags := 24, nameIndex := 1127, descriptorIndex := 18, attributes := #[] }])
  fields := #[{ name := "value", type := (.array .byte), accessFlags := 18, slot := 0, constantValue := 0 }, { name := "coder", type := .byte, accessFlags := 18, slot := 1, constantValue := 0 }, { name := "hash", type := .int, accessFlags := 2, slot := 2, constantValue := 0 }, { name := "hashIsZero", type := .boolean, accessFlags := 2, slot := 3, constantValue := 0 }, { name := "serialVersionUID", type := .long, accessFlags := 26, slot := 0, constantValue := 0 }, { name := "COMPACT_STRINGS", type := .boolean, accessFlags := 24, slot := 1, constantValue := 0 }, { name := "serialPersistentFields", type := (.array (.object "java/io/ObjectStreamField")), accessFlags := 26, slot := 2, constantValue := 0 }, { name := "REPL", type := .char, accessFlags := 26, slot := 3, constantValue := 0 }, { name := "CASE_INSENSITIVE_ORDER", type := (.object "java/util/Comparator"), accessFlags := 25, slot := 4, constantValue := 0 }, { name := "LATIN1", type := .byte, accessFlags := 24, slot := 5, constantValue := 0 }, { name := "UTF16", type := .byte, accessFlags := 24, slot := 6, constantValue := 0 }]
  methods := #[k9m0]
  instanceTypes := #[(.array .byte), .byte, .int, .boolean]
  staticTypes := #[.long, .boolean, (.array (.object "java/io/ObjectStreamField")), .char, (.object "java/util/Comparator"), .byte, .byte]
  resolved := Array.replicate 1451 none
  statics := none }

def pool10 : Array CpInfo := pool [(1, u "java/lang/Cloneable"), (0, .class_ 1), (0, u "java/lang/Object"), (0, .class_ 3)] 3

/-- java/lang/Cloneable -/
def k10 : Class := { plain "java/lang/Cloneable" (some 0) with
  accessFlags := 1537
  interfaces := #[]
  cf := some (fileOf pool10 2 #[] #[] 1537 4 #[] #[])
  fields := #[]
  methods := #[]
  instanceTypes := #[]
  staticTypes := #[]
  resolved := Array.replicate 8 none
  statics := none }

/-- the primitive byte -/
def k11 : Class := { plain "byte" none with kind := .primitive 'B', accessFlags := 0x411 }
/-- [B -/
def k12 : Class := { plain "[B" (some 0) with kind := .array 11 .byte, interfaces := #[10, 4], accessFlags := 1041 }

/-- the primitive int -/
def k13 : Class := { plain "int" none with kind := .primitive 'I', accessFlags := 0x411 }
/-- [I -/
def k14 : Class := { plain "[I" (some 0) with kind := .array 13 .int, interfaces := #[10, 4], accessFlags := 1041 }

def heap : Heap := #[{ cls := 6, slots := #[.ref 2, .ref 2, .ref 2, .ref 3, .ref 3, .ref 2, .ref 3, .ref 3, .ref 2, .ref 3, .ref 2, .ref 2, .ref 2, .null], vm := .statics 6 },
  { cls := 9, slots := #[.null, .int 0, .int 0, .int 0], vm := .none },
  { cls := 6, slots := #[.null, .int 0, .int 0, .null, .null, .null], vm := .none },
  { cls := 6, slots := #[.null, .int 0, .int 0, .ref 1, .ref 1, .ref 1], vm := .none }]
def classes : Array Class := #[k0, k1, k2, k3, k4, k5, k6, k7, k8, k9, k10, k11, k12, k13, k14]
def interned : List (Array UInt16 × Addr) := []
def slotsUsed : Nat := 30
def theMethod : MethodId := ⟨1, 1⟩
def args0 : Array Value := #[.int 5]
def aboutOver (below : List Frame) : State where
  vm := { classes := classes, interned := interned.toArray }
  heap := heap
  slotsUsed := slotsUsed
  threads := #[{ frames := .invoking theMethod args0 :: below }]
def below0 : List Frame := [.native { method := ⟨0, 0⟩, args := #[] }]
def about1 : State := aboutOver below0
def p0 : Program := .bare "" "" ""
def e0 : Env := launch0.env 0 0 0
theorem w_frames : about1.frames = Frame.invoking theMethod args0 :: below0 := rfl
set_option maxRecDepth 65536 in
theorem w_args : argsFit about1.vm theMethod args0 = true := by decide +kernel
set_option maxRecDepth 65536 in
theorem w_heap : heapFits about1 = true := by decide +kernel
set_option maxRecDepth 65536 in
theorem w_runnable : about1.curStatus? = some .runnable := by decide +kernel
set_option maxRecDepth 65536 in
theorem w_alone : about1.alone = true := by decide +kernel
set_option maxRecDepth 65536 in
theorem w_named : about1.methodNamed? x = some theMethod := by decide +kernel
set_option maxRecDepth 65536 in
theorem w_hears : about1.hears theMethod below0 = true := by decide +kernel
set_option maxRecDepth 65536 in
theorem w_ripe : about1.ripe theMethod args0 below0 = true := by decide +kernel
theorem w_running : about1.status = .running := rfl
set_option maxRecDepth 65536 in
theorem w_room : about1.hasRoom e0.platform room_1 = true :=
  launch0.hasRoom_least _ room_1 (by decide +kernel) (by decide +kernel) (by decide +kernel) (by decide +kernel) (by decide +kernel) (by decide +kernel)
theorem allAtoms_all (ts : List Jvm.Cond) (a : Array Jvm.Value) (st : Jvm.State) : (allAtoms ts).before a st = ts.all (fun c => c.before a st) := by
  induction ts with
  | nil => rfl
  | cons c t ih =>
    show (Jvm.Cond.and c (allAtoms t)).before a st = _
    rw [Jvm.Cond.before_and, ih, List.all_cons]
def words1 : List Jvm.Cond := Jvm.Cond.code x code maxLocals ret :: tables_1
/-- a 'code' word, met by the world's own term for the bytes: nothing is compared byte by byte -/
theorem code_word {y : MethodName} {bytes : ByteArray} {mx : Nat} {rt : Option FieldType} {a : Array Value} {s : State} {m : MethodId} {meth : Method} {c : Code} (h1 : s.methodNamed? y = some m) (h2 : s.vm.method? m = some meth) (h3 : meth.code = some c) (h4 : c.code = bytes)
    (h5 : (c.maxLocals == mx && c.exceptionTable.isEmpty && decide (c.maxStack ≤ mostOperands) && decide (meth.sig.returnType = rt) && !meth.locks && decide (parseMethodDescriptor y.desc = some meth.sig)) = true) : (Jvm.Cond.code y bytes mx rt).before a s = true := by
  simp only [Bool.and_eq_true, beq_iff_eq, Bool.not_eq_true', decide_eq_true_eq] at h5
  obtain ⟨⟨⟨⟨⟨g1, g2⟩, g3⟩, g4⟩, g5⟩, g6⟩ := h5
  simp [Cond.before, Cond.holds, Cond.value, h1, h2, h3, h4, g1, g2, g3, g4, g5, g6]
def isCode : Jvm.Cond → Bool
  | .code _ _ _ _ => true
  | _ => false
theorem all_split {L : List Jvm.Cond} {P : Jvm.Cond → Bool} (h1 : L.all (fun c => isCode c || P c) = true) (h2 : ∀ c ∈ L.filter isCode, P c = true) : L.all P = true := by
  refine List.all_eq_true.mpr fun c hc => ?_
  have h := List.all_eq_true.mp h1 c hc
  rcases Bool.eq_false_or_eq_true (isCode c) with hi | hi
  · exact h2 c (List.mem_filter.mpr ⟨hc, hi⟩)
  · simpa [hi] using h
set_option maxRecDepth 65536 in
theorem w_c0 : (Jvm.Cond.code x code maxLocals ret).before args0 about1 = true := code_word (m := ⟨1, 1⟩) (meth := k1m1) (c := k1c1) (by decide +kernel) rfl rfl rfl (by decide +kernel)
set_option maxRecDepth 65536 in
theorem w_c1 : (Jvm.Cond.code ({ cls := "com/example/schemactl/schemactl/MigrationStateIsProblemPinLaw", name := "pick", desc := "(I)Lcom/example/schemactl/schemactl/MigrationState;" } : Jvm.MethodName) method_3_code (1 : Nat) (Option.some (Jvm.ClassFile.FieldType.object "com/example/schemactl/schemactl/MigrationState"))).before args0 about1 = true := code_word (m := ⟨1, 2⟩) (meth := k1m2) (c := k1c2) (by decide +kernel) rfl rfl rfl (by decide +kernel)
set_option maxRecDepth 65536 in
theorem w_c2 : (Jvm.Cond.code ({ cls := "com/example/schemactl/schemactl/MigrationState", name := "isProblem", desc := "()Z" } : Jvm.MethodName) prog_14_method_6_code (1 : Nat) (Option.some Jvm.ClassFile.FieldType.boolean)).before args0 about1 = true := code_word (m := ⟨6, 0⟩) (meth := k6m0) (c := k6c0) (by decide +kernel) rfl rfl rfl (by decide +kernel)
set_option maxRecDepth 65536 in
theorem w_c3 : (Jvm.Cond.code ({ cls := "com/example/schemactl/schemactl/MigrationState", name := "reportWord", desc := "()Ljava/lang/String;" } : Jvm.MethodName) prog_14_method_7_code (1 : Nat) (Option.some (Jvm.ClassFile.FieldType.object "java/lang/String"))).before args0 about1 = true := code_word (m := ⟨6, 1⟩) (meth := k6m1) (c := k6c1) (by decide +kernel) rfl rfl rfl (by decide +kernel)
def codes1 : List Jvm.Cond := [Jvm.Cond.code x code maxLocals ret, Jvm.Cond.code ({ cls := "com/example/schemactl/schemactl/MigrationStateIsProblemPinLaw", name := "pick", desc := "(I)Lcom/example/schemactl/schemactl/MigrationState;" } : Jvm.MethodName) method_3_code (1 : Nat) (Option.some (Jvm.ClassFile.FieldType.object "com/example/schemactl/schemactl/MigrationState")), Jvm.Cond.code ({ cls := "com/example/schemactl/schemactl/MigrationState", name := "isProblem", desc := "()Z" } : Jvm.MethodName) prog_14_method_6_code (1 : Nat) (Option.some Jvm.ClassFile.FieldType.boolean), Jvm.Cond.code ({ cls := "com/example/schemactl/schemactl/MigrationState", name := "reportWord", desc := "()Ljava/lang/String;" } : Jvm.MethodName) prog_14_method_7_code (1 : Nat) (Option.some (Jvm.ClassFile.FieldType.object "java/lang/String"))]
set_option maxRecDepth 65536 in
theorem codes_eq : words1.filter isCode = codes1 := rfl
theorem w_codes : ∀ c ∈ words1.filter isCode, c.before args0 about1 = true := by
  rw [codes_eq]
  intro c hc
  simp only [codes1, List.mem_cons, List.not_mem_nil, or_false] at hc
  rcases hc with rfl | rfl | rfl | rfl
  · exact w_c0
  · exact w_c1
  · exact w_c2
  · exact w_c3
set_option maxRecDepth 65536 in
theorem w_t1 : (words1.take 24).all (fun c => isCode c || c.before args0 about1) = true := by decide +kernel
set_option maxRecDepth 65536 in
theorem w_t2 : (words1.drop 24).all (fun c => isCode c || c.before args0 about1) = true := by decide +kernel
theorem w_tables : (allAtoms (Jvm.Cond.code x code maxLocals ret :: tables_1)).before args0 about1 = true := by
  rw [allAtoms_all]
  show words1.all (fun c => c.before args0 about1) = true
  refine all_split ?_ w_codes
  rw [← List.take_append_drop 24 words1, List.all_append, w_t1, w_t2]
  rfl
set_option maxRecDepth 65536 in
theorem w_case : (Jvm.Cond.and given_1 narrow_1).before args0 about1 = true := by decide +kernel
theorem w_applies : (headSpec (Jvm.Cond.code x code maxLocals ret :: tables_1) room_1).applies x e0.platform about1 = true :=
  (Spec.applies_iff w_frames).mpr ⟨w_running, w_runnable, w_alone, w_named, w_hears, w_ripe, w_room, w_tables⟩
theorem atStart : AtStart classFile x code maxLocals ret World_1 tables_1 room_1 Calls_1 rest_1 Pre_1 launch0 p0 e0 about1 theMethod args0 below0 :=
  ⟨lists_1, trivial, launch0.admits_env _ _ _, launch0.least_env, fairChoices_fair.cas, fairChoices_fair.clock, w_frames, w_args, w_heap, w_applies, trivial, trivial, w_case⟩
end start1
theorem witness_1 : WitnessClaimed_1 := ⟨start1.p0, start1.e0, start1.about1, start1.theMethod, start1.args0, start1.below0, start1.atStart⟩
end Jvm.Pilot.@@N@@
