import JvmDerived
import JvmDerived.Pilot.@@N@@Statement
import JvmDerived.Pilot.@@N@@Code
set_option linter.unusedVariables false
set_option linter.unusedSimpArgs false
namespace Jvm.RoadKit
open Sem ClassFile Op Lib Jvm.Stand Jvm.Free Jvm.LawKit
section New
variable {p : Program} {l : Launch} {e : Env} {R : Room} {s : State} {m : MethodId} {args : Array Value} {below : List Frame} {meth : Method} {c : Code} {T : State} {locs : List Loc} {cells slots : Nat}
theorem retI (X : Stand p l e R s m args below meth c T locs cells slots) (hx : p.tables.exec = Jvm.exec) {pc : Nat} {Ls : Array Slot} {z : Int32} {rest : List Value} (hret : meth.sig.returnType = some .int) (hd : decode c.code pc = .ok (.ireturn, 1)) {fs : List Frame}
    (hl : ∀ (f : JFrame) (acts : List Action), f.method = m → f.locked = none → f.entered = [] → (doReturn e (T.setTop f) acts (some (.int z))).1 = T.setFrames fs) : Steps p.tables e below (T.setTop (mkF m pc Ls (.int z :: rest))) (T.setFrames fs) := by
  have hm' : T.vm.method? m = some meth := X.method'
  have hn : narrow .int (.int z) = .int z := rfl
  show Steps p.tables e below (T.setTop { method := m, pc := pc, locals := Ls, stack := _ :: rest, locked := none }) _
  jvm_step X.here [X.here.top, hx, hd, hm', hret, hn]
  first | (intro acts; rw [hl _ acts rfl rfl rfl]) | rw [hl _ _ rfl rfl rfl]
  exact Steps.refl _
end New
end Jvm.RoadKit
namespace Jvm.Pilot.@@N@@
open Jvm Jvm.ClassFile Sem Op Lib Jvm.Free Jvm.Stand Jvm.LawKit Jvm.RoadKit Bundle Jvm.Pilot.@@N@@.Jvm.D
theorem own_eq_int {a : Term} {n : Int32} {args : Array Value} {s : State} (h : (Jvm.Cond.eq a (.int n)).value args s none s [] = some true) : a.eval args s none [] s = some (.int n) := by
  obtain ⟨x, y, e1, e2, -, k⟩ := cmp_v (Or.inl h)
  cases (Term.int_eval n).symm.trans e2
  obtain ⟨z, rfl⟩ := k
  have q := gotT (Cond.eq_ints e1 e2) h
  rw [e1, q]
theorem own_eq_ref {a b : Term} {y : Addr} {args : Array Value} {s : State} (h : (Jvm.Cond.eq a b).value args s none s [] = some true) (hb : b.eval args s none [] s = some (.ref y)) : a.eval args s none [] s = some (.ref y) := by
  obtain ⟨x, y', e1, e2, -, k⟩ := cmp_v (Or.inl h)
  cases hb.symm.trans e2
  have q := gotT (eq_R e1 e2 k.2 rfl) h
  rw [e1, q]
theorem catV {v : Value} (h : v.isRef = true) : v.category = 1 := by cases v <;> first | rfl | cases h
theorem fitsV {C : String} {v : Value} (h : v.isRef = true) : fits (.object C) v = true := by cases v <;> first | rfl | cases h
theorem own_k0 : (0 : Int32).toInt = 0 := rfl
theorem own_k1 : (1 : Int32).toInt = 1 := rfl
theorem own_k2 : (2 : Int32).toInt = 2 := rfl
theorem own_k3 : (3 : Int32).toInt = 3 := rfl
theorem own_k4 : (4 : Int32).toInt = 4 := rfl
theorem own_and3 (p : Int32) : (p &&& (3 : Int32)) = (0 : Int32) ∨ (p &&& (3 : Int32)) = (1 : Int32) ∨ (p &&& (3 : Int32)) = (2 : Int32) ∨ (p &&& (3 : Int32)) = (3 : Int32) := by
  have h1 := c_mask p 3 2 (by decide) (by decide)
  simp only [← Int32.toInt_inj, own_k0, own_k1, own_k2, own_k3]
  omega
def own_oc (Z : State) (v : Value) : Prop := v = .null ∨ ∃ a, v = .ref a ∧ Exa Z Z.heap a "com/example/hot_gate/hotgate/bench/Outcome"
theorem own_sto {Z : State} {h : Heap} {a : Addr} {c : Cell} {ty : FieldType} {k : ClassId} {v : Value} (A : Arr Z h a c ty) (q : c.cls = k) (O : Ovr Z k "com/example/hot_gate/hotgate/bench/Outcome") (X : Ext Z.heap h) (u : own_oc Z v) : Sto Z h a v := by
  rcases u with rfl | ⟨y, rfl, I⟩
  · exact Or.inl rfl
  · exact Sto.ofV A q O (Ins.self (I.ext X))
theorem d4_0 : decode jdk_2809_method_2_code 0 = .ok (.aload_n 0, 1) := by decide +kernel
theorem d4_1 : decode jdk_2809_method_2_code 1 = .ok (.invokespecial 1, 3) := by decide +kernel
theorem d4_4 : decode jdk_2809_method_2_code 4 = .ok (.return_, 1) := by decide +kernel
theorem pn_4 : plainName "java/util/concurrent/atomic/AtomicReference" = true := by first | (simp [plainName, overriddenIn]; done) | decide +kernel
theorem ef_rm4 (m : MethodId) (p0 : Addr) : entryFrame m #[(.ref p0)] 1 = mkF m 0 #[.val (.ref p0)] [] := by first | (simp [entryFrame, mkF, argsToLocals, Value.category]; done) | rfl
def Q4 (Z : State) (p0 : Addr) (h0 : Heap) (n0 : Nat) (v : Option Value) (h : Heap) (L : List Loc) : Prop := v = none ∧ Fr n0 L ∧ h = h0
set_option maxRecDepth 65536 in
set_option maxHeartbeats 40000000 in
theorem rm4 (l : Launch) (Z : State) (a0 : Array Value) (hw : ∀ d ∈ tables_1, d.before a0 Z = true) (ws : List Jvm.Cond) (p0 : Addr) (h0 : Heap) (n0 : Nat) (O0 : Old Z n0 h0) :
    MetFree l (⟨"java/util/concurrent/atomic/AtomicReference", "<init>", "()V"⟩ : MethodName) (head1 (Jvm.Cond.code (⟨"java/util/concurrent/atomic/AtomicReference", "<init>", "()V"⟩ : MethodName) jdk_2809_method_2_code 1 none :: ws) ({ frames := 1, cells := 0, slots := 0, locals := 12 } : Room)) (fun a U => a = #[(.ref p0)] ∧ Z.Warmed39 U.vm ∧ U.heap = h0) (fun _ _ _ _ _ => True) (fun _ U o U' => ∃ v L, o = .returned v ∧ Q4 Z p0 h0 n0 v U'.heap L ∧ FrameEnd U o U' L ({ frames := 1, cells := 0, slots := 0, locals := 12 } : Room).cells ({ frames := 1, cells := 0, slots := 0, locals := 12 } : Room).slots) := by
  refine MetFree.of_bodySF (plainFor_of_name pn_4) hisR ?_
  intro p e s m args below meth c s₁ Bd hml0 hP hK
  obtain ⟨rfl, hZ, hh⟩ := hP
  have hx := Bd.exec
  have hby := Bd.bytes
  have hml : c.maxLocals = 1 := hml0
  have hown : s.vm.findClass "java/util/concurrent/atomic/AtomicReference" = some m.cls := findClass_of_methodNamed Bd.named
  have hnm := (name_of_methodNamed Bd.named Bd.method).1
  have X0 : Stand p l e ({ frames := 1, cells := 0, slots := 0, locals := 12 } : Room) s m #[(.ref p0)] below meth c s₁ [] 0 0 := Stand.of_body Bd
  have e0 : s₁.heap = h0 := by rw [← hh, Bd.state]; rfl
  have N0 := Fr.nil n0
  have s0 : Steps p.tables e below (s₁.setTop (entryFrame m #[(.ref p0)] 1)) (s₁.setTop (mkF m 0 #[.val (.ref p0)] [])) := castTop (ef_rm4 m p0) (Steps.refl _)
  obtain ⟨T1, X1, e1, st1⟩ := initO X0 hx hZ hown (hw _ (List.mem_of_getElem? (i := 29) rfl)) (hw _ (List.mem_of_getElem? (i := 21) rfl)) (hw _ (List.mem_of_getElem? (i := 22) rfl)) e0 (g := (mkF m 1 #[.val (.ref p0)] [(.ref p0)])) rfl (by rw [hml]; rfl) rfl (hb hby d4_1) (by decide) (W := 0) (by show 2 * 0 + _ ≤ _; exact Nat.le_of_eq rfl) (by decide)
  have s2 : Steps p.tables e below (s₁.setTop (entryFrame m #[(.ref p0)] 1)) (T1.setTop (mkF m 4 #[.val (.ref p0)] [])) := by
    refine s0.trans ?_
    show Steps p.tables e below (s₁.setTop (mkF m 0 #[.val (.ref p0)] [])) _
    refine XS.aloadN X0.here hx rfl (hb hby d4_0) rfl rfl ?_
    show Steps p.tables e below (s₁.setTop (mkF m 1 #[.val (.ref p0)] [(.ref p0)])) _
    refine st1 _ ?_
    exact Steps.refl _
  obtain ⟨fs, hr, hrun, hended, hW, hsame⟩ := X1.leave (v := none) (fun _ => rfl)
  refine ⟨_, _, s2.trans ?_, hrun, hended, _, _, rfl, ?_, ⟨_, rfl⟩, hW, hsame.mono (by decide) (by decide)⟩
  · show Steps p.tables e below (T1.setTop (mkF m 4 #[.val (.ref p0)] [])) _
    exact X1.returnOut hx Bd.returns (hb hby d4_4) hr
  · show Q4 Z p0 h0 n0 _ T1.heap _
    rw [e1]
    exact ⟨rfl, N0, rfl⟩
theorem d1_0 : decode method_3_code 0 = .ok (.iload_n 0, 1) := by decide +kernel
theorem d1_1 : decode method_3_code 1 = .ok (.ldc 28, 2) := by decide +kernel
theorem d1_3 : decode method_3_code 3 = .ok (.iand, 1) := by decide +kernel
theorem d1_4 : decode method_3_code 4 = .ok (.iconst 5, 1) := by decide +kernel
theorem d1_5 : decode method_3_code 5 = .ok (.irem, 1) := by decide +kernel
theorem d1_6 : decode method_3_code 6 = .ok (.istore_n 1, 1) := by decide +kernel
theorem d1_7 : decode method_3_code 7 = .ok (.iload_n 1, 1) := by decide +kernel
theorem d1_8 : decode method_3_code 8 = .ok (.ifCond .ne 7, 3) := by decide +kernel
theorem d1_11 : decode method_3_code 11 = .ok (.getstatic 29, 3) := by decide +kernel
theorem d1_14 : decode method_3_code 14 = .ok (.areturn, 1) := by decide +kernel
theorem d1_15 : decode method_3_code 15 = .ok (.iload_n 1, 1) := by decide +kernel
theorem d1_16 : decode method_3_code 16 = .ok (.iconst 1, 1) := by decide +kernel
theorem d1_17 : decode method_3_code 17 = .ok (.if_icmp .ne 7, 3) := by decide +kernel
theorem d1_20 : decode method_3_code 20 = .ok (.getstatic 35, 3) := by decide +kernel
theorem d1_23 : decode method_3_code 23 = .ok (.areturn, 1) := by decide +kernel
theorem d1_24 : decode method_3_code 24 = .ok (.iload_n 1, 1) := by decide +kernel
theorem d1_25 : decode method_3_code 25 = .ok (.iconst 2, 1) := by decide +kernel
theorem d1_26 : decode method_3_code 26 = .ok (.if_icmp .ne 7, 3) := by decide +kernel
theorem d1_29 : decode method_3_code 29 = .ok (.getstatic 38, 3) := by decide +kernel
theorem d1_32 : decode method_3_code 32 = .ok (.areturn, 1) := by decide +kernel
theorem d1_33 : decode method_3_code 33 = .ok (.iload_n 1, 1) := by decide +kernel
theorem d1_34 : decode method_3_code 34 = .ok (.iconst 3, 1) := by decide +kernel
theorem d1_35 : decode method_3_code 35 = .ok (.if_icmp .ne 7, 3) := by decide +kernel
theorem d1_38 : decode method_3_code 38 = .ok (.getstatic 41, 3) := by decide +kernel
theorem d1_41 : decode method_3_code 41 = .ok (.areturn, 1) := by decide +kernel
theorem d1_42 : decode method_3_code 42 = .ok (.aconst_null, 1) := by decide +kernel
theorem d1_43 : decode method_3_code 43 = .ok (.areturn, 1) := by decide +kernel
theorem pn_1 : plainName "com/example/hot_gate/hotgate/bench/RepliesCountPinLaw" = true := by first | (simp [plainName, overriddenIn]; done) | decide +kernel
theorem ef_rm1 (m : MethodId) (p0 : Int32) : entryFrame m #[(.int p0)] 2 = mkF m 0 #[.val (.int p0), .unset] [] := by first | (simp [entryFrame, mkF, argsToLocals, Value.category]; done) | rfl
def Q1 (Z : State) (p0 : Int32) (v_ERROR : Addr) (v_SOLD_OUT : Addr) (v_ALREADY_CLAIMED : Addr) (v_ACCEPTED : Addr) (h0 : Heap) (n0 : Nat) (v : Option Value) (h : Heap) (L : List Loc) : Prop := ∃ u : Value, v = some u ∧ Fr n0 L ∧ h = h0 ∧ (u.isRef = true) ∧ (own_oc Z u)
set_option maxRecDepth 65536 in
set_option maxHeartbeats 40000000 in
theorem rm1 (l : Launch) (Z : State) (a0 : Array Value) (hw : ∀ d ∈ tables_1, d.before a0 Z = true) (ws : List Jvm.Cond) (p0 : Int32) (v_ERROR : Addr) (v_SOLD_OUT : Addr) (v_ALREADY_CLAIMED : Addr) (v_ACCEPTED : Addr) (h0 : Heap) (n0 : Nat) (O0 : Old Z n0 h0) (F0_ : Sta Z Z.heap "com/example/hot_gate/hotgate/bench/Outcome" "ERROR" "Lcom/example/hot_gate/hotgate/bench/Outcome;" (.ref v_ERROR)) (F1_ : Exa Z Z.heap v_ERROR "com/example/hot_gate/hotgate/bench/Outcome") (F2_ : Sta Z Z.heap "com/example/hot_gate/hotgate/bench/Outcome" "SOLD_OUT" "Lcom/example/hot_gate/hotgate/bench/Outcome;" (.ref v_SOLD_OUT)) (F3_ : Exa Z Z.heap v_SOLD_OUT "com/example/hot_gate/hotgate/bench/Outcome") (F4_ : Sta Z Z.heap "com/example/hot_gate/hotgate/bench/Outcome" "ALREADY_CLAIMED" "Lcom/example/hot_gate/hotgate/bench/Outcome;" (.ref v_ALREADY_CLAIMED)) (F5_ : Exa Z Z.heap v_ALREADY_CLAIMED "com/example/hot_gate/hotgate/bench/Outcome") (F6_ : Sta Z Z.heap "com/example/hot_gate/hotgate/bench/Outcome" "ACCEPTED" "Lcom/example/hot_gate/hotgate/bench/Outcome;" (.ref v_ACCEPTED)) (F7_ : Exa Z Z.heap v_ACCEPTED "com/example/hot_gate/hotgate/bench/Outcome") :
    MetFree l (⟨"com/example/hot_gate/hotgate/bench/RepliesCountPinLaw", "pick", "(I)Lcom/example/hot_gate/hotgate/bench/Outcome;"⟩ : MethodName) (head1 (Jvm.Cond.code (⟨"com/example/hot_gate/hotgate/bench/RepliesCountPinLaw", "pick", "(I)Lcom/example/hot_gate/hotgate/bench/Outcome;"⟩ : MethodName) method_3_code 2 (some (.object "com/example/hot_gate/hotgate/bench/Outcome")) :: ws) ({ frames := 0, cells := 0, slots := 0, locals := 0 } : Room)) (fun a U => a = #[(.int p0)] ∧ Z.Warmed39 U.vm ∧ U.heap = h0) (fun _ _ _ _ _ => True) (fun _ U o U' => ∃ v L, o = .returned v ∧ Q1 Z p0 v_ERROR v_SOLD_OUT v_ALREADY_CLAIMED v_ACCEPTED h0 n0 v U'.heap L ∧ FrameEnd U o U' L ({ frames := 0, cells := 0, slots := 0, locals := 0 } : Room).cells ({ frames := 0, cells := 0, slots := 0, locals := 0 } : Room).slots) := by
  refine MetFree.of_bodySF (plainFor_of_name pn_1) hisR ?_
  intro p e s m args below meth c s₁ Bd hml0 hP hK
  obtain ⟨rfl, hZ, hh⟩ := hP
  have hx := Bd.exec
  have hby := Bd.bytes
  have hml : c.maxLocals = 2 := hml0
  have hown : s.vm.findClass "com/example/hot_gate/hotgate/bench/RepliesCountPinLaw" = some m.cls := findClass_of_methodNamed Bd.named
  have hnm := (name_of_methodNamed Bd.named Bd.method).1
  have X0 : Stand p l e ({ frames := 0, cells := 0, slots := 0, locals := 0 } : Room) s m #[(.int p0)] below meth c s₁ [] 0 0 := Stand.of_body Bd
  have e0 : s₁.heap = h0 := by rw [← hh, Bd.state]; rfl
  have N0 := Fr.nil n0
  have s0 : Steps p.tables e below (s₁.setTop (entryFrame m #[(.int p0)] 2)) (s₁.setTop (mkF m 0 #[.val (.int p0), .unset] [])) := castTop (ef_rm1 m p0) (Steps.refl _)
  have s1 : Steps p.tables e below (s₁.setTop (entryFrame m #[(.int p0)] 2)) (s₁.setTop (mkF m 6 #[.val (.int p0), .unset] [(.int ((p0 &&& (2147483647 : Int32)) % (5 : Int32)))])) := by
    refine s0.trans ?_
    show Steps p.tables e below (s₁.setTop (mkF m 0 #[.val (.int p0), .unset] [])) _
    refine XS.iloadN X0.here hx rfl (hb hby d1_0) rfl ?_
    show Steps p.tables e below (s₁.setTop (mkF m 1 #[.val (.int p0), .unset] [(.int p0)])) _
    refine X0.ldcInt hx hown (mvT hZ (hw _ (List.mem_of_getElem? (i := 4) rfl))) (g := (mkF m 1 #[.val (.int p0), .unset] [(.int p0)])) rfl (hb hby d1_1) _ ?_
    show Steps p.tables e below (s₁.setTop (mkF m 3 #[.val (.int p0), .unset] [(.int (2147483647 : Int32)), (.int p0)])) _
    refine XS.iand X0.here hx rfl (hb hby d1_3) rfl ?_
    show Steps p.tables e below (s₁.setTop (mkF m 4 #[.val (.int p0), .unset] [(.int (p0 &&& (2147483647 : Int32)))])) _
    refine XS.iconst X0.here hx rfl (hb hby d1_4) ?_
    show Steps p.tables e below (s₁.setTop (mkF m 5 #[.val (.int p0), .unset] [(.int (5 : Int32)), (.int (p0 &&& (2147483647 : Int32)))])) _
    refine Jvm.RoadKit.iremM (g := (mkF m 5 #[.val (.int p0), .unset] [(.int (5 : Int32)), (.int (p0 &&& (2147483647 : Int32)))])) X0 hx rfl (hb hby d1_5) rfl (by decide) ?_
    exact Steps.refl _
  obtain ⟨i, hi⟩ : ∃ z, z = ((p0 &&& (2147483647 : Int32)) % (5 : Int32)) := ⟨_, rfl⟩
  have s2 := s1
  rw [← hi] at s2
  have s3 : Steps p.tables e below (s₁.setTop (entryFrame m #[(.int p0)] 2)) (s₁.setTop (mkF m 8 #[.val (.int p0), .val (.int i)] [(.int i)])) := by
    refine s2.trans ?_
    show Steps p.tables e below (s₁.setTop (mkF m 6 #[.val (.int p0), .unset] [(.int i)])) _
    refine XS.istoreN X0.here hx rfl (hb hby d1_6) rfl (l' := #[.val (.int p0), .val (.int i)]) rfl ?_
    show Steps p.tables e below (s₁.setTop (mkF m 7 #[.val (.int p0), .val (.int i)] [])) _
    refine XS.iloadN X0.here hx rfl (hb hby d1_7) rfl ?_
    exact Steps.refl _
  by_cases hc4 : i = (0 : Int32)
  · obtain ⟨T5, X5, e5, st5⟩ := getS2 X0 hx hZ hown (host := "") (Or.inl (hw _ (List.mem_of_getElem? (i := 12) rfl))) Via.refl e0 (F6_.ext O0.2) (g := (mkF m 11 #[.val (.int p0), .val (.int i)] [])) rfl (hb hby d1_11)
    have s6 : Steps p.tables e below (s₁.setTop (entryFrame m #[(.int p0)] 2)) (T5.setTop (mkF m 14 #[.val (.int p0), .val (.int i)] [(.ref v_ACCEPTED)])) := by
      refine s3.trans ?_
      show Steps p.tables e below (s₁.setTop (mkF m 8 #[.val (.int p0), .val (.int i)] [(.int i)])) _
      refine XS.ifNo X0.here hx rfl (hb hby d1_8) rfl ((if0 _ _).trans (teq hc4).2) ?_
      show Steps p.tables e below (s₁.setTop (mkF m 11 #[.val (.int p0), .val (.int i)] [])) _
      refine st5 _ ?_
      exact Steps.refl _
    obtain ⟨fs, hr, hrun, hended, hW, hsame⟩ := X5.leave (v := some (.ref v_ACCEPTED)) (fun h => by rw [Bd.returns] at h; cases h)
    refine ⟨_, _, s6.trans ?_, hrun, hended, _, _, rfl, ?_, ⟨_, rfl⟩, hW, hsame.mono (by decide) (by decide)⟩
    · show Steps p.tables e below (T5.setTop (mkF m 14 #[.val (.int p0), .val (.int i)] [(.ref v_ACCEPTED)])) _
      jvm_step X5.here [X5.here.top, hx, (hb hby d1_14), X5.method', Bd.returns, Value.isRef, FieldType.isReference]
      first | (intro acts; rw [hr _ acts rfl rfl rfl]) | rw [hr _ _ rfl rfl rfl]
      exact Steps.refl _
    · show Q1 Z p0 v_ERROR v_SOLD_OUT v_ALREADY_CLAIMED v_ACCEPTED h0 n0 _ T5.heap _
      rw [e5]
      exact ⟨(.ref v_ACCEPTED), rfl, N0, rfl, rfl, (Or.inr ⟨_, rfl, F7_⟩)⟩
  · have s7 : Steps p.tables e below (s₁.setTop (entryFrame m #[(.int p0)] 2)) (s₁.setTop (mkF m 17 #[.val (.int p0), .val (.int i)] [(.int (1 : Int32)), (.int i)])) := by
      refine s3.trans ?_
      show Steps p.tables e below (s₁.setTop (mkF m 8 #[.val (.int p0), .val (.int i)] [(.int i)])) _
      refine XS.ifYes X0.here hx rfl (pc0 := 8) (pc' := 15) rfl (hb hby d1_8) rfl ((if0 _ _).trans (feq hc4).2) (by decide) (by decide) ?_
      show Steps p.tables e below (s₁.setTop (mkF m 15 #[.val (.int p0), .val (.int i)] [])) _
      refine XS.iloadN X0.here hx rfl (hb hby d1_15) rfl ?_
      show Steps p.tables e below (s₁.setTop (mkF m 16 #[.val (.int p0), .val (.int i)] [(.int i)])) _
      refine XS.iconst X0.here hx rfl (hb hby d1_16) ?_
      exact Steps.refl _
    by_cases hc8 : i = (1 : Int32)
    · obtain ⟨T9, X9, e9, st9⟩ := getS2 X0 hx hZ hown (host := "") (Or.inl (hw _ (List.mem_of_getElem? (i := 10) rfl))) Via.refl e0 (F4_.ext O0.2) (g := (mkF m 20 #[.val (.int p0), .val (.int i)] [])) rfl (hb hby d1_20)
      have s10 : Steps p.tables e below (s₁.setTop (entryFrame m #[(.int p0)] 2)) (T9.setTop (mkF m 23 #[.val (.int p0), .val (.int i)] [(.ref v_ALREADY_CLAIMED)])) := by
        refine s7.trans ?_
        show Steps p.tables e below (s₁.setTop (mkF m 17 #[.val (.int p0), .val (.int i)] [(.int (1 : Int32)), (.int i)])) _
        refine XS.icmpNo X0.here hx rfl (hb hby d1_17) rfl (teq hc8).2 ?_
        show Steps p.tables e below (s₁.setTop (mkF m 20 #[.val (.int p0), .val (.int i)] [])) _
        refine st9 _ ?_
        exact Steps.refl _
      obtain ⟨fs, hr, hrun, hended, hW, hsame⟩ := X9.leave (v := some (.ref v_ALREADY_CLAIMED)) (fun h => by rw [Bd.returns] at h; cases h)
      refine ⟨_, _, s10.trans ?_, hrun, hended, _, _, rfl, ?_, ⟨_, rfl⟩, hW, hsame.mono (by decide) (by decide)⟩
      · show Steps p.tables e below (T9.setTop (mkF m 23 #[.val (.int p0), .val (.int i)] [(.ref v_ALREADY_CLAIMED)])) _
        jvm_step X9.here [X9.here.top, hx, (hb hby d1_23), X9.method', Bd.returns, Value.isRef, FieldType.isReference]
        first | (intro acts; rw [hr _ acts rfl rfl rfl]) | rw [hr _ _ rfl rfl rfl]
        exact Steps.refl _
      · show Q1 Z p0 v_ERROR v_SOLD_OUT v_ALREADY_CLAIMED v_ACCEPTED h0 n0 _ T9.heap _
        rw [e9]
        exact ⟨(.ref v_ALREADY_CLAIMED), rfl, N0, rfl, rfl, (Or.inr ⟨_, rfl, F5_⟩)⟩
    · have s11 : Steps p.tables e below (s₁.setTop (entryFrame m #[(.int p0)] 2)) (s₁.setTop (mkF m 26 #[.val (.int p0), .val (.int i)] [(.int (2 : Int32)), (.int i)])) := by
        refine s7.trans ?_
        show Steps p.tables e below (s₁.setTop (mkF m 17 #[.val (.int p0), .val (.int i)] [(.int (1 : Int32)), (.int i)])) _
        refine XS.icmpYes X0.here hx rfl (pc0 := 17) (pc' := 24) rfl (hb hby d1_17) rfl (feq hc8).2 (by decide) (by decide) ?_
        show Steps p.tables e below (s₁.setTop (mkF m 24 #[.val (.int p0), .val (.int i)] [])) _
        refine XS.iloadN X0.here hx rfl (hb hby d1_24) rfl ?_
        show Steps p.tables e below (s₁.setTop (mkF m 25 #[.val (.int p0), .val (.int i)] [(.int i)])) _
        refine XS.iconst X0.here hx rfl (hb hby d1_25) ?_
        exact Steps.refl _
      by_cases hc12 : i = (2 : Int32)
      · obtain ⟨T13, X13, e13, st13⟩ := getS2 X0 hx hZ hown (host := "") (Or.inl (hw _ (List.mem_of_getElem? (i := 8) rfl))) Via.refl e0 (F2_.ext O0.2) (g := (mkF m 29 #[.val (.int p0), .val (.int i)] [])) rfl (hb hby d1_29)
        have s14 : Steps p.tables e below (s₁.setTop (entryFrame m #[(.int p0)] 2)) (T13.setTop (mkF m 32 #[.val (.int p0), .val (.int i)] [(.ref v_SOLD_OUT)])) := by
          refine s11.trans ?_
          show Steps p.tables e below (s₁.setTop (mkF m 26 #[.val (.int p0), .val (.int i)] [(.int (2 : Int32)), (.int i)])) _
          refine XS.icmpNo X0.here hx rfl (hb hby d1_26) rfl (teq hc12).2 ?_
          show Steps p.tables e below (s₁.setTop (mkF m 29 #[.val (.int p0), .val (.int i)] [])) _
          refine st13 _ ?_
          exact Steps.refl _
        obtain ⟨fs, hr, hrun, hended, hW, hsame⟩ := X13.leave (v := some (.ref v_SOLD_OUT)) (fun h => by rw [Bd.returns] at h; cases h)
        refine ⟨_, _, s14.trans ?_, hrun, hended, _, _, rfl, ?_, ⟨_, rfl⟩, hW, hsame.mono (by decide) (by decide)⟩
        · show Steps p.tables e below (T13.setTop (mkF m 32 #[.val (.int p0), .val (.int i)] [(.ref v_SOLD_OUT)])) _
          jvm_step X13.here [X13.here.top, hx, (hb hby d1_32), X13.method', Bd.returns, Value.isRef, FieldType.isReference]
          first | (intro acts; rw [hr _ acts rfl rfl rfl]) | rw [hr _ _ rfl rfl rfl]
          exact Steps.refl _
        · show Q1 Z p0 v_ERROR v_SOLD_OUT v_ALREADY_CLAIMED v_ACCEPTED h0 n0 _ T13.heap _
          rw [e13]
          exact ⟨(.ref v_SOLD_OUT), rfl, N0, rfl, rfl, (Or.inr ⟨_, rfl, F3_⟩)⟩
      · have s15 : Steps p.tables e below (s₁.setTop (entryFrame m #[(.int p0)] 2)) (s₁.setTop (mkF m 35 #[.val (.int p0), .val (.int i)] [(.int (3 : Int32)), (.int i)])) := by
          refine s11.trans ?_
          show Steps p.tables e below (s₁.setTop (mkF m 26 #[.val (.int p0), .val (.int i)] [(.int (2 : Int32)), (.int i)])) _
          refine XS.icmpYes X0.here hx rfl (pc0 := 26) (pc' := 33) rfl (hb hby d1_26) rfl (feq hc12).2 (by decide) (by decide) ?_
          show Steps p.tables e below (s₁.setTop (mkF m 33 #[.val (.int p0), .val (.int i)] [])) _
          refine XS.iloadN X0.here hx rfl (hb hby d1_33) rfl ?_
          show Steps p.tables e below (s₁.setTop (mkF m 34 #[.val (.int p0), .val (.int i)] [(.int i)])) _
          refine XS.iconst X0.here hx rfl (hb hby d1_34) ?_
          exact Steps.refl _
        by_cases hc16 : i = (3 : Int32)
        · obtain ⟨T17, X17, e17, st17⟩ := getS2 X0 hx hZ hown (host := "") (Or.inl (hw _ (List.mem_of_getElem? (i := 5) rfl))) Via.refl e0 (F0_.ext O0.2) (g := (mkF m 38 #[.val (.int p0), .val (.int i)] [])) rfl (hb hby d1_38)
          have s18 : Steps p.tables e below (s₁.setTop (entryFrame m #[(.int p0)] 2)) (T17.setTop (mkF m 41 #[.val (.int p0), .val (.int i)] [(.ref v_ERROR)])) := by
            refine s15.trans ?_
            show Steps p.tables e below (s₁.setTop (mkF m 35 #[.val (.int p0), .val (.int i)] [(.int (3 : Int32)), (.int i)])) _
            refine XS.icmpNo X0.here hx rfl (hb hby d1_35) rfl (teq hc16).2 ?_
            show Steps p.tables e below (s₁.setTop (mkF m 38 #[.val (.int p0), .val (.int i)] [])) _
            refine st17 _ ?_
            exact Steps.refl _
          obtain ⟨fs, hr, hrun, hended, hW, hsame⟩ := X17.leave (v := some (.ref v_ERROR)) (fun h => by rw [Bd.returns] at h; cases h)
          refine ⟨_, _, s18.trans ?_, hrun, hended, _, _, rfl, ?_, ⟨_, rfl⟩, hW, hsame.mono (by decide) (by decide)⟩
          · show Steps p.tables e below (T17.setTop (mkF m 41 #[.val (.int p0), .val (.int i)] [(.ref v_ERROR)])) _
            jvm_step X17.here [X17.here.top, hx, (hb hby d1_41), X17.method', Bd.returns, Value.isRef, FieldType.isReference]
            first | (intro acts; rw [hr _ acts rfl rfl rfl]) | rw [hr _ _ rfl rfl rfl]
            exact Steps.refl _
          · show Q1 Z p0 v_ERROR v_SOLD_OUT v_ALREADY_CLAIMED v_ACCEPTED h0 n0 _ T17.heap _
            rw [e17]
            exact ⟨(.ref v_ERROR), rfl, N0, rfl, rfl, (Or.inr ⟨_, rfl, F1_⟩)⟩
        · have s19 : Steps p.tables e below (s₁.setTop (entryFrame m #[(.int p0)] 2)) (s₁.setTop (mkF m 43 #[.val (.int p0), .val (.int i)] [.null])) := by
            refine s15.trans ?_
            show Steps p.tables e below (s₁.setTop (mkF m 35 #[.val (.int p0), .val (.int i)] [(.int (3 : Int32)), (.int i)])) _
            refine XS.icmpYes X0.here hx rfl (pc0 := 35) (pc' := 42) rfl (hb hby d1_35) rfl (feq hc16).2 (by decide) (by decide) ?_
            show Steps p.tables e below (s₁.setTop (mkF m 42 #[.val (.int p0), .val (.int i)] [])) _
            refine XS.aconstNull X0.here hx rfl (hb hby d1_42) ?_
            exact Steps.refl _
          obtain ⟨fs, hr, hrun, hended, hW, hsame⟩ := X0.leave (v := some .null) (fun h => by rw [Bd.returns] at h; cases h)
          refine ⟨_, _, s19.trans ?_, hrun, hended, _, _, rfl, ?_, ⟨_, rfl⟩, hW, hsame.mono (by decide) (by decide)⟩
          · show Steps p.tables e below (s₁.setTop (mkF m 43 #[.val (.int p0), .val (.int i)] [.null])) _
            jvm_step X0.here [X0.here.top, hx, (hb hby d1_43), X0.method', Bd.returns, Value.isRef, FieldType.isReference]
            first | (intro acts; rw [hr _ acts rfl rfl rfl]) | rw [hr _ _ rfl rfl rfl]
            exact Steps.refl _
          · show Q1 Z p0 v_ERROR v_SOLD_OUT v_ALREADY_CLAIMED v_ACCEPTED h0 n0 _ s₁.heap _
            rw [e0]
            exact ⟨.null, rfl, N0, rfl, rfl, (Or.inl rfl)⟩
theorem d2_0 : decode prog_12_method_1_code 0 = .ok (.aload_n 0, 1) := by decide +kernel
theorem d2_1 : decode prog_12_method_1_code 1 = .ok (.invokespecial 1, 3) := by decide +kernel
theorem d2_4 : decode prog_12_method_1_code 4 = .ok (.aload_n 0, 1) := by decide +kernel
theorem d2_5 : decode prog_12_method_1_code 5 = .ok (.new 7, 3) := by decide +kernel
theorem d2_8 : decode prog_12_method_1_code 8 = .ok (.dup, 1) := by decide +kernel
theorem d2_9 : decode prog_12_method_1_code 9 = .ok (.invokespecial 9, 3) := by decide +kernel
theorem d2_12 : decode prog_12_method_1_code 12 = .ok (.putfield 10, 3) := by decide +kernel
theorem d2_15 : decode prog_12_method_1_code 15 = .ok (.aload_n 0, 1) := by decide +kernel
theorem d2_16 : decode prog_12_method_1_code 16 = .ok (.iload_n 1, 1) := by decide +kernel
theorem d2_17 : decode prog_12_method_1_code 17 = .ok (.newarray .long, 2) := by decide +kernel
theorem d2_19 : decode prog_12_method_1_code 19 = .ok (.putfield 16, 3) := by decide +kernel
theorem d2_22 : decode prog_12_method_1_code 22 = .ok (.aload_n 0, 1) := by decide +kernel
theorem d2_23 : decode prog_12_method_1_code 23 = .ok (.iload_n 1, 1) := by decide +kernel
theorem d2_24 : decode prog_12_method_1_code 24 = .ok (.newarray .long, 2) := by decide +kernel
theorem d2_26 : decode prog_12_method_1_code 26 = .ok (.putfield 20, 3) := by decide +kernel
theorem d2_29 : decode prog_12_method_1_code 29 = .ok (.aload_n 0, 1) := by decide +kernel
theorem d2_30 : decode prog_12_method_1_code 30 = .ok (.iload_n 1, 1) := by decide +kernel
theorem d2_31 : decode prog_12_method_1_code 31 = .ok (.anewarray 23, 3) := by decide +kernel
theorem d2_34 : decode prog_12_method_1_code 34 = .ok (.putfield 25, 3) := by decide +kernel
theorem d2_37 : decode prog_12_method_1_code 37 = .ok (.return_, 1) := by decide +kernel
theorem pn_2 : plainName "com/example/hot_gate/hotgate/bench/Replies" = true := by first | (simp [plainName, overriddenIn]; done) | decide +kernel
theorem pd_rmi0_0 : parseMethodDescriptor "()V" = some ⟨[], none⟩ := by decide +kernel
theorem ef_rmi0 (m : MethodId) (p0 : Addr) : entryFrame m #[(.ref p0), (.int (0 : Int32))] 2 = mkF m 0 #[.val (.ref p0), .val (.int (0 : Int32))] [] := by first | (simp [entryFrame, mkF, argsToLocals, Value.category]; done) | rfl
def Qi0 (Z : State) (p0 : Addr) (h0 : Heap) (n0 : Nat) (v : Option Value) (h : Heap) (L : List Loc) : Prop := ∃ b1 : Addr, ∃ b2 : Addr, ∃ b3 : Addr, ∃ k1 : ClassId, ∃ k2 : ClassId, ∃ k3 : ClassId, v = none ∧ Fr n0 L ∧ Keep h0 h [p0] ∧ (Exa Z h p0 "com/example/hot_gate/hotgate/bench/Replies") ∧ (Fld Z h p0 "com/example/hot_gate/hotgate/bench/Replies" "sentAt" "[J" (.ref b1)) ∧ (Fld Z h p0 "com/example/hot_gate/hotgate/bench/Replies" "answeredAt" "[J" (.ref b2)) ∧ (Fld Z h p0 "com/example/hot_gate/hotgate/bench/Replies" "outcomes" "[Lcom/example/hot_gate/hotgate/bench/Outcome;" (.ref b3)) ∧ (Arv Z h b1 k1 .long (0 : Int32) [] (.long (0 : Int64))) ∧ (Arv Z h b2 k2 .long (0 : Int32) [] (.long (0 : Int64))) ∧ (Arv Z h b3 k3 (.object "com/example/hot_gate/hotgate/bench/Outcome") (0 : Int32) [] .null) ∧ (h0.size ≤ b1) ∧ (h0.size ≤ b2) ∧ (h0.size ≤ b3) ∧ (b1 ≠ b2) ∧ (b1 ≠ b3) ∧ (b2 ≠ b3) ∧ (Ovr Z k3 "com/example/hot_gate/hotgate/bench/Outcome")
set_option maxRecDepth 65536 in
set_option maxHeartbeats 40000000 in
theorem rmi0 (l : Launch) (Z : State) (a0 : Array Value) (hw : ∀ d ∈ tables_1, d.before a0 Z = true) (ws : List Jvm.Cond) (p0 : Addr) (h0 : Heap) (n0 : Nat) (O0 : Old Z n0 h0) (F0_ : Exa Z h0 p0 "com/example/hot_gate/hotgate/bench/Replies") (F1_ : Fld Z h0 p0 "com/example/hot_gate/hotgate/bench/Replies" "firstError" "Ljava/util/concurrent/atomic/AtomicReference;" .null) (F2_ : Fld Z h0 p0 "com/example/hot_gate/hotgate/bench/Replies" "sentAt" "[J" .null) (F3_ : Fld Z h0 p0 "com/example/hot_gate/hotgate/bench/Replies" "answeredAt" "[J" .null) (F4_ : Fld Z h0 p0 "com/example/hot_gate/hotgate/bench/Replies" "outcomes" "[Lcom/example/hot_gate/hotgate/bench/Outcome;" .null) (F5_ : n0 ≤ p0) :
    MetFree l (⟨"com/example/hot_gate/hotgate/bench/Replies", "<init>", "(I)V"⟩ : MethodName) (head1 (Jvm.Cond.code (⟨"com/example/hot_gate/hotgate/bench/Replies", "<init>", "(I)V"⟩ : MethodName) prog_12_method_1_code 2 none :: ws) ({ frames := 2, cells := 4, slots := 1, locals := 26 } : Room)) (fun a U => a = #[(.ref p0), (.int (0 : Int32))] ∧ Z.Warmed39 U.vm ∧ U.heap = h0) (fun _ _ _ _ _ => True) (fun _ U o U' => ∃ v L, o = .returned v ∧ Qi0 Z p0 h0 n0 v U'.heap L ∧ FrameEnd U o U' L ({ frames := 2, cells := 4, slots := 1, locals := 26 } : Room).cells ({ frames := 2, cells := 4, slots := 1, locals := 26 } : Room).slots) := by
  refine MetFree.of_bodySF (plainFor_of_name pn_2) hisR ?_
  intro p e s m args below meth c s₁ Bd hml0 hP hK
  obtain ⟨rfl, hZ, hh⟩ := hP
  have hx := Bd.exec
  have hby := Bd.bytes
  have hml : c.maxLocals = 2 := hml0
  have hown : s.vm.findClass "com/example/hot_gate/hotgate/bench/Replies" = some m.cls := findClass_of_methodNamed Bd.named
  have hnm := (name_of_methodNamed Bd.named Bd.method).1
  have X0 : Stand p l e ({ frames := 2, cells := 4, slots := 1, locals := 26 } : Room) s m #[(.ref p0), (.int (0 : Int32))] below meth c s₁ [] 0 0 := Stand.of_body Bd
  have e0 : s₁.heap = h0 := by rw [← hh, Bd.state]; rfl
  have N0 := Fr.nil n0
  have s0 : Steps p.tables e below (s₁.setTop (entryFrame m #[(.ref p0), (.int (0 : Int32))] 2)) (s₁.setTop (mkF m 0 #[.val (.ref p0), .val (.int (0 : Int32))] [])) := castTop (ef_rmi0 m p0) (Steps.refl _)
  obtain ⟨T1, X1, e1, st1⟩ := initO X0 hx hZ hown (hw _ (List.mem_of_getElem? (i := 20) rfl)) (hw _ (List.mem_of_getElem? (i := 21) rfl)) (hw _ (List.mem_of_getElem? (i := 22) rfl)) e0 (g := (mkF m 1 #[.val (.ref p0), .val (.int (0 : Int32))] [(.ref p0)])) rfl (by rw [hml]; rfl) rfl (hb hby d2_1) (by decide) (W := 0) (by show 2 * 0 + _ ≤ _; exact Nat.le_of_eq rfl) (by decide)
  obtain ⟨T2, h2, X2, e2, E2, A2, D2, -, st2⟩ := newO X1 hx hZ hown (hw _ (List.mem_of_getElem? (i := 23) rfl)) (hw _ (List.mem_of_getElem? (i := 24) rfl)) (hw _ (List.mem_of_getElem? (i := 25) rfl)) e1 (g := (mkF m 5 #[.val (.ref p0), .val (.int (0 : Int32))] [(.ref p0)])) rfl (hb hby d2_5) (by decide) (by decide)
  obtain ⟨b2, g2⟩ : ∃ z, z = h0.size := ⟨_, rfl⟩
  rw [← g2] at A2 D2 st2
  have ne_p0_b2 : p0 ≠ b2 := Nat.ne_of_lt (Nat.lt_of_lt_of_le F0_.lt (Nat.le_of_eq g2.symm))
  have g_b2 : n0 ≤ b2 := Nat.le_trans (Nat.le_of_eq O0.1.symm) (Nat.le_trans O0.2.1 (Nat.le_of_eq g2.symm))
  have sz_b2 : h0.size ≤ b2 := Nat.le_trans (Keep.refl h0 [p0]).1 (Nat.le_of_eq g2.symm)
  have O2 := O0.ext E2
  have K2 : Keep h0 h2 [p0] := (Keep.refl h0 [p0]).ext E2
  obtain ⟨_, _, ⟨T3, L3, k3, n3⟩, -, X3, ⟨Lc3, hQ3, l3, y3, z3⟩, st3⟩ := X2.specialBack hx (y := (⟨"java/util/concurrent/atomic/AtomicReference", "<init>", "()V"⟩ : MethodName)) rfl hown (mvT hZ (hw _ (List.mem_of_getElem? (i := 26) rfl))) (mvT hZ (hw _ (List.mem_of_getElem? (i := 27) rfl))) (mvT hZ (hw _ (List.mem_of_getElem? (i := 28) rfl))) (by decide) (backOf (W := 2) (rm4 l Z a0 hw [] b2 h2 n0 O2 ) hZ (hw _ (List.mem_of_getElem? (i := 28) rfl)) (hw _ (List.mem_of_getElem? (i := 25) rfl)) (by decide) (by decide)) (g := (mkF m 9 #[.val (.ref p0), .val (.int (0 : Int32))] [(.ref b2), (.ref b2), (.ref p0)])) rfl (by rw [hml]; rfl) (Steps.refl _) (a := b2) (argsL := []) (rest := [(.ref b2), (.ref p0)]) (lenOf pd_rmi0_0 rfl) rfl (by show 2 * 0 + _ ≤ _; exact Nat.le_of_eq rfl) (hb hby d2_9) (fun _ _ => ⟨rfl, e2, (by decide : 1 + 0 ≤ _), (by decide : 1 + 0 ≤ _)⟩)
  dsimp only [Pt.U, Pt.locs, Pt.cells, Pt.slots] at X3 l3 y3 z3 st3 hQ3
  subst l3 y3 z3
  obtain ⟨rfl, Nq3, e3⟩ := hQ3
  have N3 := Fr.app N0 Nq3
  have c4 : Exa Z h2 p0 "com/example/hot_gate/hotgate/bench/Replies" := (F0_.ext E2)
  have c5 : Fld Z h2 p0 "com/example/hot_gate/hotgate/bench/Replies" "firstError" "Ljava/util/concurrent/atomic/AtomicReference;" .null := (F1_.ext E2)
  obtain ⟨T6, h6, X6, e6, W6, st6⟩ := putF X3 hx hZ hown (host := "") (Or.inl (hw _ (List.mem_of_getElem? (i := 30) rfl))) Via.refl e3 c5 c4 (Or.inr ⟨(hw _ (List.mem_of_getElem? (i := 31) rfl)), rfl, hnm⟩) (hw _ (List.mem_of_getElem? (i := 15) rfl)) (ty := (.object "java/util/concurrent/atomic/AtomicReference")) (by decide) rfl rfl (g := (mkF m 12 #[.val (.ref p0), .val (.int (0 : Int32))] [(.ref b2), (.ref p0)])) rfl rfl (hb hby d2_12)
  have Fw6 := c5.same W6
  have O6 := O2.wr W6 F5_
  have K6 : Keep h0 h6 [p0] := K2.wr W6 (Or.inl (List.mem_of_getElem? (i := 0) rfl))
  have N6 := Fr.snoc X6 N3 F5_
  obtain ⟨T7, h7, k7, X7, e7, E7, A7, st7⟩ := newP X6 hx hZ (hw _ (List.mem_of_getElem? (i := 32) rfl)) e6 (g := (mkF m 17 #[.val (.ref p0), .val (.int (0 : Int32))] [(.int (0 : Int32)), (.ref p0)])) rfl (hb hby d2_17) rfl (by decide) (cap := 0) (by decide) (by decide) (by decide) (by decide)
  obtain ⟨b7, g7⟩ : ∃ z, z = h6.size := ⟨_, rfl⟩
  rw [← g7] at A7 st7
  have c8 : Exa Z h6 p0 "com/example/hot_gate/hotgate/bench/Replies" := (c4.wr W6)
  have ne_p0_b7 : p0 ≠ b7 := Nat.ne_of_lt (Nat.lt_of_lt_of_le c8.lt (Nat.le_of_eq g7.symm))
  have c9 : Exa Z h6 b2 "java/util/concurrent/atomic/AtomicReference" := (A2.wr W6)
  have ne_b2_b7 : b2 ≠ b7 := Nat.ne_of_lt (Nat.lt_of_lt_of_le c9.lt (Nat.le_of_eq g7.symm))
  have g_b7 : n0 ≤ b7 := Nat.le_trans (Nat.le_of_eq O6.1.symm) (Nat.le_trans O6.2.1 (Nat.le_of_eq g7.symm))
  have sz_b7 : h0.size ≤ b7 := Nat.le_trans K6.1 (Nat.le_of_eq g7.symm)
  have O7 := O6.ext E7
  have K7 : Keep h0 h7 [p0] := K6.ext E7
  have V7 : Arv Z h7 b7 k7 .long (0 : Int32) [] (.long (0 : Int64)) := (Arv.new A7 (by decide)).pad (pad_rep [] (.long (0 : Int64)) 0)
  have c10 : Exa Z h7 p0 "com/example/hot_gate/hotgate/bench/Replies" := (c8.ext E7)
  have c11 : Fld Z h7 p0 "com/example/hot_gate/hotgate/bench/Replies" "sentAt" "[J" .null := (((F2_.ext E2).other W6 (Or.inr (slot_ne (Or.inr (hw _ (List.mem_of_getElem? (i := 34) rfl))) (Or.inr (hw _ (List.mem_of_getElem? (i := 31) rfl))) (by decide) (t := (.array .long)) (t' := (.object "java/util/concurrent/atomic/AtomicReference")) (by decide) (by decide)))).ext E7)
  obtain ⟨T12, h12, X12, e12, W12, st12⟩ := putF X7 hx hZ hown (host := "") (Or.inl (hw _ (List.mem_of_getElem? (i := 33) rfl))) Via.refl e7 c11 c10 (Or.inr ⟨(hw _ (List.mem_of_getElem? (i := 34) rfl)), rfl, hnm⟩) (hw _ (List.mem_of_getElem? (i := 15) rfl)) (ty := (.array .long)) (by decide) rfl rfl (g := (mkF m 19 #[.val (.ref p0), .val (.int (0 : Int32))] [(.ref b7), (.ref p0)])) rfl rfl (hb hby d2_19)
  have Fw12 := c11.same W12
  have O12 := O7.wr W12 F5_
  have K12 : Keep h0 h12 [p0] := K7.wr W12 (Or.inl (List.mem_of_getElem? (i := 0) rfl))
  have N12 := Fr.snoc X12 N6 F5_
  obtain ⟨T13, h13, k13, X13, e13, E13, A13, st13⟩ := newP X12 hx hZ (hw _ (List.mem_of_getElem? (i := 32) rfl)) e12 (g := (mkF m 24 #[.val (.ref p0), .val (.int (0 : Int32))] [(.int (0 : Int32)), (.ref p0)])) rfl (hb hby d2_24) rfl (by decide) (cap := 0) (by decide) (by decide) (by decide) (by decide)
  obtain ⟨b13, g13⟩ : ∃ z, z = h12.size := ⟨_, rfl⟩
  rw [← g13] at A13 st13
  have c14 : Exa Z h12 p0 "com/example/hot_gate/hotgate/bench/Replies" := (c10.wr W12)
  have ne_p0_b13 : p0 ≠ b13 := Nat.ne_of_lt (Nat.lt_of_lt_of_le c14.lt (Nat.le_of_eq g13.symm))
  have c15 : Exa Z h12 b2 "java/util/concurrent/atomic/AtomicReference" := ((c9.ext E7).wr W12)
  have ne_b2_b13 : b2 ≠ b13 := Nat.ne_of_lt (Nat.lt_of_lt_of_le c15.lt (Nat.le_of_eq g13.symm))
  have c16 : Arv Z h12 b7 k7 .long (0 : Int32) [] (.long (0 : Int64)) := (V7.other W12 (Ne.symm ne_p0_b7))
  have ne_b7_b13 : b7 ≠ b13 := Nat.ne_of_lt (Nat.lt_of_lt_of_le c16.lt (Nat.le_of_eq g13.symm))
  have g_b13 : n0 ≤ b13 := Nat.le_trans (Nat.le_of_eq O12.1.symm) (Nat.le_trans O12.2.1 (Nat.le_of_eq g13.symm))
  have sz_b13 : h0.size ≤ b13 := Nat.le_trans K12.1 (Nat.le_of_eq g13.symm)
  have O13 := O12.ext E13
  have K13 : Keep h0 h13 [p0] := K12.ext E13
  have V13 : Arv Z h13 b13 k13 .long (0 : Int32) [] (.long (0 : Int64)) := (Arv.new A13 (by decide)).pad (pad_rep [] (.long (0 : Int64)) 0)
  have c17 : Exa Z h13 p0 "com/example/hot_gate/hotgate/bench/Replies" := (c14.ext E13)
  have c18 : Fld Z h13 p0 "com/example/hot_gate/hotgate/bench/Replies" "answeredAt" "[J" .null := (((((F3_.ext E2).other W6 (Or.inr (slot_ne (Or.inr (hw _ (List.mem_of_getElem? (i := 36) rfl))) (Or.inr (hw _ (List.mem_of_getElem? (i := 31) rfl))) (by decide) (t := (.array .long)) (t' := (.object "java/util/concurrent/atomic/AtomicReference")) (by decide) (by decide)))).ext E7).other W12 (Or.inr (slot_ne (Or.inr (hw _ (List.mem_of_getElem? (i := 36) rfl))) (Or.inr (hw _ (List.mem_of_getElem? (i := 34) rfl))) (by decide) (t := (.array .long)) (t' := (.array .long)) (by decide) (by decide)))).ext E13)
  obtain ⟨T19, h19, X19, e19, W19, st19⟩ := putF X13 hx hZ hown (host := "") (Or.inl (hw _ (List.mem_of_getElem? (i := 35) rfl))) Via.refl e13 c18 c17 (Or.inr ⟨(hw _ (List.mem_of_getElem? (i := 36) rfl)), rfl, hnm⟩) (hw _ (List.mem_of_getElem? (i := 15) rfl)) (ty := (.array .long)) (by decide) rfl rfl (g := (mkF m 26 #[.val (.ref p0), .val (.int (0 : Int32))] [(.ref b13), (.ref p0)])) rfl rfl (hb hby d2_26)
  have Fw19 := c18.same W19
  have O19 := O13.wr W19 F5_
  have K19 : Keep h0 h19 [p0] := K13.wr W19 (Or.inl (List.mem_of_getElem? (i := 0) rfl))
  have N19 := Fr.snoc X19 N12 F5_
  obtain ⟨T20, h20, k20, X20, e20, E20, A20, Ov20, st20⟩ := newR X19 hx hZ hown (hw _ (List.mem_of_getElem? (i := 37) rfl)) (hw _ (List.mem_of_getElem? (i := 38) rfl)) e19 (g := (mkF m 31 #[.val (.ref p0), .val (.int (0 : Int32))] [(.int (0 : Int32)), (.ref p0)])) rfl (hb hby d2_31) rfl (by decide) (cap := 0) (by decide) (by decide) (by decide) (by decide)
  obtain ⟨b20, g20⟩ : ∃ z, z = h19.size := ⟨_, rfl⟩
  rw [← g20] at A20 st20
  have c21 : Exa Z h19 p0 "com/example/hot_gate/hotgate/bench/Replies" := (c17.wr W19)
  have ne_p0_b20 : p0 ≠ b20 := Nat.ne_of_lt (Nat.lt_of_lt_of_le c21.lt (Nat.le_of_eq g20.symm))
  have c22 : Exa Z h19 b2 "java/util/concurrent/atomic/AtomicReference" := ((c15.ext E13).wr W19)
  have ne_b2_b20 : b2 ≠ b20 := Nat.ne_of_lt (Nat.lt_of_lt_of_le c22.lt (Nat.le_of_eq g20.symm))
  have c23 : Arv Z h19 b7 k7 .long (0 : Int32) [] (.long (0 : Int64)) := ((c16.ext E13).other W19 (Ne.symm ne_p0_b7))
  have ne_b7_b20 : b7 ≠ b20 := Nat.ne_of_lt (Nat.lt_of_lt_of_le c23.lt (Nat.le_of_eq g20.symm))
  have c24 : Arv Z h19 b13 k13 .long (0 : Int32) [] (.long (0 : Int64)) := (V13.other W19 (Ne.symm ne_p0_b13))
  have ne_b13_b20 : b13 ≠ b20 := Nat.ne_of_lt (Nat.lt_of_lt_of_le c24.lt (Nat.le_of_eq g20.symm))
  have g_b20 : n0 ≤ b20 := Nat.le_trans (Nat.le_of_eq O19.1.symm) (Nat.le_trans O19.2.1 (Nat.le_of_eq g20.symm))
  have sz_b20 : h0.size ≤ b20 := Nat.le_trans K19.1 (Nat.le_of_eq g20.symm)
  have O20 := O19.ext E20
  have K20 : Keep h0 h20 [p0] := K19.ext E20
  have V20 : Arv Z h20 b20 k20 (.object "com/example/hot_gate/hotgate/bench/Outcome") (0 : Int32) [] .null := (Arv.new A20 (by decide)).pad (pad_rep [] .null 0)
  have c25 : Exa Z h20 p0 "com/example/hot_gate/hotgate/bench/Replies" := (c21.ext E20)
  have c26 : Fld Z h20 p0 "com/example/hot_gate/hotgate/bench/Replies" "outcomes" "[Lcom/example/hot_gate/hotgate/bench/Outcome;" .null := (((((((F4_.ext E2).other W6 (Or.inr (slot_ne (Or.inr (hw _ (List.mem_of_getElem? (i := 40) rfl))) (Or.inr (hw _ (List.mem_of_getElem? (i := 31) rfl))) (by decide) (t := (.array (.object "com/example/hot_gate/hotgate/bench/Outcome"))) (t' := (.object "java/util/concurrent/atomic/AtomicReference")) (by decide) (by decide)))).ext E7).other W12 (Or.inr (slot_ne (Or.inr (hw _ (List.mem_of_getElem? (i := 40) rfl))) (Or.inr (hw _ (List.mem_of_getElem? (i := 34) rfl))) (by decide) (t := (.array (.object "com/example/hot_gate/hotgate/bench/Outcome"))) (t' := (.array .long)) (by decide) (by decide)))).ext E13).other W19 (Or.inr (slot_ne (Or.inr (hw _ (List.mem_of_getElem? (i := 40) rfl))) (Or.inr (hw _ (List.mem_of_getElem? (i := 36) rfl))) (by decide) (t := (.array (.object "com/example/hot_gate/hotgate/bench/Outcome"))) (t' := (.array .long)) (by decide) (by decide)))).ext E20)
  obtain ⟨T27, h27, X27, e27, W27, st27⟩ := putF X20 hx hZ hown (host := "") (Or.inl (hw _ (List.mem_of_getElem? (i := 39) rfl))) Via.refl e20 c26 c25 (Or.inr ⟨(hw _ (List.mem_of_getElem? (i := 40) rfl)), rfl, hnm⟩) (hw _ (List.mem_of_getElem? (i := 15) rfl)) (ty := (.array (.object "com/example/hot_gate/hotgate/bench/Outcome"))) (by decide) rfl rfl (g := (mkF m 34 #[.val (.ref p0), .val (.int (0 : Int32))] [(.ref b20), (.ref p0)])) rfl rfl (hb hby d2_34)
  have Fw27 := c26.same W27
  have O27 := O20.wr W27 F5_
  have K27 : Keep h0 h27 [p0] := K20.wr W27 (Or.inl (List.mem_of_getElem? (i := 0) rfl))
  have N27 := Fr.snoc X27 N19 F5_
  have s28 : Steps p.tables e below (s₁.setTop (entryFrame m #[(.ref p0), (.int (0 : Int32))] 2)) (T27.setTop (mkF m 37 #[.val (.ref p0), .val (.int (0 : Int32))] [])) := by
    refine s0.trans ?_
    show Steps p.tables e below (s₁.setTop (mkF m 0 #[.val (.ref p0), .val (.int (0 : Int32))] [])) _
    refine XS.aloadN X0.here hx rfl (hb hby d2_0) rfl rfl ?_
    show Steps p.tables e below (s₁.setTop (mkF m 1 #[.val (.ref p0), .val (.int (0 : Int32))] [(.ref p0)])) _
    refine st1 _ ?_
    show Steps p.tables e below (T1.setTop (mkF m 4 #[.val (.ref p0), .val (.int (0 : Int32))] [])) _
    refine XS.aloadN X1.here hx rfl (hb hby d2_4) rfl rfl ?_
    show Steps p.tables e below (T1.setTop (mkF m 5 #[.val (.ref p0), .val (.int (0 : Int32))] [(.ref p0)])) _
    refine st2 _ ?_
    show Steps p.tables e below (T2.setTop (mkF m 8 #[.val (.ref p0), .val (.int (0 : Int32))] [(.ref b2), (.ref p0)])) _
    refine XS.dup X2.here hx rfl (hb hby d2_8) rfl rfl ?_
    show Steps p.tables e below (T2.setTop (mkF m 9 #[.val (.ref p0), .val (.int (0 : Int32))] [(.ref b2), (.ref b2), (.ref p0)])) _
    refine st3.trans ?_
    show Steps p.tables e below (T3.setTop (mkF m 12 #[.val (.ref p0), .val (.int (0 : Int32))] [(.ref b2), (.ref p0)])) _
    refine st6 _ ?_
    show Steps p.tables e below (T6.setTop (mkF m 15 #[.val (.ref p0), .val (.int (0 : Int32))] [])) _
    refine XS.aloadN X6.here hx rfl (hb hby d2_15) rfl rfl ?_
    show Steps p.tables e below (T6.setTop (mkF m 16 #[.val (.ref p0), .val (.int (0 : Int32))] [(.ref p0)])) _
    refine XS.iloadN X6.here hx rfl (hb hby d2_16) rfl ?_
    show Steps p.tables e below (T6.setTop (mkF m 17 #[.val (.ref p0), .val (.int (0 : Int32))] [(.int (0 : Int32)), (.ref p0)])) _
    refine st7 _ ?_
    show Steps p.tables e below (T7.setTop (mkF m 19 #[.val (.ref p0), .val (.int (0 : Int32))] [(.ref b7), (.ref p0)])) _
    refine st12 _ ?_
    show Steps p.tables e below (T12.setTop (mkF m 22 #[.val (.ref p0), .val (.int (0 : Int32))] [])) _
    refine XS.aloadN X12.here hx rfl (hb hby d2_22) rfl rfl ?_
    show Steps p.tables e below (T12.setTop (mkF m 23 #[.val (.ref p0), .val (.int (0 : Int32))] [(.ref p0)])) _
    refine XS.iloadN X12.here hx rfl (hb hby d2_23) rfl ?_
    show Steps p.tables e below (T12.setTop (mkF m 24 #[.val (.ref p0), .val (.int (0 : Int32))] [(.int (0 : Int32)), (.ref p0)])) _
    refine st13 _ ?_
    show Steps p.tables e below (T13.setTop (mkF m 26 #[.val (.ref p0), .val (.int (0 : Int32))] [(.ref b13), (.ref p0)])) _
    refine st19 _ ?_
    show Steps p.tables e below (T19.setTop (mkF m 29 #[.val (.ref p0), .val (.int (0 : Int32))] [])) _
    refine XS.aloadN X19.here hx rfl (hb hby d2_29) rfl rfl ?_
    show Steps p.tables e below (T19.setTop (mkF m 30 #[.val (.ref p0), .val (.int (0 : Int32))] [(.ref p0)])) _
    refine XS.iloadN X19.here hx rfl (hb hby d2_30) rfl ?_
    show Steps p.tables e below (T19.setTop (mkF m 31 #[.val (.ref p0), .val (.int (0 : Int32))] [(.int (0 : Int32)), (.ref p0)])) _
    refine st20 _ ?_
    show Steps p.tables e below (T20.setTop (mkF m 34 #[.val (.ref p0), .val (.int (0 : Int32))] [(.ref b20), (.ref p0)])) _
    refine st27 _ ?_
    exact Steps.refl _
  have c29 : Exa Z h27 p0 "com/example/hot_gate/hotgate/bench/Replies" := (c25.wr W27)
  have c30 : Fld Z h27 p0 "com/example/hot_gate/hotgate/bench/Replies" "sentAt" "[J" (.ref b7) := ((((Fw12.ext E13).other W19 (Or.inr (slot_ne (Or.inr (hw _ (List.mem_of_getElem? (i := 34) rfl))) (Or.inr (hw _ (List.mem_of_getElem? (i := 36) rfl))) (by decide) (t := (.array .long)) (t' := (.array .long)) (by decide) (by decide)))).ext E20).other W27 (Or.inr (slot_ne (Or.inr (hw _ (List.mem_of_getElem? (i := 34) rfl))) (Or.inr (hw _ (List.mem_of_getElem? (i := 40) rfl))) (by decide) (t := (.array .long)) (t' := (.array (.object "com/example/hot_gate/hotgate/bench/Outcome"))) (by decide) (by decide))))
  have c31 : Fld Z h27 p0 "com/example/hot_gate/hotgate/bench/Replies" "answeredAt" "[J" (.ref b13) := ((Fw19.ext E20).other W27 (Or.inr (slot_ne (Or.inr (hw _ (List.mem_of_getElem? (i := 36) rfl))) (Or.inr (hw _ (List.mem_of_getElem? (i := 40) rfl))) (by decide) (t := (.array .long)) (t' := (.array (.object "com/example/hot_gate/hotgate/bench/Outcome"))) (by decide) (by decide))))
  have c32 : Arv Z h27 b7 k7 .long (0 : Int32) [] (.long (0 : Int64)) := ((c23.ext E20).other W27 (Ne.symm ne_p0_b7))
  have c33 : Arv Z h27 b13 k13 .long (0 : Int32) [] (.long (0 : Int64)) := ((c24.ext E20).other W27 (Ne.symm ne_p0_b13))
  have c34 : Arv Z h27 b20 k20 (.object "com/example/hot_gate/hotgate/bench/Outcome") (0 : Int32) [] .null := (V20.other W27 (Ne.symm ne_p0_b20))
  obtain ⟨fs, hr, hrun, hended, hW, hsame⟩ := X27.leave (v := none) (fun _ => rfl)
  refine ⟨_, _, s28.trans ?_, hrun, hended, _, _, rfl, ?_, ⟨_, rfl⟩, hW, hsame.mono (by decide) (by decide)⟩
  · show Steps p.tables e below (T27.setTop (mkF m 37 #[.val (.ref p0), .val (.int (0 : Int32))] [])) _
    exact X27.returnOut hx Bd.returns (hb hby d2_37) hr
  · show Qi0 Z p0 h0 n0 _ T27.heap _
    rw [e27]
    exact ⟨b7, b13, b20, k7, k13, k20, rfl, N27, K27, c29, c30, c31, Fw27, c32, c33, c34, sz_b7, sz_b13, sz_b20, ne_b7_b13, ne_b7_b20, ne_b13_b20, Ov20⟩
theorem d5_0 : decode prog_12_method_4_code 0 = .ok (.lconst 0, 1) := by decide +kernel
theorem d5_1 : decode prog_12_method_4_code 1 = .ok (.lstore_n 2, 1) := by decide +kernel
theorem d5_2 : decode prog_12_method_4_code 2 = .ok (.aload_n 0, 1) := by decide +kernel
theorem d5_3 : decode prog_12_method_4_code 3 = .ok (.getfield 25, 3) := by decide +kernel
theorem d5_6 : decode prog_12_method_4_code 6 = .ok (.astore 4, 2) := by decide +kernel
theorem d5_8 : decode prog_12_method_4_code 8 = .ok (.aload 4, 2) := by decide +kernel
theorem d5_10 : decode prog_12_method_4_code 10 = .ok (.arraylength, 1) := by decide +kernel
theorem d5_11 : decode prog_12_method_4_code 11 = .ok (.istore 5, 2) := by decide +kernel
theorem d5_13 : decode prog_12_method_4_code 13 = .ok (.iconst 0, 1) := by decide +kernel
theorem d5_14 : decode prog_12_method_4_code 14 = .ok (.istore 6, 2) := by decide +kernel
theorem d5_16 : decode prog_12_method_4_code 16 = .ok (.iload 6, 2) := by decide +kernel
theorem d5_18 : decode prog_12_method_4_code 18 = .ok (.iload 5, 2) := by decide +kernel
theorem d5_20 : decode prog_12_method_4_code 20 = .ok (.if_icmp .ge 26, 3) := by decide +kernel
theorem d5_46 : decode prog_12_method_4_code 46 = .ok (.lload_n 2, 1) := by decide +kernel
theorem d5_47 : decode prog_12_method_4_code 47 = .ok (.lreturn, 1) := by decide +kernel
theorem ef_rmc0 (m : MethodId) (p0 : Addr) (p1 : Value) (r_p1 : p1.isRef = true) : entryFrame m #[(.ref p0), p1] 8 = mkF m 0 #[.val (.ref p0), .val p1, .unset, .unset, .unset, .unset, .unset, .unset] [] := by
  cases p1 <;> first | (cases r_p1; done) | (simp [entryFrame, mkF, argsToLocals, Value.category]; done) | rfl
def Qc0 (Z : State) (p0 : Addr) (p1 : Value) (b3 : Addr) (k3 : ClassId) (h0 : Heap) (n0 : Nat) (v : Option Value) (h : Heap) (L : List Loc) : Prop := v = some (.long (0 : Int64)) ∧ Fr n0 L ∧ h = h0
set_option maxRecDepth 65536 in
set_option maxHeartbeats 40000000 in
theorem rmc0 (l : Launch) (Z : State) (a0 : Array Value) (hw : ∀ d ∈ tables_1, d.before a0 Z = true) (ws : List Jvm.Cond) (p0 : Addr) (p1 : Value) (b3 : Addr) (k3 : ClassId) (h0 : Heap) (n0 : Nat) (O0 : Old Z n0 h0) (F0_ : Fld Z h0 p0 "com/example/hot_gate/hotgate/bench/Replies" "outcomes" "[Lcom/example/hot_gate/hotgate/bench/Outcome;" (.ref b3)) (F1_ : Arv Z h0 b3 k3 (.object "com/example/hot_gate/hotgate/bench/Outcome") (0 : Int32) [] .null) (F2_ : p1.isRef = true) :
    MetFree l (⟨"com/example/hot_gate/hotgate/bench/Replies", "count", "(Lcom/example/hot_gate/hotgate/bench/Outcome;)J"⟩ : MethodName) (head1 (Jvm.Cond.code (⟨"com/example/hot_gate/hotgate/bench/Replies", "count", "(Lcom/example/hot_gate/hotgate/bench/Outcome;)J"⟩ : MethodName) prog_12_method_4_code 8 (some .long) :: ws) ({ frames := 0, cells := 0, slots := 0, locals := 0 } : Room)) (fun a U => a = #[(.ref p0), p1] ∧ Z.Warmed39 U.vm ∧ U.heap = h0) (fun _ _ _ _ _ => True) (fun _ U o U' => ∃ v L, o = .returned v ∧ Qc0 Z p0 p1 b3 k3 h0 n0 v U'.heap L ∧ FrameEnd U o U' L ({ frames := 0, cells := 0, slots := 0, locals := 0 } : Room).cells ({ frames := 0, cells := 0, slots := 0, locals := 0 } : Room).slots) := by
  refine MetFree.of_bodySF (plainFor_of_name pn_2) hisR ?_
  intro p e s m args below meth c s₁ Bd hml0 hP hK
  obtain ⟨rfl, hZ, hh⟩ := hP
  have hx := Bd.exec
  have hby := Bd.bytes
  have hml : c.maxLocals = 8 := hml0
  have hown : s.vm.findClass "com/example/hot_gate/hotgate/bench/Replies" = some m.cls := findClass_of_methodNamed Bd.named
  have hnm := (name_of_methodNamed Bd.named Bd.method).1
  have X0 : Stand p l e ({ frames := 0, cells := 0, slots := 0, locals := 0 } : Room) s m #[(.ref p0), p1] below meth c s₁ [] 0 0 := Stand.of_body Bd
  have e0 : s₁.heap = h0 := by rw [← hh, Bd.state]; rfl
  have N0 := Fr.nil n0
  have s0 : Steps p.tables e below (s₁.setTop (entryFrame m #[(.ref p0), p1] 8)) (s₁.setTop (mkF m 0 #[.val (.ref p0), .val p1, .unset, .unset, .unset, .unset, .unset, .unset] [])) := castTop (ef_rmc0 m p0 p1 F2_) (Steps.refl _)
  obtain ⟨T1, X1, e1, st1⟩ := getF X0 hx hZ hown (host := "") (Or.inl (hw _ (List.mem_of_getElem? (i := 39) rfl))) Via.refl e0 F0_ (g := (mkF m 3 #[.val (.ref p0), .val p1, .val (.long (0 : Int64)), .second, .unset, .unset, .unset, .unset] [(.ref p0)])) rfl rfl (hb hby d5_3)
  obtain ⟨cla2, Ara2, qa2, Sa2, Za2, Ha2, Ga2⟩ := id F1_
  have s3 : Steps p.tables e below (s₁.setTop (entryFrame m #[(.ref p0), p1] 8)) (T1.setTop (mkF m 47 #[.val (.ref p0), .val p1, .val (.long (0 : Int64)), .second, .val (.ref b3), .val (.int (0 : Int32)), .val (.int (0 : Int32)), .unset] [(.long (0 : Int64))])) := by
    refine s0.trans ?_
    show Steps p.tables e below (s₁.setTop (mkF m 0 #[.val (.ref p0), .val p1, .unset, .unset, .unset, .unset, .unset, .unset] [])) _
    refine XS.lconst X0.here hx rfl (hb hby d5_0) ?_
    show Steps p.tables e below (s₁.setTop (mkF m 1 #[.val (.ref p0), .val p1, .unset, .unset, .unset, .unset, .unset, .unset] [(.long (0 : Int64))])) _
    refine XS.lstoreN X0.here hx rfl (hb hby d5_1) rfl (l' := #[.val (.ref p0), .val p1, .val (.long (0 : Int64)), .second, .unset, .unset, .unset, .unset]) rfl ?_
    show Steps p.tables e below (s₁.setTop (mkF m 2 #[.val (.ref p0), .val p1, .val (.long (0 : Int64)), .second, .unset, .unset, .unset, .unset] [])) _
    refine XS.aloadN X0.here hx rfl (hb hby d5_2) rfl rfl ?_
    show Steps p.tables e below (s₁.setTop (mkF m 3 #[.val (.ref p0), .val p1, .val (.long (0 : Int64)), .second, .unset, .unset, .unset, .unset] [(.ref p0)])) _
    refine st1 _ ?_
    show Steps p.tables e below (T1.setTop (mkF m 6 #[.val (.ref p0), .val p1, .val (.long (0 : Int64)), .second, .unset, .unset, .unset, .unset] [(.ref b3)])) _
    refine XS.astore X1.here hx rfl (hb hby d5_6) rfl rfl (l' := #[.val (.ref p0), .val p1, .val (.long (0 : Int64)), .second, .val (.ref b3), .unset, .unset, .unset]) rfl ?_
    show Steps p.tables e below (T1.setTop (mkF m 8 #[.val (.ref p0), .val p1, .val (.long (0 : Int64)), .second, .val (.ref b3), .unset, .unset, .unset] [])) _
    refine XS.aload X1.here hx rfl (hb hby d5_8) rfl rfl ?_
    show Steps p.tables e below (T1.setTop (mkF m 10 #[.val (.ref p0), .val p1, .val (.long (0 : Int64)), .second, .val (.ref b3), .unset, .unset, .unset] [(.ref b3)])) _
    refine X1.arraylength hx (by rw [e1]; exact Ara2.1) (State.isArrayOf_alike hZ.alike Ara2.2.1) (g := (mkF m 10 #[.val (.ref p0), .val p1, .val (.long (0 : Int64)), .second, .val (.ref b3), .unset, .unset, .unset] [(.ref b3)])) rfl rfl (hb hby d5_10) _ ?_
    rw [len_of Sa2 Za2]
    show Steps p.tables e below (T1.setTop (mkF m 11 #[.val (.ref p0), .val p1, .val (.long (0 : Int64)), .second, .val (.ref b3), .unset, .unset, .unset] [(.int (0 : Int32))])) _
    refine XS.istore X1.here hx rfl (hb hby d5_11) rfl (l' := #[.val (.ref p0), .val p1, .val (.long (0 : Int64)), .second, .val (.ref b3), .val (.int (0 : Int32)), .unset, .unset]) rfl ?_
    show Steps p.tables e below (T1.setTop (mkF m 13 #[.val (.ref p0), .val p1, .val (.long (0 : Int64)), .second, .val (.ref b3), .val (.int (0 : Int32)), .unset, .unset] [])) _
    refine XS.iconst X1.here hx rfl (hb hby d5_13) ?_
    show Steps p.tables e below (T1.setTop (mkF m 14 #[.val (.ref p0), .val p1, .val (.long (0 : Int64)), .second, .val (.ref b3), .val (.int (0 : Int32)), .unset, .unset] [(.int (0 : Int32))])) _
    refine XS.istore X1.here hx rfl (hb hby d5_14) rfl (l' := #[.val (.ref p0), .val p1, .val (.long (0 : Int64)), .second, .val (.ref b3), .val (.int (0 : Int32)), .val (.int (0 : Int32)), .unset]) rfl ?_
    show Steps p.tables e below (T1.setTop (mkF m 16 #[.val (.ref p0), .val p1, .val (.long (0 : Int64)), .second, .val (.ref b3), .val (.int (0 : Int32)), .val (.int (0 : Int32)), .unset] [])) _
    refine XS.iload X1.here hx rfl (hb hby d5_16) rfl ?_
    show Steps p.tables e below (T1.setTop (mkF m 18 #[.val (.ref p0), .val p1, .val (.long (0 : Int64)), .second, .val (.ref b3), .val (.int (0 : Int32)), .val (.int (0 : Int32)), .unset] [(.int (0 : Int32))])) _
    refine XS.iload X1.here hx rfl (hb hby d5_18) rfl ?_
    show Steps p.tables e below (T1.setTop (mkF m 20 #[.val (.ref p0), .val p1, .val (.long (0 : Int64)), .second, .val (.ref b3), .val (.int (0 : Int32)), .val (.int (0 : Int32)), .unset] [(.int (0 : Int32)), (.int (0 : Int32))])) _
    refine XS.icmpYes X1.here hx rfl (pc0 := 20) (pc' := 46) rfl (hb hby d5_20) rfl (flt (by decide)).2.1 (by decide) (by decide) ?_
    show Steps p.tables e below (T1.setTop (mkF m 46 #[.val (.ref p0), .val p1, .val (.long (0 : Int64)), .second, .val (.ref b3), .val (.int (0 : Int32)), .val (.int (0 : Int32)), .unset] [])) _
    refine XS.lloadN X1.here hx rfl (hb hby d5_46) rfl ?_
    exact Steps.refl _
  obtain ⟨fs, hr, hrun, hended, hW, hsame⟩ := X1.leave (v := some (.long (0 : Int64))) (fun h => by rw [Bd.returns] at h; cases h)
  refine ⟨_, _, s3.trans ?_, hrun, hended, _, _, rfl, ?_, ⟨_, rfl⟩, hW, hsame.mono (by decide) (by decide)⟩
  · show Steps p.tables e below (T1.setTop (mkF m 47 #[.val (.ref p0), .val p1, .val (.long (0 : Int64)), .second, .val (.ref b3), .val (.int (0 : Int32)), .val (.int (0 : Int32)), .unset] [(.long (0 : Int64))])) _
    jvm_step X1.here [X1.here.top, hx, (hb hby d5_47), X1.method', Bd.returns, narrow]
    first | (intro acts; rw [hr _ acts rfl rfl rfl]) | rw [hr _ _ rfl rfl rfl]
    exact Steps.refl _
  · show Qc0 Z p0 p1 b3 k3 h0 n0 _ T1.heap _
    rw [e1]
    exact ⟨rfl, N0, rfl⟩
theorem pd_rmi1_0 : parseMethodDescriptor "()V" = some ⟨[], none⟩ := by decide +kernel
theorem ef_rmi1 (m : MethodId) (p0 : Addr) : entryFrame m #[(.ref p0), (.int (1 : Int32))] 2 = mkF m 0 #[.val (.ref p0), .val (.int (1 : Int32))] [] := by first | (simp [entryFrame, mkF, argsToLocals, Value.category]; done) | rfl
def Qi1 (Z : State) (p0 : Addr) (h0 : Heap) (n0 : Nat) (v : Option Value) (h : Heap) (L : List Loc) : Prop := ∃ b1 : Addr, ∃ b2 : Addr, ∃ b3 : Addr, ∃ k1 : ClassId, ∃ k2 : ClassId, ∃ k3 : ClassId, v = none ∧ Fr n0 L ∧ Keep h0 h [p0] ∧ (Exa Z h p0 "com/example/hot_gate/hotgate/bench/Replies") ∧ (Fld Z h p0 "com/example/hot_gate/hotgate/bench/Replies" "sentAt" "[J" (.ref b1)) ∧ (Fld Z h p0 "com/example/hot_gate/hotgate/bench/Replies" "answeredAt" "[J" (.ref b2)) ∧ (Fld Z h p0 "com/example/hot_gate/hotgate/bench/Replies" "outcomes" "[Lcom/example/hot_gate/hotgate/bench/Outcome;" (.ref b3)) ∧ (Arv Z h b1 k1 .long (1 : Int32) [(.long (0 : Int64))] (.long (0 : Int64))) ∧ (Arv Z h b2 k2 .long (1 : Int32) [(.long (0 : Int64))] (.long (0 : Int64))) ∧ (Arv Z h b3 k3 (.object "com/example/hot_gate/hotgate/bench/Outcome") (1 : Int32) [.null] .null) ∧ (h0.size ≤ b1) ∧ (h0.size ≤ b2) ∧ (h0.size ≤ b3) ∧ (b1 ≠ b2) ∧ (b1 ≠ b3) ∧ (b2 ≠ b3) ∧ (Ovr Z k3 "com/example/hot_gate/hotgate/bench/Outcome")
set_option maxRecDepth 65536 in
set_option maxHeartbeats 40000000 in
theorem rmi1 (l : Launch) (Z : State) (a0 : Array Value) (hw : ∀ d ∈ tables_1, d.before a0 Z = true) (ws : List Jvm.Cond) (p0 : Addr) (h0 : Heap) (n0 : Nat) (O0 : Old Z n0 h0) (F0_ : Exa Z h0 p0 "com/example/hot_gate/hotgate/bench/Replies") (F1_ : Fld Z h0 p0 "com/example/hot_gate/hotgate/bench/Replies" "firstError" "Ljava/util/concurrent/atomic/AtomicReference;" .null) (F2_ : Fld Z h0 p0 "com/example/hot_gate/hotgate/bench/Replies" "sentAt" "[J" .null) (F3_ : Fld Z h0 p0 "com/example/hot_gate/hotgate/bench/Replies" "answeredAt" "[J" .null) (F4_ : Fld Z h0 p0 "com/example/hot_gate/hotgate/bench/Replies" "outcomes" "[Lcom/example/hot_gate/hotgate/bench/Outcome;" .null) (F5_ : n0 ≤ p0) :
    MetFree l (⟨"com/example/hot_gate/hotgate/bench/Replies", "<init>", "(I)V"⟩ : MethodName) (head1 (Jvm.Cond.code (⟨"com/example/hot_gate/hotgate/bench/Replies", "<init>", "(I)V"⟩ : MethodName) prog_12_method_1_code 2 none :: ws) ({ frames := 2, cells := 4, slots := 4, locals := 26 } : Room)) (fun a U => a = #[(.ref p0), (.int (1 : Int32))] ∧ Z.Warmed39 U.vm ∧ U.heap = h0) (fun _ _ _ _ _ => True) (fun _ U o U' => ∃ v L, o = .returned v ∧ Qi1 Z p0 h0 n0 v U'.heap L ∧ FrameEnd U o U' L ({ frames := 2, cells := 4, slots := 4, locals := 26 } : Room).cells ({ frames := 2, cells := 4, slots := 4, locals := 26 } : Room).slots) := by
  refine MetFree.of_bodySF (plainFor_of_name pn_2) hisR ?_
  intro p e s m args below meth c s₁ Bd hml0 hP hK
  obtain ⟨rfl, hZ, hh⟩ := hP
  have hx := Bd.exec
  have hby := Bd.bytes
  have hml : c.maxLocals = 2 := hml0
  have hown : s.vm.findClass "com/example/hot_gate/hotgate/bench/Replies" = some m.cls := findClass_of_methodNamed Bd.named
  have hnm := (name_of_methodNamed Bd.named Bd.method).1
  have X0 : Stand p l e ({ frames := 2, cells := 4, slots := 4, locals := 26 } : Room) s m #[(.ref p0), (.int (1 : Int32))] below meth c s₁ [] 0 0 := Stand.of_body Bd
  have e0 : s₁.heap = h0 := by rw [← hh, Bd.state]; rfl
  have N0 := Fr.nil n0
  have s0 : Steps p.tables e below (s₁.setTop (entryFrame m #[(.ref p0), (.int (1 : Int32))] 2)) (s₁.setTop (mkF m 0 #[.val (.ref p0), .val (.int (1 : Int32))] [])) := castTop (ef_rmi1 m p0) (Steps.refl _)
  obtain ⟨T1, X1, e1, st1⟩ := initO X0 hx hZ hown (hw _ (List.mem_of_getElem? (i := 20) rfl)) (hw _ (List.mem_of_getElem? (i := 21) rfl)) (hw _ (List.mem_of_getElem? (i := 22) rfl)) e0 (g := (mkF m 1 #[.val (.ref p0), .val (.int (1 : Int32))] [(.ref p0)])) rfl (by rw [hml]; rfl) rfl (hb hby d2_1) (by decide) (W := 0) (by show 2 * 0 + _ ≤ _; exact Nat.le_of_eq rfl) (by decide)
  obtain ⟨T2, h2, X2, e2, E2, A2, D2, -, st2⟩ := newO X1 hx hZ hown (hw _ (List.mem_of_getElem? (i := 23) rfl)) (hw _ (List.mem_of_getElem? (i := 24) rfl)) (hw _ (List.mem_of_getElem? (i := 25) rfl)) e1 (g := (mkF m 5 #[.val (.ref p0), .val (.int (1 : Int32))] [(.ref p0)])) rfl (hb hby d2_5) (by decide) (by decide)
  obtain ⟨b2, g2⟩ : ∃ z, z = h0.size := ⟨_, rfl⟩
  rw [← g2] at A2 D2 st2
  have ne_p0_b2 : p0 ≠ b2 := Nat.ne_of_lt (Nat.lt_of_lt_of_le F0_.lt (Nat.le_of_eq g2.symm))
  have g_b2 : n0 ≤ b2 := Nat.le_trans (Nat.le_of_eq O0.1.symm) (Nat.le_trans O0.2.1 (Nat.le_of_eq g2.symm))
  have sz_b2 : h0.size ≤ b2 := Nat.le_trans (Keep.refl h0 [p0]).1 (Nat.le_of_eq g2.symm)
  have O2 := O0.ext E2
  have K2 : Keep h0 h2 [p0] := (Keep.refl h0 [p0]).ext E2
  obtain ⟨_, _, ⟨T3, L3, k3, n3⟩, -, X3, ⟨Lc3, hQ3, l3, y3, z3⟩, st3⟩ := X2.specialBack hx (y := (⟨"java/util/concurrent/atomic/AtomicReference", "<init>", "()V"⟩ : MethodName)) rfl hown (mvT hZ (hw _ (List.mem_of_getElem? (i := 26) rfl))) (mvT hZ (hw _ (List.mem_of_getElem? (i := 27) rfl))) (mvT hZ (hw _ (List.mem_of_getElem? (i := 28) rfl))) (by decide) (backOf (W := 2) (rm4 l Z a0 hw [] b2 h2 n0 O2 ) hZ (hw _ (List.mem_of_getElem? (i := 28) rfl)) (hw _ (List.mem_of_getElem? (i := 25) rfl)) (by decide) (by decide)) (g := (mkF m 9 #[.val (.ref p0), .val (.int (1 : Int32))] [(.ref b2), (.ref b2), (.ref p0)])) rfl (by rw [hml]; rfl) (Steps.refl _) (a := b2) (argsL := []) (rest := [(.ref b2), (.ref p0)]) (lenOf pd_rmi1_0 rfl) rfl (by show 2 * 0 + _ ≤ _; exact Nat.le_of_eq rfl) (hb hby d2_9) (fun _ _ => ⟨rfl, e2, (by decide : 1 + 0 ≤ _), (by decide : 1 + 0 ≤ _)⟩)
  dsimp only [Pt.U, Pt.locs, Pt.cells, Pt.slots] at X3 l3 y3 z3 st3 hQ3
  subst l3 y3 z3
  obtain ⟨rfl, Nq3, e3⟩ := hQ3
  have N3 := Fr.app N0 Nq3
  have c4 : Exa Z h2 p0 "com/example/hot_gate/hotgate/bench/Replies" := (F0_.ext E2)
  have c5 : Fld Z h2 p0 "com/example/hot_gate/hotgate/bench/Replies" "firstError" "Ljava/util/concurrent/atomic/AtomicReference;" .null := (F1_.ext E2)
  obtain ⟨T6, h6, X6, e6, W6, st6⟩ := putF X3 hx hZ hown (host := "") (Or.inl (hw _ (List.mem_of_getElem? (i := 30) rfl))) Via.refl e3 c5 c4 (Or.inr ⟨(hw _ (List.mem_of_getElem? (i := 31) rfl)), rfl, hnm⟩) (hw _ (List.mem_of_getElem? (i := 15) rfl)) (ty := (.object "java/util/concurrent/atomic/AtomicReference")) (by decide) rfl rfl (g := (mkF m 12 #[.val (.ref p0), .val (.int (1 : Int32))] [(.ref b2), (.ref p0)])) rfl rfl (hb hby d2_12)
  have Fw6 := c5.same W6
  have O6 := O2.wr W6 F5_
  have K6 : Keep h0 h6 [p0] := K2.wr W6 (Or.inl (List.mem_of_getElem? (i := 0) rfl))
  have N6 := Fr.snoc X6 N3 F5_
  obtain ⟨T7, h7, k7, X7, e7, E7, A7, st7⟩ := newP X6 hx hZ (hw _ (List.mem_of_getElem? (i := 32) rfl)) e6 (g := (mkF m 17 #[.val (.ref p0), .val (.int (1 : Int32))] [(.int (1 : Int32)), (.ref p0)])) rfl (hb hby d2_17) rfl (by decide) (cap := 1) (by decide) (by decide) (by decide) (by decide)
  obtain ⟨b7, g7⟩ : ∃ z, z = h6.size := ⟨_, rfl⟩
  rw [← g7] at A7 st7
  have c8 : Exa Z h6 p0 "com/example/hot_gate/hotgate/bench/Replies" := (c4.wr W6)
  have ne_p0_b7 : p0 ≠ b7 := Nat.ne_of_lt (Nat.lt_of_lt_of_le c8.lt (Nat.le_of_eq g7.symm))
  have c9 : Exa Z h6 b2 "java/util/concurrent/atomic/AtomicReference" := (A2.wr W6)
  have ne_b2_b7 : b2 ≠ b7 := Nat.ne_of_lt (Nat.lt_of_lt_of_le c9.lt (Nat.le_of_eq g7.symm))
  have g_b7 : n0 ≤ b7 := Nat.le_trans (Nat.le_of_eq O6.1.symm) (Nat.le_trans O6.2.1 (Nat.le_of_eq g7.symm))
  have sz_b7 : h0.size ≤ b7 := Nat.le_trans K6.1 (Nat.le_of_eq g7.symm)
  have O7 := O6.ext E7
  have K7 : Keep h0 h7 [p0] := K6.ext E7
  have V7 : Arv Z h7 b7 k7 .long (1 : Int32) [(.long (0 : Int64))] (.long (0 : Int64)) := (Arv.new A7 (by decide)).pad (pad_rep [] (.long (0 : Int64)) 1)
  have c10 : Exa Z h7 p0 "com/example/hot_gate/hotgate/bench/Replies" := (c8.ext E7)
  have c11 : Fld Z h7 p0 "com/example/hot_gate/hotgate/bench/Replies" "sentAt" "[J" .null := (((F2_.ext E2).other W6 (Or.inr (slot_ne (Or.inr (hw _ (List.mem_of_getElem? (i := 34) rfl))) (Or.inr (hw _ (List.mem_of_getElem? (i := 31) rfl))) (by decide) (t := (.array .long)) (t' := (.object "java/util/concurrent/atomic/AtomicReference")) (by decide) (by decide)))).ext E7)
  obtain ⟨T12, h12, X12, e12, W12, st12⟩ := putF X7 hx hZ hown (host := "") (Or.inl (hw _ (List.mem_of_getElem? (i := 33) rfl))) Via.refl e7 c11 c10 (Or.inr ⟨(hw _ (List.mem_of_getElem? (i := 34) rfl)), rfl, hnm⟩) (hw _ (List.mem_of_getElem? (i := 15) rfl)) (ty := (.array .long)) (by decide) rfl rfl (g := (mkF m 19 #[.val (.ref p0), .val (.int (1 : Int32))] [(.ref b7), (.ref p0)])) rfl rfl (hb hby d2_19)
  have Fw12 := c11.same W12
  have O12 := O7.wr W12 F5_
  have K12 : Keep h0 h12 [p0] := K7.wr W12 (Or.inl (List.mem_of_getElem? (i := 0) rfl))
  have N12 := Fr.snoc X12 N6 F5_
  obtain ⟨T13, h13, k13, X13, e13, E13, A13, st13⟩ := newP X12 hx hZ (hw _ (List.mem_of_getElem? (i := 32) rfl)) e12 (g := (mkF m 24 #[.val (.ref p0), .val (.int (1 : Int32))] [(.int (1 : Int32)), (.ref p0)])) rfl (hb hby d2_24) rfl (by decide) (cap := 1) (by decide) (by decide) (by decide) (by decide)
  obtain ⟨b13, g13⟩ : ∃ z, z = h12.size := ⟨_, rfl⟩
  rw [← g13] at A13 st13
  have c14 : Exa Z h12 p0 "com/example/hot_gate/hotgate/bench/Replies" := (c10.wr W12)
  have ne_p0_b13 : p0 ≠ b13 := Nat.ne_of_lt (Nat.lt_of_lt_of_le c14.lt (Nat.le_of_eq g13.symm))
  have c15 : Exa Z h12 b2 "java/util/concurrent/atomic/AtomicReference" := ((c9.ext E7).wr W12)
  have ne_b2_b13 : b2 ≠ b13 := Nat.ne_of_lt (Nat.lt_of_lt_of_le c15.lt (Nat.le_of_eq g13.symm))
  have c16 : Arv Z h12 b7 k7 .long (1 : Int32) [(.long (0 : Int64))] (.long (0 : Int64)) := (V7.other W12 (Ne.symm ne_p0_b7))
  have ne_b7_b13 : b7 ≠ b13 := Nat.ne_of_lt (Nat.lt_of_lt_of_le c16.lt (Nat.le_of_eq g13.symm))
  have g_b13 : n0 ≤ b13 := Nat.le_trans (Nat.le_of_eq O12.1.symm) (Nat.le_trans O12.2.1 (Nat.le_of_eq g13.symm))
  have sz_b13 : h0.size ≤ b13 := Nat.le_trans K12.1 (Nat.le_of_eq g13.symm)
  have O13 := O12.ext E13
  have K13 : Keep h0 h13 [p0] := K12.ext E13
  have V13 : Arv Z h13 b13 k13 .long (1 : Int32) [(.long (0 : Int64))] (.long (0 : Int64)) := (Arv.new A13 (by decide)).pad (pad_rep [] (.long (0 : Int64)) 1)
  have c17 : Exa Z h13 p0 "com/example/hot_gate/hotgate/bench/Replies" := (c14.ext E13)
  have c18 : Fld Z h13 p0 "com/example/hot_gate/hotgate/bench/Replies" "answeredAt" "[J" .null := (((((F3_.ext E2).other W6 (Or.inr (slot_ne (Or.inr (hw _ (List.mem_of_getElem? (i := 36) rfl))) (Or.inr (hw _ (List.mem_of_getElem? (i := 31) rfl))) (by decide) (t := (.array .long)) (t' := (.object "java/util/concurrent/atomic/AtomicReference")) (by decide) (by decide)))).ext E7).other W12 (Or.inr (slot_ne (Or.inr (hw _ (List.mem_of_getElem? (i := 36) rfl))) (Or.inr (hw _ (List.mem_of_getElem? (i := 34) rfl))) (by decide) (t := (.array .long)) (t' := (.array .long)) (by decide) (by decide)))).ext E13)
  obtain ⟨T19, h19, X19, e19, W19, st19⟩ := putF X13 hx hZ hown (host := "") (Or.inl (hw _ (List.mem_of_getElem? (i := 35) rfl))) Via.refl e13 c18 c17 (Or.inr ⟨(hw _ (List.mem_of_getElem? (i := 36) rfl)), rfl, hnm⟩) (hw _ (List.mem_of_getElem? (i := 15) rfl)) (ty := (.array .long)) (by decide) rfl rfl (g := (mkF m 26 #[.val (.ref p0), .val (.int (1 : Int32))] [(.ref b13), (.ref p0)])) rfl rfl (hb hby d2_26)
  have Fw19 := c18.same W19
  have O19 := O13.wr W19 F5_
  have K19 : Keep h0 h19 [p0] := K13.wr W19 (Or.inl (List.mem_of_getElem? (i := 0) rfl))
  have N19 := Fr.snoc X19 N12 F5_
  obtain ⟨T20, h20, k20, X20, e20, E20, A20, Ov20, st20⟩ := newR X19 hx hZ hown (hw _ (List.mem_of_getElem? (i := 37) rfl)) (hw _ (List.mem_of_getElem? (i := 38) rfl)) e19 (g := (mkF m 31 #[.val (.ref p0), .val (.int (1 : Int32))] [(.int (1 : Int32)), (.ref p0)])) rfl (hb hby d2_31) rfl (by decide) (cap := 1) (by decide) (by decide) (by decide) (by decide)
  obtain ⟨b20, g20⟩ : ∃ z, z = h19.size := ⟨_, rfl⟩
  rw [← g20] at A20 st20
  have c21 : Exa Z h19 p0 "com/example/hot_gate/hotgate/bench/Replies" := (c17.wr W19)
  have ne_p0_b20 : p0 ≠ b20 := Nat.ne_of_lt (Nat.lt_of_lt_of_le c21.lt (Nat.le_of_eq g20.symm))
  have c22 : Exa Z h19 b2 "java/util/concurrent/atomic/AtomicReference" := ((c15.ext E13).wr W19)
  have ne_b2_b20 : b2 ≠ b20 := Nat.ne_of_lt (Nat.lt_of_lt_of_le c22.lt (Nat.le_of_eq g20.symm))
  have c23 : Arv Z h19 b7 k7 .long (1 : Int32) [(.long (0 : Int64))] (.long (0 : Int64)) := ((c16.ext E13).other W19 (Ne.symm ne_p0_b7))
  have ne_b7_b20 : b7 ≠ b20 := Nat.ne_of_lt (Nat.lt_of_lt_of_le c23.lt (Nat.le_of_eq g20.symm))
  have c24 : Arv Z h19 b13 k13 .long (1 : Int32) [(.long (0 : Int64))] (.long (0 : Int64)) := (V13.other W19 (Ne.symm ne_p0_b13))
  have ne_b13_b20 : b13 ≠ b20 := Nat.ne_of_lt (Nat.lt_of_lt_of_le c24.lt (Nat.le_of_eq g20.symm))
  have g_b20 : n0 ≤ b20 := Nat.le_trans (Nat.le_of_eq O19.1.symm) (Nat.le_trans O19.2.1 (Nat.le_of_eq g20.symm))
  have sz_b20 : h0.size ≤ b20 := Nat.le_trans K19.1 (Nat.le_of_eq g20.symm)
  have O20 := O19.ext E20
  have K20 : Keep h0 h20 [p0] := K19.ext E20
  have V20 : Arv Z h20 b20 k20 (.object "com/example/hot_gate/hotgate/bench/Outcome") (1 : Int32) [.null] .null := (Arv.new A20 (by decide)).pad (pad_rep [] .null 1)
  have c25 : Exa Z h20 p0 "com/example/hot_gate/hotgate/bench/Replies" := (c21.ext E20)
  have c26 : Fld Z h20 p0 "com/example/hot_gate/hotgate/bench/Replies" "outcomes" "[Lcom/example/hot_gate/hotgate/bench/Outcome;" .null := (((((((F4_.ext E2).other W6 (Or.inr (slot_ne (Or.inr (hw _ (List.mem_of_getElem? (i := 40) rfl))) (Or.inr (hw _ (List.mem_of_getElem? (i := 31) rfl))) (by decide) (t := (.array (.object "com/example/hot_gate/hotgate/bench/Outcome"))) (t' := (.object "java/util/concurrent/atomic/AtomicReference")) (by decide) (by decide)))).ext E7).other W12 (Or.inr (slot_ne (Or.inr (hw _ (List.mem_of_getElem? (i := 40) rfl))) (Or.inr (hw _ (List.mem_of_getElem? (i := 34) rfl))) (by decide) (t := (.array (.object "com/example/hot_gate/hotgate/bench/Outcome"))) (t' := (.array .long)) (by decide) (by decide)))).ext E13).other W19 (Or.inr (slot_ne (Or.inr (hw _ (List.mem_of_getElem? (i := 40) rfl))) (Or.inr (hw _ (List.mem_of_getElem? (i := 36) rfl))) (by decide) (t := (.array (.object "com/example/hot_gate/hotgate/bench/Outcome"))) (t' := (.array .long)) (by decide) (by decide)))).ext E20)
  obtain ⟨T27, h27, X27, e27, W27, st27⟩ := putF X20 hx hZ hown (host := "") (Or.inl (hw _ (List.mem_of_getElem? (i := 39) rfl))) Via.refl e20 c26 c25 (Or.inr ⟨(hw _ (List.mem_of_getElem? (i := 40) rfl)), rfl, hnm⟩) (hw _ (List.mem_of_getElem? (i := 15) rfl)) (ty := (.array (.object "com/example/hot_gate/hotgate/bench/Outcome"))) (by decide) rfl rfl (g := (mkF m 34 #[.val (.ref p0), .val (.int (1 : Int32))] [(.ref b20), (.ref p0)])) rfl rfl (hb hby d2_34)
  have Fw27 := c26.same W27
  have O27 := O20.wr W27 F5_
  have K27 : Keep h0 h27 [p0] := K20.wr W27 (Or.inl (List.mem_of_getElem? (i := 0) rfl))
  have N27 := Fr.snoc X27 N19 F5_
  have s28 : Steps p.tables e below (s₁.setTop (entryFrame m #[(.ref p0), (.int (1 : Int32))] 2)) (T27.setTop (mkF m 37 #[.val (.ref p0), .val (.int (1 : Int32))] [])) := by
    refine s0.trans ?_
    show Steps p.tables e below (s₁.setTop (mkF m 0 #[.val (.ref p0), .val (.int (1 : Int32))] [])) _
    refine XS.aloadN X0.here hx rfl (hb hby d2_0) rfl rfl ?_
    show Steps p.tables e below (s₁.setTop (mkF m 1 #[.val (.ref p0), .val (.int (1 : Int32))] [(.ref p0)])) _
    refine st1 _ ?_
    show Steps p.tables e below (T1.setTop (mkF m 4 #[.val (.ref p0), .val (.int (1 : Int32))] [])) _
    refine XS.aloadN X1.here hx rfl (hb hby d2_4) rfl rfl ?_
    show Steps p.tables e below (T1.setTop (mkF m 5 #[.val (.ref p0), .val (.int (1 : Int32))] [(.ref p0)])) _
    refine st2 _ ?_
    show Steps p.tables e below (T2.setTop (mkF m 8 #[.val (.ref p0), .val (.int (1 : Int32))] [(.ref b2), (.ref p0)])) _
    refine XS.dup X2.here hx rfl (hb hby d2_8) rfl rfl ?_
    show Steps p.tables e below (T2.setTop (mkF m 9 #[.val (.ref p0), .val (.int (1 : Int32))] [(.ref b2), (.ref b2), (.ref p0)])) _
    refine st3.trans ?_
    show Steps p.tables e below (T3.setTop (mkF m 12 #[.val (.ref p0), .val (.int (1 : Int32))] [(.ref b2), (.ref p0)])) _
    refine st6 _ ?_
    show Steps p.tables e below (T6.setTop (mkF m 15 #[.val (.ref p0), .val (.int (1 : Int32))] [])) _
    refine XS.aloadN X6.here hx rfl (hb hby d2_15) rfl rfl ?_
    show Steps p.tables e below (T6.setTop (mkF m 16 #[.val (.ref p0), .val (.int (1 : Int32))] [(.ref p0)])) _
    refine XS.iloadN X6.here hx rfl (hb hby d2_16) rfl ?_
    show Steps p.tables e below (T6.setTop (mkF m 17 #[.val (.ref p0), .val (.int (1 : Int32))] [(.int (1 : Int32)), (.ref p0)])) _
    refine st7 _ ?_
    show Steps p.tables e below (T7.setTop (mkF m 19 #[.val (.ref p0), .val (.int (1 : Int32))] [(.ref b7), (.ref p0)])) _
    refine st12 _ ?_
    show Steps p.tables e below (T12.setTop (mkF m 22 #[.val (.ref p0), .val (.int (1 : Int32))] [])) _
    refine XS.aloadN X12.here hx rfl (hb hby d2_22) rfl rfl ?_
    show Steps p.tables e below (T12.setTop (mkF m 23 #[.val (.ref p0), .val (.int (1 : Int32))] [(.ref p0)])) _
    refine XS.iloadN X12.here hx rfl (hb hby d2_23) rfl ?_
    show Steps p.tables e below (T12.setTop (mkF m 24 #[.val (.ref p0), .val (.int (1 : Int32))] [(.int (1 : Int32)), (.ref p0)])) _
    refine st13 _ ?_
    show Steps p.tables e below (T13.setTop (mkF m 26 #[.val (.ref p0), .val (.int (1 : Int32))] [(.ref b13), (.ref p0)])) _
    refine st19 _ ?_
    show Steps p.tables e below (T19.setTop (mkF m 29 #[.val (.ref p0), .val (.int (1 : Int32))] [])) _
    refine XS.aloadN X19.here hx rfl (hb hby d2_29) rfl rfl ?_
    show Steps p.tables e below (T19.setTop (mkF m 30 #[.val (.ref p0), .val (.int (1 : Int32))] [(.ref p0)])) _
    refine XS.iloadN X19.here hx rfl (hb hby d2_30) rfl ?_
    show Steps p.tables e below (T19.setTop (mkF m 31 #[.val (.ref p0), .val (.int (1 : Int32))] [(.int (1 : Int32)), (.ref p0)])) _
    refine st20 _ ?_
    show Steps p.tables e below (T20.setTop (mkF m 34 #[.val (.ref p0), .val (.int (1 : Int32))] [(.ref b20), (.ref p0)])) _
    refine st27 _ ?_
    exact Steps.refl _
  have c29 : Exa Z h27 p0 "com/example/hot_gate/hotgate/bench/Replies" := (c25.wr W27)
  have c30 : Fld Z h27 p0 "com/example/hot_gate/hotgate/bench/Replies" "sentAt" "[J" (.ref b7) := ((((Fw12.ext E13).other W19 (Or.inr (slot_ne (Or.inr (hw _ (List.mem_of_getElem? (i := 34) rfl))) (Or.inr (hw _ (List.mem_of_getElem? (i := 36) rfl))) (by decide) (t := (.array .long)) (t' := (.array .long)) (by decide) (by decide)))).ext E20).other W27 (Or.inr (slot_ne (Or.inr (hw _ (List.mem_of_getElem? (i := 34) rfl))) (Or.inr (hw _ (List.mem_of_getElem? (i := 40) rfl))) (by decide) (t := (.array .long)) (t' := (.array (.object "com/example/hot_gate/hotgate/bench/Outcome"))) (by decide) (by decide))))
  have c31 : Fld Z h27 p0 "com/example/hot_gate/hotgate/bench/Replies" "answeredAt" "[J" (.ref b13) := ((Fw19.ext E20).other W27 (Or.inr (slot_ne (Or.inr (hw _ (List.mem_of_getElem? (i := 36) rfl))) (Or.inr (hw _ (List.mem_of_getElem? (i := 40) rfl))) (by decide) (t := (.array .long)) (t' := (.array (.object "com/example/hot_gate/hotgate/bench/Outcome"))) (by decide) (by decide))))
  have c32 : Arv Z h27 b7 k7 .long (1 : Int32) [(.long (0 : Int64))] (.long (0 : Int64)) := ((c23.ext E20).other W27 (Ne.symm ne_p0_b7))
  have c33 : Arv Z h27 b13 k13 .long (1 : Int32) [(.long (0 : Int64))] (.long (0 : Int64)) := ((c24.ext E20).other W27 (Ne.symm ne_p0_b13))
  have c34 : Arv Z h27 b20 k20 (.object "com/example/hot_gate/hotgate/bench/Outcome") (1 : Int32) [.null] .null := (V20.other W27 (Ne.symm ne_p0_b20))
  obtain ⟨fs, hr, hrun, hended, hW, hsame⟩ := X27.leave (v := none) (fun _ => rfl)
  refine ⟨_, _, s28.trans ?_, hrun, hended, _, _, rfl, ?_, ⟨_, rfl⟩, hW, hsame.mono (by decide) (by decide)⟩
  · show Steps p.tables e below (T27.setTop (mkF m 37 #[.val (.ref p0), .val (.int (1 : Int32))] [])) _
    exact X27.returnOut hx Bd.returns (hb hby d2_37) hr
  · show Qi1 Z p0 h0 n0 _ T27.heap _
    rw [e27]
    exact ⟨b7, b13, b20, k7, k13, k20, rfl, N27, K27, c29, c30, c31, Fw27, c32, c33, c34, sz_b7, sz_b13, sz_b20, ne_b7_b13, ne_b7_b20, ne_b13_b20, Ov20⟩
theorem d6_0 : decode prog_12_method_3_code 0 = .ok (.aload_n 0, 1) := by decide +kernel
theorem d6_1 : decode prog_12_method_3_code 1 = .ok (.getfield 16, 3) := by decide +kernel
theorem d6_4 : decode prog_12_method_3_code 4 = .ok (.iload_n 1, 1) := by decide +kernel
theorem d6_5 : decode prog_12_method_3_code 5 = .ok (.lload_n 2, 1) := by decide +kernel
theorem d6_6 : decode prog_12_method_3_code 6 = .ok (.lastore, 1) := by decide +kernel
theorem d6_7 : decode prog_12_method_3_code 7 = .ok (.aload_n 0, 1) := by decide +kernel
theorem d6_8 : decode prog_12_method_3_code 8 = .ok (.getfield 20, 3) := by decide +kernel
theorem d6_11 : decode prog_12_method_3_code 11 = .ok (.iload_n 1, 1) := by decide +kernel
theorem d6_12 : decode prog_12_method_3_code 12 = .ok (.lload 4, 2) := by decide +kernel
theorem d6_14 : decode prog_12_method_3_code 14 = .ok (.lastore, 1) := by decide +kernel
theorem d6_15 : decode prog_12_method_3_code 15 = .ok (.aload_n 0, 1) := by decide +kernel
theorem d6_16 : decode prog_12_method_3_code 16 = .ok (.getfield 25, 3) := by decide +kernel
theorem d6_19 : decode prog_12_method_3_code 19 = .ok (.iload_n 1, 1) := by decide +kernel
theorem d6_20 : decode prog_12_method_3_code 20 = .ok (.aload 6, 2) := by decide +kernel
theorem d6_22 : decode prog_12_method_3_code 22 = .ok (.aastore, 1) := by decide +kernel
theorem d6_23 : decode prog_12_method_3_code 23 = .ok (.aload 7, 2) := by decide +kernel
theorem d6_25 : decode prog_12_method_3_code 25 = .ok (.ifnull 14, 3) := by decide +kernel
theorem d6_39 : decode prog_12_method_3_code 39 = .ok (.return_, 1) := by decide +kernel
theorem ef_rmr1_0 (m : MethodId) (p0 : Addr) (p2 : Int64) (p3 : Int64) (p4 : Value) (r_p4 : p4.isRef = true) : entryFrame m #[(.ref p0), (.int (0 : Int32)), (.long p2), (.long p3), p4, .null] 8 = mkF m 0 #[.val (.ref p0), .val (.int (0 : Int32)), .val (.long p2), .second, .val (.long p3), .second, .val p4, .val .null] [] := by
  cases p4 <;> first | (cases r_p4; done) | (simp [entryFrame, mkF, argsToLocals, Value.category]; done) | rfl
def Qr1_0 (Z : State) (p0 : Addr) (p2 : Int64) (p3 : Int64) (p4 : Value) (b1 : Addr) (b2 : Addr) (b3 : Addr) (k1 : ClassId) (k2 : ClassId) (k3 : ClassId) (x0 : Int64) (y0 : Int64) (h0 : Heap) (n0 : Nat) (v : Option Value) (h : Heap) (L : List Loc) : Prop := v = none ∧ Fr n0 L ∧ Keep h0 h [b1, b2, b3] ∧ (Arv Z h b1 k1 .long (1 : Int32) [(.long p2)] (.long (0 : Int64))) ∧ (Arv Z h b2 k2 .long (1 : Int32) [(.long p3)] (.long (0 : Int64))) ∧ (Arv Z h b3 k3 (.object "com/example/hot_gate/hotgate/bench/Outcome") (1 : Int32) [p4] .null)
set_option maxRecDepth 65536 in
set_option maxHeartbeats 40000000 in
theorem rmr1_0 (l : Launch) (Z : State) (a0 : Array Value) (hw : ∀ d ∈ tables_1, d.before a0 Z = true) (ws : List Jvm.Cond) (p0 : Addr) (p2 : Int64) (p3 : Int64) (p4 : Value) (b1 : Addr) (b2 : Addr) (b3 : Addr) (k1 : ClassId) (k2 : ClassId) (k3 : ClassId) (x0 : Int64) (y0 : Int64) (h0 : Heap) (n0 : Nat) (O0 : Old Z n0 h0) (F0_ : Fld Z h0 p0 "com/example/hot_gate/hotgate/bench/Replies" "sentAt" "[J" (.ref b1)) (F1_ : Fld Z h0 p0 "com/example/hot_gate/hotgate/bench/Replies" "answeredAt" "[J" (.ref b2)) (F2_ : Fld Z h0 p0 "com/example/hot_gate/hotgate/bench/Replies" "outcomes" "[Lcom/example/hot_gate/hotgate/bench/Outcome;" (.ref b3)) (F3_ : Arv Z h0 b1 k1 .long (1 : Int32) [(.long x0)] (.long (0 : Int64))) (F4_ : Arv Z h0 b2 k2 .long (1 : Int32) [(.long y0)] (.long (0 : Int64))) (F5_ : Arv Z h0 b3 k3 (.object "com/example/hot_gate/hotgate/bench/Outcome") (1 : Int32) [.null] .null) (F6_ : n0 ≤ b1) (F7_ : n0 ≤ b2) (F8_ : n0 ≤ b3) (F9_ : b1 ≠ b2) (F10_ : b1 ≠ b3) (F11_ : b2 ≠ b3) (F12_ : p0 ≠ b1) (F13_ : p0 ≠ b2) (F14_ : p0 ≠ b3) (F15_ : Ovr Z k3 "com/example/hot_gate/hotgate/bench/Outcome") (F16_ : own_oc Z p4) (F17_ : p4.isRef = true) :
    MetFree l (⟨"com/example/hot_gate/hotgate/bench/Replies", "record", "(IJJLcom/example/hot_gate/hotgate/bench/Outcome;Ljava/lang/String;)V"⟩ : MethodName) (head1 (Jvm.Cond.code (⟨"com/example/hot_gate/hotgate/bench/Replies", "record", "(IJJLcom/example/hot_gate/hotgate/bench/Outcome;Ljava/lang/String;)V"⟩ : MethodName) prog_12_method_3_code 8 none :: ws) ({ frames := 0, cells := 0, slots := 0, locals := 0 } : Room)) (fun a U => a = #[(.ref p0), (.int (0 : Int32)), (.long p2), (.long p3), p4, .null] ∧ Z.Warmed39 U.vm ∧ U.heap = h0) (fun _ _ _ _ _ => True) (fun _ U o U' => ∃ v L, o = .returned v ∧ Qr1_0 Z p0 p2 p3 p4 b1 b2 b3 k1 k2 k3 x0 y0 h0 n0 v U'.heap L ∧ FrameEnd U o U' L ({ frames := 0, cells := 0, slots := 0, locals := 0 } : Room).cells ({ frames := 0, cells := 0, slots := 0, locals := 0 } : Room).slots) := by
  refine MetFree.of_bodySF (plainFor_of_name pn_2) hisR ?_
  intro p e s m args below meth c s₁ Bd hml0 hP hK
  obtain ⟨rfl, hZ, hh⟩ := hP
  have hx := Bd.exec
  have hby := Bd.bytes
  have hml : c.maxLocals = 8 := hml0
  have hown : s.vm.findClass "com/example/hot_gate/hotgate/bench/Replies" = some m.cls := findClass_of_methodNamed Bd.named
  have hnm := (name_of_methodNamed Bd.named Bd.method).1
  have X0 : Stand p l e ({ frames := 0, cells := 0, slots := 0, locals := 0 } : Room) s m #[(.ref p0), (.int (0 : Int32)), (.long p2), (.long p3), p4, .null] below meth c s₁ [] 0 0 := Stand.of_body Bd
  have e0 : s₁.heap = h0 := by rw [← hh, Bd.state]; rfl
  have N0 := Fr.nil n0
  have s0 : Steps p.tables e below (s₁.setTop (entryFrame m #[(.ref p0), (.int (0 : Int32)), (.long p2), (.long p3), p4, .null] 8)) (s₁.setTop (mkF m 0 #[.val (.ref p0), .val (.int (0 : Int32)), .val (.long p2), .second, .val (.long p3), .second, .val p4, .val .null] [])) := castTop (ef_rmr1_0 m p0 p2 p3 p4 F17_) (Steps.refl _)
  obtain ⟨T1, X1, e1, st1⟩ := getF X0 hx hZ hown (host := "") (Or.inl (hw _ (List.mem_of_getElem? (i := 33) rfl))) Via.refl e0 F0_ (g := (mkF m 1 #[.val (.ref p0), .val (.int (0 : Int32)), .val (.long p2), .second, .val (.long p3), .second, .val p4, .val .null] [(.ref p0)])) rfl rfl (hb hby d6_1)
  obtain ⟨cla2, Ara2, qa2, Sa2, Za2, Ha2, Ga2⟩ := id F3_
  have hin3 : ¬ ((0 : Int32) < 0 ∨ cla2.slots.size ≤ ((0 : Int32)).toNatClampNeg) := inb_of Sa2 ⟨by decide, by decide⟩
  obtain ⟨T4, h4, X4, e4, W4, st4⟩ := stJ X1 hx hZ e1 Ara2 (j := (0 : Int32)) hin3 (g := (mkF m 6 #[.val (.ref p0), .val (.int (0 : Int32)), .val (.long p2), .second, .val (.long p3), .second, .val p4, .val .null] [(.long p2), (.int (0 : Int32)), (.ref b1)])) rfl rfl (hb hby d6_6)
  have O4 := O0.wr W4 F6_
  have K4 : Keep h0 h4 [b1, b2, b3] := (Keep.refl h0 [b1, b2, b3]).wr W4 (Or.inl (List.mem_of_getElem? (i := 0) rfl))
  have N4 := Fr.snoc X4 N0 F6_
  have V4 : Arv Z h4 b1 k1 .long (1 : Int32) [(.long p2)] (.long (0 : Int64)) := Arv.set Ara2 qa2 Sa2 Za2 Ha2 Ga2 rfl W4 0 rfl (Nat.le_of_ble_eq_true rfl)
  have c5 : Fld Z h4 p0 "com/example/hot_gate/hotgate/bench/Replies" "answeredAt" "[J" (.ref b2) := (F1_.other W4 (Or.inl F12_))
  obtain ⟨T6, X6, e6, st6⟩ := getF X4 hx hZ hown (host := "") (Or.inl (hw _ (List.mem_of_getElem? (i := 35) rfl))) Via.refl e4 c5 (g := (mkF m 8 #[.val (.ref p0), .val (.int (0 : Int32)), .val (.long p2), .second, .val (.long p3), .second, .val p4, .val .null] [(.ref p0)])) rfl rfl (hb hby d6_8)
  have c7 : Arv Z h4 b2 k2 .long (1 : Int32) [(.long y0)] (.long (0 : Int64)) := (F4_.other W4 (Ne.symm F9_))
  obtain ⟨cla8, Ara8, qa8, Sa8, Za8, Ha8, Ga8⟩ := id c7
  have hin9 : ¬ ((0 : Int32) < 0 ∨ cla8.slots.size ≤ ((0 : Int32)).toNatClampNeg) := inb_of Sa8 ⟨by decide, by decide⟩
  obtain ⟨T10, h10, X10, e10, W10, st10⟩ := stJ X6 hx hZ e6 Ara8 (j := (0 : Int32)) hin9 (g := (mkF m 14 #[.val (.ref p0), .val (.int (0 : Int32)), .val (.long p2), .second, .val (.long p3), .second, .val p4, .val .null] [(.long p3), (.int (0 : Int32)), (.ref b2)])) rfl rfl (hb hby d6_14)
  have O10 := O4.wr W10 F7_
  have K10 : Keep h0 h10 [b1, b2, b3] := K4.wr W10 (Or.inl (List.mem_of_getElem? (i := 1) rfl))
  have N10 := Fr.snoc X10 N4 F7_
  have V10 : Arv Z h10 b2 k2 .long (1 : Int32) [(.long p3)] (.long (0 : Int64)) := Arv.set Ara8 qa8 Sa8 Za8 Ha8 Ga8 rfl W10 0 rfl (Nat.le_of_ble_eq_true rfl)
  have c11 : Fld Z h10 p0 "com/example/hot_gate/hotgate/bench/Replies" "outcomes" "[Lcom/example/hot_gate/hotgate/bench/Outcome;" (.ref b3) := ((F2_.other W4 (Or.inl F12_)).other W10 (Or.inl F13_))
  obtain ⟨T12, X12, e12, st12⟩ := getF X10 hx hZ hown (host := "") (Or.inl (hw _ (List.mem_of_getElem? (i := 39) rfl))) Via.refl e10 c11 (g := (mkF m 16 #[.val (.ref p0), .val (.int (0 : Int32)), .val (.long p2), .second, .val (.long p3), .second, .val p4, .val .null] [(.ref p0)])) rfl rfl (hb hby d6_16)
  have c13 : Arv Z h10 b3 k3 (.object "com/example/hot_gate/hotgate/bench/Outcome") (1 : Int32) [.null] .null := ((F5_.other W4 (Ne.symm F10_)).other W10 (Ne.symm F11_))
  obtain ⟨cla14, Ara14, qa14, Sa14, Za14, Ha14, Ga14⟩ := id c13
  have hin15 : ¬ ((0 : Int32) < 0 ∨ cla14.slots.size ≤ ((0 : Int32)).toNatClampNeg) := inb_of Sa14 ⟨by decide, by decide⟩
  obtain ⟨T16, h16, X16, e16, W16, st16⟩ := stR X12 hx hZ e12 Ara14 (j := (0 : Int32)) hin15 rfl (own_sto Ara14 qa14 F15_ O10.2 F16_) (g := (mkF m 22 #[.val (.ref p0), .val (.int (0 : Int32)), .val (.long p2), .second, .val (.long p3), .second, .val p4, .val .null] [p4, (.int (0 : Int32)), (.ref b3)])) rfl rfl (hb hby d6_22)
  have O16 := O10.wr W16 F8_
  have K16 : Keep h0 h16 [b1, b2, b3] := K10.wr W16 (Or.inl (List.mem_of_getElem? (i := 2) rfl))
  have N16 := Fr.snoc X16 N10 F8_
  have V16 : Arv Z h16 b3 k3 (.object "com/example/hot_gate/hotgate/bench/Outcome") (1 : Int32) [p4] .null := Arv.set Ara14 qa14 Sa14 Za14 Ha14 Ga14 (fitsV F17_) W16 0 rfl (Nat.le_of_ble_eq_true rfl)
  have s17 : Steps p.tables e below (s₁.setTop (entryFrame m #[(.ref p0), (.int (0 : Int32)), (.long p2), (.long p3), p4, .null] 8)) (T16.setTop (mkF m 39 #[.val (.ref p0), .val (.int (0 : Int32)), .val (.long p2), .second, .val (.long p3), .second, .val p4, .val .null] [])) := by
    refine s0.trans ?_
    show Steps p.tables e below (s₁.setTop (mkF m 0 #[.val (.ref p0), .val (.int (0 : Int32)), .val (.long p2), .second, .val (.long p3), .second, .val p4, .val .null] [])) _
    refine XS.aloadN X0.here hx rfl (hb hby d6_0) rfl rfl ?_
    show Steps p.tables e below (s₁.setTop (mkF m 1 #[.val (.ref p0), .val (.int (0 : Int32)), .val (.long p2), .second, .val (.long p3), .second, .val p4, .val .null] [(.ref p0)])) _
    refine st1 _ ?_
    show Steps p.tables e below (T1.setTop (mkF m 4 #[.val (.ref p0), .val (.int (0 : Int32)), .val (.long p2), .second, .val (.long p3), .second, .val p4, .val .null] [(.ref b1)])) _
    refine XS.iloadN X1.here hx rfl (hb hby d6_4) rfl ?_
    show Steps p.tables e below (T1.setTop (mkF m 5 #[.val (.ref p0), .val (.int (0 : Int32)), .val (.long p2), .second, .val (.long p3), .second, .val p4, .val .null] [(.int (0 : Int32)), (.ref b1)])) _
    refine XS.lloadN X1.here hx rfl (hb hby d6_5) rfl ?_
    show Steps p.tables e below (T1.setTop (mkF m 6 #[.val (.ref p0), .val (.int (0 : Int32)), .val (.long p2), .second, .val (.long p3), .second, .val p4, .val .null] [(.long p2), (.int (0 : Int32)), (.ref b1)])) _
    refine st4 _ ?_
    show Steps p.tables e below (T4.setTop (mkF m 7 #[.val (.ref p0), .val (.int (0 : Int32)), .val (.long p2), .second, .val (.long p3), .second, .val p4, .val .null] [])) _
    refine XS.aloadN X4.here hx rfl (hb hby d6_7) rfl rfl ?_
    show Steps p.tables e below (T4.setTop (mkF m 8 #[.val (.ref p0), .val (.int (0 : Int32)), .val (.long p2), .second, .val (.long p3), .second, .val p4, .val .null] [(.ref p0)])) _
    refine st6 _ ?_
    show Steps p.tables e below (T6.setTop (mkF m 11 #[.val (.ref p0), .val (.int (0 : Int32)), .val (.long p2), .second, .val (.long p3), .second, .val p4, .val .null] [(.ref b2)])) _
    refine XS.iloadN X6.here hx rfl (hb hby d6_11) rfl ?_
    show Steps p.tables e below (T6.setTop (mkF m 12 #[.val (.ref p0), .val (.int (0 : Int32)), .val (.long p2), .second, .val (.long p3), .second, .val p4, .val .null] [(.int (0 : Int32)), (.ref b2)])) _
    refine XS.lload X6.here hx rfl (hb hby d6_12) rfl ?_
    show Steps p.tables e below (T6.setTop (mkF m 14 #[.val (.ref p0), .val (.int (0 : Int32)), .val (.long p2), .second, .val (.long p3), .second, .val p4, .val .null] [(.long p3), (.int (0 : Int32)), (.ref b2)])) _
    refine st10 _ ?_
    show Steps p.tables e below (T10.setTop (mkF m 15 #[.val (.ref p0), .val (.int (0 : Int32)), .val (.long p2), .second, .val (.long p3), .second, .val p4, .val .null] [])) _
    refine XS.aloadN X10.here hx rfl (hb hby d6_15) rfl rfl ?_
    show Steps p.tables e below (T10.setTop (mkF m 16 #[.val (.ref p0), .val (.int (0 : Int32)), .val (.long p2), .second, .val (.long p3), .second, .val p4, .val .null] [(.ref p0)])) _
    refine st12 _ ?_
    show Steps p.tables e below (T12.setTop (mkF m 19 #[.val (.ref p0), .val (.int (0 : Int32)), .val (.long p2), .second, .val (.long p3), .second, .val p4, .val .null] [(.ref b3)])) _
    refine XS.iloadN X12.here hx rfl (hb hby d6_19) rfl ?_
    show Steps p.tables e below (T12.setTop (mkF m 20 #[.val (.ref p0), .val (.int (0 : Int32)), .val (.long p2), .second, .val (.long p3), .second, .val p4, .val .null] [(.int (0 : Int32)), (.ref b3)])) _
    refine XS.aload X12.here hx rfl (hb hby d6_20) rfl F17_ ?_
    show Steps p.tables e below (T12.setTop (mkF m 22 #[.val (.ref p0), .val (.int (0 : Int32)), .val (.long p2), .second, .val (.long p3), .second, .val p4, .val .null] [p4, (.int (0 : Int32)), (.ref b3)])) _
    refine st16 _ ?_
    show Steps p.tables e below (T16.setTop (mkF m 23 #[.val (.ref p0), .val (.int (0 : Int32)), .val (.long p2), .second, .val (.long p3), .second, .val p4, .val .null] [])) _
    refine XS.aload X16.here hx rfl (hb hby d6_23) rfl rfl ?_
    show Steps p.tables e below (T16.setTop (mkF m 25 #[.val (.ref p0), .val (.int (0 : Int32)), .val (.long p2), .second, .val (.long p3), .second, .val p4, .val .null] [.null])) _
    refine XS.ifnullYes X16.here hx rfl (pc0 := 25) (pc' := 39) rfl (hb hby d6_25) rfl (by decide) (by decide) ?_
    exact Steps.refl _
  have c18 : Arv Z h16 b1 k1 .long (1 : Int32) [(.long p2)] (.long (0 : Int64)) := ((V4.other W10 F9_).other W16 F10_)
  have c19 : Arv Z h16 b2 k2 .long (1 : Int32) [(.long p3)] (.long (0 : Int64)) := (V10.other W16 F11_)
  obtain ⟨fs, hr, hrun, hended, hW, hsame⟩ := X16.leave (v := none) (fun _ => rfl)
  refine ⟨_, _, s17.trans ?_, hrun, hended, _, _, rfl, ?_, ⟨_, rfl⟩, hW, hsame.mono (by decide) (by decide)⟩
  · show Steps p.tables e below (T16.setTop (mkF m 39 #[.val (.ref p0), .val (.int (0 : Int32)), .val (.long p2), .second, .val (.long p3), .second, .val p4, .val .null] [])) _
    exact X16.returnOut hx Bd.returns (hb hby d6_39) hr
  · show Qr1_0 Z p0 p2 p3 p4 b1 b2 b3 k1 k2 k3 x0 y0 h0 n0 _ T16.heap _
    rw [e16]
    exact ⟨rfl, N16, K16, c18, c19, V16⟩
theorem d5_23 : decode prog_12_method_4_code 23 = .ok (.aload 4, 2) := by decide +kernel
theorem d5_25 : decode prog_12_method_4_code 25 = .ok (.iload 6, 2) := by decide +kernel
theorem d5_27 : decode prog_12_method_4_code 27 = .ok (.aaload, 1) := by decide +kernel
theorem d5_28 : decode prog_12_method_4_code 28 = .ok (.astore 7, 2) := by decide +kernel
theorem d5_30 : decode prog_12_method_4_code 30 = .ok (.aload 7, 2) := by decide +kernel
theorem d5_32 : decode prog_12_method_4_code 32 = .ok (.aload_n 1, 1) := by decide +kernel
theorem d5_33 : decode prog_12_method_4_code 33 = .ok (.if_acmp .ne 7, 3) := by decide +kernel
theorem d5_36 : decode prog_12_method_4_code 36 = .ok (.lload_n 2, 1) := by decide +kernel
theorem d5_37 : decode prog_12_method_4_code 37 = .ok (.lconst 1, 1) := by decide +kernel
theorem d5_38 : decode prog_12_method_4_code 38 = .ok (.ladd, 1) := by decide +kernel
theorem d5_39 : decode prog_12_method_4_code 39 = .ok (.lstore_n 2, 1) := by decide +kernel
theorem d5_40 : decode prog_12_method_4_code 40 = .ok (.iinc 6 1, 3) := by decide +kernel
theorem d5_43 : decode prog_12_method_4_code 43 = .ok (.goto (-27), 3) := by decide +kernel
theorem ef_rmc1 (m : MethodId) (p0 : Addr) (p1 : Value) (r_p1 : p1.isRef = true) : entryFrame m #[(.ref p0), p1] 8 = mkF m 0 #[.val (.ref p0), .val p1, .unset, .unset, .unset, .unset, .unset, .unset] [] := by
  cases p1 <;> first | (cases r_p1; done) | (simp [entryFrame, mkF, argsToLocals, Value.category]; done) | rfl
def Qc1 (Z : State) (p0 : Addr) (p1 : Value) (b3 : Addr) (k3 : ClassId) (u0 : Value) (h0 : Heap) (n0 : Nat) (v : Option Value) (h : Heap) (L : List Loc) : Prop := v = some (.long (if u0 = p1 then (1 : Int64) else (0 : Int64))) ∧ Fr n0 L ∧ h = h0
set_option maxRecDepth 65536 in
set_option maxHeartbeats 40000000 in
theorem rmc1 (l : Launch) (Z : State) (a0 : Array Value) (hw : ∀ d ∈ tables_1, d.before a0 Z = true) (ws : List Jvm.Cond) (p0 : Addr) (p1 : Value) (b3 : Addr) (k3 : ClassId) (u0 : Value) (h0 : Heap) (n0 : Nat) (O0 : Old Z n0 h0) (F0_ : Fld Z h0 p0 "com/example/hot_gate/hotgate/bench/Replies" "outcomes" "[Lcom/example/hot_gate/hotgate/bench/Outcome;" (.ref b3)) (F1_ : Arv Z h0 b3 k3 (.object "com/example/hot_gate/hotgate/bench/Outcome") (1 : Int32) [u0] .null) (F2_ : u0.isRef = true) (F3_ : p1.isRef = true) :
    MetFree l (⟨"com/example/hot_gate/hotgate/bench/Replies", "count", "(Lcom/example/hot_gate/hotgate/bench/Outcome;)J"⟩ : MethodName) (head1 (Jvm.Cond.code (⟨"com/example/hot_gate/hotgate/bench/Replies", "count", "(Lcom/example/hot_gate/hotgate/bench/Outcome;)J"⟩ : MethodName) prog_12_method_4_code 8 (some .long) :: ws) ({ frames := 0, cells := 0, slots := 0, locals := 0 } : Room)) (fun a U => a = #[(.ref p0), p1] ∧ Z.Warmed39 U.vm ∧ U.heap = h0) (fun _ _ _ _ _ => True) (fun _ U o U' => ∃ v L, o = .returned v ∧ Qc1 Z p0 p1 b3 k3 u0 h0 n0 v U'.heap L ∧ FrameEnd U o U' L ({ frames := 0, cells := 0, slots := 0, locals := 0 } : Room).cells ({ frames := 0, cells := 0, slots := 0, locals := 0 } : Room).slots) := by
  refine MetFree.of_bodySF (plainFor_of_name pn_2) hisR ?_
  intro p e s m args below meth c s₁ Bd hml0 hP hK
  obtain ⟨rfl, hZ, hh⟩ := hP
  have hx := Bd.exec
  have hby := Bd.bytes
  have hml : c.maxLocals = 8 := hml0
  have hown : s.vm.findClass "com/example/hot_gate/hotgate/bench/Replies" = some m.cls := findClass_of_methodNamed Bd.named
  have hnm := (name_of_methodNamed Bd.named Bd.method).1
  have X0 : Stand p l e ({ frames := 0, cells := 0, slots := 0, locals := 0 } : Room) s m #[(.ref p0), p1] below meth c s₁ [] 0 0 := Stand.of_body Bd
  have e0 : s₁.heap = h0 := by rw [← hh, Bd.state]; rfl
  have N0 := Fr.nil n0
  have s0 : Steps p.tables e below (s₁.setTop (entryFrame m #[(.ref p0), p1] 8)) (s₁.setTop (mkF m 0 #[.val (.ref p0), .val p1, .unset, .unset, .unset, .unset, .unset, .unset] [])) := castTop (ef_rmc1 m p0 p1 F3_) (Steps.refl _)
  obtain ⟨T1, X1, e1, st1⟩ := getF X0 hx hZ hown (host := "") (Or.inl (hw _ (List.mem_of_getElem? (i := 39) rfl))) Via.refl e0 F0_ (g := (mkF m 3 #[.val (.ref p0), .val p1, .val (.long (0 : Int64)), .second, .unset, .unset, .unset, .unset] [(.ref p0)])) rfl rfl (hb hby d5_3)
  obtain ⟨cla2, Ara2, qa2, Sa2, Za2, Ha2, Ga2⟩ := id F1_
  have hin3 : ¬ ((0 : Int32) < 0 ∨ cla2.slots.size ≤ ((0 : Int32)).toNatClampNeg) := inb_of Sa2 ⟨by decide, by decide⟩
  have hat4 : cla2.slots[((0 : Int32)).toNatClampNeg]? = some u0 := Has.at Ha2 hin3 rfl
  have s5 : Steps p.tables e below (s₁.setTop (entryFrame m #[(.ref p0), p1] 8)) (T1.setTop (mkF m 33 #[.val (.ref p0), .val p1, .val (.long (0 : Int64)), .second, .val (.ref b3), .val (.int (1 : Int32)), .val (.int (0 : Int32)), .val u0] [p1, u0])) := by
    refine s0.trans ?_
    show Steps p.tables e below (s₁.setTop (mkF m 0 #[.val (.ref p0), .val p1, .unset, .unset, .unset, .unset, .unset, .unset] [])) _
    refine XS.lconst X0.here hx rfl (hb hby d5_0) ?_
    show Steps p.tables e below (s₁.setTop (mkF m 1 #[.val (.ref p0), .val p1, .unset, .unset, .unset, .unset, .unset, .unset] [(.long (0 : Int64))])) _
    refine XS.lstoreN X0.here hx rfl (hb hby d5_1) rfl (l' := #[.val (.ref p0), .val p1, .val (.long (0 : Int64)), .second, .unset, .unset, .unset, .unset]) rfl ?_
    show Steps p.tables e below (s₁.setTop (mkF m 2 #[.val (.ref p0), .val p1, .val (.long (0 : Int64)), .second, .unset, .unset, .unset, .unset] [])) _
    refine XS.aloadN X0.here hx rfl (hb hby d5_2) rfl rfl ?_
    show Steps p.tables e below (s₁.setTop (mkF m 3 #[.val (.ref p0), .val p1, .val (.long (0 : Int64)), .second, .unset, .unset, .unset, .unset] [(.ref p0)])) _
    refine st1 _ ?_
    show Steps p.tables e below (T1.setTop (mkF m 6 #[.val (.ref p0), .val p1, .val (.long (0 : Int64)), .second, .unset, .unset, .unset, .unset] [(.ref b3)])) _
    refine XS.astore X1.here hx rfl (hb hby d5_6) rfl rfl (l' := #[.val (.ref p0), .val p1, .val (.long (0 : Int64)), .second, .val (.ref b3), .unset, .unset, .unset]) rfl ?_
    show Steps p.tables e below (T1.setTop (mkF m 8 #[.val (.ref p0), .val p1, .val (.long (0 : Int64)), .second, .val (.ref b3), .unset, .unset, .unset] [])) _
    refine XS.aload X1.here hx rfl (hb hby d5_8) rfl rfl ?_
    show Steps p.tables e below (T1.setTop (mkF m 10 #[.val (.ref p0), .val p1, .val (.long (0 : Int64)), .second, .val (.ref b3), .unset, .unset, .unset] [(.ref b3)])) _
    refine X1.arraylength hx (by rw [e1]; exact Ara2.1) (State.isArrayOf_alike hZ.alike Ara2.2.1) (g := (mkF m 10 #[.val (.ref p0), .val p1, .val (.long (0 : Int64)), .second, .val (.ref b3), .unset, .unset, .unset] [(.ref b3)])) rfl rfl (hb hby d5_10) _ ?_
    rw [len_of Sa2 Za2]
    show Steps p.tables e below (T1.setTop (mkF m 11 #[.val (.ref p0), .val p1, .val (.long (0 : Int64)), .second, .val (.ref b3), .unset, .unset, .unset] [(.int (1 : Int32))])) _
    refine XS.istore X1.here hx rfl (hb hby d5_11) rfl (l' := #[.val (.ref p0), .val p1, .val (.long (0 : Int64)), .second, .val (.ref b3), .val (.int (1 : Int32)), .unset, .unset]) rfl ?_
    show Steps p.tables e below (T1.setTop (mkF m 13 #[.val (.ref p0), .val p1, .val (.long (0 : Int64)), .second, .val (.ref b3), .val (.int (1 : Int32)), .unset, .unset] [])) _
    refine XS.iconst X1.here hx rfl (hb hby d5_13) ?_
    show Steps p.tables e below (T1.setTop (mkF m 14 #[.val (.ref p0), .val p1, .val (.long (0 : Int64)), .second, .val (.ref b3), .val (.int (1 : Int32)), .unset, .unset] [(.int (0 : Int32))])) _
    refine XS.istore X1.here hx rfl (hb hby d5_14) rfl (l' := #[.val (.ref p0), .val p1, .val (.long (0 : Int64)), .second, .val (.ref b3), .val (.int (1 : Int32)), .val (.int (0 : Int32)), .unset]) rfl ?_
    show Steps p.tables e below (T1.setTop (mkF m 16 #[.val (.ref p0), .val p1, .val (.long (0 : Int64)), .second, .val (.ref b3), .val (.int (1 : Int32)), .val (.int (0 : Int32)), .unset] [])) _
    refine XS.iload X1.here hx rfl (hb hby d5_16) rfl ?_
    show Steps p.tables e below (T1.setTop (mkF m 18 #[.val (.ref p0), .val p1, .val (.long (0 : Int64)), .second, .val (.ref b3), .val (.int (1 : Int32)), .val (.int (0 : Int32)), .unset] [(.int (0 : Int32))])) _
    refine XS.iload X1.here hx rfl (hb hby d5_18) rfl ?_
    show Steps p.tables e below (T1.setTop (mkF m 20 #[.val (.ref p0), .val p1, .val (.long (0 : Int64)), .second, .val (.ref b3), .val (.int (1 : Int32)), .val (.int (0 : Int32)), .unset] [(.int (1 : Int32)), (.int (0 : Int32))])) _
    refine XS.icmpNo X1.here hx rfl (hb hby d5_20) rfl (tlt (by decide)).2.1 ?_
    show Steps p.tables e below (T1.setTop (mkF m 23 #[.val (.ref p0), .val p1, .val (.long (0 : Int64)), .second, .val (.ref b3), .val (.int (1 : Int32)), .val (.int (0 : Int32)), .unset] [])) _
    refine XS.aload X1.here hx rfl (hb hby d5_23) rfl rfl ?_
    show Steps p.tables e below (T1.setTop (mkF m 25 #[.val (.ref p0), .val p1, .val (.long (0 : Int64)), .second, .val (.ref b3), .val (.int (1 : Int32)), .val (.int (0 : Int32)), .unset] [(.ref b3)])) _
    refine XS.iload X1.here hx rfl (hb hby d5_25) rfl ?_
    show Steps p.tables e below (T1.setTop (mkF m 27 #[.val (.ref p0), .val p1, .val (.long (0 : Int64)), .second, .val (.ref b3), .val (.int (1 : Int32)), .val (.int (0 : Int32)), .unset] [(.int (0 : Int32)), (.ref b3)])) _
    refine X1.aaload hx (j := (0 : Int32)) (v := u0) (by rw [e1]; exact Ara2.1) (State.isArrayOf_alike hZ.alike Ara2.2.1) rfl Ara2.2.2 hin3 hat4 (g := (mkF m 27 #[.val (.ref p0), .val p1, .val (.long (0 : Int64)), .second, .val (.ref b3), .val (.int (1 : Int32)), .val (.int (0 : Int32)), .unset] [(.int (0 : Int32)), (.ref b3)])) rfl rfl (hb hby d5_27) _ ?_
    show Steps p.tables e below (T1.setTop (mkF m 28 #[.val (.ref p0), .val p1, .val (.long (0 : Int64)), .second, .val (.ref b3), .val (.int (1 : Int32)), .val (.int (0 : Int32)), .unset] [u0])) _
    refine XS.astore X1.here hx rfl (hb hby d5_28) rfl F2_ (l' := #[.val (.ref p0), .val p1, .val (.long (0 : Int64)), .second, .val (.ref b3), .val (.int (1 : Int32)), .val (.int (0 : Int32)), .val u0]) (by exact XS.store1 (o := .unset) rfl (Or.inl rfl) (catV F2_)) ?_
    show Steps p.tables e below (T1.setTop (mkF m 30 #[.val (.ref p0), .val p1, .val (.long (0 : Int64)), .second, .val (.ref b3), .val (.int (1 : Int32)), .val (.int (0 : Int32)), .val u0] [])) _
    refine XS.aload X1.here hx rfl (hb hby d5_30) rfl F2_ ?_
    show Steps p.tables e below (T1.setTop (mkF m 32 #[.val (.ref p0), .val p1, .val (.long (0 : Int64)), .second, .val (.ref b3), .val (.int (1 : Int32)), .val (.int (0 : Int32)), .val u0] [u0])) _
    refine XS.aloadN X1.here hx rfl (hb hby d5_32) rfl F3_ ?_
    exact Steps.refl _
  have s7 : Steps p.tables e below (s₁.setTop (entryFrame m #[(.ref p0), p1] 8)) (T1.setTop (mkF m 40 #[.val (.ref p0), .val p1, .val (.long (if u0 = p1 then (1 : Int64) else (0 : Int64))), .second, .val (.ref b3), .val (.int (1 : Int32)), .val (.int (0 : Int32)), .val u0] [])) := by
    by_cases hm6 : u0 = p1
    · simp only [if_pos hm6]
      refine s5.trans ?_
      show Steps p.tables e below (T1.setTop (mkF m 33 #[.val (.ref p0), .val p1, .val (.long (0 : Int64)), .second, .val (.ref b3), .val (.int (1 : Int32)), .val (.int (0 : Int32)), .val u0] [p1, u0])) _
      refine Jvm.RoadKit.acmp (g := (mkF m 33 #[.val (.ref p0), .val p1, .val (.long (0 : Int64)), .second, .val (.ref b3), .val (.int (1 : Int32)), .val (.int (0 : Int32)), .val u0] [p1, u0])) X1 hx rfl F2_ F3_ (pc0 := 33) (pc' := 36) (same := true) rfl (hb hby d5_33) rfl (decide_eq_true hm6) (by decide) (by decide) ?_
      show Steps p.tables e below (T1.setTop (mkF m 36 #[.val (.ref p0), .val p1, .val (.long (0 : Int64)), .second, .val (.ref b3), .val (.int (1 : Int32)), .val (.int (0 : Int32)), .val u0] [])) _
      refine XS.lloadN X1.here hx rfl (hb hby d5_36) rfl ?_
      show Steps p.tables e below (T1.setTop (mkF m 37 #[.val (.ref p0), .val p1, .val (.long (0 : Int64)), .second, .val (.ref b3), .val (.int (1 : Int32)), .val (.int (0 : Int32)), .val u0] [(.long (0 : Int64))])) _
      refine XS.lconst X1.here hx rfl (hb hby d5_37) ?_
      show Steps p.tables e below (T1.setTop (mkF m 38 #[.val (.ref p0), .val p1, .val (.long (0 : Int64)), .second, .val (.ref b3), .val (.int (1 : Int32)), .val (.int (0 : Int32)), .val u0] [(.long (1 : Int64)), (.long (0 : Int64))])) _
      refine XS.ladd X1.here hx rfl (hb hby d5_38) rfl ?_
      show Steps p.tables e below (T1.setTop (mkF m 39 #[.val (.ref p0), .val p1, .val (.long (0 : Int64)), .second, .val (.ref b3), .val (.int (1 : Int32)), .val (.int (0 : Int32)), .val u0] [(.long (1 : Int64))])) _
      refine XS.lstoreN X1.here hx rfl (hb hby d5_39) rfl (l' := #[.val (.ref p0), .val p1, .val (.long (1 : Int64)), .second, .val (.ref b3), .val (.int (1 : Int32)), .val (.int (0 : Int32)), .val u0]) rfl ?_
      exact Steps.refl _
    · simp only [if_neg hm6]
      refine s5.trans ?_
      show Steps p.tables e below (T1.setTop (mkF m 33 #[.val (.ref p0), .val p1, .val (.long (0 : Int64)), .second, .val (.ref b3), .val (.int (1 : Int32)), .val (.int (0 : Int32)), .val u0] [p1, u0])) _
      refine Jvm.RoadKit.acmp (g := (mkF m 33 #[.val (.ref p0), .val p1, .val (.long (0 : Int64)), .second, .val (.ref b3), .val (.int (1 : Int32)), .val (.int (0 : Int32)), .val u0] [p1, u0])) X1 hx rfl F2_ F3_ (pc0 := 33) (pc' := 40) (same := false) rfl (hb hby d5_33) rfl (decide_eq_false hm6) (by decide) (by decide) ?_
      exact Steps.refl _
  obtain ⟨zz0, hzz0⟩ : ∃ z, z = (if u0 = p1 then (1 : Int64) else (0 : Int64)) := ⟨_, rfl⟩
  rw [← hzz0] at s7
  have s8 : Steps p.tables e below (s₁.setTop (entryFrame m #[(.ref p0), p1] 8)) (T1.setTop (mkF m 47 #[.val (.ref p0), .val p1, .val (.long zz0), .second, .val (.ref b3), .val (.int (1 : Int32)), .val (.int (1 : Int32)), .val u0] [(.long zz0)])) := by
    refine s7.trans ?_
    show Steps p.tables e below (T1.setTop (mkF m 40 #[.val (.ref p0), .val p1, .val (.long zz0), .second, .val (.ref b3), .val (.int (1 : Int32)), .val (.int (0 : Int32)), .val u0] [])) _
    refine XS.iinc X1.here hx rfl (hb hby d5_40) rfl (l' := #[.val (.ref p0), .val p1, .val (.long zz0), .second, .val (.ref b3), .val (.int (1 : Int32)), .val (.int (1 : Int32)), .val u0]) rfl ?_
    show Steps p.tables e below (T1.setTop (mkF m 43 #[.val (.ref p0), .val p1, .val (.long zz0), .second, .val (.ref b3), .val (.int (1 : Int32)), .val (.int (1 : Int32)), .val u0] [])) _
    refine XS.goto X1.here hx rfl (pc0 := 43) (pc' := 16) rfl (hb hby d5_43) (by decide) (by decide) ?_
    show Steps p.tables e below (T1.setTop (mkF m 16 #[.val (.ref p0), .val p1, .val (.long zz0), .second, .val (.ref b3), .val (.int (1 : Int32)), .val (.int (1 : Int32)), .val u0] [])) _
    refine XS.iload X1.here hx rfl (hb hby d5_16) rfl ?_
    show Steps p.tables e below (T1.setTop (mkF m 18 #[.val (.ref p0), .val p1, .val (.long zz0), .second, .val (.ref b3), .val (.int (1 : Int32)), .val (.int (1 : Int32)), .val u0] [(.int (1 : Int32))])) _
    refine XS.iload X1.here hx rfl (hb hby d5_18) rfl ?_
    show Steps p.tables e below (T1.setTop (mkF m 20 #[.val (.ref p0), .val p1, .val (.long zz0), .second, .val (.ref b3), .val (.int (1 : Int32)), .val (.int (1 : Int32)), .val u0] [(.int (1 : Int32)), (.int (1 : Int32))])) _
    refine XS.icmpYes X1.here hx rfl (pc0 := 20) (pc' := 46) rfl (hb hby d5_20) rfl (flt (by decide)).2.1 (by decide) (by decide) ?_
    show Steps p.tables e below (T1.setTop (mkF m 46 #[.val (.ref p0), .val p1, .val (.long zz0), .second, .val (.ref b3), .val (.int (1 : Int32)), .val (.int (1 : Int32)), .val u0] [])) _
    refine XS.lloadN X1.here hx rfl (hb hby d5_46) rfl ?_
    exact Steps.refl _
  obtain ⟨fs, hr, hrun, hended, hW, hsame⟩ := X1.leave (v := some (.long zz0)) (fun h => by rw [Bd.returns] at h; cases h)
  refine ⟨_, _, s8.trans ?_, hrun, hended, _, _, rfl, ?_, ⟨_, rfl⟩, hW, hsame.mono (by decide) (by decide)⟩
  · show Steps p.tables e below (T1.setTop (mkF m 47 #[.val (.ref p0), .val p1, .val (.long zz0), .second, .val (.ref b3), .val (.int (1 : Int32)), .val (.int (1 : Int32)), .val u0] [(.long zz0)])) _
    jvm_step X1.here [X1.here.top, hx, (hb hby d5_47), X1.method', Bd.returns, narrow]
    first | (intro acts; rw [hr _ acts rfl rfl rfl]) | rw [hr _ _ rfl rfl rfl]
    exact Steps.refl _
  · show Qc1 Z p0 p1 b3 k3 u0 h0 n0 _ T1.heap _
    rw [e1]
    exact ⟨(by rw [hzz0]), N0, rfl⟩
theorem pd_rmi2_0 : parseMethodDescriptor "()V" = some ⟨[], none⟩ := by decide +kernel
theorem ef_rmi2 (m : MethodId) (p0 : Addr) : entryFrame m #[(.ref p0), (.int (2 : Int32))] 2 = mkF m 0 #[.val (.ref p0), .val (.int (2 : Int32))] [] := by first | (simp [entryFrame, mkF, argsToLocals, Value.category]; done) | rfl
def Qi2 (Z : State) (p0 : Addr) (h0 : Heap) (n0 : Nat) (v : Option Value) (h : Heap) (L : List Loc) : Prop := ∃ b1 : Addr, ∃ b2 : Addr, ∃ b3 : Addr, ∃ k1 : ClassId, ∃ k2 : ClassId, ∃ k3 : ClassId, v = none ∧ Fr n0 L ∧ Keep h0 h [p0] ∧ (Exa Z h p0 "com/example/hot_gate/hotgate/bench/Replies") ∧ (Fld Z h p0 "com/example/hot_gate/hotgate/bench/Replies" "sentAt" "[J" (.ref b1)) ∧ (Fld Z h p0 "com/example/hot_gate/hotgate/bench/Replies" "answeredAt" "[J" (.ref b2)) ∧ (Fld Z h p0 "com/example/hot_gate/hotgate/bench/Replies" "outcomes" "[Lcom/example/hot_gate/hotgate/bench/Outcome;" (.ref b3)) ∧ (Arv Z h b1 k1 .long (2 : Int32) [(.long (0 : Int64)), (.long (0 : Int64))] (.long (0 : Int64))) ∧ (Arv Z h b2 k2 .long (2 : Int32) [(.long (0 : Int64)), (.long (0 : Int64))] (.long (0 : Int64))) ∧ (Arv Z h b3 k3 (.object "com/example/hot_gate/hotgate/bench/Outcome") (2 : Int32) [.null, .null] .null) ∧ (h0.size ≤ b1) ∧ (h0.size ≤ b2) ∧ (h0.size ≤ b3) ∧ (b1 ≠ b2) ∧ (b1 ≠ b3) ∧ (b2 ≠ b3) ∧ (Ovr Z k3 "com/example/hot_gate/hotgate/bench/Outcome")
set_option maxRecDepth 65536 in
set_option maxHeartbeats 40000000 in
theorem rmi2 (l : Launch) (Z : State) (a0 : Array Value) (hw : ∀ d ∈ tables_1, d.before a0 Z = true) (ws : List Jvm.Cond) (p0 : Addr) (h0 : Heap) (n0 : Nat) (O0 : Old Z n0 h0) (F0_ : Exa Z h0 p0 "com/example/hot_gate/hotgate/bench/Replies") (F1_ : Fld Z h0 p0 "com/example/hot_gate/hotgate/bench/Replies" "firstError" "Ljava/util/concurrent/atomic/AtomicReference;" .null) (F2_ : Fld Z h0 p0 "com/example/hot_gate/hotgate/bench/Replies" "sentAt" "[J" .null) (F3_ : Fld Z h0 p0 "com/example/hot_gate/hotgate/bench/Replies" "answeredAt" "[J" .null) (F4_ : Fld Z h0 p0 "com/example/hot_gate/hotgate/bench/Replies" "outcomes" "[Lcom/example/hot_gate/hotgate/bench/Outcome;" .null) (F5_ : n0 ≤ p0) :
    MetFree l (⟨"com/example/hot_gate/hotgate/bench/Replies", "<init>", "(I)V"⟩ : MethodName) (head1 (Jvm.Cond.code (⟨"com/example/hot_gate/hotgate/bench/Replies", "<init>", "(I)V"⟩ : MethodName) prog_12_method_1_code 2 none :: ws) ({ frames := 2, cells := 4, slots := 7, locals := 26 } : Room)) (fun a U => a = #[(.ref p0), (.int (2 : Int32))] ∧ Z.Warmed39 U.vm ∧ U.heap = h0) (fun _ _ _ _ _ => True) (fun _ U o U' => ∃ v L, o = .returned v ∧ Qi2 Z p0 h0 n0 v U'.heap L ∧ FrameEnd U o U' L ({ frames := 2, cells := 4, slots := 7, locals := 26 } : Room).cells ({ frames := 2, cells := 4, slots := 7, locals := 26 } : Room).slots) := by
  refine MetFree.of_bodySF (plainFor_of_name pn_2) hisR ?_
  intro p e s m args below meth c s₁ Bd hml0 hP hK
  obtain ⟨rfl, hZ, hh⟩ := hP
  have hx := Bd.exec
  have hby := Bd.bytes
  have hml : c.maxLocals = 2 := hml0
  have hown : s.vm.findClass "com/example/hot_gate/hotgate/bench/Replies" = some m.cls := findClass_of_methodNamed Bd.named
  have hnm := (name_of_methodNamed Bd.named Bd.method).1
  have X0 : Stand p l e ({ frames := 2, cells := 4, slots := 7, locals := 26 } : Room) s m #[(.ref p0), (.int (2 : Int32))] below meth c s₁ [] 0 0 := Stand.of_body Bd
  have e0 : s₁.heap = h0 := by rw [← hh, Bd.state]; rfl
  have N0 := Fr.nil n0
  have s0 : Steps p.tables e below (s₁.setTop (entryFrame m #[(.ref p0), (.int (2 : Int32))] 2)) (s₁.setTop (mkF m 0 #[.val (.ref p0), .val (.int (2 : Int32))] [])) := castTop (ef_rmi2 m p0) (Steps.refl _)
  obtain ⟨T1, X1, e1, st1⟩ := initO X0 hx hZ hown (hw _ (List.mem_of_getElem? (i := 20) rfl)) (hw _ (List.mem_of_getElem? (i := 21) rfl)) (hw _ (List.mem_of_getElem? (i := 22) rfl)) e0 (g := (mkF m 1 #[.val (.ref p0), .val (.int (2 : Int32))] [(.ref p0)])) rfl (by rw [hml]; rfl) rfl (hb hby d2_1) (by decide) (W := 0) (by show 2 * 0 + _ ≤ _; exact Nat.le_of_eq rfl) (by decide)
  obtain ⟨T2, h2, X2, e2, E2, A2, D2, -, st2⟩ := newO X1 hx hZ hown (hw _ (List.mem_of_getElem? (i := 23) rfl)) (hw _ (List.mem_of_getElem? (i := 24) rfl)) (hw _ (List.mem_of_getElem? (i := 25) rfl)) e1 (g := (mkF m 5 #[.val (.ref p0), .val (.int (2 : Int32))] [(.ref p0)])) rfl (hb hby d2_5) (by decide) (by decide)
  obtain ⟨b2, g2⟩ : ∃ z, z = h0.size := ⟨_, rfl⟩
  rw [← g2] at A2 D2 st2
  have ne_p0_b2 : p0 ≠ b2 := Nat.ne_of_lt (Nat.lt_of_lt_of_le F0_.lt (Nat.le_of_eq g2.symm))
  have g_b2 : n0 ≤ b2 := Nat.le_trans (Nat.le_of_eq O0.1.symm) (Nat.le_trans O0.2.1 (Nat.le_of_eq g2.symm))
  have sz_b2 : h0.size ≤ b2 := Nat.le_trans (Keep.refl h0 [p0]).1 (Nat.le_of_eq g2.symm)
  have O2 := O0.ext E2
  have K2 : Keep h0 h2 [p0] := (Keep.refl h0 [p0]).ext E2
  obtain ⟨_, _, ⟨T3, L3, k3, n3⟩, -, X3, ⟨Lc3, hQ3, l3, y3, z3⟩, st3⟩ := X2.specialBack hx (y := (⟨"java/util/concurrent/atomic/AtomicReference", "<init>", "()V"⟩ : MethodName)) rfl hown (mvT hZ (hw _ (List.mem_of_getElem? (i := 26) rfl))) (mvT hZ (hw _ (List.mem_of_getElem? (i := 27) rfl))) (mvT hZ (hw _ (List.mem_of_getElem? (i := 28) rfl))) (by decide) (backOf (W := 2) (rm4 l Z a0 hw [] b2 h2 n0 O2 ) hZ (hw _ (List.mem_of_getElem? (i := 28) rfl)) (hw _ (List.mem_of_getElem? (i := 25) rfl)) (by decide) (by decide)) (g := (mkF m 9 #[.val (.ref p0), .val (.int (2 : Int32))] [(.ref b2), (.ref b2), (.ref p0)])) rfl (by rw [hml]; rfl) (Steps.refl _) (a := b2) (argsL := []) (rest := [(.ref b2), (.ref p0)]) (lenOf pd_rmi2_0 rfl) rfl (by show 2 * 0 + _ ≤ _; exact Nat.le_of_eq rfl) (hb hby d2_9) (fun _ _ => ⟨rfl, e2, (by decide : 1 + 0 ≤ _), (by decide : 1 + 0 ≤ _)⟩)
  dsimp only [Pt.U, Pt.locs, Pt.cells, Pt.slots] at X3 l3 y3 z3 st3 hQ3
  subst l3 y3 z3
  obtain ⟨rfl, Nq3, e3⟩ := hQ3
  have N3 := Fr.app N0 Nq3
  have c4 : Exa Z h2 p0 "com/example/hot_gate/hotgate/bench/Replies" := (F0_.ext E2)
  have c5 : Fld Z h2 p0 "com/example/hot_gate/hotgate/bench/Replies" "firstError" "Ljava/util/concurrent/atomic/AtomicReference;" .null := (F1_.ext E2)
  obtain ⟨T6, h6, X6, e6, W6, st6⟩ := putF X3 hx hZ hown (host := "") (Or.inl (hw _ (List.mem_of_getElem? (i := 30) rfl))) Via.refl e3 c5 c4 (Or.inr ⟨(hw _ (List.mem_of_getElem? (i := 31) rfl)), rfl, hnm⟩) (hw _ (List.mem_of_getElem? (i := 15) rfl)) (ty := (.object "java/util/concurrent/atomic/AtomicReference")) (by decide) rfl rfl (g := (mkF m 12 #[.val (.ref p0), .val (.int (2 : Int32))] [(.ref b2), (.ref p0)])) rfl rfl (hb hby d2_12)
  have Fw6 := c5.same W6
  have O6 := O2.wr W6 F5_
  have K6 : Keep h0 h6 [p0] := K2.wr W6 (Or.inl (List.mem_of_getElem? (i := 0) rfl))
  have N6 := Fr.snoc X6 N3 F5_
  obtain ⟨T7, h7, k7, X7, e7, E7, A7, st7⟩ := newP X6 hx hZ (hw _ (List.mem_of_getElem? (i := 32) rfl)) e6 (g := (mkF m 17 #[.val (.ref p0), .val (.int (2 : Int32))] [(.int (2 : Int32)), (.ref p0)])) rfl (hb hby d2_17) rfl (by decide) (cap := 2) (by decide) (by decide) (by decide) (by decide)
  obtain ⟨b7, g7⟩ : ∃ z, z = h6.size := ⟨_, rfl⟩
  rw [← g7] at A7 st7
  have c8 : Exa Z h6 p0 "com/example/hot_gate/hotgate/bench/Replies" := (c4.wr W6)
  have ne_p0_b7 : p0 ≠ b7 := Nat.ne_of_lt (Nat.lt_of_lt_of_le c8.lt (Nat.le_of_eq g7.symm))
  have c9 : Exa Z h6 b2 "java/util/concurrent/atomic/AtomicReference" := (A2.wr W6)
  have ne_b2_b7 : b2 ≠ b7 := Nat.ne_of_lt (Nat.lt_of_lt_of_le c9.lt (Nat.le_of_eq g7.symm))
  have g_b7 : n0 ≤ b7 := Nat.le_trans (Nat.le_of_eq O6.1.symm) (Nat.le_trans O6.2.1 (Nat.le_of_eq g7.symm))
  have sz_b7 : h0.size ≤ b7 := Nat.le_trans K6.1 (Nat.le_of_eq g7.symm)
  have O7 := O6.ext E7
  have K7 : Keep h0 h7 [p0] := K6.ext E7
  have V7 : Arv Z h7 b7 k7 .long (2 : Int32) [(.long (0 : Int64)), (.long (0 : Int64))] (.long (0 : Int64)) := (Arv.new A7 (by decide)).pad (pad_rep [] (.long (0 : Int64)) 2)
  have c10 : Exa Z h7 p0 "com/example/hot_gate/hotgate/bench/Replies" := (c8.ext E7)
  have c11 : Fld Z h7 p0 "com/example/hot_gate/hotgate/bench/Replies" "sentAt" "[J" .null := (((F2_.ext E2).other W6 (Or.inr (slot_ne (Or.inr (hw _ (List.mem_of_getElem? (i := 34) rfl))) (Or.inr (hw _ (List.mem_of_getElem? (i := 31) rfl))) (by decide) (t := (.array .long)) (t' := (.object "java/util/concurrent/atomic/AtomicReference")) (by decide) (by decide)))).ext E7)
  obtain ⟨T12, h12, X12, e12, W12, st12⟩ := putF X7 hx hZ hown (host := "") (Or.inl (hw _ (List.mem_of_getElem? (i := 33) rfl))) Via.refl e7 c11 c10 (Or.inr ⟨(hw _ (List.mem_of_getElem? (i := 34) rfl)), rfl, hnm⟩) (hw _ (List.mem_of_getElem? (i := 15) rfl)) (ty := (.array .long)) (by decide) rfl rfl (g := (mkF m 19 #[.val (.ref p0), .val (.int (2 : Int32))] [(.ref b7), (.ref p0)])) rfl rfl (hb hby d2_19)
  have Fw12 := c11.same W12
  have O12 := O7.wr W12 F5_
  have K12 : Keep h0 h12 [p0] := K7.wr W12 (Or.inl (List.mem_of_getElem? (i := 0) rfl))
  have N12 := Fr.snoc X12 N6 F5_
  obtain ⟨T13, h13, k13, X13, e13, E13, A13, st13⟩ := newP X12 hx hZ (hw _ (List.mem_of_getElem? (i := 32) rfl)) e12 (g := (mkF m 24 #[.val (.ref p0), .val (.int (2 : Int32))] [(.int (2 : Int32)), (.ref p0)])) rfl (hb hby d2_24) rfl (by decide) (cap := 2) (by decide) (by decide) (by decide) (by decide)
  obtain ⟨b13, g13⟩ : ∃ z, z = h12.size := ⟨_, rfl⟩
  rw [← g13] at A13 st13
  have c14 : Exa Z h12 p0 "com/example/hot_gate/hotgate/bench/Replies" := (c10.wr W12)
  have ne_p0_b13 : p0 ≠ b13 := Nat.ne_of_lt (Nat.lt_of_lt_of_le c14.lt (Nat.le_of_eq g13.symm))
  have c15 : Exa Z h12 b2 "java/util/concurrent/atomic/AtomicReference" := ((c9.ext E7).wr W12)
  have ne_b2_b13 : b2 ≠ b13 := Nat.ne_of_lt (Nat.lt_of_lt_of_le c15.lt (Nat.le_of_eq g13.symm))
  have c16 : Arv Z h12 b7 k7 .long (2 : Int32) [(.long (0 : Int64)), (.long (0 : Int64))] (.long (0 : Int64)) := (V7.other W12 (Ne.symm ne_p0_b7))
  have ne_b7_b13 : b7 ≠ b13 := Nat.ne_of_lt (Nat.lt_of_lt_of_le c16.lt (Nat.le_of_eq g13.symm))
  have g_b13 : n0 ≤ b13 := Nat.le_trans (Nat.le_of_eq O12.1.symm) (Nat.le_trans O12.2.1 (Nat.le_of_eq g13.symm))
  have sz_b13 : h0.size ≤ b13 := Nat.le_trans K12.1 (Nat.le_of_eq g13.symm)
  have O13 := O12.ext E13
  have K13 : Keep h0 h13 [p0] := K12.ext E13
  have V13 : Arv Z h13 b13 k13 .long (2 : Int32) [(.long (0 : Int64)), (.long (0 : Int64))] (.long (0 : Int64)) := (Arv.new A13 (by decide)).pad (pad_rep [] (.long (0 : Int64)) 2)
  have c17 : Exa Z h13 p0 "com/example/hot_gate/hotgate/bench/Replies" := (c14.ext E13)
  have c18 : Fld Z h13 p0 "com/example/hot_gate/hotgate/bench/Replies" "answeredAt" "[J" .null := (((((F3_.ext E2).other W6 (Or.inr (slot_ne (Or.inr (hw _ (List.mem_of_getElem? (i := 36) rfl))) (Or.inr (hw _ (List.mem_of_getElem? (i := 31) rfl))) (by decide) (t := (.array .long)) (t' := (.object "java/util/concurrent/atomic/AtomicReference")) (by decide) (by decide)))).ext E7).other W12 (Or.inr (slot_ne (Or.inr (hw _ (List.mem_of_getElem? (i := 36) rfl))) (Or.inr (hw _ (List.mem_of_getElem? (i := 34) rfl))) (by decide) (t := (.array .long)) (t' := (.array .long)) (by decide) (by decide)))).ext E13)
  obtain ⟨T19, h19, X19, e19, W19, st19⟩ := putF X13 hx hZ hown (host := "") (Or.inl (hw _ (List.mem_of_getElem? (i := 35) rfl))) Via.refl e13 c18 c17 (Or.inr ⟨(hw _ (List.mem_of_getElem? (i := 36) rfl)), rfl, hnm⟩) (hw _ (List.mem_of_getElem? (i := 15) rfl)) (ty := (.array .long)) (by decide) rfl rfl (g := (mkF m 26 #[.val (.ref p0), .val (.int (2 : Int32))] [(.ref b13), (.ref p0)])) rfl rfl (hb hby d2_26)
  have Fw19 := c18.same W19
  have O19 := O13.wr W19 F5_
  have K19 : Keep h0 h19 [p0] := K13.wr W19 (Or.inl (List.mem_of_getElem? (i := 0) rfl))
  have N19 := Fr.snoc X19 N12 F5_
  obtain ⟨T20, h20, k20, X20, e20, E20, A20, Ov20, st20⟩ := newR X19 hx hZ hown (hw _ (List.mem_of_getElem? (i := 37) rfl)) (hw _ (List.mem_of_getElem? (i := 38) rfl)) e19 (g := (mkF m 31 #[.val (.ref p0), .val (.int (2 : Int32))] [(.int (2 : Int32)), (.ref p0)])) rfl (hb hby d2_31) rfl (by decide) (cap := 2) (by decide) (by decide) (by decide) (by decide)
  obtain ⟨b20, g20⟩ : ∃ z, z = h19.size := ⟨_, rfl⟩
  rw [← g20] at A20 st20
  have c21 : Exa Z h19 p0 "com/example/hot_gate/hotgate/bench/Replies" := (c17.wr W19)
  have ne_p0_b20 : p0 ≠ b20 := Nat.ne_of_lt (Nat.lt_of_lt_of_le c21.lt (Nat.le_of_eq g20.symm))
  have c22 : Exa Z h19 b2 "java/util/concurrent/atomic/AtomicReference" := ((c15.ext E13).wr W19)
  have ne_b2_b20 : b2 ≠ b20 := Nat.ne_of_lt (Nat.lt_of_lt_of_le c22.lt (Nat.le_of_eq g20.symm))
  have c23 : Arv Z h19 b7 k7 .long (2 : Int32) [(.long (0 : Int64)), (.long (0 : Int64))] (.long (0 : Int64)) := ((c16.ext E13).other W19 (Ne.symm ne_p0_b7))
  have ne_b7_b20 : b7 ≠ b20 := Nat.ne_of_lt (Nat.lt_of_lt_of_le c23.lt (Nat.le_of_eq g20.symm))
  have c24 : Arv Z h19 b13 k13 .long (2 : Int32) [(.long (0 : Int64)), (.long (0 : Int64))] (.long (0 : Int64)) := (V13.other W19 (Ne.symm ne_p0_b13))
  have ne_b13_b20 : b13 ≠ b20 := Nat.ne_of_lt (Nat.lt_of_lt_of_le c24.lt (Nat.le_of_eq g20.symm))
  have g_b20 : n0 ≤ b20 := Nat.le_trans (Nat.le_of_eq O19.1.symm) (Nat.le_trans O19.2.1 (Nat.le_of_eq g20.symm))
  have sz_b20 : h0.size ≤ b20 := Nat.le_trans K19.1 (Nat.le_of_eq g20.symm)
  have O20 := O19.ext E20
  have K20 : Keep h0 h20 [p0] := K19.ext E20
  have V20 : Arv Z h20 b20 k20 (.object "com/example/hot_gate/hotgate/bench/Outcome") (2 : Int32) [.null, .null] .null := (Arv.new A20 (by decide)).pad (pad_rep [] .null 2)
  have c25 : Exa Z h20 p0 "com/example/hot_gate/hotgate/bench/Replies" := (c21.ext E20)
  have c26 : Fld Z h20 p0 "com/example/hot_gate/hotgate/bench/Replies" "outcomes" "[Lcom/example/hot_gate/hotgate/bench/Outcome;" .null := (((((((F4_.ext E2).other W6 (Or.inr (slot_ne (Or.inr (hw _ (List.mem_of_getElem? (i := 40) rfl))) (Or.inr (hw _ (List.mem_of_getElem? (i := 31) rfl))) (by decide) (t := (.array (.object "com/example/hot_gate/hotgate/bench/Outcome"))) (t' := (.object "java/util/concurrent/atomic/AtomicReference")) (by decide) (by decide)))).ext E7).other W12 (Or.inr (slot_ne (Or.inr (hw _ (List.mem_of_getElem? (i := 40) rfl))) (Or.inr (hw _ (List.mem_of_getElem? (i := 34) rfl))) (by decide) (t := (.array (.object "com/example/hot_gate/hotgate/bench/Outcome"))) (t' := (.array .long)) (by decide) (by decide)))).ext E13).other W19 (Or.inr (slot_ne (Or.inr (hw _ (List.mem_of_getElem? (i := 40) rfl))) (Or.inr (hw _ (List.mem_of_getElem? (i := 36) rfl))) (by decide) (t := (.array (.object "com/example/hot_gate/hotgate/bench/Outcome"))) (t' := (.array .long)) (by decide) (by decide)))).ext E20)
  obtain ⟨T27, h27, X27, e27, W27, st27⟩ := putF X20 hx hZ hown (host := "") (Or.inl (hw _ (List.mem_of_getElem? (i := 39) rfl))) Via.refl e20 c26 c25 (Or.inr ⟨(hw _ (List.mem_of_getElem? (i := 40) rfl)), rfl, hnm⟩) (hw _ (List.mem_of_getElem? (i := 15) rfl)) (ty := (.array (.object "com/example/hot_gate/hotgate/bench/Outcome"))) (by decide) rfl rfl (g := (mkF m 34 #[.val (.ref p0), .val (.int (2 : Int32))] [(.ref b20), (.ref p0)])) rfl rfl (hb hby d2_34)
  have Fw27 := c26.same W27
  have O27 := O20.wr W27 F5_
  have K27 : Keep h0 h27 [p0] := K20.wr W27 (Or.inl (List.mem_of_getElem? (i := 0) rfl))
  have N27 := Fr.snoc X27 N19 F5_
  have s28 : Steps p.tables e below (s₁.setTop (entryFrame m #[(.ref p0), (.int (2 : Int32))] 2)) (T27.setTop (mkF m 37 #[.val (.ref p0), .val (.int (2 : Int32))] [])) := by
    refine s0.trans ?_
    show Steps p.tables e below (s₁.setTop (mkF m 0 #[.val (.ref p0), .val (.int (2 : Int32))] [])) _
    refine XS.aloadN X0.here hx rfl (hb hby d2_0) rfl rfl ?_
    show Steps p.tables e below (s₁.setTop (mkF m 1 #[.val (.ref p0), .val (.int (2 : Int32))] [(.ref p0)])) _
    refine st1 _ ?_
    show Steps p.tables e below (T1.setTop (mkF m 4 #[.val (.ref p0), .val (.int (2 : Int32))] [])) _
    refine XS.aloadN X1.here hx rfl (hb hby d2_4) rfl rfl ?_
    show Steps p.tables e below (T1.setTop (mkF m 5 #[.val (.ref p0), .val (.int (2 : Int32))] [(.ref p0)])) _
    refine st2 _ ?_
    show Steps p.tables e below (T2.setTop (mkF m 8 #[.val (.ref p0), .val (.int (2 : Int32))] [(.ref b2), (.ref p0)])) _
    refine XS.dup X2.here hx rfl (hb hby d2_8) rfl rfl ?_
    show Steps p.tables e below (T2.setTop (mkF m 9 #[.val (.ref p0), .val (.int (2 : Int32))] [(.ref b2), (.ref b2), (.ref p0)])) _
    refine st3.trans ?_
    show Steps p.tables e below (T3.setTop (mkF m 12 #[.val (.ref p0), .val (.int (2 : Int32))] [(.ref b2), (.ref p0)])) _
    refine st6 _ ?_
    show Steps p.tables e below (T6.setTop (mkF m 15 #[.val (.ref p0), .val (.int (2 : Int32))] [])) _
    refine XS.aloadN X6.here hx rfl (hb hby d2_15) rfl rfl ?_
    show Steps p.tables e below (T6.setTop (mkF m 16 #[.val (.ref p0), .val (.int (2 : Int32))] [(.ref p0)])) _
    refine XS.iloadN X6.here hx rfl (hb hby d2_16) rfl ?_
    show Steps p.tables e below (T6.setTop (mkF m 17 #[.val (.ref p0), .val (.int (2 : Int32))] [(.int (2 : Int32)), (.ref p0)])) _
    refine st7 _ ?_
    show Steps p.tables e below (T7.setTop (mkF m 19 #[.val (.ref p0), .val (.int (2 : Int32))] [(.ref b7), (.ref p0)])) _
    refine st12 _ ?_
    show Steps p.tables e below (T12.setTop (mkF m 22 #[.val (.ref p0), .val (.int (2 : Int32))] [])) _
    refine XS.aloadN X12.here hx rfl (hb hby d2_22) rfl rfl ?_
    show Steps p.tables e below (T12.setTop (mkF m 23 #[.val (.ref p0), .val (.int (2 : Int32))] [(.ref p0)])) _
    refine XS.iloadN X12.here hx rfl (hb hby d2_23) rfl ?_
    show Steps p.tables e below (T12.setTop (mkF m 24 #[.val (.ref p0), .val (.int (2 : Int32))] [(.int (2 : Int32)), (.ref p0)])) _
    refine st13 _ ?_
    show Steps p.tables e below (T13.setTop (mkF m 26 #[.val (.ref p0), .val (.int (2 : Int32))] [(.ref b13), (.ref p0)])) _
    refine st19 _ ?_
    show Steps p.tables e below (T19.setTop (mkF m 29 #[.val (.ref p0), .val (.int (2 : Int32))] [])) _
    refine XS.aloadN X19.here hx rfl (hb hby d2_29) rfl rfl ?_
    show Steps p.tables e below (T19.setTop (mkF m 30 #[.val (.ref p0), .val (.int (2 : Int32))] [(.ref p0)])) _
    refine XS.iloadN X19.here hx rfl (hb hby d2_30) rfl ?_
    show Steps p.tables e below (T19.setTop (mkF m 31 #[.val (.ref p0), .val (.int (2 : Int32))] [(.int (2 : Int32)), (.ref p0)])) _
    refine st20 _ ?_
    show Steps p.tables e below (T20.setTop (mkF m 34 #[.val (.ref p0), .val (.int (2 : Int32))] [(.ref b20), (.ref p0)])) _
    refine st27 _ ?_
    exact Steps.refl _
  have c29 : Exa Z h27 p0 "com/example/hot_gate/hotgate/bench/Replies" := (c25.wr W27)
  have c30 : Fld Z h27 p0 "com/example/hot_gate/hotgate/bench/Replies" "sentAt" "[J" (.ref b7) := ((((Fw12.ext E13).other W19 (Or.inr (slot_ne (Or.inr (hw _ (List.mem_of_getElem? (i := 34) rfl))) (Or.inr (hw _ (List.mem_of_getElem? (i := 36) rfl))) (by decide) (t := (.array .long)) (t' := (.array .long)) (by decide) (by decide)))).ext E20).other W27 (Or.inr (slot_ne (Or.inr (hw _ (List.mem_of_getElem? (i := 34) rfl))) (Or.inr (hw _ (List.mem_of_getElem? (i := 40) rfl))) (by decide) (t := (.array .long)) (t' := (.array (.object "com/example/hot_gate/hotgate/bench/Outcome"))) (by decide) (by decide))))
  have c31 : Fld Z h27 p0 "com/example/hot_gate/hotgate/bench/Replies" "answeredAt" "[J" (.ref b13) := ((Fw19.ext E20).other W27 (Or.inr (slot_ne (Or.inr (hw _ (List.mem_of_getElem? (i := 36) rfl))) (Or.inr (hw _ (List.mem_of_getElem? (i := 40) rfl))) (by decide) (t := (.array .long)) (t' := (.array (.object "com/example/hot_gate/hotgate/bench/Outcome"))) (by decide) (by decide))))
  have c32 : Arv Z h27 b7 k7 .long (2 : Int32) [(.long (0 : Int64)), (.long (0 : Int64))] (.long (0 : Int64)) := ((c23.ext E20).other W27 (Ne.symm ne_p0_b7))
  have c33 : Arv Z h27 b13 k13 .long (2 : Int32) [(.long (0 : Int64)), (.long (0 : Int64))] (.long (0 : Int64)) := ((c24.ext E20).other W27 (Ne.symm ne_p0_b13))
  have c34 : Arv Z h27 b20 k20 (.object "com/example/hot_gate/hotgate/bench/Outcome") (2 : Int32) [.null, .null] .null := (V20.other W27 (Ne.symm ne_p0_b20))
  obtain ⟨fs, hr, hrun, hended, hW, hsame⟩ := X27.leave (v := none) (fun _ => rfl)
  refine ⟨_, _, s28.trans ?_, hrun, hended, _, _, rfl, ?_, ⟨_, rfl⟩, hW, hsame.mono (by decide) (by decide)⟩
  · show Steps p.tables e below (T27.setTop (mkF m 37 #[.val (.ref p0), .val (.int (2 : Int32))] [])) _
    exact X27.returnOut hx Bd.returns (hb hby d2_37) hr
  · show Qi2 Z p0 h0 n0 _ T27.heap _
    rw [e27]
    exact ⟨b7, b13, b20, k7, k13, k20, rfl, N27, K27, c29, c30, c31, Fw27, c32, c33, c34, sz_b7, sz_b13, sz_b20, ne_b7_b13, ne_b7_b20, ne_b13_b20, Ov20⟩
theorem ef_rmr2_0 (m : MethodId) (p0 : Addr) (p2 : Int64) (p3 : Int64) (p4 : Value) (r_p4 : p4.isRef = true) : entryFrame m #[(.ref p0), (.int (0 : Int32)), (.long p2), (.long p3), p4, .null] 8 = mkF m 0 #[.val (.ref p0), .val (.int (0 : Int32)), .val (.long p2), .second, .val (.long p3), .second, .val p4, .val .null] [] := by
  cases p4 <;> first | (cases r_p4; done) | (simp [entryFrame, mkF, argsToLocals, Value.category]; done) | rfl
def Qr2_0 (Z : State) (p0 : Addr) (p2 : Int64) (p3 : Int64) (p4 : Value) (b1 : Addr) (b2 : Addr) (b3 : Addr) (k1 : ClassId) (k2 : ClassId) (k3 : ClassId) (x0 : Int64) (x1 : Int64) (y0 : Int64) (y1 : Int64) (h0 : Heap) (n0 : Nat) (v : Option Value) (h : Heap) (L : List Loc) : Prop := v = none ∧ Fr n0 L ∧ Keep h0 h [b1, b2, b3] ∧ (Arv Z h b1 k1 .long (2 : Int32) [(.long p2), (.long x1)] (.long (0 : Int64))) ∧ (Arv Z h b2 k2 .long (2 : Int32) [(.long p3), (.long y1)] (.long (0 : Int64))) ∧ (Arv Z h b3 k3 (.object "com/example/hot_gate/hotgate/bench/Outcome") (2 : Int32) [p4, .null] .null)
set_option maxRecDepth 65536 in
set_option maxHeartbeats 40000000 in
theorem rmr2_0 (l : Launch) (Z : State) (a0 : Array Value) (hw : ∀ d ∈ tables_1, d.before a0 Z = true) (ws : List Jvm.Cond) (p0 : Addr) (p2 : Int64) (p3 : Int64) (p4 : Value) (b1 : Addr) (b2 : Addr) (b3 : Addr) (k1 : ClassId) (k2 : ClassId) (k3 : ClassId) (x0 : Int64) (x1 : Int64) (y0 : Int64) (y1 : Int64) (h0 : Heap) (n0 : Nat) (O0 : Old Z n0 h0) (F0_ : Fld Z h0 p0 "com/example/hot_gate/hotgate/bench/Replies" "sentAt" "[J" (.ref b1)) (F1_ : Fld Z h0 p0 "com/example/hot_gate/hotgate/bench/Replies" "answeredAt" "[J" (.ref b2)) (F2_ : Fld Z h0 p0 "com/example/hot_gate/hotgate/bench/Replies" "outcomes" "[Lcom/example/hot_gate/hotgate/bench/Outcome;" (.ref b3)) (F3_ : Arv Z h0 b1 k1 .long (2 : Int32) [(.long x0), (.long x1)] (.long (0 : Int64))) (F4_ : Arv Z h0 b2 k2 .long (2 : Int32) [(.long y0), (.long y1)] (.long (0 : Int64))) (F5_ : Arv Z h0 b3 k3 (.object "com/example/hot_gate/hotgate/bench/Outcome") (2 : Int32) [.null, .null] .null) (F6_ : n0 ≤ b1) (F7_ : n0 ≤ b2) (F8_ : n0 ≤ b3) (F9_ : b1 ≠ b2) (F10_ : b1 ≠ b3) (F11_ : b2 ≠ b3) (F12_ : p0 ≠ b1) (F13_ : p0 ≠ b2) (F14_ : p0 ≠ b3) (F15_ : Ovr Z k3 "com/example/hot_gate/hotgate/bench/Outcome") (F16_ : own_oc Z p4) (F17_ : p4.isRef = true) :
    MetFree l (⟨"com/example/hot_gate/hotgate/bench/Replies", "record", "(IJJLcom/example/hot_gate/hotgate/bench/Outcome;Ljava/lang/String;)V"⟩ : MethodName) (head1 (Jvm.Cond.code (⟨"com/example/hot_gate/hotgate/bench/Replies", "record", "(IJJLcom/example/hot_gate/hotgate/bench/Outcome;Ljava/lang/String;)V"⟩ : MethodName) prog_12_method_3_code 8 none :: ws) ({ frames := 0, cells := 0, slots := 0, locals := 0 } : Room)) (fun a U => a = #[(.ref p0), (.int (0 : Int32)), (.long p2), (.long p3), p4, .null] ∧ Z.Warmed39 U.vm ∧ U.heap = h0) (fun _ _ _ _ _ => True) (fun _ U o U' => ∃ v L, o = .returned v ∧ Qr2_0 Z p0 p2 p3 p4 b1 b2 b3 k1 k2 k3 x0 x1 y0 y1 h0 n0 v U'.heap L ∧ FrameEnd U o U' L ({ frames := 0, cells := 0, slots := 0, locals := 0 } : Room).cells ({ frames := 0, cells := 0, slots := 0, locals := 0 } : Room).slots) := by
  refine MetFree.of_bodySF (plainFor_of_name pn_2) hisR ?_
  intro p e s m args below meth c s₁ Bd hml0 hP hK
  obtain ⟨rfl, hZ, hh⟩ := hP
  have hx := Bd.exec
  have hby := Bd.bytes
  have hml : c.maxLocals = 8 := hml0
  have hown : s.vm.findClass "com/example/hot_gate/hotgate/bench/Replies" = some m.cls := findClass_of_methodNamed Bd.named
  have hnm := (name_of_methodNamed Bd.named Bd.method).1
  have X0 : Stand p l e ({ frames := 0, cells := 0, slots := 0, locals := 0 } : Room) s m #[(.ref p0), (.int (0 : Int32)), (.long p2), (.long p3), p4, .null] below meth c s₁ [] 0 0 := Stand.of_body Bd
  have e0 : s₁.heap = h0 := by rw [← hh, Bd.state]; rfl
  have N0 := Fr.nil n0
  have s0 : Steps p.tables e below (s₁.setTop (entryFrame m #[(.ref p0), (.int (0 : Int32)), (.long p2), (.long p3), p4, .null] 8)) (s₁.setTop (mkF m 0 #[.val (.ref p0), .val (.int (0 : Int32)), .val (.long p2), .second, .val (.long p3), .second, .val p4, .val .null] [])) := castTop (ef_rmr2_0 m p0 p2 p3 p4 F17_) (Steps.refl _)
  obtain ⟨T1, X1, e1, st1⟩ := getF X0 hx hZ hown (host := "") (Or.inl (hw _ (List.mem_of_getElem? (i := 33) rfl))) Via.refl e0 F0_ (g := (mkF m 1 #[.val (.ref p0), .val (.int (0 : Int32)), .val (.long p2), .second, .val (.long p3), .second, .val p4, .val .null] [(.ref p0)])) rfl rfl (hb hby d6_1)
  obtain ⟨cla2, Ara2, qa2, Sa2, Za2, Ha2, Ga2⟩ := id F3_
  have hin3 : ¬ ((0 : Int32) < 0 ∨ cla2.slots.size ≤ ((0 : Int32)).toNatClampNeg) := inb_of Sa2 ⟨by decide, by decide⟩
  obtain ⟨T4, h4, X4, e4, W4, st4⟩ := stJ X1 hx hZ e1 Ara2 (j := (0 : Int32)) hin3 (g := (mkF m 6 #[.val (.ref p0), .val (.int (0 : Int32)), .val (.long p2), .second, .val (.long p3), .second, .val p4, .val .null] [(.long p2), (.int (0 : Int32)), (.ref b1)])) rfl rfl (hb hby d6_6)
  have O4 := O0.wr W4 F6_
  have K4 : Keep h0 h4 [b1, b2, b3] := (Keep.refl h0 [b1, b2, b3]).wr W4 (Or.inl (List.mem_of_getElem? (i := 0) rfl))
  have N4 := Fr.snoc X4 N0 F6_
  have V4 : Arv Z h4 b1 k1 .long (2 : Int32) [(.long p2), (.long x1)] (.long (0 : Int64)) := Arv.set Ara2 qa2 Sa2 Za2 Ha2 Ga2 rfl W4 0 rfl (Nat.le_of_ble_eq_true rfl)
  have c5 : Fld Z h4 p0 "com/example/hot_gate/hotgate/bench/Replies" "answeredAt" "[J" (.ref b2) := (F1_.other W4 (Or.inl F12_))
  obtain ⟨T6, X6, e6, st6⟩ := getF X4 hx hZ hown (host := "") (Or.inl (hw _ (List.mem_of_getElem? (i := 35) rfl))) Via.refl e4 c5 (g := (mkF m 8 #[.val (.ref p0), .val (.int (0 : Int32)), .val (.long p2), .second, .val (.long p3), .second, .val p4, .val .null] [(.ref p0)])) rfl rfl (hb hby d6_8)
  have c7 : Arv Z h4 b2 k2 .long (2 : Int32) [(.long y0), (.long y1)] (.long (0 : Int64)) := (F4_.other W4 (Ne.symm F9_))
  obtain ⟨cla8, Ara8, qa8, Sa8, Za8, Ha8, Ga8⟩ := id c7
  have hin9 : ¬ ((0 : Int32) < 0 ∨ cla8.slots.size ≤ ((0 : Int32)).toNatClampNeg) := inb_of Sa8 ⟨by decide, by decide⟩
  obtain ⟨T10, h10, X10, e10, W10, st10⟩ := stJ X6 hx hZ e6 Ara8 (j := (0 : Int32)) hin9 (g := (mkF m 14 #[.val (.ref p0), .val (.int (0 : Int32)), .val (.long p2), .second, .val (.long p3), .second, .val p4, .val .null] [(.long p3), (.int (0 : Int32)), (.ref b2)])) rfl rfl (hb hby d6_14)
  have O10 := O4.wr W10 F7_
  have K10 : Keep h0 h10 [b1, b2, b3] := K4.wr W10 (Or.inl (List.mem_of_getElem? (i := 1) rfl))
  have N10 := Fr.snoc X10 N4 F7_
  have V10 : Arv Z h10 b2 k2 .long (2 : Int32) [(.long p3), (.long y1)] (.long (0 : Int64)) := Arv.set Ara8 qa8 Sa8 Za8 Ha8 Ga8 rfl W10 0 rfl (Nat.le_of_ble_eq_true rfl)
  have c11 : Fld Z h10 p0 "com/example/hot_gate/hotgate/bench/Replies" "outcomes" "[Lcom/example/hot_gate/hotgate/bench/Outcome;" (.ref b3) := ((F2_.other W4 (Or.inl F12_)).other W10 (Or.inl F13_))
  obtain ⟨T12, X12, e12, st12⟩ := getF X10 hx hZ hown (host := "") (Or.inl (hw _ (List.mem_of_getElem? (i := 39) rfl))) Via.refl e10 c11 (g := (mkF m 16 #[.val (.ref p0), .val (.int (0 : Int32)), .val (.long p2), .second, .val (.long p3), .second, .val p4, .val .null] [(.ref p0)])) rfl rfl (hb hby d6_16)
  have c13 : Arv Z h10 b3 k3 (.object "com/example/hot_gate/hotgate/bench/Outcome") (2 : Int32) [.null, .null] .null := ((F5_.other W4 (Ne.symm F10_)).other W10 (Ne.symm F11_))
  obtain ⟨cla14, Ara14, qa14, Sa14, Za14, Ha14, Ga14⟩ := id c13
  have hin15 : ¬ ((0 : Int32) < 0 ∨ cla14.slots.size ≤ ((0 : Int32)).toNatClampNeg) := inb_of Sa14 ⟨by decide, by decide⟩
  obtain ⟨T16, h16, X16, e16, W16, st16⟩ := stR X12 hx hZ e12 Ara14 (j := (0 : Int32)) hin15 rfl (own_sto Ara14 qa14 F15_ O10.2 F16_) (g := (mkF m 22 #[.val (.ref p0), .val (.int (0 : Int32)), .val (.long p2), .second, .val (.long p3), .second, .val p4, .val .null] [p4, (.int (0 : Int32)), (.ref b3)])) rfl rfl (hb hby d6_22)
  have O16 := O10.wr W16 F8_
  have K16 : Keep h0 h16 [b1, b2, b3] := K10.wr W16 (Or.inl (List.mem_of_getElem? (i := 2) rfl))
  have N16 := Fr.snoc X16 N10 F8_
  have V16 : Arv Z h16 b3 k3 (.object "com/example/hot_gate/hotgate/bench/Outcome") (2 : Int32) [p4, .null] .null := Arv.set Ara14 qa14 Sa14 Za14 Ha14 Ga14 (fitsV F17_) W16 0 rfl (Nat.le_of_ble_eq_true rfl)
  have s17 : Steps p.tables e below (s₁.setTop (entryFrame m #[(.ref p0), (.int (0 : Int32)), (.long p2), (.long p3), p4, .null] 8)) (T16.setTop (mkF m 39 #[.val (.ref p0), .val (.int (0 : Int32)), .val (.long p2), .second, .val (.long p3), .second, .val p4, .val .null] [])) := by
    refine s0.trans ?_
    show Steps p.tables e below (s₁.setTop (mkF m 0 #[.val (.ref p0), .val (.int (0 : Int32)), .val (.long p2), .second, .val (.long p3), .second, .val p4, .val .null] [])) _
    refine XS.aloadN X0.here hx rfl (hb hby d6_0) rfl rfl ?_
    show Steps p.tables e below (s₁.setTop (mkF m 1 #[.val (.ref p0), .val (.int (0 : Int32)), .val (.long p2), .second, .val (.long p3), .second, .val p4, .val .null] [(.ref p0)])) _
    refine st1 _ ?_
    show Steps p.tables e below (T1.setTop (mkF m 4 #[.val (.ref p0), .val (.int (0 : Int32)), .val (.long p2), .second, .val (.long p3), .second, .val p4, .val .null] [(.ref b1)])) _
    refine XS.iloadN X1.here hx rfl (hb hby d6_4) rfl ?_
    show Steps p.tables e below (T1.setTop (mkF m 5 #[.val (.ref p0), .val (.int (0 : Int32)), .val (.long p2), .second, .val (.long p3), .second, .val p4, .val .null] [(.int (0 : Int32)), (.ref b1)])) _
    refine XS.lloadN X1.here hx rfl (hb hby d6_5) rfl ?_
    show Steps p.tables e below (T1.setTop (mkF m 6 #[.val (.ref p0), .val (.int (0 : Int32)), .val (.long p2), .second, .val (.long p3), .second, .val p4, .val .null] [(.long p2), (.int (0 : Int32)), (.ref b1)])) _
    refine st4 _ ?_
    show Steps p.tables e below (T4.setTop (mkF m 7 #[.val (.ref p0), .val (.int (0 : Int32)), .val (.long p2), .second, .val (.long p3), .second, .val p4, .val .null] [])) _
    refine XS.aloadN X4.here hx rfl (hb hby d6_7) rfl rfl ?_
    show Steps p.tables e below (T4.setTop (mkF m 8 #[.val (.ref p0), .val (.int (0 : Int32)), .val (.long p2), .second, .val (.long p3), .second, .val p4, .val .null] [(.ref p0)])) _
    refine st6 _ ?_
    show Steps p.tables e below (T6.setTop (mkF m 11 #[.val (.ref p0), .val (.int (0 : Int32)), .val (.long p2), .second, .val (.long p3), .second, .val p4, .val .null] [(.ref b2)])) _
    refine XS.iloadN X6.here hx rfl (hb hby d6_11) rfl ?_
    show Steps p.tables e below (T6.setTop (mkF m 12 #[.val (.ref p0), .val (.int (0 : Int32)), .val (.long p2), .second, .val (.long p3), .second, .val p4, .val .null] [(.int (0 : Int32)), (.ref b2)])) _
    refine XS.lload X6.here hx rfl (hb hby d6_12) rfl ?_
    show Steps p.tables e below (T6.setTop (mkF m 14 #[.val (.ref p0), .val (.int (0 : Int32)), .val (.long p2), .second, .val (.long p3), .second, .val p4, .val .null] [(.long p3), (.int (0 : Int32)), (.ref b2)])) _
    refine st10 _ ?_
    show Steps p.tables e below (T10.setTop (mkF m 15 #[.val (.ref p0), .val (.int (0 : Int32)), .val (.long p2), .second, .val (.long p3), .second, .val p4, .val .null] [])) _
    refine XS.aloadN X10.here hx rfl (hb hby d6_15) rfl rfl ?_
    show Steps p.tables e below (T10.setTop (mkF m 16 #[.val (.ref p0), .val (.int (0 : Int32)), .val (.long p2), .second, .val (.long p3), .second, .val p4, .val .null] [(.ref p0)])) _
    refine st12 _ ?_
    show Steps p.tables e below (T12.setTop (mkF m 19 #[.val (.ref p0), .val (.int (0 : Int32)), .val (.long p2), .second, .val (.long p3), .second, .val p4, .val .null] [(.ref b3)])) _
    refine XS.iloadN X12.here hx rfl (hb hby d6_19) rfl ?_
    show Steps p.tables e below (T12.setTop (mkF m 20 #[.val (.ref p0), .val (.int (0 : Int32)), .val (.long p2), .second, .val (.long p3), .second, .val p4, .val .null] [(.int (0 : Int32)), (.ref b3)])) _
    refine XS.aload X12.here hx rfl (hb hby d6_20) rfl F17_ ?_
    show Steps p.tables e below (T12.setTop (mkF m 22 #[.val (.ref p0), .val (.int (0 : Int32)), .val (.long p2), .second, .val (.long p3), .second, .val p4, .val .null] [p4, (.int (0 : Int32)), (.ref b3)])) _
    refine st16 _ ?_
    show Steps p.tables e below (T16.setTop (mkF m 23 #[.val (.ref p0), .val (.int (0 : Int32)), .val (.long p2), .second, .val (.long p3), .second, .val p4, .val .null] [])) _
    refine XS.aload X16.here hx rfl (hb hby d6_23) rfl rfl ?_
    show Steps p.tables e below (T16.setTop (mkF m 25 #[.val (.ref p0), .val (.int (0 : Int32)), .val (.long p2), .second, .val (.long p3), .second, .val p4, .val .null] [.null])) _
    refine XS.ifnullYes X16.here hx rfl (pc0 := 25) (pc' := 39) rfl (hb hby d6_25) rfl (by decide) (by decide) ?_
    exact Steps.refl _
  have c18 : Arv Z h16 b1 k1 .long (2 : Int32) [(.long p2), (.long x1)] (.long (0 : Int64)) := ((V4.other W10 F9_).other W16 F10_)
  have c19 : Arv Z h16 b2 k2 .long (2 : Int32) [(.long p3), (.long y1)] (.long (0 : Int64)) := (V10.other W16 F11_)
  obtain ⟨fs, hr, hrun, hended, hW, hsame⟩ := X16.leave (v := none) (fun _ => rfl)
  refine ⟨_, _, s17.trans ?_, hrun, hended, _, _, rfl, ?_, ⟨_, rfl⟩, hW, hsame.mono (by decide) (by decide)⟩
  · show Steps p.tables e below (T16.setTop (mkF m 39 #[.val (.ref p0), .val (.int (0 : Int32)), .val (.long p2), .second, .val (.long p3), .second, .val p4, .val .null] [])) _
    exact X16.returnOut hx Bd.returns (hb hby d6_39) hr
  · show Qr2_0 Z p0 p2 p3 p4 b1 b2 b3 k1 k2 k3 x0 x1 y0 y1 h0 n0 _ T16.heap _
    rw [e16]
    exact ⟨rfl, N16, K16, c18, c19, V16⟩
theorem ef_rmr2_1 (m : MethodId) (p0 : Addr) (p2 : Int64) (p3 : Int64) (p4 : Value) (r_p4 : p4.isRef = true) : entryFrame m #[(.ref p0), (.int (1 : Int32)), (.long p2), (.long p3), p4, .null] 8 = mkF m 0 #[.val (.ref p0), .val (.int (1 : Int32)), .val (.long p2), .second, .val (.long p3), .second, .val p4, .val .null] [] := by
  cases p4 <;> first | (cases r_p4; done) | (simp [entryFrame, mkF, argsToLocals, Value.category]; done) | rfl
def Qr2_1 (Z : State) (p0 : Addr) (p2 : Int64) (p3 : Int64) (p4 : Value) (b1 : Addr) (b2 : Addr) (b3 : Addr) (k1 : ClassId) (k2 : ClassId) (k3 : ClassId) (x0 : Int64) (x1 : Int64) (y0 : Int64) (y1 : Int64) (u0 : Value) (h0 : Heap) (n0 : Nat) (v : Option Value) (h : Heap) (L : List Loc) : Prop := v = none ∧ Fr n0 L ∧ Keep h0 h [b1, b2, b3] ∧ (Arv Z h b1 k1 .long (2 : Int32) [(.long x0), (.long p2)] (.long (0 : Int64))) ∧ (Arv Z h b2 k2 .long (2 : Int32) [(.long y0), (.long p3)] (.long (0 : Int64))) ∧ (Arv Z h b3 k3 (.object "com/example/hot_gate/hotgate/bench/Outcome") (2 : Int32) [u0, p4] .null)
set_option maxRecDepth 65536 in
set_option maxHeartbeats 40000000 in
theorem rmr2_1 (l : Launch) (Z : State) (a0 : Array Value) (hw : ∀ d ∈ tables_1, d.before a0 Z = true) (ws : List Jvm.Cond) (p0 : Addr) (p2 : Int64) (p3 : Int64) (p4 : Value) (b1 : Addr) (b2 : Addr) (b3 : Addr) (k1 : ClassId) (k2 : ClassId) (k3 : ClassId) (x0 : Int64) (x1 : Int64) (y0 : Int64) (y1 : Int64) (u0 : Value) (h0 : Heap) (n0 : Nat) (O0 : Old Z n0 h0) (F0_ : Fld Z h0 p0 "com/example/hot_gate/hotgate/bench/Replies" "sentAt" "[J" (.ref b1)) (F1_ : Fld Z h0 p0 "com/example/hot_gate/hotgate/bench/Replies" "answeredAt" "[J" (.ref b2)) (F2_ : Fld Z h0 p0 "com/example/hot_gate/hotgate/bench/Replies" "outcomes" "[Lcom/example/hot_gate/hotgate/bench/Outcome;" (.ref b3)) (F3_ : Arv Z h0 b1 k1 .long (2 : Int32) [(.long x0), (.long x1)] (.long (0 : Int64))) (F4_ : Arv Z h0 b2 k2 .long (2 : Int32) [(.long y0), (.long y1)] (.long (0 : Int64))) (F5_ : Arv Z h0 b3 k3 (.object "com/example/hot_gate/hotgate/bench/Outcome") (2 : Int32) [u0, .null] .null) (F6_ : n0 ≤ b1) (F7_ : n0 ≤ b2) (F8_ : n0 ≤ b3) (F9_ : b1 ≠ b2) (F10_ : b1 ≠ b3) (F11_ : b2 ≠ b3) (F12_ : p0 ≠ b1) (F13_ : p0 ≠ b2) (F14_ : p0 ≠ b3) (F15_ : Ovr Z k3 "com/example/hot_gate/hotgate/bench/Outcome") (F16_ : own_oc Z p4) (F17_ : p4.isRef = true) :
    MetFree l (⟨"com/example/hot_gate/hotgate/bench/Replies", "record", "(IJJLcom/example/hot_gate/hotgate/bench/Outcome;Ljava/lang/String;)V"⟩ : MethodName) (head1 (Jvm.Cond.code (⟨"com/example/hot_gate/hotgate/bench/Replies", "record", "(IJJLcom/example/hot_gate/hotgate/bench/Outcome;Ljava/lang/String;)V"⟩ : MethodName) prog_12_method_3_code 8 none :: ws) ({ frames := 0, cells := 0, slots := 0, locals := 0 } : Room)) (fun a U => a = #[(.ref p0), (.int (1 : Int32)), (.long p2), (.long p3), p4, .null] ∧ Z.Warmed39 U.vm ∧ U.heap = h0) (fun _ _ _ _ _ => True) (fun _ U o U' => ∃ v L, o = .returned v ∧ Qr2_1 Z p0 p2 p3 p4 b1 b2 b3 k1 k2 k3 x0 x1 y0 y1 u0 h0 n0 v U'.heap L ∧ FrameEnd U o U' L ({ frames := 0, cells := 0, slots := 0, locals := 0 } : Room).cells ({ frames := 0, cells := 0, slots := 0, locals := 0 } : Room).slots) := by
  refine MetFree.of_bodySF (plainFor_of_name pn_2) hisR ?_
  intro p e s m args below meth c s₁ Bd hml0 hP hK
  obtain ⟨rfl, hZ, hh⟩ := hP
  have hx := Bd.exec
  have hby := Bd.bytes
  have hml : c.maxLocals = 8 := hml0
  have hown : s.vm.findClass "com/example/hot_gate/hotgate/bench/Replies" = some m.cls := findClass_of_methodNamed Bd.named
  have hnm := (name_of_methodNamed Bd.named Bd.method).1
  have X0 : Stand p l e ({ frames := 0, cells := 0, slots := 0, locals := 0 } : Room) s m #[(.ref p0), (.int (1 : Int32)), (.long p2), (.long p3), p4, .null] below meth c s₁ [] 0 0 := Stand.of_body Bd
  have e0 : s₁.heap = h0 := by rw [← hh, Bd.state]; rfl
  have N0 := Fr.nil n0
  have s0 : Steps p.tables e below (s₁.setTop (entryFrame m #[(.ref p0), (.int (1 : Int32)), (.long p2), (.long p3), p4, .null] 8)) (s₁.setTop (mkF m 0 #[.val (.ref p0), .val (.int (1 : Int32)), .val (.long p2), .second, .val (.long p3), .second, .val p4, .val .null] [])) := castTop (ef_rmr2_1 m p0 p2 p3 p4 F17_) (Steps.refl _)
  obtain ⟨T1, X1, e1, st1⟩ := getF X0 hx hZ hown (host := "") (Or.inl (hw _ (List.mem_of_getElem? (i := 33) rfl))) Via.refl e0 F0_ (g := (mkF m 1 #[.val (.ref p0), .val (.int (1 : Int32)), .val (.long p2), .second, .val (.long p3), .second, .val p4, .val .null] [(.ref p0)])) rfl rfl (hb hby d6_1)
  obtain ⟨cla2, Ara2, qa2, Sa2, Za2, Ha2, Ga2⟩ := id F3_
  have hin3 : ¬ ((1 : Int32) < 0 ∨ cla2.slots.size ≤ ((1 : Int32)).toNatClampNeg) := inb_of Sa2 ⟨by decide, by decide⟩
  obtain ⟨T4, h4, X4, e4, W4, st4⟩ := stJ X1 hx hZ e1 Ara2 (j := (1 : Int32)) hin3 (g := (mkF m 6 #[.val (.ref p0), .val (.int (1 : Int32)), .val (.long p2), .second, .val (.long p3), .second, .val p4, .val .null] [(.long p2), (.int (1 : Int32)), (.ref b1)])) rfl rfl (hb hby d6_6)
  have O4 := O0.wr W4 F6_
  have K4 : Keep h0 h4 [b1, b2, b3] := (Keep.refl h0 [b1, b2, b3]).wr W4 (Or.inl (List.mem_of_getElem? (i := 0) rfl))
  have N4 := Fr.snoc X4 N0 F6_
  have V4 : Arv Z h4 b1 k1 .long (2 : Int32) [(.long x0), (.long p2)] (.long (0 : Int64)) := Arv.set Ara2 qa2 Sa2 Za2 Ha2 Ga2 rfl W4 1 rfl (Nat.le_of_ble_eq_true rfl)
  have c5 : Fld Z h4 p0 "com/example/hot_gate/hotgate/bench/Replies" "answeredAt" "[J" (.ref b2) := (F1_.other W4 (Or.inl F12_))
  obtain ⟨T6, X6, e6, st6⟩ := getF X4 hx hZ hown (host := "") (Or.inl (hw _ (List.mem_of_getElem? (i := 35) rfl))) Via.refl e4 c5 (g := (mkF m 8 #[.val (.ref p0), .val (.int (1 : Int32)), .val (.long p2), .second, .val (.long p3), .second, .val p4, .val .null] [(.ref p0)])) rfl rfl (hb hby d6_8)
  have c7 : Arv Z h4 b2 k2 .long (2 : Int32) [(.long y0), (.long y1)] (.long (0 : Int64)) := (F4_.other W4 (Ne.symm F9_))
  obtain ⟨cla8, Ara8, qa8, Sa8, Za8, Ha8, Ga8⟩ := id c7
  have hin9 : ¬ ((1 : Int32) < 0 ∨ cla8.slots.size ≤ ((1 : Int32)).toNatClampNeg) := inb_of Sa8 ⟨by decide, by decide⟩
  obtain ⟨T10, h10, X10, e10, W10, st10⟩ := stJ X6 hx hZ e6 Ara8 (j := (1 : Int32)) hin9 (g := (mkF m 14 #[.val (.ref p0), .val (.int (1 : Int32)), .val (.long p2), .second, .val (.long p3), .second, .val p4, .val .null] [(.long p3), (.int (1 : Int32)), (.ref b2)])) rfl rfl (hb hby d6_14)
  have O10 := O4.wr W10 F7_
  have K10 : Keep h0 h10 [b1, b2, b3] := K4.wr W10 (Or.inl (List.mem_of_getElem? (i := 1) rfl))
  have N10 := Fr.snoc X10 N4 F7_
  have V10 : Arv Z h10 b2 k2 .long (2 : Int32) [(.long y0), (.long p3)] (.long (0 : Int64)) := Arv.set Ara8 qa8 Sa8 Za8 Ha8 Ga8 rfl W10 1 rfl (Nat.le_of_ble_eq_true rfl)
  have c11 : Fld Z h10 p0 "com/example/hot_gate/hotgate/bench/Replies" "outcomes" "[Lcom/example/hot_gate/hotgate/bench/Outcome;" (.ref b3) := ((F2_.other W4 (Or.inl F12_)).other W10 (Or.inl F13_))
  obtain ⟨T12, X12, e12, st12⟩ := getF X10 hx hZ hown (host := "") (Or.inl (hw _ (List.mem_of_getElem? (i := 39) rfl))) Via.refl e10 c11 (g := (mkF m 16 #[.val (.ref p0), .val (.int (1 : Int32)), .val (.long p2), .second, .val (.long p3), .second, .val p4, .val .null] [(.ref p0)])) rfl rfl (hb hby d6_16)
  have c13 : Arv Z h10 b3 k3 (.object "com/example/hot_gate/hotgate/bench/Outcome") (2 : Int32) [u0, .null] .null := ((F5_.other W4 (Ne.symm F10_)).other W10 (Ne.symm F11_))
  obtain ⟨cla14, Ara14, qa14, Sa14, Za14, Ha14, Ga14⟩ := id c13
  have hin15 : ¬ ((1 : Int32) < 0 ∨ cla14.slots.size ≤ ((1 : Int32)).toNatClampNeg) := inb_of Sa14 ⟨by decide, by decide⟩
  obtain ⟨T16, h16, X16, e16, W16, st16⟩ := stR X12 hx hZ e12 Ara14 (j := (1 : Int32)) hin15 rfl (own_sto Ara14 qa14 F15_ O10.2 F16_) (g := (mkF m 22 #[.val (.ref p0), .val (.int (1 : Int32)), .val (.long p2), .second, .val (.long p3), .second, .val p4, .val .null] [p4, (.int (1 : Int32)), (.ref b3)])) rfl rfl (hb hby d6_22)
  have O16 := O10.wr W16 F8_
  have K16 : Keep h0 h16 [b1, b2, b3] := K10.wr W16 (Or.inl (List.mem_of_getElem? (i := 2) rfl))
  have N16 := Fr.snoc X16 N10 F8_
  have V16 : Arv Z h16 b3 k3 (.object "com/example/hot_gate/hotgate/bench/Outcome") (2 : Int32) [u0, p4] .null := Arv.set Ara14 qa14 Sa14 Za14 Ha14 Ga14 (fitsV F17_) W16 1 rfl (Nat.le_of_ble_eq_true rfl)
  have s17 : Steps p.tables e below (s₁.setTop (entryFrame m #[(.ref p0), (.int (1 : Int32)), (.long p2), (.long p3), p4, .null] 8)) (T16.setTop (mkF m 39 #[.val (.ref p0), .val (.int (1 : Int32)), .val (.long p2), .second, .val (.long p3), .second, .val p4, .val .null] [])) := by
    refine s0.trans ?_
    show Steps p.tables e below (s₁.setTop (mkF m 0 #[.val (.ref p0), .val (.int (1 : Int32)), .val (.long p2), .second, .val (.long p3), .second, .val p4, .val .null] [])) _
    refine XS.aloadN X0.here hx rfl (hb hby d6_0) rfl rfl ?_
    show Steps p.tables e below (s₁.setTop (mkF m 1 #[.val (.ref p0), .val (.int (1 : Int32)), .val (.long p2), .second, .val (.long p3), .second, .val p4, .val .null] [(.ref p0)])) _
    refine st1 _ ?_
    show Steps p.tables e below (T1.setTop (mkF m 4 #[.val (.ref p0), .val (.int (1 : Int32)), .val (.long p2), .second, .val (.long p3), .second, .val p4, .val .null] [(.ref b1)])) _
    refine XS.iloadN X1.here hx rfl (hb hby d6_4) rfl ?_
    show Steps p.tables e below (T1.setTop (mkF m 5 #[.val (.ref p0), .val (.int (1 : Int32)), .val (.long p2), .second, .val (.long p3), .second, .val p4, .val .null] [(.int (1 : Int32)), (.ref b1)])) _
    refine XS.lloadN X1.here hx rfl (hb hby d6_5) rfl ?_
    show Steps p.tables e below (T1.setTop (mkF m 6 #[.val (.ref p0), .val (.int (1 : Int32)), .val (.long p2), .second, .val (.long p3), .second, .val p4, .val .null] [(.long p2), (.int (1 : Int32)), (.ref b1)])) _
    refine st4 _ ?_
    show Steps p.tables e below (T4.setTop (mkF m 7 #[.val (.ref p0), .val (.int (1 : Int32)), .val (.long p2), .second, .val (.long p3), .second, .val p4, .val .null] [])) _
    refine XS.aloadN X4.here hx rfl (hb hby d6_7) rfl rfl ?_
    show Steps p.tables e below (T4.setTop (mkF m 8 #[.val (.ref p0), .val (.int (1 : Int32)), .val (.long p2), .second, .val (.long p3), .second, .val p4, .val .null] [(.ref p0)])) _
    refine st6 _ ?_
    show Steps p.tables e below (T6.setTop (mkF m 11 #[.val (.ref p0), .val (.int (1 : Int32)), .val (.long p2), .second, .val (.long p3), .second, .val p4, .val .null] [(.ref b2)])) _
    refine XS.iloadN X6.here hx rfl (hb hby d6_11) rfl ?_
    show Steps p.tables e below (T6.setTop (mkF m 12 #[.val (.ref p0), .val (.int (1 : Int32)), .val (.long p2), .second, .val (.long p3), .second, .val p4, .val .null] [(.int (1 : Int32)), (.ref b2)])) _
    refine XS.lload X6.here hx rfl (hb hby d6_12) rfl ?_
    show Steps p.tables e below (T6.setTop (mkF m 14 #[.val (.ref p0), .val (.int (1 : Int32)), .val (.long p2), .second, .val (.long p3), .second, .val p4, .val .null] [(.long p3), (.int (1 : Int32)), (.ref b2)])) _
    refine st10 _ ?_
    show Steps p.tables e below (T10.setTop (mkF m 15 #[.val (.ref p0), .val (.int (1 : Int32)), .val (.long p2), .second, .val (.long p3), .second, .val p4, .val .null] [])) _
    refine XS.aloadN X10.here hx rfl (hb hby d6_15) rfl rfl ?_
    show Steps p.tables e below (T10.setTop (mkF m 16 #[.val (.ref p0), .val (.int (1 : Int32)), .val (.long p2), .second, .val (.long p3), .second, .val p4, .val .null] [(.ref p0)])) _
    refine st12 _ ?_
    show Steps p.tables e below (T12.setTop (mkF m 19 #[.val (.ref p0), .val (.int (1 : Int32)), .val (.long p2), .second, .val (.long p3), .second, .val p4, .val .null] [(.ref b3)])) _
    refine XS.iloadN X12.here hx rfl (hb hby d6_19) rfl ?_
    show Steps p.tables e below (T12.setTop (mkF m 20 #[.val (.ref p0), .val (.int (1 : Int32)), .val (.long p2), .second, .val (.long p3), .second, .val p4, .val .null] [(.int (1 : Int32)), (.ref b3)])) _
    refine XS.aload X12.here hx rfl (hb hby d6_20) rfl F17_ ?_
    show Steps p.tables e below (T12.setTop (mkF m 22 #[.val (.ref p0), .val (.int (1 : Int32)), .val (.long p2), .second, .val (.long p3), .second, .val p4, .val .null] [p4, (.int (1 : Int32)), (.ref b3)])) _
    refine st16 _ ?_
    show Steps p.tables e below (T16.setTop (mkF m 23 #[.val (.ref p0), .val (.int (1 : Int32)), .val (.long p2), .second, .val (.long p3), .second, .val p4, .val .null] [])) _
    refine XS.aload X16.here hx rfl (hb hby d6_23) rfl rfl ?_
    show Steps p.tables e below (T16.setTop (mkF m 25 #[.val (.ref p0), .val (.int (1 : Int32)), .val (.long p2), .second, .val (.long p3), .second, .val p4, .val .null] [.null])) _
    refine XS.ifnullYes X16.here hx rfl (pc0 := 25) (pc' := 39) rfl (hb hby d6_25) rfl (by decide) (by decide) ?_
    exact Steps.refl _
  have c18 : Arv Z h16 b1 k1 .long (2 : Int32) [(.long x0), (.long p2)] (.long (0 : Int64)) := ((V4.other W10 F9_).other W16 F10_)
  have c19 : Arv Z h16 b2 k2 .long (2 : Int32) [(.long y0), (.long p3)] (.long (0 : Int64)) := (V10.other W16 F11_)
  obtain ⟨fs, hr, hrun, hended, hW, hsame⟩ := X16.leave (v := none) (fun _ => rfl)
  refine ⟨_, _, s17.trans ?_, hrun, hended, _, _, rfl, ?_, ⟨_, rfl⟩, hW, hsame.mono (by decide) (by decide)⟩
  · show Steps p.tables e below (T16.setTop (mkF m 39 #[.val (.ref p0), .val (.int (1 : Int32)), .val (.long p2), .second, .val (.long p3), .second, .val p4, .val .null] [])) _
    exact X16.returnOut hx Bd.returns (hb hby d6_39) hr
  · show Qr2_1 Z p0 p2 p3 p4 b1 b2 b3 k1 k2 k3 x0 x1 y0 y1 u0 h0 n0 _ T16.heap _
    rw [e16]
    exact ⟨rfl, N16, K16, c18, c19, V16⟩
theorem ef_rmc2 (m : MethodId) (p0 : Addr) (p1 : Value) (r_p1 : p1.isRef = true) : entryFrame m #[(.ref p0), p1] 8 = mkF m 0 #[.val (.ref p0), .val p1, .unset, .unset, .unset, .unset, .unset, .unset] [] := by
  cases p1 <;> first | (cases r_p1; done) | (simp [entryFrame, mkF, argsToLocals, Value.category]; done) | rfl
def Qc2 (Z : State) (p0 : Addr) (p1 : Value) (b3 : Addr) (k3 : ClassId) (u0 : Value) (u1 : Value) (h0 : Heap) (n0 : Nat) (v : Option Value) (h : Heap) (L : List Loc) : Prop := v = some (.long (if u1 = p1 then ((if u0 = p1 then (1 : Int64) else (0 : Int64)) + (1 : Int64)) else (if u0 = p1 then (1 : Int64) else (0 : Int64)))) ∧ Fr n0 L ∧ h = h0
set_option maxRecDepth 65536 in
set_option maxHeartbeats 40000000 in
theorem rmc2 (l : Launch) (Z : State) (a0 : Array Value) (hw : ∀ d ∈ tables_1, d.before a0 Z = true) (ws : List Jvm.Cond) (p0 : Addr) (p1 : Value) (b3 : Addr) (k3 : ClassId) (u0 : Value) (u1 : Value) (h0 : Heap) (n0 : Nat) (O0 : Old Z n0 h0) (F0_ : Fld Z h0 p0 "com/example/hot_gate/hotgate/bench/Replies" "outcomes" "[Lcom/example/hot_gate/hotgate/bench/Outcome;" (.ref b3)) (F1_ : Arv Z h0 b3 k3 (.object "com/example/hot_gate/hotgate/bench/Outcome") (2 : Int32) [u0, u1] .null) (F2_ : u0.isRef = true) (F3_ : u1.isRef = true) (F4_ : p1.isRef = true) :
    MetFree l (⟨"com/example/hot_gate/hotgate/bench/Replies", "count", "(Lcom/example/hot_gate/hotgate/bench/Outcome;)J"⟩ : MethodName) (head1 (Jvm.Cond.code (⟨"com/example/hot_gate/hotgate/bench/Replies", "count", "(Lcom/example/hot_gate/hotgate/bench/Outcome;)J"⟩ : MethodName) prog_12_method_4_code 8 (some .long) :: ws) ({ frames := 0, cells := 0, slots := 0, locals := 0 } : Room)) (fun a U => a = #[(.ref p0), p1] ∧ Z.Warmed39 U.vm ∧ U.heap = h0) (fun _ _ _ _ _ => True) (fun _ U o U' => ∃ v L, o = .returned v ∧ Qc2 Z p0 p1 b3 k3 u0 u1 h0 n0 v U'.heap L ∧ FrameEnd U o U' L ({ frames := 0, cells := 0, slots := 0, locals := 0 } : Room).cells ({ frames := 0, cells := 0, slots := 0, locals := 0 } : Room).slots) := by
  refine MetFree.of_bodySF (plainFor_of_name pn_2) hisR ?_
  intro p e s m args below meth c s₁ Bd hml0 hP hK
  obtain ⟨rfl, hZ, hh⟩ := hP
  have hx := Bd.exec
  have hby := Bd.bytes
  have hml : c.maxLocals = 8 := hml0
  have hown : s.vm.findClass "com/example/hot_gate/hotgate/bench/Replies" = some m.cls := findClass_of_methodNamed Bd.named
  have hnm := (name_of_methodNamed Bd.named Bd.method).1
  have X0 : Stand p l e ({ frames := 0, cells := 0, slots := 0, locals := 0 } : Room) s m #[(.ref p0), p1] below meth c s₁ [] 0 0 := Stand.of_body Bd
  have e0 : s₁.heap = h0 := by rw [← hh, Bd.state]; rfl
  have N0 := Fr.nil n0
  have s0 : Steps p.tables e below (s₁.setTop (entryFrame m #[(.ref p0), p1] 8)) (s₁.setTop (mkF m 0 #[.val (.ref p0), .val p1, .unset, .unset, .unset, .unset, .unset, .unset] [])) := castTop (ef_rmc2 m p0 p1 F4_) (Steps.refl _)
  obtain ⟨T1, X1, e1, st1⟩ := getF X0 hx hZ hown (host := "") (Or.inl (hw _ (List.mem_of_getElem? (i := 39) rfl))) Via.refl e0 F0_ (g := (mkF m 3 #[.val (.ref p0), .val p1, .val (.long (0 : Int64)), .second, .unset, .unset, .unset, .unset] [(.ref p0)])) rfl rfl (hb hby d5_3)
  obtain ⟨cla2, Ara2, qa2, Sa2, Za2, Ha2, Ga2⟩ := id F1_
  have hin3 : ¬ ((0 : Int32) < 0 ∨ cla2.slots.size ≤ ((0 : Int32)).toNatClampNeg) := inb_of Sa2 ⟨by decide, by decide⟩
  have hat4 : cla2.slots[((0 : Int32)).toNatClampNeg]? = some u0 := Has.at Ha2 hin3 rfl
  have s5 : Steps p.tables e below (s₁.setTop (entryFrame m #[(.ref p0), p1] 8)) (T1.setTop (mkF m 33 #[.val (.ref p0), .val p1, .val (.long (0 : Int64)), .second, .val (.ref b3), .val (.int (2 : Int32)), .val (.int (0 : Int32)), .val u0] [p1, u0])) := by
    refine s0.trans ?_
    show Steps p.tables e below (s₁.setTop (mkF m 0 #[.val (.ref p0), .val p1, .unset, .unset, .unset, .unset, .unset, .unset] [])) _
    refine XS.lconst X0.here hx rfl (hb hby d5_0) ?_
    show Steps p.tables e below (s₁.setTop (mkF m 1 #[.val (.ref p0), .val p1, .unset, .unset, .unset, .unset, .unset, .unset] [(.long (0 : Int64))])) _
    refine XS.lstoreN X0.here hx rfl (hb hby d5_1) rfl (l' := #[.val (.ref p0), .val p1, .val (.long (0 : Int64)), .second, .unset, .unset, .unset, .unset]) rfl ?_
    show Steps p.tables e below (s₁.setTop (mkF m 2 #[.val (.ref p0), .val p1, .val (.long (0 : Int64)), .second, .unset, .unset, .unset, .unset] [])) _
    refine XS.aloadN X0.here hx rfl (hb hby d5_2) rfl rfl ?_
    show Steps p.tables e below (s₁.setTop (mkF m 3 #[.val (.ref p0), .val p1, .val (.long (0 : Int64)), .second, .unset, .unset, .unset, .unset] [(.ref p0)])) _
    refine st1 _ ?_
    show Steps p.tables e below (T1.setTop (mkF m 6 #[.val (.ref p0), .val p1, .val (.long (0 : Int64)), .second, .unset, .unset, .unset, .unset] [(.ref b3)])) _
    refine XS.astore X1.here hx rfl (hb hby d5_6) rfl rfl (l' := #[.val (.ref p0), .val p1, .val (.long (0 : Int64)), .second, .val (.ref b3), .unset, .unset, .unset]) rfl ?_
    show Steps p.tables e below (T1.setTop (mkF m 8 #[.val (.ref p0), .val p1, .val (.long (0 : Int64)), .second, .val (.ref b3), .unset, .unset, .unset] [])) _
    refine XS.aload X1.here hx rfl (hb hby d5_8) rfl rfl ?_
    show Steps p.tables e below (T1.setTop (mkF m 10 #[.val (.ref p0), .val p1, .val (.long (0 : Int64)), .second, .val (.ref b3), .unset, .unset, .unset] [(.ref b3)])) _
    refine X1.arraylength hx (by rw [e1]; exact Ara2.1) (State.isArrayOf_alike hZ.alike Ara2.2.1) (g := (mkF m 10 #[.val (.ref p0), .val p1, .val (.long (0 : Int64)), .second, .val (.ref b3), .unset, .unset, .unset] [(.ref b3)])) rfl rfl (hb hby d5_10) _ ?_
    rw [len_of Sa2 Za2]
    show Steps p.tables e below (T1.setTop (mkF m 11 #[.val (.ref p0), .val p1, .val (.long (0 : Int64)), .second, .val (.ref b3), .unset, .unset, .unset] [(.int (2 : Int32))])) _
    refine XS.istore X1.here hx rfl (hb hby d5_11) rfl (l' := #[.val (.ref p0), .val p1, .val (.long (0 : Int64)), .second, .val (.ref b3), .val (.int (2 : Int32)), .unset, .unset]) rfl ?_
    show Steps p.tables e below (T1.setTop (mkF m 13 #[.val (.ref p0), .val p1, .val (.long (0 : Int64)), .second, .val (.ref b3), .val (.int (2 : Int32)), .unset, .unset] [])) _
    refine XS.iconst X1.here hx rfl (hb hby d5_13) ?_
    show Steps p.tables e below (T1.setTop (mkF m 14 #[.val (.ref p0), .val p1, .val (.long (0 : Int64)), .second, .val (.ref b3), .val (.int (2 : Int32)), .unset, .unset] [(.int (0 : Int32))])) _
    refine XS.istore X1.here hx rfl (hb hby d5_14) rfl (l' := #[.val (.ref p0), .val p1, .val (.long (0 : Int64)), .second, .val (.ref b3), .val (.int (2 : Int32)), .val (.int (0 : Int32)), .unset]) rfl ?_
    show Steps p.tables e below (T1.setTop (mkF m 16 #[.val (.ref p0), .val p1, .val (.long (0 : Int64)), .second, .val (.ref b3), .val (.int (2 : Int32)), .val (.int (0 : Int32)), .unset] [])) _
    refine XS.iload X1.here hx rfl (hb hby d5_16) rfl ?_
    show Steps p.tables e below (T1.setTop (mkF m 18 #[.val (.ref p0), .val p1, .val (.long (0 : Int64)), .second, .val (.ref b3), .val (.int (2 : Int32)), .val (.int (0 : Int32)), .unset] [(.int (0 : Int32))])) _
    refine XS.iload X1.here hx rfl (hb hby d5_18) rfl ?_
    show Steps p.tables e below (T1.setTop (mkF m 20 #[.val (.ref p0), .val p1, .val (.long (0 : Int64)), .second, .val (.ref b3), .val (.int (2 : Int32)), .val (.int (0 : Int32)), .unset] [(.int (2 : Int32)), (.int (0 : Int32))])) _
    refine XS.icmpNo X1.here hx rfl (hb hby d5_20) rfl (tlt (by decide)).2.1 ?_
    show Steps p.tables e below (T1.setTop (mkF m 23 #[.val (.ref p0), .val p1, .val (.long (0 : Int64)), .second, .val (.ref b3), .val (.int (2 : Int32)), .val (.int (0 : Int32)), .unset] [])) _
    refine XS.aload X1.here hx rfl (hb hby d5_23) rfl rfl ?_
    show Steps p.tables e below (T1.setTop (mkF m 25 #[.val (.ref p0), .val p1, .val (.long (0 : Int64)), .second, .val (.ref b3), .val (.int (2 : Int32)), .val (.int (0 : Int32)), .unset] [(.ref b3)])) _
    refine XS.iload X1.here hx rfl (hb hby d5_25) rfl ?_
    show Steps p.tables e below (T1.setTop (mkF m 27 #[.val (.ref p0), .val p1, .val (.long (0 : Int64)), .second, .val (.ref b3), .val (.int (2 : Int32)), .val (.int (0 : Int32)), .unset] [(.int (0 : Int32)), (.ref b3)])) _
    refine X1.aaload hx (j := (0 : Int32)) (v := u0) (by rw [e1]; exact Ara2.1) (State.isArrayOf_alike hZ.alike Ara2.2.1) rfl Ara2.2.2 hin3 hat4 (g := (mkF m 27 #[.val (.ref p0), .val p1, .val (.long (0 : Int64)), .second, .val (.ref b3), .val (.int (2 : Int32)), .val (.int (0 : Int32)), .unset] [(.int (0 : Int32)), (.ref b3)])) rfl rfl (hb hby d5_27) _ ?_
    show Steps p.tables e below (T1.setTop (mkF m 28 #[.val (.ref p0), .val p1, .val (.long (0 : Int64)), .second, .val (.ref b3), .val (.int (2 : Int32)), .val (.int (0 : Int32)), .unset] [u0])) _
    refine XS.astore X1.here hx rfl (hb hby d5_28) rfl F2_ (l' := #[.val (.ref p0), .val p1, .val (.long (0 : Int64)), .second, .val (.ref b3), .val (.int (2 : Int32)), .val (.int (0 : Int32)), .val u0]) (by exact XS.store1 (o := .unset) rfl (Or.inl rfl) (catV F2_)) ?_
    show Steps p.tables e below (T1.setTop (mkF m 30 #[.val (.ref p0), .val p1, .val (.long (0 : Int64)), .second, .val (.ref b3), .val (.int (2 : Int32)), .val (.int (0 : Int32)), .val u0] [])) _
    refine XS.aload X1.here hx rfl (hb hby d5_30) rfl F2_ ?_
    show Steps p.tables e below (T1.setTop (mkF m 32 #[.val (.ref p0), .val p1, .val (.long (0 : Int64)), .second, .val (.ref b3), .val (.int (2 : Int32)), .val (.int (0 : Int32)), .val u0] [u0])) _
    refine XS.aloadN X1.here hx rfl (hb hby d5_32) rfl F4_ ?_
    exact Steps.refl _
  have s7 : Steps p.tables e below (s₁.setTop (entryFrame m #[(.ref p0), p1] 8)) (T1.setTop (mkF m 40 #[.val (.ref p0), .val p1, .val (.long (if u0 = p1 then (1 : Int64) else (0 : Int64))), .second, .val (.ref b3), .val (.int (2 : Int32)), .val (.int (0 : Int32)), .val u0] [])) := by
    by_cases hm6 : u0 = p1
    · simp only [if_pos hm6]
      refine s5.trans ?_
      show Steps p.tables e below (T1.setTop (mkF m 33 #[.val (.ref p0), .val p1, .val (.long (0 : Int64)), .second, .val (.ref b3), .val (.int (2 : Int32)), .val (.int (0 : Int32)), .val u0] [p1, u0])) _
      refine Jvm.RoadKit.acmp (g := (mkF m 33 #[.val (.ref p0), .val p1, .val (.long (0 : Int64)), .second, .val (.ref b3), .val (.int (2 : Int32)), .val (.int (0 : Int32)), .val u0] [p1, u0])) X1 hx rfl F2_ F4_ (pc0 := 33) (pc' := 36) (same := true) rfl (hb hby d5_33) rfl (decide_eq_true hm6) (by decide) (by decide) ?_
      show Steps p.tables e below (T1.setTop (mkF m 36 #[.val (.ref p0), .val p1, .val (.long (0 : Int64)), .second, .val (.ref b3), .val (.int (2 : Int32)), .val (.int (0 : Int32)), .val u0] [])) _
      refine XS.lloadN X1.here hx rfl (hb hby d5_36) rfl ?_
      show Steps p.tables e below (T1.setTop (mkF m 37 #[.val (.ref p0), .val p1, .val (.long (0 : Int64)), .second, .val (.ref b3), .val (.int (2 : Int32)), .val (.int (0 : Int32)), .val u0] [(.long (0 : Int64))])) _
      refine XS.lconst X1.here hx rfl (hb hby d5_37) ?_
      show Steps p.tables e below (T1.setTop (mkF m 38 #[.val (.ref p0), .val p1, .val (.long (0 : Int64)), .second, .val (.ref b3), .val (.int (2 : Int32)), .val (.int (0 : Int32)), .val u0] [(.long (1 : Int64)), (.long (0 : Int64))])) _
      refine XS.ladd X1.here hx rfl (hb hby d5_38) rfl ?_
      show Steps p.tables e below (T1.setTop (mkF m 39 #[.val (.ref p0), .val p1, .val (.long (0 : Int64)), .second, .val (.ref b3), .val (.int (2 : Int32)), .val (.int (0 : Int32)), .val u0] [(.long (1 : Int64))])) _
      refine XS.lstoreN X1.here hx rfl (hb hby d5_39) rfl (l' := #[.val (.ref p0), .val p1, .val (.long (1 : Int64)), .second, .val (.ref b3), .val (.int (2 : Int32)), .val (.int (0 : Int32)), .val u0]) rfl ?_
      exact Steps.refl _
    · simp only [if_neg hm6]
      refine s5.trans ?_
      show Steps p.tables e below (T1.setTop (mkF m 33 #[.val (.ref p0), .val p1, .val (.long (0 : Int64)), .second, .val (.ref b3), .val (.int (2 : Int32)), .val (.int (0 : Int32)), .val u0] [p1, u0])) _
      refine Jvm.RoadKit.acmp (g := (mkF m 33 #[.val (.ref p0), .val p1, .val (.long (0 : Int64)), .second, .val (.ref b3), .val (.int (2 : Int32)), .val (.int (0 : Int32)), .val u0] [p1, u0])) X1 hx rfl F2_ F4_ (pc0 := 33) (pc' := 40) (same := false) rfl (hb hby d5_33) rfl (decide_eq_false hm6) (by decide) (by decide) ?_
      exact Steps.refl _
  obtain ⟨zz0, hzz0⟩ : ∃ z, z = (if u0 = p1 then (1 : Int64) else (0 : Int64)) := ⟨_, rfl⟩
  rw [← hzz0] at s7
  have hin8 : ¬ ((1 : Int32) < 0 ∨ cla2.slots.size ≤ ((1 : Int32)).toNatClampNeg) := inb_of Sa2 ⟨by decide, by decide⟩
  have hat9 : cla2.slots[((1 : Int32)).toNatClampNeg]? = some u1 := Has.at Ha2 hin8 rfl
  have s10 : Steps p.tables e below (s₁.setTop (entryFrame m #[(.ref p0), p1] 8)) (T1.setTop (mkF m 33 #[.val (.ref p0), .val p1, .val (.long zz0), .second, .val (.ref b3), .val (.int (2 : Int32)), .val (.int (1 : Int32)), .val u1] [p1, u1])) := by
    refine s7.trans ?_
    show Steps p.tables e below (T1.setTop (mkF m 40 #[.val (.ref p0), .val p1, .val (.long zz0), .second, .val (.ref b3), .val (.int (2 : Int32)), .val (.int (0 : Int32)), .val u0] [])) _
    refine XS.iinc X1.here hx rfl (hb hby d5_40) rfl (l' := #[.val (.ref p0), .val p1, .val (.long zz0), .second, .val (.ref b3), .val (.int (2 : Int32)), .val (.int (1 : Int32)), .val u0]) rfl ?_
    show Steps p.tables e below (T1.setTop (mkF m 43 #[.val (.ref p0), .val p1, .val (.long zz0), .second, .val (.ref b3), .val (.int (2 : Int32)), .val (.int (1 : Int32)), .val u0] [])) _
    refine XS.goto X1.here hx rfl (pc0 := 43) (pc' := 16) rfl (hb hby d5_43) (by decide) (by decide) ?_
    show Steps p.tables e below (T1.setTop (mkF m 16 #[.val (.ref p0), .val p1, .val (.long zz0), .second, .val (.ref b3), .val (.int (2 : Int32)), .val (.int (1 : Int32)), .val u0] [])) _
    refine XS.iload X1.here hx rfl (hb hby d5_16) rfl ?_
    show Steps p.tables e below (T1.setTop (mkF m 18 #[.val (.ref p0), .val p1, .val (.long zz0), .second, .val (.ref b3), .val (.int (2 : Int32)), .val (.int (1 : Int32)), .val u0] [(.int (1 : Int32))])) _
    refine XS.iload X1.here hx rfl (hb hby d5_18) rfl ?_
    show Steps p.tables e below (T1.setTop (mkF m 20 #[.val (.ref p0), .val p1, .val (.long zz0), .second, .val (.ref b3), .val (.int (2 : Int32)), .val (.int (1 : Int32)), .val u0] [(.int (2 : Int32)), (.int (1 : Int32))])) _
    refine XS.icmpNo X1.here hx rfl (hb hby d5_20) rfl (tlt (by decide)).2.1 ?_
    show Steps p.tables e below (T1.setTop (mkF m 23 #[.val (.ref p0), .val p1, .val (.long zz0), .second, .val (.ref b3), .val (.int (2 : Int32)), .val (.int (1 : Int32)), .val u0] [])) _
    refine XS.aload X1.here hx rfl (hb hby d5_23) rfl rfl ?_
    show Steps p.tables e below (T1.setTop (mkF m 25 #[.val (.ref p0), .val p1, .val (.long zz0), .second, .val (.ref b3), .val (.int (2 : Int32)), .val (.int (1 : Int32)), .val u0] [(.ref b3)])) _
    refine XS.iload X1.here hx rfl (hb hby d5_25) rfl ?_
    show Steps p.tables e below (T1.setTop (mkF m 27 #[.val (.ref p0), .val p1, .val (.long zz0), .second, .val (.ref b3), .val (.int (2 : Int32)), .val (.int (1 : Int32)), .val u0] [(.int (1 : Int32)), (.ref b3)])) _
    refine X1.aaload hx (j := (1 : Int32)) (v := u1) (by rw [e1]; exact Ara2.1) (State.isArrayOf_alike hZ.alike Ara2.2.1) rfl Ara2.2.2 hin8 hat9 (g := (mkF m 27 #[.val (.ref p0), .val p1, .val (.long zz0), .second, .val (.ref b3), .val (.int (2 : Int32)), .val (.int (1 : Int32)), .val u0] [(.int (1 : Int32)), (.ref b3)])) rfl rfl (hb hby d5_27) _ ?_
    show Steps p.tables e below (T1.setTop (mkF m 28 #[.val (.ref p0), .val p1, .val (.long zz0), .second, .val (.ref b3), .val (.int (2 : Int32)), .val (.int (1 : Int32)), .val u0] [u1])) _
    refine XS.astore X1.here hx rfl (hb hby d5_28) rfl F3_ (l' := #[.val (.ref p0), .val p1, .val (.long zz0), .second, .val (.ref b3), .val (.int (2 : Int32)), .val (.int (1 : Int32)), .val u1]) (by exact XS.store1 (o := .val u0) rfl (Or.inr ⟨_, rfl, (catV F2_)⟩) (catV F3_)) ?_
    show Steps p.tables e below (T1.setTop (mkF m 30 #[.val (.ref p0), .val p1, .val (.long zz0), .second, .val (.ref b3), .val (.int (2 : Int32)), .val (.int (1 : Int32)), .val u1] [])) _
    refine XS.aload X1.here hx rfl (hb hby d5_30) rfl F3_ ?_
    show Steps p.tables e below (T1.setTop (mkF m 32 #[.val (.ref p0), .val p1, .val (.long zz0), .second, .val (.ref b3), .val (.int (2 : Int32)), .val (.int (1 : Int32)), .val u1] [u1])) _
    refine XS.aloadN X1.here hx rfl (hb hby d5_32) rfl F4_ ?_
    exact Steps.refl _
  have s12 : Steps p.tables e below (s₁.setTop (entryFrame m #[(.ref p0), p1] 8)) (T1.setTop (mkF m 40 #[.val (.ref p0), .val p1, .val (.long (if u1 = p1 then (zz0 + (1 : Int64)) else zz0)), .second, .val (.ref b3), .val (.int (2 : Int32)), .val (.int (1 : Int32)), .val u1] [])) := by
    by_cases hm11 : u1 = p1
    · simp only [if_pos hm11]
      refine s10.trans ?_
      show Steps p.tables e below (T1.setTop (mkF m 33 #[.val (.ref p0), .val p1, .val (.long zz0), .second, .val (.ref b3), .val (.int (2 : Int32)), .val (.int (1 : Int32)), .val u1] [p1, u1])) _
      refine Jvm.RoadKit.acmp (g := (mkF m 33 #[.val (.ref p0), .val p1, .val (.long zz0), .second, .val (.ref b3), .val (.int (2 : Int32)), .val (.int (1 : Int32)), .val u1] [p1, u1])) X1 hx rfl F3_ F4_ (pc0 := 33) (pc' := 36) (same := true) rfl (hb hby d5_33) rfl (decide_eq_true hm11) (by decide) (by decide) ?_
      show Steps p.tables e below (T1.setTop (mkF m 36 #[.val (.ref p0), .val p1, .val (.long zz0), .second, .val (.ref b3), .val (.int (2 : Int32)), .val (.int (1 : Int32)), .val u1] [])) _
      refine XS.lloadN X1.here hx rfl (hb hby d5_36) rfl ?_
      show Steps p.tables e below (T1.setTop (mkF m 37 #[.val (.ref p0), .val p1, .val (.long zz0), .second, .val (.ref b3), .val (.int (2 : Int32)), .val (.int (1 : Int32)), .val u1] [(.long zz0)])) _
      refine XS.lconst X1.here hx rfl (hb hby d5_37) ?_
      show Steps p.tables e below (T1.setTop (mkF m 38 #[.val (.ref p0), .val p1, .val (.long zz0), .second, .val (.ref b3), .val (.int (2 : Int32)), .val (.int (1 : Int32)), .val u1] [(.long (1 : Int64)), (.long zz0)])) _
      refine XS.ladd X1.here hx rfl (hb hby d5_38) rfl ?_
      show Steps p.tables e below (T1.setTop (mkF m 39 #[.val (.ref p0), .val p1, .val (.long zz0), .second, .val (.ref b3), .val (.int (2 : Int32)), .val (.int (1 : Int32)), .val u1] [(.long (zz0 + (1 : Int64)))])) _
      refine XS.lstoreN X1.here hx rfl (hb hby d5_39) rfl (l' := #[.val (.ref p0), .val p1, .val (.long (zz0 + (1 : Int64))), .second, .val (.ref b3), .val (.int (2 : Int32)), .val (.int (1 : Int32)), .val u1]) rfl ?_
      exact Steps.refl _
    · simp only [if_neg hm11]
      refine s10.trans ?_
      show Steps p.tables e below (T1.setTop (mkF m 33 #[.val (.ref p0), .val p1, .val (.long zz0), .second, .val (.ref b3), .val (.int (2 : Int32)), .val (.int (1 : Int32)), .val u1] [p1, u1])) _
      refine Jvm.RoadKit.acmp (g := (mkF m 33 #[.val (.ref p0), .val p1, .val (.long zz0), .second, .val (.ref b3), .val (.int (2 : Int32)), .val (.int (1 : Int32)), .val u1] [p1, u1])) X1 hx rfl F3_ F4_ (pc0 := 33) (pc' := 40) (same := false) rfl (hb hby d5_33) rfl (decide_eq_false hm11) (by decide) (by decide) ?_
      exact Steps.refl _
  obtain ⟨zz1, hzz1⟩ : ∃ z, z = (if u1 = p1 then (zz0 + (1 : Int64)) else zz0) := ⟨_, rfl⟩
  rw [← hzz1] at s12
  have s13 : Steps p.tables e below (s₁.setTop (entryFrame m #[(.ref p0), p1] 8)) (T1.setTop (mkF m 47 #[.val (.ref p0), .val p1, .val (.long zz1), .second, .val (.ref b3), .val (.int (2 : Int32)), .val (.int (2 : Int32)), .val u1] [(.long zz1)])) := by
    refine s12.trans ?_
    show Steps p.tables e below (T1.setTop (mkF m 40 #[.val (.ref p0), .val p1, .val (.long zz1), .second, .val (.ref b3), .val (.int (2 : Int32)), .val (.int (1 : Int32)), .val u1] [])) _
    refine XS.iinc X1.here hx rfl (hb hby d5_40) rfl (l' := #[.val (.ref p0), .val p1, .val (.long zz1), .second, .val (.ref b3), .val (.int (2 : Int32)), .val (.int (2 : Int32)), .val u1]) rfl ?_
    show Steps p.tables e below (T1.setTop (mkF m 43 #[.val (.ref p0), .val p1, .val (.long zz1), .second, .val (.ref b3), .val (.int (2 : Int32)), .val (.int (2 : Int32)), .val u1] [])) _
    refine XS.goto X1.here hx rfl (pc0 := 43) (pc' := 16) rfl (hb hby d5_43) (by decide) (by decide) ?_
    show Steps p.tables e below (T1.setTop (mkF m 16 #[.val (.ref p0), .val p1, .val (.long zz1), .second, .val (.ref b3), .val (.int (2 : Int32)), .val (.int (2 : Int32)), .val u1] [])) _
    refine XS.iload X1.here hx rfl (hb hby d5_16) rfl ?_
    show Steps p.tables e below (T1.setTop (mkF m 18 #[.val (.ref p0), .val p1, .val (.long zz1), .second, .val (.ref b3), .val (.int (2 : Int32)), .val (.int (2 : Int32)), .val u1] [(.int (2 : Int32))])) _
    refine XS.iload X1.here hx rfl (hb hby d5_18) rfl ?_
    show Steps p.tables e below (T1.setTop (mkF m 20 #[.val (.ref p0), .val p1, .val (.long zz1), .second, .val (.ref b3), .val (.int (2 : Int32)), .val (.int (2 : Int32)), .val u1] [(.int (2 : Int32)), (.int (2 : Int32))])) _
    refine XS.icmpYes X1.here hx rfl (pc0 := 20) (pc' := 46) rfl (hb hby d5_20) rfl (flt (by decide)).2.1 (by decide) (by decide) ?_
    show Steps p.tables e below (T1.setTop (mkF m 46 #[.val (.ref p0), .val p1, .val (.long zz1), .second, .val (.ref b3), .val (.int (2 : Int32)), .val (.int (2 : Int32)), .val u1] [])) _
    refine XS.lloadN X1.here hx rfl (hb hby d5_46) rfl ?_
    exact Steps.refl _
  obtain ⟨fs, hr, hrun, hended, hW, hsame⟩ := X1.leave (v := some (.long zz1)) (fun h => by rw [Bd.returns] at h; cases h)
  refine ⟨_, _, s13.trans ?_, hrun, hended, _, _, rfl, ?_, ⟨_, rfl⟩, hW, hsame.mono (by decide) (by decide)⟩
  · show Steps p.tables e below (T1.setTop (mkF m 47 #[.val (.ref p0), .val p1, .val (.long zz1), .second, .val (.ref b3), .val (.int (2 : Int32)), .val (.int (2 : Int32)), .val u1] [(.long zz1)])) _
    jvm_step X1.here [X1.here.top, hx, (hb hby d5_47), X1.method', Bd.returns, narrow]
    first | (intro acts; rw [hr _ acts rfl rfl rfl]) | rw [hr _ _ rfl rfl rfl]
    exact Steps.refl _
  · show Qc2 Z p0 p1 b3 k3 u0 u1 h0 n0 _ T1.heap _
    rw [e1]
    exact ⟨(by rw [hzz1, hzz0]), N0, rfl⟩
theorem pd_rmi3_0 : parseMethodDescriptor "()V" = some ⟨[], none⟩ := by decide +kernel
theorem ef_rmi3 (m : MethodId) (p0 : Addr) : entryFrame m #[(.ref p0), (.int (3 : Int32))] 2 = mkF m 0 #[.val (.ref p0), .val (.int (3 : Int32))] [] := by first | (simp [entryFrame, mkF, argsToLocals, Value.category]; done) | rfl
def Qi3 (Z : State) (p0 : Addr) (h0 : Heap) (n0 : Nat) (v : Option Value) (h : Heap) (L : List Loc) : Prop := ∃ b1 : Addr, ∃ b2 : Addr, ∃ b3 : Addr, ∃ k1 : ClassId, ∃ k2 : ClassId, ∃ k3 : ClassId, v = none ∧ Fr n0 L ∧ Keep h0 h [p0] ∧ (Exa Z h p0 "com/example/hot_gate/hotgate/bench/Replies") ∧ (Fld Z h p0 "com/example/hot_gate/hotgate/bench/Replies" "sentAt" "[J" (.ref b1)) ∧ (Fld Z h p0 "com/example/hot_gate/hotgate/bench/Replies" "answeredAt" "[J" (.ref b2)) ∧ (Fld Z h p0 "com/example/hot_gate/hotgate/bench/Replies" "outcomes" "[Lcom/example/hot_gate/hotgate/bench/Outcome;" (.ref b3)) ∧ (Arv Z h b1 k1 .long (3 : Int32) [(.long (0 : Int64)), (.long (0 : Int64)), (.long (0 : Int64))] (.long (0 : Int64))) ∧ (Arv Z h b2 k2 .long (3 : Int32) [(.long (0 : Int64)), (.long (0 : Int64)), (.long (0 : Int64))] (.long (0 : Int64))) ∧ (Arv Z h b3 k3 (.object "com/example/hot_gate/hotgate/bench/Outcome") (3 : Int32) [.null, .null, .null] .null) ∧ (h0.size ≤ b1) ∧ (h0.size ≤ b2) ∧ (h0.size ≤ b3) ∧ (b1 ≠ b2) ∧ (b1 ≠ b3) ∧ (b2 ≠ b3) ∧ (Ovr Z k3 "com/example/hot_gate/hotgate/bench/Outcome")
set_option maxRecDepth 65536 in
set_option maxHeartbeats 40000000 in
theorem rmi3 (l : Launch) (Z : State) (a0 : Array Value) (hw : ∀ d ∈ tables_1, d.before a0 Z = true) (ws : List Jvm.Cond) (p0 : Addr) (h0 : Heap) (n0 : Nat) (O0 : Old Z n0 h0) (F0_ : Exa Z h0 p0 "com/example/hot_gate/hotgate/bench/Replies") (F1_ : Fld Z h0 p0 "com/example/hot_gate/hotgate/bench/Replies" "firstError" "Ljava/util/concurrent/atomic/AtomicReference;" .null) (F2_ : Fld Z h0 p0 "com/example/hot_gate/hotgate/bench/Replies" "sentAt" "[J" .null) (F3_ : Fld Z h0 p0 "com/example/hot_gate/hotgate/bench/Replies" "answeredAt" "[J" .null) (F4_ : Fld Z h0 p0 "com/example/hot_gate/hotgate/bench/Replies" "outcomes" "[Lcom/example/hot_gate/hotgate/bench/Outcome;" .null) (F5_ : n0 ≤ p0) :
    MetFree l (⟨"com/example/hot_gate/hotgate/bench/Replies", "<init>", "(I)V"⟩ : MethodName) (head1 (Jvm.Cond.code (⟨"com/example/hot_gate/hotgate/bench/Replies", "<init>", "(I)V"⟩ : MethodName) prog_12_method_1_code 2 none :: ws) ({ frames := 2, cells := 4, slots := 10, locals := 26 } : Room)) (fun a U => a = #[(.ref p0), (.int (3 : Int32))] ∧ Z.Warmed39 U.vm ∧ U.heap = h0) (fun _ _ _ _ _ => True) (fun _ U o U' => ∃ v L, o = .returned v ∧ Qi3 Z p0 h0 n0 v U'.heap L ∧ FrameEnd U o U' L ({ frames := 2, cells := 4, slots := 10, locals := 26 } : Room).cells ({ frames := 2, cells := 4, slots := 10, locals := 26 } : Room).slots) := by
  refine MetFree.of_bodySF (plainFor_of_name pn_2) hisR ?_
  intro p e s m args below meth c s₁ Bd hml0 hP hK
  obtain ⟨rfl, hZ, hh⟩ := hP
  have hx := Bd.exec
  have hby := Bd.bytes
  have hml : c.maxLocals = 2 := hml0
  have hown : s.vm.findClass "com/example/hot_gate/hotgate/bench/Replies" = some m.cls := findClass_of_methodNamed Bd.named
  have hnm := (name_of_methodNamed Bd.named Bd.method).1
  have X0 : Stand p l e ({ frames := 2, cells := 4, slots := 10, locals := 26 } : Room) s m #[(.ref p0), (.int (3 : Int32))] below meth c s₁ [] 0 0 := Stand.of_body Bd
  have e0 : s₁.heap = h0 := by rw [← hh, Bd.state]; rfl
  have N0 := Fr.nil n0
  have s0 : Steps p.tables e below (s₁.setTop (entryFrame m #[(.ref p0), (.int (3 : Int32))] 2)) (s₁.setTop (mkF m 0 #[.val (.ref p0), .val (.int (3 : Int32))] [])) := castTop (ef_rmi3 m p0) (Steps.refl _)
  obtain ⟨T1, X1, e1, st1⟩ := initO X0 hx hZ hown (hw _ (List.mem_of_getElem? (i := 20) rfl)) (hw _ (List.mem_of_getElem? (i := 21) rfl)) (hw _ (List.mem_of_getElem? (i := 22) rfl)) e0 (g := (mkF m 1 #[.val (.ref p0), .val (.int (3 : Int32))] [(.ref p0)])) rfl (by rw [hml]; rfl) rfl (hb hby d2_1) (by decide) (W := 0) (by show 2 * 0 + _ ≤ _; exact Nat.le_of_eq rfl) (by decide)
  obtain ⟨T2, h2, X2, e2, E2, A2, D2, -, st2⟩ := newO X1 hx hZ hown (hw _ (List.mem_of_getElem? (i := 23) rfl)) (hw _ (List.mem_of_getElem? (i := 24) rfl)) (hw _ (List.mem_of_getElem? (i := 25) rfl)) e1 (g := (mkF m 5 #[.val (.ref p0), .val (.int (3 : Int32))] [(.ref p0)])) rfl (hb hby d2_5) (by decide) (by decide)
  obtain ⟨b2, g2⟩ : ∃ z, z = h0.size := ⟨_, rfl⟩
  rw [← g2] at A2 D2 st2
  have ne_p0_b2 : p0 ≠ b2 := Nat.ne_of_lt (Nat.lt_of_lt_of_le F0_.lt (Nat.le_of_eq g2.symm))
  have g_b2 : n0 ≤ b2 := Nat.le_trans (Nat.le_of_eq O0.1.symm) (Nat.le_trans O0.2.1 (Nat.le_of_eq g2.symm))
  have sz_b2 : h0.size ≤ b2 := Nat.le_trans (Keep.refl h0 [p0]).1 (Nat.le_of_eq g2.symm)
  have O2 := O0.ext E2
  have K2 : Keep h0 h2 [p0] := (Keep.refl h0 [p0]).ext E2
  obtain ⟨_, _, ⟨T3, L3, k3, n3⟩, -, X3, ⟨Lc3, hQ3, l3, y3, z3⟩, st3⟩ := X2.specialBack hx (y := (⟨"java/util/concurrent/atomic/AtomicReference", "<init>", "()V"⟩ : MethodName)) rfl hown (mvT hZ (hw _ (List.mem_of_getElem? (i := 26) rfl))) (mvT hZ (hw _ (List.mem_of_getElem? (i := 27) rfl))) (mvT hZ (hw _ (List.mem_of_getElem? (i := 28) rfl))) (by decide) (backOf (W := 2) (rm4 l Z a0 hw [] b2 h2 n0 O2 ) hZ (hw _ (List.mem_of_getElem? (i := 28) rfl)) (hw _ (List.mem_of_getElem? (i := 25) rfl)) (by decide) (by decide)) (g := (mkF m 9 #[.val (.ref p0), .val (.int (3 : Int32))] [(.ref b2), (.ref b2), (.ref p0)])) rfl (by rw [hml]; rfl) (Steps.refl _) (a := b2) (argsL := []) (rest := [(.ref b2), (.ref p0)]) (lenOf pd_rmi3_0 rfl) rfl (by show 2 * 0 + _ ≤ _; exact Nat.le_of_eq rfl) (hb hby d2_9) (fun _ _ => ⟨rfl, e2, (by decide : 1 + 0 ≤ _), (by decide : 1 + 0 ≤ _)⟩)
  dsimp only [Pt.U, Pt.locs, Pt.cells, Pt.slots] at X3 l3 y3 z3 st3 hQ3
  subst l3 y3 z3
  obtain ⟨rfl, Nq3, e3⟩ := hQ3
  have N3 := Fr.app N0 Nq3
  have c4 : Exa Z h2 p0 "com/example/hot_gate/hotgate/bench/Replies" := (F0_.ext E2)
  have c5 : Fld Z h2 p0 "com/example/hot_gate/hotgate/bench/Replies" "firstError" "Ljava/util/concurrent/atomic/AtomicReference;" .null := (F1_.ext E2)
  obtain ⟨T6, h6, X6, e6, W6, st6⟩ := putF X3 hx hZ hown (host := "") (Or.inl (hw _ (List.mem_of_getElem? (i := 30) rfl))) Via.refl e3 c5 c4 (Or.inr ⟨(hw _ (List.mem_of_getElem? (i := 31) rfl)), rfl, hnm⟩) (hw _ (List.mem_of_getElem? (i := 15) rfl)) (ty := (.object "java/util/concurrent/atomic/AtomicReference")) (by decide) rfl rfl (g := (mkF m 12 #[.val (.ref p0), .val (.int (3 : Int32))] [(.ref b2), (.ref p0)])) rfl rfl (hb hby d2_12)
  have Fw6 := c5.same W6
  have O6 := O2.wr W6 F5_
  have K6 : Keep h0 h6 [p0] := K2.wr W6 (Or.inl (List.mem_of_getElem? (i := 0) rfl))
  have N6 := Fr.snoc X6 N3 F5_
  obtain ⟨T7, h7, k7, X7, e7, E7, A7, st7⟩ := newP X6 hx hZ (hw _ (List.mem_of_getElem? (i := 32) rfl)) e6 (g := (mkF m 17 #[.val (.ref p0), .val (.int (3 : Int32))] [(.int (3 : Int32)), (.ref p0)])) rfl (hb hby d2_17) rfl (by decide) (cap := 3) (by decide) (by decide) (by decide) (by decide)
  obtain ⟨b7, g7⟩ : ∃ z, z = h6.size := ⟨_, rfl⟩
  rw [← g7] at A7 st7
  have c8 : Exa Z h6 p0 "com/example/hot_gate/hotgate/bench/Replies" := (c4.wr W6)
  have ne_p0_b7 : p0 ≠ b7 := Nat.ne_of_lt (Nat.lt_of_lt_of_le c8.lt (Nat.le_of_eq g7.symm))
  have c9 : Exa Z h6 b2 "java/util/concurrent/atomic/AtomicReference" := (A2.wr W6)
  have ne_b2_b7 : b2 ≠ b7 := Nat.ne_of_lt (Nat.lt_of_lt_of_le c9.lt (Nat.le_of_eq g7.symm))
  have g_b7 : n0 ≤ b7 := Nat.le_trans (Nat.le_of_eq O6.1.symm) (Nat.le_trans O6.2.1 (Nat.le_of_eq g7.symm))
  have sz_b7 : h0.size ≤ b7 := Nat.le_trans K6.1 (Nat.le_of_eq g7.symm)
  have O7 := O6.ext E7
  have K7 : Keep h0 h7 [p0] := K6.ext E7
  have V7 : Arv Z h7 b7 k7 .long (3 : Int32) [(.long (0 : Int64)), (.long (0 : Int64)), (.long (0 : Int64))] (.long (0 : Int64)) := (Arv.new A7 (by decide)).pad (pad_rep [] (.long (0 : Int64)) 3)
  have c10 : Exa Z h7 p0 "com/example/hot_gate/hotgate/bench/Replies" := (c8.ext E7)
  have c11 : Fld Z h7 p0 "com/example/hot_gate/hotgate/bench/Replies" "sentAt" "[J" .null := (((F2_.ext E2).other W6 (Or.inr (slot_ne (Or.inr (hw _ (List.mem_of_getElem? (i := 34) rfl))) (Or.inr (hw _ (List.mem_of_getElem? (i := 31) rfl))) (by decide) (t := (.array .long)) (t' := (.object "java/util/concurrent/atomic/AtomicReference")) (by decide) (by decide)))).ext E7)
  obtain ⟨T12, h12, X12, e12, W12, st12⟩ := putF X7 hx hZ hown (host := "") (Or.inl (hw _ (List.mem_of_getElem? (i := 33) rfl))) Via.refl e7 c11 c10 (Or.inr ⟨(hw _ (List.mem_of_getElem? (i := 34) rfl)), rfl, hnm⟩) (hw _ (List.mem_of_getElem? (i := 15) rfl)) (ty := (.array .long)) (by decide) rfl rfl (g := (mkF m 19 #[.val (.ref p0), .val (.int (3 : Int32))] [(.ref b7), (.ref p0)])) rfl rfl (hb hby d2_19)
  have Fw12 := c11.same W12
  have O12 := O7.wr W12 F5_
  have K12 : Keep h0 h12 [p0] := K7.wr W12 (Or.inl (List.mem_of_getElem? (i := 0) rfl))
  have N12 := Fr.snoc X12 N6 F5_
  obtain ⟨T13, h13, k13, X13, e13, E13, A13, st13⟩ := newP X12 hx hZ (hw _ (List.mem_of_getElem? (i := 32) rfl)) e12 (g := (mkF m 24 #[.val (.ref p0), .val (.int (3 : Int32))] [(.int (3 : Int32)), (.ref p0)])) rfl (hb hby d2_24) rfl (by decide) (cap := 3) (by decide) (by decide) (by decide) (by decide)
  obtain ⟨b13, g13⟩ : ∃ z, z = h12.size := ⟨_, rfl⟩
  rw [← g13] at A13 st13
  have c14 : Exa Z h12 p0 "com/example/hot_gate/hotgate/bench/Replies" := (c10.wr W12)
  have ne_p0_b13 : p0 ≠ b13 := Nat.ne_of_lt (Nat.lt_of_lt_of_le c14.lt (Nat.le_of_eq g13.symm))
  have c15 : Exa Z h12 b2 "java/util/concurrent/atomic/AtomicReference" := ((c9.ext E7).wr W12)
  have ne_b2_b13 : b2 ≠ b13 := Nat.ne_of_lt (Nat.lt_of_lt_of_le c15.lt (Nat.le_of_eq g13.symm))
  have c16 : Arv Z h12 b7 k7 .long (3 : Int32) [(.long (0 : Int64)), (.long (0 : Int64)), (.long (0 : Int64))] (.long (0 : Int64)) := (V7.other W12 (Ne.symm ne_p0_b7))
  have ne_b7_b13 : b7 ≠ b13 := Nat.ne_of_lt (Nat.lt_of_lt_of_le c16.lt (Nat.le_of_eq g13.symm))
  have g_b13 : n0 ≤ b13 := Nat.le_trans (Nat.le_of_eq O12.1.symm) (Nat.le_trans O12.2.1 (Nat.le_of_eq g13.symm))
  have sz_b13 : h0.size ≤ b13 := Nat.le_trans K12.1 (Nat.le_of_eq g13.symm)
  have O13 := O12.ext E13
  have K13 : Keep h0 h13 [p0] := K12.ext E13
  have V13 : Arv Z h13 b13 k13 .long (3 : Int32) [(.long (0 : Int64)), (.long (0 : Int64)), (.long (0 : Int64))] (.long (0 : Int64)) := (Arv.new A13 (by decide)).pad (pad_rep [] (.long (0 : Int64)) 3)
  have c17 : Exa Z h13 p0 "com/example/hot_gate/hotgate/bench/Replies" := (c14.ext E13)
  have c18 : Fld Z h13 p0 "com/example/hot_gate/hotgate/bench/Replies" "answeredAt" "[J" .null := (((((F3_.ext E2).other W6 (Or.inr (slot_ne (Or.inr (hw _ (List.mem_of_getElem? (i := 36) rfl))) (Or.inr (hw _ (List.mem_of_getElem? (i := 31) rfl))) (by decide) (t := (.array .long)) (t' := (.object "java/util/concurrent/atomic/AtomicReference")) (by decide) (by decide)))).ext E7).other W12 (Or.inr (slot_ne (Or.inr (hw _ (List.mem_of_getElem? (i := 36) rfl))) (Or.inr (hw _ (List.mem_of_getElem? (i := 34) rfl))) (by decide) (t := (.array .long)) (t' := (.array .long)) (by decide) (by decide)))).ext E13)
  obtain ⟨T19, h19, X19, e19, W19, st19⟩ := putF X13 hx hZ hown (host := "") (Or.inl (hw _ (List.mem_of_getElem? (i := 35) rfl))) Via.refl e13 c18 c17 (Or.inr ⟨(hw _ (List.mem_of_getElem? (i := 36) rfl)), rfl, hnm⟩) (hw _ (List.mem_of_getElem? (i := 15) rfl)) (ty := (.array .long)) (by decide) rfl rfl (g := (mkF m 26 #[.val (.ref p0), .val (.int (3 : Int32))] [(.ref b13), (.ref p0)])) rfl rfl (hb hby d2_26)
  have Fw19 := c18.same W19
  have O19 := O13.wr W19 F5_
  have K19 : Keep h0 h19 [p0] := K13.wr W19 (Or.inl (List.mem_of_getElem? (i := 0) rfl))
  have N19 := Fr.snoc X19 N12 F5_
  obtain ⟨T20, h20, k20, X20, e20, E20, A20, Ov20, st20⟩ := newR X19 hx hZ hown (hw _ (List.mem_of_getElem? (i := 37) rfl)) (hw _ (List.mem_of_getElem? (i := 38) rfl)) e19 (g := (mkF m 31 #[.val (.ref p0), .val (.int (3 : Int32))] [(.int (3 : Int32)), (.ref p0)])) rfl (hb hby d2_31) rfl (by decide) (cap := 3) (by decide) (by decide) (by decide) (by decide)
  obtain ⟨b20, g20⟩ : ∃ z, z = h19.size := ⟨_, rfl⟩
  rw [← g20] at A20 st20
  have c21 : Exa Z h19 p0 "com/example/hot_gate/hotgate/bench/Replies" := (c17.wr W19)
  have ne_p0_b20 : p0 ≠ b20 := Nat.ne_of_lt (Nat.lt_of_lt_of_le c21.lt (Nat.le_of_eq g20.symm))
  have c22 : Exa Z h19 b2 "java/util/concurrent/atomic/AtomicReference" := ((c15.ext E13).wr W19)
  have ne_b2_b20 : b2 ≠ b20 := Nat.ne_of_lt (Nat.lt_of_lt_of_le c22.lt (Nat.le_of_eq g20.symm))
  have c23 : Arv Z h19 b7 k7 .long (3 : Int32) [(.long (0 : Int64)), (.long (0 : Int64)), (.long (0 : Int64))] (.long (0 : Int64)) := ((c16.ext E13).other W19 (Ne.symm ne_p0_b7))
  have ne_b7_b20 : b7 ≠ b20 := Nat.ne_of_lt (Nat.lt_of_lt_of_le c23.lt (Nat.le_of_eq g20.symm))
  have c24 : Arv Z h19 b13 k13 .long (3 : Int32) [(.long (0 : Int64)), (.long (0 : Int64)), (.long (0 : Int64))] (.long (0 : Int64)) := (V13.other W19 (Ne.symm ne_p0_b13))
  have ne_b13_b20 : b13 ≠ b20 := Nat.ne_of_lt (Nat.lt_of_lt_of_le c24.lt (Nat.le_of_eq g20.symm))
  have g_b20 : n0 ≤ b20 := Nat.le_trans (Nat.le_of_eq O19.1.symm) (Nat.le_trans O19.2.1 (Nat.le_of_eq g20.symm))
  have sz_b20 : h0.size ≤ b20 := Nat.le_trans K19.1 (Nat.le_of_eq g20.symm)
  have O20 := O19.ext E20
  have K20 : Keep h0 h20 [p0] := K19.ext E20
  have V20 : Arv Z h20 b20 k20 (.object "com/example/hot_gate/hotgate/bench/Outcome") (3 : Int32) [.null, .null, .null] .null := (Arv.new A20 (by decide)).pad (pad_rep [] .null 3)
  have c25 : Exa Z h20 p0 "com/example/hot_gate/hotgate/bench/Replies" := (c21.ext E20)
  have c26 : Fld Z h20 p0 "com/example/hot_gate/hotgate/bench/Replies" "outcomes" "[Lcom/example/hot_gate/hotgate/bench/Outcome;" .null := (((((((F4_.ext E2).other W6 (Or.inr (slot_ne (Or.inr (hw _ (List.mem_of_getElem? (i := 40) rfl))) (Or.inr (hw _ (List.mem_of_getElem? (i := 31) rfl))) (by decide) (t := (.array (.object "com/example/hot_gate/hotgate/bench/Outcome"))) (t' := (.object "java/util/concurrent/atomic/AtomicReference")) (by decide) (by decide)))).ext E7).other W12 (Or.inr (slot_ne (Or.inr (hw _ (List.mem_of_getElem? (i := 40) rfl))) (Or.inr (hw _ (List.mem_of_getElem? (i := 34) rfl))) (by decide) (t := (.array (.object "com/example/hot_gate/hotgate/bench/Outcome"))) (t' := (.array .long)) (by decide) (by decide)))).ext E13).other W19 (Or.inr (slot_ne (Or.inr (hw _ (List.mem_of_getElem? (i := 40) rfl))) (Or.inr (hw _ (List.mem_of_getElem? (i := 36) rfl))) (by decide) (t := (.array (.object "com/example/hot_gate/hotgate/bench/Outcome"))) (t' := (.array .long)) (by decide) (by decide)))).ext E20)
  obtain ⟨T27, h27, X27, e27, W27, st27⟩ := putF X20 hx hZ hown (host := "") (Or.inl (hw _ (List.mem_of_getElem? (i := 39) rfl))) Via.refl e20 c26 c25 (Or.inr ⟨(hw _ (List.mem_of_getElem? (i := 40) rfl)), rfl, hnm⟩) (hw _ (List.mem_of_getElem? (i := 15) rfl)) (ty := (.array (.object "com/example/hot_gate/hotgate/bench/Outcome"))) (by decide) rfl rfl (g := (mkF m 34 #[.val (.ref p0), .val (.int (3 : Int32))] [(.ref b20), (.ref p0)])) rfl rfl (hb hby d2_34)
  have Fw27 := c26.same W27
  have O27 := O20.wr W27 F5_
  have K27 : Keep h0 h27 [p0] := K20.wr W27 (Or.inl (List.mem_of_getElem? (i := 0) rfl))
  have N27 := Fr.snoc X27 N19 F5_
  have s28 : Steps p.tables e below (s₁.setTop (entryFrame m #[(.ref p0), (.int (3 : Int32))] 2)) (T27.setTop (mkF m 37 #[.val (.ref p0), .val (.int (3 : Int32))] [])) := by
    refine s0.trans ?_
    show Steps p.tables e below (s₁.setTop (mkF m 0 #[.val (.ref p0), .val (.int (3 : Int32))] [])) _
    refine XS.aloadN X0.here hx rfl (hb hby d2_0) rfl rfl ?_
    show Steps p.tables e below (s₁.setTop (mkF m 1 #[.val (.ref p0), .val (.int (3 : Int32))] [(.ref p0)])) _
    refine st1 _ ?_
    show Steps p.tables e below (T1.setTop (mkF m 4 #[.val (.ref p0), .val (.int (3 : Int32))] [])) _
    refine XS.aloadN X1.here hx rfl (hb hby d2_4) rfl rfl ?_
    show Steps p.tables e below (T1.setTop (mkF m 5 #[.val (.ref p0), .val (.int (3 : Int32))] [(.ref p0)])) _
    refine st2 _ ?_
    show Steps p.tables e below (T2.setTop (mkF m 8 #[.val (.ref p0), .val (.int (3 : Int32))] [(.ref b2), (.ref p0)])) _
    refine XS.dup X2.here hx rfl (hb hby d2_8) rfl rfl ?_
    show Steps p.tables e below (T2.setTop (mkF m 9 #[.val (.ref p0), .val (.int (3 : Int32))] [(.ref b2), (.ref b2), (.ref p0)])) _
    refine st3.trans ?_
    show Steps p.tables e below (T3.setTop (mkF m 12 #[.val (.ref p0), .val (.int (3 : Int32))] [(.ref b2), (.ref p0)])) _
    refine st6 _ ?_
    show Steps p.tables e below (T6.setTop (mkF m 15 #[.val (.ref p0), .val (.int (3 : Int32))] [])) _
    refine XS.aloadN X6.here hx rfl (hb hby d2_15) rfl rfl ?_
    show Steps p.tables e below (T6.setTop (mkF m 16 #[.val (.ref p0), .val (.int (3 : Int32))] [(.ref p0)])) _
    refine XS.iloadN X6.here hx rfl (hb hby d2_16) rfl ?_
    show Steps p.tables e below (T6.setTop (mkF m 17 #[.val (.ref p0), .val (.int (3 : Int32))] [(.int (3 : Int32)), (.ref p0)])) _
    refine st7 _ ?_
    show Steps p.tables e below (T7.setTop (mkF m 19 #[.val (.ref p0), .val (.int (3 : Int32))] [(.ref b7), (.ref p0)])) _
    refine st12 _ ?_
    show Steps p.tables e below (T12.setTop (mkF m 22 #[.val (.ref p0), .val (.int (3 : Int32))] [])) _
    refine XS.aloadN X12.here hx rfl (hb hby d2_22) rfl rfl ?_
    show Steps p.tables e below (T12.setTop (mkF m 23 #[.val (.ref p0), .val (.int (3 : Int32))] [(.ref p0)])) _
    refine XS.iloadN X12.here hx rfl (hb hby d2_23) rfl ?_
    show Steps p.tables e below (T12.setTop (mkF m 24 #[.val (.ref p0), .val (.int (3 : Int32))] [(.int (3 : Int32)), (.ref p0)])) _
    refine st13 _ ?_
    show Steps p.tables e below (T13.setTop (mkF m 26 #[.val (.ref p0), .val (.int (3 : Int32))] [(.ref b13), (.ref p0)])) _
    refine st19 _ ?_
    show Steps p.tables e below (T19.setTop (mkF m 29 #[.val (.ref p0), .val (.int (3 : Int32))] [])) _
    refine XS.aloadN X19.here hx rfl (hb hby d2_29) rfl rfl ?_
    show Steps p.tables e below (T19.setTop (mkF m 30 #[.val (.ref p0), .val (.int (3 : Int32))] [(.ref p0)])) _
    refine XS.iloadN X19.here hx rfl (hb hby d2_30) rfl ?_
    show Steps p.tables e below (T19.setTop (mkF m 31 #[.val (.ref p0), .val (.int (3 : Int32))] [(.int (3 : Int32)), (.ref p0)])) _
    refine st20 _ ?_
    show Steps p.tables e below (T20.setTop (mkF m 34 #[.val (.ref p0), .val (.int (3 : Int32))] [(.ref b20), (.ref p0)])) _
    refine st27 _ ?_
    exact Steps.refl _
  have c29 : Exa Z h27 p0 "com/example/hot_gate/hotgate/bench/Replies" := (c25.wr W27)
  have c30 : Fld Z h27 p0 "com/example/hot_gate/hotgate/bench/Replies" "sentAt" "[J" (.ref b7) := ((((Fw12.ext E13).other W19 (Or.inr (slot_ne (Or.inr (hw _ (List.mem_of_getElem? (i := 34) rfl))) (Or.inr (hw _ (List.mem_of_getElem? (i := 36) rfl))) (by decide) (t := (.array .long)) (t' := (.array .long)) (by decide) (by decide)))).ext E20).other W27 (Or.inr (slot_ne (Or.inr (hw _ (List.mem_of_getElem? (i := 34) rfl))) (Or.inr (hw _ (List.mem_of_getElem? (i := 40) rfl))) (by decide) (t := (.array .long)) (t' := (.array (.object "com/example/hot_gate/hotgate/bench/Outcome"))) (by decide) (by decide))))
  have c31 : Fld Z h27 p0 "com/example/hot_gate/hotgate/bench/Replies" "answeredAt" "[J" (.ref b13) := ((Fw19.ext E20).other W27 (Or.inr (slot_ne (Or.inr (hw _ (List.mem_of_getElem? (i := 36) rfl))) (Or.inr (hw _ (List.mem_of_getElem? (i := 40) rfl))) (by decide) (t := (.array .long)) (t' := (.array (.object "com/example/hot_gate/hotgate/bench/Outcome"))) (by decide) (by decide))))
  have c32 : Arv Z h27 b7 k7 .long (3 : Int32) [(.long (0 : Int64)), (.long (0 : Int64)), (.long (0 : Int64))] (.long (0 : Int64)) := ((c23.ext E20).other W27 (Ne.symm ne_p0_b7))
  have c33 : Arv Z h27 b13 k13 .long (3 : Int32) [(.long (0 : Int64)), (.long (0 : Int64)), (.long (0 : Int64))] (.long (0 : Int64)) := ((c24.ext E20).other W27 (Ne.symm ne_p0_b13))
  have c34 : Arv Z h27 b20 k20 (.object "com/example/hot_gate/hotgate/bench/Outcome") (3 : Int32) [.null, .null, .null] .null := (V20.other W27 (Ne.symm ne_p0_b20))
  obtain ⟨fs, hr, hrun, hended, hW, hsame⟩ := X27.leave (v := none) (fun _ => rfl)
  refine ⟨_, _, s28.trans ?_, hrun, hended, _, _, rfl, ?_, ⟨_, rfl⟩, hW, hsame.mono (by decide) (by decide)⟩
  · show Steps p.tables e below (T27.setTop (mkF m 37 #[.val (.ref p0), .val (.int (3 : Int32))] [])) _
    exact X27.returnOut hx Bd.returns (hb hby d2_37) hr
  · show Qi3 Z p0 h0 n0 _ T27.heap _
    rw [e27]
    exact ⟨b7, b13, b20, k7, k13, k20, rfl, N27, K27, c29, c30, c31, Fw27, c32, c33, c34, sz_b7, sz_b13, sz_b20, ne_b7_b13, ne_b7_b20, ne_b13_b20, Ov20⟩
theorem ef_rmr3_0 (m : MethodId) (p0 : Addr) (p2 : Int64) (p3 : Int64) (p4 : Value) (r_p4 : p4.isRef = true) : entryFrame m #[(.ref p0), (.int (0 : Int32)), (.long p2), (.long p3), p4, .null] 8 = mkF m 0 #[.val (.ref p0), .val (.int (0 : Int32)), .val (.long p2), .second, .val (.long p3), .second, .val p4, .val .null] [] := by
  cases p4 <;> first | (cases r_p4; done) | (simp [entryFrame, mkF, argsToLocals, Value.category]; done) | rfl
def Qr3_0 (Z : State) (p0 : Addr) (p2 : Int64) (p3 : Int64) (p4 : Value) (b1 : Addr) (b2 : Addr) (b3 : Addr) (k1 : ClassId) (k2 : ClassId) (k3 : ClassId) (x0 : Int64) (x1 : Int64) (x2 : Int64) (y0 : Int64) (y1 : Int64) (y2 : Int64) (h0 : Heap) (n0 : Nat) (v : Option Value) (h : Heap) (L : List Loc) : Prop := v = none ∧ Fr n0 L ∧ Keep h0 h [b1, b2, b3] ∧ (Arv Z h b1 k1 .long (3 : Int32) [(.long p2), (.long x1), (.long x2)] (.long (0 : Int64))) ∧ (Arv Z h b2 k2 .long (3 : Int32) [(.long p3), (.long y1), (.long y2)] (.long (0 : Int64))) ∧ (Arv Z h b3 k3 (.object "com/example/hot_gate/hotgate/bench/Outcome") (3 : Int32) [p4, .null, .null] .null)
set_option maxRecDepth 65536 in
set_option maxHeartbeats 40000000 in
theorem rmr3_0 (l : Launch) (Z : State) (a0 : Array Value) (hw : ∀ d ∈ tables_1, d.before a0 Z = true) (ws : List Jvm.Cond) (p0 : Addr) (p2 : Int64) (p3 : Int64) (p4 : Value) (b1 : Addr) (b2 : Addr) (b3 : Addr) (k1 : ClassId) (k2 : ClassId) (k3 : ClassId) (x0 : Int64) (x1 : Int64) (x2 : Int64) (y0 : Int64) (y1 : Int64) (y2 : Int64) (h0 : Heap) (n0 : Nat) (O0 : Old Z n0 h0) (F0_ : Fld Z h0 p0 "com/example/hot_gate/hotgate/bench/Replies" "sentAt" "[J" (.ref b1)) (F1_ : Fld Z h0 p0 "com/example/hot_gate/hotgate/bench/Replies" "answeredAt" "[J" (.ref b2)) (F2_ : Fld Z h0 p0 "com/example/hot_gate/hotgate/bench/Replies" "outcomes" "[Lcom/example/hot_gate/hotgate/bench/Outcome;" (.ref b3)) (F3_ : Arv Z h0 b1 k1 .long (3 : Int32) [(.long x0), (.long x1), (.long x2)] (.long (0 : Int64))) (F4_ : Arv Z h0 b2 k2 .long (3 : Int32) [(.long y0), (.long y1), (.long y2)] (.long (0 : Int64))) (F5_ : Arv Z h0 b3 k3 (.object "com/example/hot_gate/hotgate/bench/Outcome") (3 : Int32) [.null, .null, .null] .null) (F6_ : n0 ≤ b1) (F7_ : n0 ≤ b2) (F8_ : n0 ≤ b3) (F9_ : b1 ≠ b2) (F10_ : b1 ≠ b3) (F11_ : b2 ≠ b3) (F12_ : p0 ≠ b1) (F13_ : p0 ≠ b2) (F14_ : p0 ≠ b3) (F15_ : Ovr Z k3 "com/example/hot_gate/hotgate/bench/Outcome") (F16_ : own_oc Z p4) (F17_ : p4.isRef = true) :
    MetFree l (⟨"com/example/hot_gate/hotgate/bench/Replies", "record", "(IJJLcom/example/hot_gate/hotgate/bench/Outcome;Ljava/lang/String;)V"⟩ : MethodName) (head1 (Jvm.Cond.code (⟨"com/example/hot_gate/hotgate/bench/Replies", "record", "(IJJLcom/example/hot_gate/hotgate/bench/Outcome;Ljava/lang/String;)V"⟩ : MethodName) prog_12_method_3_code 8 none :: ws) ({ frames := 0, cells := 0, slots := 0, locals := 0 } : Room)) (fun a U => a = #[(.ref p0), (.int (0 : Int32)), (.long p2), (.long p3), p4, .null] ∧ Z.Warmed39 U.vm ∧ U.heap = h0) (fun _ _ _ _ _ => True) (fun _ U o U' => ∃ v L, o = .returned v ∧ Qr3_0 Z p0 p2 p3 p4 b1 b2 b3 k1 k2 k3 x0 x1 x2 y0 y1 y2 h0 n0 v U'.heap L ∧ FrameEnd U o U' L ({ frames := 0, cells := 0, slots := 0, locals := 0 } : Room).cells ({ frames := 0, cells := 0, slots := 0, locals := 0 } : Room).slots) := by
  refine MetFree.of_bodySF (plainFor_of_name pn_2) hisR ?_
  intro p e s m args below meth c s₁ Bd hml0 hP hK
  obtain ⟨rfl, hZ, hh⟩ := hP
  have hx := Bd.exec
  have hby := Bd.bytes
  have hml : c.maxLocals = 8 := hml0
  have hown : s.vm.findClass "com/example/hot_gate/hotgate/bench/Replies" = some m.cls := findClass_of_methodNamed Bd.named
  have hnm := (name_of_methodNamed Bd.named Bd.method).1
  have X0 : Stand p l e ({ frames := 0, cells := 0, slots := 0, locals := 0 } : Room) s m #[(.ref p0), (.int (0 : Int32)), (.long p2), (.long p3), p4, .null] below meth c s₁ [] 0 0 := Stand.of_body Bd
  have e0 : s₁.heap = h0 := by rw [← hh, Bd.state]; rfl
  have N0 := Fr.nil n0
  have s0 : Steps p.tables e below (s₁.setTop (entryFrame m #[(.ref p0), (.int (0 : Int32)), (.long p2), (.long p3), p4, .null] 8)) (s₁.setTop (mkF m 0 #[.val (.ref p0), .val (.int (0 : Int32)), .val (.long p2), .second, .val (.long p3), .second, .val p4, .val .null] [])) := castTop (ef_rmr3_0 m p0 p2 p3 p4 F17_) (Steps.refl _)
  obtain ⟨T1, X1, e1, st1⟩ := getF X0 hx hZ hown (host := "") (Or.inl (hw _ (List.mem_of_getElem? (i := 33) rfl))) Via.refl e0 F0_ (g := (mkF m 1 #[.val (.ref p0), .val (.int (0 : Int32)), .val (.long p2), .second, .val (.long p3), .second, .val p4, .val .null] [(.ref p0)])) rfl rfl (hb hby d6_1)
  obtain ⟨cla2, Ara2, qa2, Sa2, Za2, Ha2, Ga2⟩ := id F3_
  have hin3 : ¬ ((0 : Int32) < 0 ∨ cla2.slots.size ≤ ((0 : Int32)).toNatClampNeg) := inb_of Sa2 ⟨by decide, by decide⟩
  obtain ⟨T4, h4, X4, e4, W4, st4⟩ := stJ X1 hx hZ e1 Ara2 (j := (0 : Int32)) hin3 (g := (mkF m 6 #[.val (.ref p0), .val (.int (0 : Int32)), .val (.long p2), .second, .val (.long p3), .second, .val p4, .val .null] [(.long p2), (.int (0 : Int32)), (.ref b1)])) rfl rfl (hb hby d6_6)
  have O4 := O0.wr W4 F6_
  have K4 : Keep h0 h4 [b1, b2, b3] := (Keep.refl h0 [b1, b2, b3]).wr W4 (Or.inl (List.mem_of_getElem? (i := 0) rfl))
  have N4 := Fr.snoc X4 N0 F6_
  have V4 : Arv Z h4 b1 k1 .long (3 : Int32) [(.long p2), (.long x1), (.long x2)] (.long (0 : Int64)) := Arv.set Ara2 qa2 Sa2 Za2 Ha2 Ga2 rfl W4 0 rfl (Nat.le_of_ble_eq_true rfl)
  have c5 : Fld Z h4 p0 "com/example/hot_gate/hotgate/bench/Replies" "answeredAt" "[J" (.ref b2) := (F1_.other W4 (Or.inl F12_))
  obtain ⟨T6, X6, e6, st6⟩ := getF X4 hx hZ hown (host := "") (Or.inl (hw _ (List.mem_of_getElem? (i := 35) rfl))) Via.refl e4 c5 (g := (mkF m 8 #[.val (.ref p0), .val (.int (0 : Int32)), .val (.long p2), .second, .val (.long p3), .second, .val p4, .val .null] [(.ref p0)])) rfl rfl (hb hby d6_8)
  have c7 : Arv Z h4 b2 k2 .long (3 : Int32) [(.long y0), (.long y1), (.long y2)] (.long (0 : Int64)) := (F4_.other W4 (Ne.symm F9_))
  obtain ⟨cla8, Ara8, qa8, Sa8, Za8, Ha8, Ga8⟩ := id c7
  have hin9 : ¬ ((0 : Int32) < 0 ∨ cla8.slots.size ≤ ((0 : Int32)).toNatClampNeg) := inb_of Sa8 ⟨by decide, by decide⟩
  obtain ⟨T10, h10, X10, e10, W10, st10⟩ := stJ X6 hx hZ e6 Ara8 (j := (0 : Int32)) hin9 (g := (mkF m 14 #[.val (.ref p0), .val (.int (0 : Int32)), .val (.long p2), .second, .val (.long p3), .second, .val p4, .val .null] [(.long p3), (.int (0 : Int32)), (.ref b2)])) rfl rfl (hb hby d6_14)
  have O10 := O4.wr W10 F7_
  have K10 : Keep h0 h10 [b1, b2, b3] := K4.wr W10 (Or.inl (List.mem_of_getElem? (i := 1) rfl))
  have N10 := Fr.snoc X10 N4 F7_
  have V10 : Arv Z h10 b2 k2 .long (3 : Int32) [(.long p3), (.long y1), (.long y2)] (.long (0 : Int64)) := Arv.set Ara8 qa8 Sa8 Za8 Ha8 Ga8 rfl W10 0 rfl (Nat.le_of_ble_eq_true rfl)
  have c11 : Fld Z h10 p0 "com/example/hot_gate/hotgate/bench/Replies" "outcomes" "[Lcom/example/hot_gate/hotgate/bench/Outcome;" (.ref b3) := ((F2_.other W4 (Or.inl F12_)).other W10 (Or.inl F13_))
  obtain ⟨T12, X12, e12, st12⟩ := getF X10 hx hZ hown (host := "") (Or.inl (hw _ (List.mem_of_getElem? (i := 39) rfl))) Via.refl e10 c11 (g := (mkF m 16 #[.val (.ref p0), .val (.int (0 : Int32)), .val (.long p2), .second, .val (.long p3), .second, .val p4, .val .null] [(.ref p0)])) rfl rfl (hb hby d6_16)
  have c13 : Arv Z h10 b3 k3 (.object "com/example/hot_gate/hotgate/bench/Outcome") (3 : Int32) [.null, .null, .null] .null := ((F5_.other W4 (Ne.symm F10_)).other W10 (Ne.symm F11_))
  obtain ⟨cla14, Ara14, qa14, Sa14, Za14, Ha14, Ga14⟩ := id c13
  have hin15 : ¬ ((0 : Int32) < 0 ∨ cla14.slots.size ≤ ((0 : Int32)).toNatClampNeg) := inb_of Sa14 ⟨by decide, by decide⟩
  obtain ⟨T16, h16, X16, e16, W16, st16⟩ := stR X12 hx hZ e12 Ara14 (j := (0 : Int32)) hin15 rfl (own_sto Ara14 qa14 F15_ O10.2 F16_) (g := (mkF m 22 #[.val (.ref p0), .val (.int (0 : Int32)), .val (.long p2), .second, .val (.long p3), .second, .val p4, .val .null] [p4, (.int (0 : Int32)), (.ref b3)])) rfl rfl (hb hby d6_22)
  have O16 := O10.wr W16 F8_
  have K16 : Keep h0 h16 [b1, b2, b3] := K10.wr W16 (Or.inl (List.mem_of_getElem? (i := 2) rfl))
  have N16 := Fr.snoc X16 N10 F8_
  have V16 : Arv Z h16 b3 k3 (.object "com/example/hot_gate/hotgate/bench/Outcome") (3 : Int32) [p4, .null, .null] .null := Arv.set Ara14 qa14 Sa14 Za14 Ha14 Ga14 (fitsV F17_) W16 0 rfl (Nat.le_of_ble_eq_true rfl)
  have s17 : Steps p.tables e below (s₁.setTop (entryFrame m #[(.ref p0), (.int (0 : Int32)), (.long p2), (.long p3), p4, .null] 8)) (T16.setTop (mkF m 39 #[.val (.ref p0), .val (.int (0 : Int32)), .val (.long p2), .second, .val (.long p3), .second, .val p4, .val .null] [])) := by
    refine s0.trans ?_
    show Steps p.tables e below (s₁.setTop (mkF m 0 #[.val (.ref p0), .val (.int (0 : Int32)), .val (.long p2), .second, .val (.long p3), .second, .val p4, .val .null] [])) _
    refine XS.aloadN X0.here hx rfl (hb hby d6_0) rfl rfl ?_
    show Steps p.tables e below (s₁.setTop (mkF m 1 #[.val (.ref p0), .val (.int (0 : Int32)), .val (.long p2), .second, .val (.long p3), .second, .val p4, .val .null] [(.ref p0)])) _
    refine st1 _ ?_
    show Steps p.tables e below (T1.setTop (mkF m 4 #[.val (.ref p0), .val (.int (0 : Int32)), .val (.long p2), .second, .val (.long p3), .second, .val p4, .val .null] [(.ref b1)])) _
    refine XS.iloadN X1.here hx rfl (hb hby d6_4) rfl ?_
    show Steps p.tables e below (T1.setTop (mkF m 5 #[.val (.ref p0), .val (.int (0 : Int32)), .val (.long p2), .second, .val (.long p3), .second, .val p4, .val .null] [(.int (0 : Int32)), (.ref b1)])) _
    refine XS.lloadN X1.here hx rfl (hb hby d6_5) rfl ?_
    show Steps p.tables e below (T1.setTop (mkF m 6 #[.val (.ref p0), .val (.int (0 : Int32)), .val (.long p2), .second, .val (.long p3), .second, .val p4, .val .null] [(.long p2), (.int (0 : Int32)), (.ref b1)])) _
    refine st4 _ ?_
    show Steps p.tables e below (T4.setTop (mkF m 7 #[.val (.ref p0), .val (.int (0 : Int32)), .val (.long p2), .second, .val (.long p3), .second, .val p4, .val .null] [])) _
    refine XS.aloadN X4.here hx rfl (hb hby d6_7) rfl rfl ?_
    show Steps p.tables e below (T4.setTop (mkF m 8 #[.val (.ref p0), .val (.int (0 : Int32)), .val (.long p2), .second, .val (.long p3), .second, .val p4, .val .null] [(.ref p0)])) _
    refine st6 _ ?_
    show Steps p.tables e below (T6.setTop (mkF m 11 #[.val (.ref p0), .val (.int (0 : Int32)), .val (.long p2), .second, .val (.long p3), .second, .val p4, .val .null] [(.ref b2)])) _
    refine XS.iloadN X6.here hx rfl (hb hby d6_11) rfl ?_
    show Steps p.tables e below (T6.setTop (mkF m 12 #[.val (.ref p0), .val (.int (0 : Int32)), .val (.long p2), .second, .val (.long p3), .second, .val p4, .val .null] [(.int (0 : Int32)), (.ref b2)])) _
    refine XS.lload X6.here hx rfl (hb hby d6_12) rfl ?_
    show Steps p.tables e below (T6.setTop (mkF m 14 #[.val (.ref p0), .val (.int (0 : Int32)), .val (.long p2), .second, .val (.long p3), .second, .val p4, .val .null] [(.long p3), (.int (0 : Int32)), (.ref b2)])) _
    refine st10 _ ?_
    show Steps p.tables e below (T10.setTop (mkF m 15 #[.val (.ref p0), .val (.int (0 : Int32)), .val (.long p2), .second, .val (.long p3), .second, .val p4, .val .null] [])) _
    refine XS.aloadN X10.here hx rfl (hb hby d6_15) rfl rfl ?_
    show Steps p.tables e below (T10.setTop (mkF m 16 #[.val (.ref p0), .val (.int (0 : Int32)), .val (.long p2), .second, .val (.long p3), .second, .val p4, .val .null] [(.ref p0)])) _
    refine st12 _ ?_
    show Steps p.tables e below (T12.setTop (mkF m 19 #[.val (.ref p0), .val (.int (0 : Int32)), .val (.long p2), .second, .val (.long p3), .second, .val p4, .val .null] [(.ref b3)])) _
    refine XS.iloadN X12.here hx rfl (hb hby d6_19) rfl ?_
    show Steps p.tables e below (T12.setTop (mkF m 20 #[.val (.ref p0), .val (.int (0 : Int32)), .val (.long p2), .second, .val (.long p3), .second, .val p4, .val .null] [(.int (0 : Int32)), (.ref b3)])) _
    refine XS.aload X12.here hx rfl (hb hby d6_20) rfl F17_ ?_
    show Steps p.tables e below (T12.setTop (mkF m 22 #[.val (.ref p0), .val (.int (0 : Int32)), .val (.long p2), .second, .val (.long p3), .second, .val p4, .val .null] [p4, (.int (0 : Int32)), (.ref b3)])) _
    refine st16 _ ?_
    show Steps p.tables e below (T16.setTop (mkF m 23 #[.val (.ref p0), .val (.int (0 : Int32)), .val (.long p2), .second, .val (.long p3), .second, .val p4, .val .null] [])) _
    refine XS.aload X16.here hx rfl (hb hby d6_23) rfl rfl ?_
    show Steps p.tables e below (T16.setTop (mkF m 25 #[.val (.ref p0), .val (.int (0 : Int32)), .val (.long p2), .second, .val (.long p3), .second, .val p4, .val .null] [.null])) _
    refine XS.ifnullYes X16.here hx rfl (pc0 := 25) (pc' := 39) rfl (hb hby d6_25) rfl (by decide) (by decide) ?_
    exact Steps.refl _
  have c18 : Arv Z h16 b1 k1 .long (3 : Int32) [(.long p2), (.long x1), (.long x2)] (.long (0 : Int64)) := ((V4.other W10 F9_).other W16 F10_)
  have c19 : Arv Z h16 b2 k2 .long (3 : Int32) [(.long p3), (.long y1), (.long y2)] (.long (0 : Int64)) := (V10.other W16 F11_)
  obtain ⟨fs, hr, hrun, hended, hW, hsame⟩ := X16.leave (v := none) (fun _ => rfl)
  refine ⟨_, _, s17.trans ?_, hrun, hended, _, _, rfl, ?_, ⟨_, rfl⟩, hW, hsame.mono (by decide) (by decide)⟩
  · show Steps p.tables e below (T16.setTop (mkF m 39 #[.val (.ref p0), .val (.int (0 : Int32)), .val (.long p2), .second, .val (.long p3), .second, .val p4, .val .null] [])) _
    exact X16.returnOut hx Bd.returns (hb hby d6_39) hr
  · show Qr3_0 Z p0 p2 p3 p4 b1 b2 b3 k1 k2 k3 x0 x1 x2 y0 y1 y2 h0 n0 _ T16.heap _
    rw [e16]
    exact ⟨rfl, N16, K16, c18, c19, V16⟩
theorem ef_rmr3_1 (m : MethodId) (p0 : Addr) (p2 : Int64) (p3 : Int64) (p4 : Value) (r_p4 : p4.isRef = true) : entryFrame m #[(.ref p0), (.int (1 : Int32)), (.long p2), (.long p3), p4, .null] 8 = mkF m 0 #[.val (.ref p0), .val (.int (1 : Int32)), .val (.long p2), .second, .val (.long p3), .second, .val p4, .val .null] [] := by
  cases p4 <;> first | (cases r_p4; done) | (simp [entryFrame, mkF, argsToLocals, Value.category]; done) | rfl
def Qr3_1 (Z : State) (p0 : Addr) (p2 : Int64) (p3 : Int64) (p4 : Value) (b1 : Addr) (b2 : Addr) (b3 : Addr) (k1 : ClassId) (k2 : ClassId) (k3 : ClassId) (x0 : Int64) (x1 : Int64) (x2 : Int64) (y0 : Int64) (y1 : Int64) (y2 : Int64) (u0 : Value) (h0 : Heap) (n0 : Nat) (v : Option Value) (h : Heap) (L : List Loc) : Prop := v = none ∧ Fr n0 L ∧ Keep h0 h [b1, b2, b3] ∧ (Arv Z h b1 k1 .long (3 : Int32) [(.long x0), (.long p2), (.long x2)] (.long (0 : Int64))) ∧ (Arv Z h b2 k2 .long (3 : Int32) [(.long y0), (.long p3), (.long y2)] (.long (0 : Int64))) ∧ (Arv Z h b3 k3 (.object "com/example/hot_gate/hotgate/bench/Outcome") (3 : Int32) [u0, p4, .null] .null)
set_option maxRecDepth 65536 in
set_option maxHeartbeats 40000000 in
theorem rmr3_1 (l : Launch) (Z : State) (a0 : Array Value) (hw : ∀ d ∈ tables_1, d.before a0 Z = true) (ws : List Jvm.Cond) (p0 : Addr) (p2 : Int64) (p3 : Int64) (p4 : Value) (b1 : Addr) (b2 : Addr) (b3 : Addr) (k1 : ClassId) (k2 : ClassId) (k3 : ClassId) (x0 : Int64) (x1 : Int64) (x2 : Int64) (y0 : Int64) (y1 : Int64) (y2 : Int64) (u0 : Value) (h0 : Heap) (n0 : Nat) (O0 : Old Z n0 h0) (F0_ : Fld Z h0 p0 "com/example/hot_gate/hotgate/bench/Replies" "sentAt" "[J" (.ref b1)) (F1_ : Fld Z h0 p0 "com/example/hot_gate/hotgate/bench/Replies" "answeredAt" "[J" (.ref b2)) (F2_ : Fld Z h0 p0 "com/example/hot_gate/hotgate/bench/Replies" "outcomes" "[Lcom/example/hot_gate/hotgate/bench/Outcome;" (.ref b3)) (F3_ : Arv Z h0 b1 k1 .long (3 : Int32) [(.long x0), (.long x1), (.long x2)] (.long (0 : Int64))) (F4_ : Arv Z h0 b2 k2 .long (3 : Int32) [(.long y0), (.long y1), (.long y2)] (.long (0 : Int64))) (F5_ : Arv Z h0 b3 k3 (.object "com/example/hot_gate/hotgate/bench/Outcome") (3 : Int32) [u0, .null, .null] .null) (F6_ : n0 ≤ b1) (F7_ : n0 ≤ b2) (F8_ : n0 ≤ b3) (F9_ : b1 ≠ b2) (F10_ : b1 ≠ b3) (F11_ : b2 ≠ b3) (F12_ : p0 ≠ b1) (F13_ : p0 ≠ b2) (F14_ : p0 ≠ b3) (F15_ : Ovr Z k3 "com/example/hot_gate/hotgate/bench/Outcome") (F16_ : own_oc Z p4) (F17_ : p4.isRef = true) :
    MetFree l (⟨"com/example/hot_gate/hotgate/bench/Replies", "record", "(IJJLcom/example/hot_gate/hotgate/bench/Outcome;Ljava/lang/String;)V"⟩ : MethodName) (head1 (Jvm.Cond.code (⟨"com/example/hot_gate/hotgate/bench/Replies", "record", "(IJJLcom/example/hot_gate/hotgate/bench/Outcome;Ljava/lang/String;)V"⟩ : MethodName) prog_12_method_3_code 8 none :: ws) ({ frames := 0, cells := 0, slots := 0, locals := 0 } : Room)) (fun a U => a = #[(.ref p0), (.int (1 : Int32)), (.long p2), (.long p3), p4, .null] ∧ Z.Warmed39 U.vm ∧ U.heap = h0) (fun _ _ _ _ _ => True) (fun _ U o U' => ∃ v L, o = .returned v ∧ Qr3_1 Z p0 p2 p3 p4 b1 b2 b3 k1 k2 k3 x0 x1 x2 y0 y1 y2 u0 h0 n0 v U'.heap L ∧ FrameEnd U o U' L ({ frames := 0, cells := 0, slots := 0, locals := 0 } : Room).cells ({ frames := 0, cells := 0, slots := 0, locals := 0 } : Room).slots) := by
  refine MetFree.of_bodySF (plainFor_of_name pn_2) hisR ?_
  intro p e s m args below meth c s₁ Bd hml0 hP hK
  obtain ⟨rfl, hZ, hh⟩ := hP
  have hx := Bd.exec
  have hby := Bd.bytes
  have hml : c.maxLocals = 8 := hml0
  have hown : s.vm.findClass "com/example/hot_gate/hotgate/bench/Replies" = some m.cls := findClass_of_methodNamed Bd.named
  have hnm := (name_of_methodNamed Bd.named Bd.method).1
  have X0 : Stand p l e ({ frames := 0, cells := 0, slots := 0, locals := 0 } : Room) s m #[(.ref p0), (.int (1 : Int32)), (.long p2), (.long p3), p4, .null] below meth c s₁ [] 0 0 := Stand.of_body Bd
  have e0 : s₁.heap = h0 := by rw [← hh, Bd.state]; rfl
  have N0 := Fr.nil n0
  have s0 : Steps p.tables e below (s₁.setTop (entryFrame m #[(.ref p0), (.int (1 : Int32)), (.long p2), (.long p3), p4, .null] 8)) (s₁.setTop (mkF m 0 #[.val (.ref p0), .val (.int (1 : Int32)), .val (.long p2), .second, .val (.long p3), .second, .val p4, .val .null] [])) := castTop (ef_rmr3_1 m p0 p2 p3 p4 F17_) (Steps.refl _)
  obtain ⟨T1, X1, e1, st1⟩ := getF X0 hx hZ hown (host := "") (Or.inl (hw _ (List.mem_of_getElem? (i := 33) rfl))) Via.refl e0 F0_ (g := (mkF m 1 #[.val (.ref p0), .val (.int (1 : Int32)), .val (.long p2), .second, .val (.long p3), .second, .val p4, .val .null] [(.ref p0)])) rfl rfl (hb hby d6_1)
  obtain ⟨cla2, Ara2, qa2, Sa2, Za2, Ha2, Ga2⟩ := id F3_
  have hin3 : ¬ ((1 : Int32) < 0 ∨ cla2.slots.size ≤ ((1 : Int32)).toNatClampNeg) := inb_of Sa2 ⟨by decide, by decide⟩
  obtain ⟨T4, h4, X4, e4, W4, st4⟩ := stJ X1 hx hZ e1 Ara2 (j := (1 : Int32)) hin3 (g := (mkF m 6 #[.val (.ref p0), .val (.int (1 : Int32)), .val (.long p2), .second, .val (.long p3), .second, .val p4, .val .null] [(.long p2), (.int (1 : Int32)), (.ref b1)])) rfl rfl (hb hby d6_6)
  have O4 := O0.wr W4 F6_
  have K4 : Keep h0 h4 [b1, b2, b3] := (Keep.refl h0 [b1, b2, b3]).wr W4 (Or.inl (List.mem_of_getElem? (i := 0) rfl))
  have N4 := Fr.snoc X4 N0 F6_
  have V4 : Arv Z h4 b1 k1 .long (3 : Int32) [(.long x0), (.long p2), (.long x2)] (.long (0 : Int64)) := Arv.set Ara2 qa2 Sa2 Za2 Ha2 Ga2 rfl W4 1 rfl (Nat.le_of_ble_eq_true rfl)
  have c5 : Fld Z h4 p0 "com/example/hot_gate/hotgate/bench/Replies" "answeredAt" "[J" (.ref b2) := (F1_.other W4 (Or.inl F12_))
  obtain ⟨T6, X6, e6, st6⟩ := getF X4 hx hZ hown (host := "") (Or.inl (hw _ (List.mem_of_getElem? (i := 35) rfl))) Via.refl e4 c5 (g := (mkF m 8 #[.val (.ref p0), .val (.int (1 : Int32)), .val (.long p2), .second, .val (.long p3), .second, .val p4, .val .null] [(.ref p0)])) rfl rfl (hb hby d6_8)
  have c7 : Arv Z h4 b2 k2 .long (3 : Int32) [(.long y0), (.long y1), (.long y2)] (.long (0 : Int64)) := (F4_.other W4 (Ne.symm F9_))
  obtain ⟨cla8, Ara8, qa8, Sa8, Za8, Ha8, Ga8⟩ := id c7
  have hin9 : ¬ ((1 : Int32) < 0 ∨ cla8.slots.size ≤ ((1 : Int32)).toNatClampNeg) := inb_of Sa8 ⟨by decide, by decide⟩
  obtain ⟨T10, h10, X10, e10, W10, st10⟩ := stJ X6 hx hZ e6 Ara8 (j := (1 : Int32)) hin9 (g := (mkF m 14 #[.val (.ref p0), .val (.int (1 : Int32)), .val (.long p2), .second, .val (.long p3), .second, .val p4, .val .null] [(.long p3), (.int (1 : Int32)), (.ref b2)])) rfl rfl (hb hby d6_14)
  have O10 := O4.wr W10 F7_
  have K10 : Keep h0 h10 [b1, b2, b3] := K4.wr W10 (Or.inl (List.mem_of_getElem? (i := 1) rfl))
  have N10 := Fr.snoc X10 N4 F7_
  have V10 : Arv Z h10 b2 k2 .long (3 : Int32) [(.long y0), (.long p3), (.long y2)] (.long (0 : Int64)) := Arv.set Ara8 qa8 Sa8 Za8 Ha8 Ga8 rfl W10 1 rfl (Nat.le_of_ble_eq_true rfl)
  have c11 : Fld Z h10 p0 "com/example/hot_gate/hotgate/bench/Replies" "outcomes" "[Lcom/example/hot_gate/hotgate/bench/Outcome;" (.ref b3) := ((F2_.other W4 (Or.inl F12_)).other W10 (Or.inl F13_))
  obtain ⟨T12, X12, e12, st12⟩ := getF X10 hx hZ hown (host := "") (Or.inl (hw _ (List.mem_of_getElem? (i := 39) rfl))) Via.refl e10 c11 (g := (mkF m 16 #[.val (.ref p0), .val (.int (1 : Int32)), .val (.long p2), .second, .val (.long p3), .second, .val p4, .val .null] [(.ref p0)])) rfl rfl (hb hby d6_16)
  have c13 : Arv Z h10 b3 k3 (.object "com/example/hot_gate/hotgate/bench/Outcome") (3 : Int32) [u0, .null, .null] .null := ((F5_.other W4 (Ne.symm F10_)).other W10 (Ne.symm F11_))
  obtain ⟨cla14, Ara14, qa14, Sa14, Za14, Ha14, Ga14⟩ := id c13
  have hin15 : ¬ ((1 : Int32) < 0 ∨ cla14.slots.size ≤ ((1 : Int32)).toNatClampNeg) := inb_of Sa14 ⟨by decide, by decide⟩
  obtain ⟨T16, h16, X16, e16, W16, st16⟩ := stR X12 hx hZ e12 Ara14 (j := (1 : Int32)) hin15 rfl (own_sto Ara14 qa14 F15_ O10.2 F16_) (g := (mkF m 22 #[.val (.ref p0), .val (.int (1 : Int32)), .val (.long p2), .second, .val (.long p3), .second, .val p4, .val .null] [p4, (.int (1 : Int32)), (.ref b3)])) rfl rfl (hb hby d6_22)
  have O16 := O10.wr W16 F8_
  have K16 : Keep h0 h16 [b1, b2, b3] := K10.wr W16 (Or.inl (List.mem_of_getElem? (i := 2) rfl))
  have N16 := Fr.snoc X16 N10 F8_
  have V16 : Arv Z h16 b3 k3 (.object "com/example/hot_gate/hotgate/bench/Outcome") (3 : Int32) [u0, p4, .null] .null := Arv.set Ara14 qa14 Sa14 Za14 Ha14 Ga14 (fitsV F17_) W16 1 rfl (Nat.le_of_ble_eq_true rfl)
  have s17 : Steps p.tables e below (s₁.setTop (entryFrame m #[(.ref p0), (.int (1 : Int32)), (.long p2), (.long p3), p4, .null] 8)) (T16.setTop (mkF m 39 #[.val (.ref p0), .val (.int (1 : Int32)), .val (.long p2), .second, .val (.long p3), .second, .val p4, .val .null] [])) := by
    refine s0.trans ?_
    show Steps p.tables e below (s₁.setTop (mkF m 0 #[.val (.ref p0), .val (.int (1 : Int32)), .val (.long p2), .second, .val (.long p3), .second, .val p4, .val .null] [])) _
    refine XS.aloadN X0.here hx rfl (hb hby d6_0) rfl rfl ?_
    show Steps p.tables e below (s₁.setTop (mkF m 1 #[.val (.ref p0), .val (.int (1 : Int32)), .val (.long p2), .second, .val (.long p3), .second, .val p4, .val .null] [(.ref p0)])) _
    refine st1 _ ?_
    show Steps p.tables e below (T1.setTop (mkF m 4 #[.val (.ref p0), .val (.int (1 : Int32)), .val (.long p2), .second, .val (.long p3), .second, .val p4, .val .null] [(.ref b1)])) _
    refine XS.iloadN X1.here hx rfl (hb hby d6_4) rfl ?_
    show Steps p.tables e below (T1.setTop (mkF m 5 #[.val (.ref p0), .val (.int (1 : Int32)), .val (.long p2), .second, .val (.long p3), .second, .val p4, .val .null] [(.int (1 : Int32)), (.ref b1)])) _
    refine XS.lloadN X1.here hx rfl (hb hby d6_5) rfl ?_
    show Steps p.tables e below (T1.setTop (mkF m 6 #[.val (.ref p0), .val (.int (1 : Int32)), .val (.long p2), .second, .val (.long p3), .second, .val p4, .val .null] [(.long p2), (.int (1 : Int32)), (.ref b1)])) _
    refine st4 _ ?_
    show Steps p.tables e below (T4.setTop (mkF m 7 #[.val (.ref p0), .val (.int (1 : Int32)), .val (.long p2), .second, .val (.long p3), .second, .val p4, .val .null] [])) _
    refine XS.aloadN X4.here hx rfl (hb hby d6_7) rfl rfl ?_
    show Steps p.tables e below (T4.setTop (mkF m 8 #[.val (.ref p0), .val (.int (1 : Int32)), .val (.long p2), .second, .val (.long p3), .second, .val p4, .val .null] [(.ref p0)])) _
    refine st6 _ ?_
    show Steps p.tables e below (T6.setTop (mkF m 11 #[.val (.ref p0), .val (.int (1 : Int32)), .val (.long p2), .second, .val (.long p3), .second, .val p4, .val .null] [(.ref b2)])) _
    refine XS.iloadN X6.here hx rfl (hb hby d6_11) rfl ?_
    show Steps p.tables e below (T6.setTop (mkF m 12 #[.val (.ref p0), .val (.int (1 : Int32)), .val (.long p2), .second, .val (.long p3), .second, .val p4, .val .null] [(.int (1 : Int32)), (.ref b2)])) _
    refine XS.lload X6.here hx rfl (hb hby d6_12) rfl ?_
    show Steps p.tables e below (T6.setTop (mkF m 14 #[.val (.ref p0), .val (.int (1 : Int32)), .val (.long p2), .second, .val (.long p3), .second, .val p4, .val .null] [(.long p3), (.int (1 : Int32)), (.ref b2)])) _
    refine st10 _ ?_
    show Steps p.tables e below (T10.setTop (mkF m 15 #[.val (.ref p0), .val (.int (1 : Int32)), .val (.long p2), .second, .val (.long p3), .second, .val p4, .val .null] [])) _
    refine XS.aloadN X10.here hx rfl (hb hby d6_15) rfl rfl ?_
    show Steps p.tables e below (T10.setTop (mkF m 16 #[.val (.ref p0), .val (.int (1 : Int32)), .val (.long p2), .second, .val (.long p3), .second, .val p4, .val .null] [(.ref p0)])) _
    refine st12 _ ?_
    show Steps p.tables e below (T12.setTop (mkF m 19 #[.val (.ref p0), .val (.int (1 : Int32)), .val (.long p2), .second, .val (.long p3), .second, .val p4, .val .null] [(.ref b3)])) _
    refine XS.iloadN X12.here hx rfl (hb hby d6_19) rfl ?_
    show Steps p.tables e below (T12.setTop (mkF m 20 #[.val (.ref p0), .val (.int (1 : Int32)), .val (.long p2), .second, .val (.long p3), .second, .val p4, .val .null] [(.int (1 : Int32)), (.ref b3)])) _
    refine XS.aload X12.here hx rfl (hb hby d6_20) rfl F17_ ?_
    show Steps p.tables e below (T12.setTop (mkF m 22 #[.val (.ref p0), .val (.int (1 : Int32)), .val (.long p2), .second, .val (.long p3), .second, .val p4, .val .null] [p4, (.int (1 : Int32)), (.ref b3)])) _
    refine st16 _ ?_
    show Steps p.tables e below (T16.setTop (mkF m 23 #[.val (.ref p0), .val (.int (1 : Int32)), .val (.long p2), .second, .val (.long p3), .second, .val p4, .val .null] [])) _
    refine XS.aload X16.here hx rfl (hb hby d6_23) rfl rfl ?_
    show Steps p.tables e below (T16.setTop (mkF m 25 #[.val (.ref p0), .val (.int (1 : Int32)), .val (.long p2), .second, .val (.long p3), .second, .val p4, .val .null] [.null])) _
    refine XS.ifnullYes X16.here hx rfl (pc0 := 25) (pc' := 39) rfl (hb hby d6_25) rfl (by decide) (by decide) ?_
    exact Steps.refl _
  have c18 : Arv Z h16 b1 k1 .long (3 : Int32) [(.long x0), (.long p2), (.long x2)] (.long (0 : Int64)) := ((V4.other W10 F9_).other W16 F10_)
  have c19 : Arv Z h16 b2 k2 .long (3 : Int32) [(.long y0), (.long p3), (.long y2)] (.long (0 : Int64)) := (V10.other W16 F11_)
  obtain ⟨fs, hr, hrun, hended, hW, hsame⟩ := X16.leave (v := none) (fun _ => rfl)
  refine ⟨_, _, s17.trans ?_, hrun, hended, _, _, rfl, ?_, ⟨_, rfl⟩, hW, hsame.mono (by decide) (by decide)⟩
  · show Steps p.tables e below (T16.setTop (mkF m 39 #[.val (.ref p0), .val (.int (1 : Int32)), .val (.long p2), .second, .val (.long p3), .second, .val p4, .val .null] [])) _
    exact X16.returnOut hx Bd.returns (hb hby d6_39) hr
  · show Qr3_1 Z p0 p2 p3 p4 b1 b2 b3 k1 k2 k3 x0 x1 x2 y0 y1 y2 u0 h0 n0 _ T16.heap _
    rw [e16]
    exact ⟨rfl, N16, K16, c18, c19, V16⟩
theorem ef_rmr3_2 (m : MethodId) (p0 : Addr) (p2 : Int64) (p3 : Int64) (p4 : Value) (r_p4 : p4.isRef = true) : entryFrame m #[(.ref p0), (.int (2 : Int32)), (.long p2), (.long p3), p4, .null] 8 = mkF m 0 #[.val (.ref p0), .val (.int (2 : Int32)), .val (.long p2), .second, .val (.long p3), .second, .val p4, .val .null] [] := by
  cases p4 <;> first | (cases r_p4; done) | (simp [entryFrame, mkF, argsToLocals, Value.category]; done) | rfl
def Qr3_2 (Z : State) (p0 : Addr) (p2 : Int64) (p3 : Int64) (p4 : Value) (b1 : Addr) (b2 : Addr) (b3 : Addr) (k1 : ClassId) (k2 : ClassId) (k3 : ClassId) (x0 : Int64) (x1 : Int64) (x2 : Int64) (y0 : Int64) (y1 : Int64) (y2 : Int64) (u0 : Value) (u1 : Value) (h0 : Heap) (n0 : Nat) (v : Option Value) (h : Heap) (L : List Loc) : Prop := v = none ∧ Fr n0 L ∧ Keep h0 h [b1, b2, b3] ∧ (Arv Z h b1 k1 .long (3 : Int32) [(.long x0), (.long x1), (.long p2)] (.long (0 : Int64))) ∧ (Arv Z h b2 k2 .long (3 : Int32) [(.long y0), (.long y1), (.long p3)] (.long (0 : Int64))) ∧ (Arv Z h b3 k3 (.object "com/example/hot_gate/hotgate/bench/Outcome") (3 : Int32) [u0, u1, p4] .null)
set_option maxRecDepth 65536 in
set_option maxHeartbeats 40000000 in
theorem rmr3_2 (l : Launch) (Z : State) (a0 : Array Value) (hw : ∀ d ∈ tables_1, d.before a0 Z = true) (ws : List Jvm.Cond) (p0 : Addr) (p2 : Int64) (p3 : Int64) (p4 : Value) (b1 : Addr) (b2 : Addr) (b3 : Addr) (k1 : ClassId) (k2 : ClassId) (k3 : ClassId) (x0 : Int64) (x1 : Int64) (x2 : Int64) (y0 : Int64) (y1 : Int64) (y2 : Int64) (u0 : Value) (u1 : Value) (h0 : Heap) (n0 : Nat) (O0 : Old Z n0 h0) (F0_ : Fld Z h0 p0 "com/example/hot_gate/hotgate/bench/Replies" "sentAt" "[J" (.ref b1)) (F1_ : Fld Z h0 p0 "com/example/hot_gate/hotgate/bench/Replies" "answeredAt" "[J" (.ref b2)) (F2_ : Fld Z h0 p0 "com/example/hot_gate/hotgate/bench/Replies" "outcomes" "[Lcom/example/hot_gate/hotgate/bench/Outcome;" (.ref b3)) (F3_ : Arv Z h0 b1 k1 .long (3 : Int32) [(.long x0), (.long x1), (.long x2)] (.long (0 : Int64))) (F4_ : Arv Z h0 b2 k2 .long (3 : Int32) [(.long y0), (.long y1), (.long y2)] (.long (0 : Int64))) (F5_ : Arv Z h0 b3 k3 (.object "com/example/hot_gate/hotgate/bench/Outcome") (3 : Int32) [u0, u1, .null] .null) (F6_ : n0 ≤ b1) (F7_ : n0 ≤ b2) (F8_ : n0 ≤ b3) (F9_ : b1 ≠ b2) (F10_ : b1 ≠ b3) (F11_ : b2 ≠ b3) (F12_ : p0 ≠ b1) (F13_ : p0 ≠ b2) (F14_ : p0 ≠ b3) (F15_ : Ovr Z k3 "com/example/hot_gate/hotgate/bench/Outcome") (F16_ : own_oc Z p4) (F17_ : p4.isRef = true) :
    MetFree l (⟨"com/example/hot_gate/hotgate/bench/Replies", "record", "(IJJLcom/example/hot_gate/hotgate/bench/Outcome;Ljava/lang/String;)V"⟩ : MethodName) (head1 (Jvm.Cond.code (⟨"com/example/hot_gate/hotgate/bench/Replies", "record", "(IJJLcom/example/hot_gate/hotgate/bench/Outcome;Ljava/lang/String;)V"⟩ : MethodName) prog_12_method_3_code 8 none :: ws) ({ frames := 0, cells := 0, slots := 0, locals := 0 } : Room)) (fun a U => a = #[(.ref p0), (.int (2 : Int32)), (.long p2), (.long p3), p4, .null] ∧ Z.Warmed39 U.vm ∧ U.heap = h0) (fun _ _ _ _ _ => True) (fun _ U o U' => ∃ v L, o = .returned v ∧ Qr3_2 Z p0 p2 p3 p4 b1 b2 b3 k1 k2 k3 x0 x1 x2 y0 y1 y2 u0 u1 h0 n0 v U'.heap L ∧ FrameEnd U o U' L ({ frames := 0, cells := 0, slots := 0, locals := 0 } : Room).cells ({ frames := 0, cells := 0, slots := 0, locals := 0 } : Room).slots) := by
  refine MetFree.of_bodySF (plainFor_of_name pn_2) hisR ?_
  intro p e s m args below meth c s₁ Bd hml0 hP hK
  obtain ⟨rfl, hZ, hh⟩ := hP
  have hx := Bd.exec
  have hby := Bd.bytes
  have hml : c.maxLocals = 8 := hml0
  have hown : s.vm.findClass "com/example/hot_gate/hotgate/bench/Replies" = some m.cls := findClass_of_methodNamed Bd.named
  have hnm := (name_of_methodNamed Bd.named Bd.method).1
  have X0 : Stand p l e ({ frames := 0, cells := 0, slots := 0, locals := 0 } : Room) s m #[(.ref p0), (.int (2 : Int32)), (.long p2), (.long p3), p4, .null] below meth c s₁ [] 0 0 := Stand.of_body Bd
  have e0 : s₁.heap = h0 := by rw [← hh, Bd.state]; rfl
  have N0 := Fr.nil n0
  have s0 : Steps p.tables e below (s₁.setTop (entryFrame m #[(.ref p0), (.int (2 : Int32)), (.long p2), (.long p3), p4, .null] 8)) (s₁.setTop (mkF m 0 #[.val (.ref p0), .val (.int (2 : Int32)), .val (.long p2), .second, .val (.long p3), .second, .val p4, .val .null] [])) := castTop (ef_rmr3_2 m p0 p2 p3 p4 F17_) (Steps.refl _)
  obtain ⟨T1, X1, e1, st1⟩ := getF X0 hx hZ hown (host := "") (Or.inl (hw _ (List.mem_of_getElem? (i := 33) rfl))) Via.refl e0 F0_ (g := (mkF m 1 #[.val (.ref p0), .val (.int (2 : Int32)), .val (.long p2), .second, .val (.long p3), .second, .val p4, .val .null] [(.ref p0)])) rfl rfl (hb hby d6_1)
  obtain ⟨cla2, Ara2, qa2, Sa2, Za2, Ha2, Ga2⟩ := id F3_
  have hin3 : ¬ ((2 : Int32) < 0 ∨ cla2.slots.size ≤ ((2 : Int32)).toNatClampNeg) := inb_of Sa2 ⟨by decide, by decide⟩
  obtain ⟨T4, h4, X4, e4, W4, st4⟩ := stJ X1 hx hZ e1 Ara2 (j := (2 : Int32)) hin3 (g := (mkF m 6 #[.val (.ref p0), .val (.int (2 : Int32)), .val (.long p2), .second, .val (.long p3), .second, .val p4, .val .null] [(.long p2), (.int (2 : Int32)), (.ref b1)])) rfl rfl (hb hby d6_6)
  have O4 := O0.wr W4 F6_
  have K4 : Keep h0 h4 [b1, b2, b3] := (Keep.refl h0 [b1, b2, b3]).wr W4 (Or.inl (List.mem_of_getElem? (i := 0) rfl))
  have N4 := Fr.snoc X4 N0 F6_
  have V4 : Arv Z h4 b1 k1 .long (3 : Int32) [(.long x0), (.long x1), (.long p2)] (.long (0 : Int64)) := Arv.set Ara2 qa2 Sa2 Za2 Ha2 Ga2 rfl W4 2 rfl (Nat.le_of_ble_eq_true rfl)
  have c5 : Fld Z h4 p0 "com/example/hot_gate/hotgate/bench/Replies" "answeredAt" "[J" (.ref b2) := (F1_.other W4 (Or.inl F12_))
  obtain ⟨T6, X6, e6, st6⟩ := getF X4 hx hZ hown (host := "") (Or.inl (hw _ (List.mem_of_getElem? (i := 35) rfl))) Via.refl e4 c5 (g := (mkF m 8 #[.val (.ref p0), .val (.int (2 : Int32)), .val (.long p2), .second, .val (.long p3), .second, .val p4, .val .null] [(.ref p0)])) rfl rfl (hb hby d6_8)
  have c7 : Arv Z h4 b2 k2 .long (3 : Int32) [(.long y0), (.long y1), (.long y2)] (.long (0 : Int64)) := (F4_.other W4 (Ne.symm F9_))
  obtain ⟨cla8, Ara8, qa8, Sa8, Za8, Ha8, Ga8⟩ := id c7
  have hin9 : ¬ ((2 : Int32) < 0 ∨ cla8.slots.size ≤ ((2 : Int32)).toNatClampNeg) := inb_of Sa8 ⟨by decide, by decide⟩
  obtain ⟨T10, h10, X10, e10, W10, st10⟩ := stJ X6 hx hZ e6 Ara8 (j := (2 : Int32)) hin9 (g := (mkF m 14 #[.val (.ref p0), .val (.int (2 : Int32)), .val (.long p2), .second, .val (.long p3), .second, .val p4, .val .null] [(.long p3), (.int (2 : Int32)), (.ref b2)])) rfl rfl (hb hby d6_14)
  have O10 := O4.wr W10 F7_
  have K10 : Keep h0 h10 [b1, b2, b3] := K4.wr W10 (Or.inl (List.mem_of_getElem? (i := 1) rfl))
  have N10 := Fr.snoc X10 N4 F7_
  have V10 : Arv Z h10 b2 k2 .long (3 : Int32) [(.long y0), (.long y1), (.long p3)] (.long (0 : Int64)) := Arv.set Ara8 qa8 Sa8 Za8 Ha8 Ga8 rfl W10 2 rfl (Nat.le_of_ble_eq_true rfl)
  have c11 : Fld Z h10 p0 "com/example/hot_gate/hotgate/bench/Replies" "outcomes" "[Lcom/example/hot_gate/hotgate/bench/Outcome;" (.ref b3) := ((F2_.other W4 (Or.inl F12_)).other W10 (Or.inl F13_))
  obtain ⟨T12, X12, e12, st12⟩ := getF X10 hx hZ hown (host := "") (Or.inl (hw _ (List.mem_of_getElem? (i := 39) rfl))) Via.refl e10 c11 (g := (mkF m 16 #[.val (.ref p0), .val (.int (2 : Int32)), .val (.long p2), .second, .val (.long p3), .second, .val p4, .val .null] [(.ref p0)])) rfl rfl (hb hby d6_16)
  have c13 : Arv Z h10 b3 k3 (.object "com/example/hot_gate/hotgate/bench/Outcome") (3 : Int32) [u0, u1, .null] .null := ((F5_.other W4 (Ne.symm F10_)).other W10 (Ne.symm F11_))
  obtain ⟨cla14, Ara14, qa14, Sa14, Za14, Ha14, Ga14⟩ := id c13
  have hin15 : ¬ ((2 : Int32) < 0 ∨ cla14.slots.size ≤ ((2 : Int32)).toNatClampNeg) := inb_of Sa14 ⟨by decide, by decide⟩
  obtain ⟨T16, h16, X16, e16, W16, st16⟩ := stR X12 hx hZ e12 Ara14 (j := (2 : Int32)) hin15 rfl (own_sto Ara14 qa14 F15_ O10.2 F16_) (g := (mkF m 22 #[.val (.ref p0), .val (.int (2 : Int32)), .val (.long p2), .second, .val (.long p3), .second, .val p4, .val .null] [p4, (.int (2 : Int32)), (.ref b3)])) rfl rfl (hb hby d6_22)
  have O16 := O10.wr W16 F8_
  have K16 : Keep h0 h16 [b1, b2, b3] := K10.wr W16 (Or.inl (List.mem_of_getElem? (i := 2) rfl))
  have N16 := Fr.snoc X16 N10 F8_
  have V16 : Arv Z h16 b3 k3 (.object "com/example/hot_gate/hotgate/bench/Outcome") (3 : Int32) [u0, u1, p4] .null := Arv.set Ara14 qa14 Sa14 Za14 Ha14 Ga14 (fitsV F17_) W16 2 rfl (Nat.le_of_ble_eq_true rfl)
  have s17 : Steps p.tables e below (s₁.setTop (entryFrame m #[(.ref p0), (.int (2 : Int32)), (.long p2), (.long p3), p4, .null] 8)) (T16.setTop (mkF m 39 #[.val (.ref p0), .val (.int (2 : Int32)), .val (.long p2), .second, .val (.long p3), .second, .val p4, .val .null] [])) := by
    refine s0.trans ?_
    show Steps p.tables e below (s₁.setTop (mkF m 0 #[.val (.ref p0), .val (.int (2 : Int32)), .val (.long p2), .second, .val (.long p3), .second, .val p4, .val .null] [])) _
    refine XS.aloadN X0.here hx rfl (hb hby d6_0) rfl rfl ?_
    show Steps p.tables e below (s₁.setTop (mkF m 1 #[.val (.ref p0), .val (.int (2 : Int32)), .val (.long p2), .second, .val (.long p3), .second, .val p4, .val .null] [(.ref p0)])) _
    refine st1 _ ?_
    show Steps p.tables e below (T1.setTop (mkF m 4 #[.val (.ref p0), .val (.int (2 : Int32)), .val (.long p2), .second, .val (.long p3), .second, .val p4, .val .null] [(.ref b1)])) _
    refine XS.iloadN X1.here hx rfl (hb hby d6_4) rfl ?_
    show Steps p.tables e below (T1.setTop (mkF m 5 #[.val (.ref p0), .val (.int (2 : Int32)), .val (.long p2), .second, .val (.long p3), .second, .val p4, .val .null] [(.int (2 : Int32)), (.ref b1)])) _
    refine XS.lloadN X1.here hx rfl (hb hby d6_5) rfl ?_
    show Steps p.tables e below (T1.setTop (mkF m 6 #[.val (.ref p0), .val (.int (2 : Int32)), .val (.long p2), .second, .val (.long p3), .second, .val p4, .val .null] [(.long p2), (.int (2 : Int32)), (.ref b1)])) _
    refine st4 _ ?_
    show Steps p.tables e below (T4.setTop (mkF m 7 #[.val (.ref p0), .val (.int (2 : Int32)), .val (.long p2), .second, .val (.long p3), .second, .val p4, .val .null] [])) _
    refine XS.aloadN X4.here hx rfl (hb hby d6_7) rfl rfl ?_
    show Steps p.tables e below (T4.setTop (mkF m 8 #[.val (.ref p0), .val (.int (2 : Int32)), .val (.long p2), .second, .val (.long p3), .second, .val p4, .val .null] [(.ref p0)])) _
    refine st6 _ ?_
    show Steps p.tables e below (T6.setTop (mkF m 11 #[.val (.ref p0), .val (.int (2 : Int32)), .val (.long p2), .second, .val (.long p3), .second, .val p4, .val .null] [(.ref b2)])) _
    refine XS.iloadN X6.here hx rfl (hb hby d6_11) rfl ?_
    show Steps p.tables e below (T6.setTop (mkF m 12 #[.val (.ref p0), .val (.int (2 : Int32)), .val (.long p2), .second, .val (.long p3), .second, .val p4, .val .null] [(.int (2 : Int32)), (.ref b2)])) _
    refine XS.lload X6.here hx rfl (hb hby d6_12) rfl ?_
    show Steps p.tables e below (T6.setTop (mkF m 14 #[.val (.ref p0), .val (.int (2 : Int32)), .val (.long p2), .second, .val (.long p3), .second, .val p4, .val .null] [(.long p3), (.int (2 : Int32)), (.ref b2)])) _
    refine st10 _ ?_
    show Steps p.tables e below (T10.setTop (mkF m 15 #[.val (.ref p0), .val (.int (2 : Int32)), .val (.long p2), .second, .val (.long p3), .second, .val p4, .val .null] [])) _
    refine XS.aloadN X10.here hx rfl (hb hby d6_15) rfl rfl ?_
    show Steps p.tables e below (T10.setTop (mkF m 16 #[.val (.ref p0), .val (.int (2 : Int32)), .val (.long p2), .second, .val (.long p3), .second, .val p4, .val .null] [(.ref p0)])) _
    refine st12 _ ?_
    show Steps p.tables e below (T12.setTop (mkF m 19 #[.val (.ref p0), .val (.int (2 : Int32)), .val (.long p2), .second, .val (.long p3), .second, .val p4, .val .null] [(.ref b3)])) _
    refine XS.iloadN X12.here hx rfl (hb hby d6_19) rfl ?_
    show Steps p.tables e below (T12.setTop (mkF m 20 #[.val (.ref p0), .val (.int (2 : Int32)), .val (.long p2), .second, .val (.long p3), .second, .val p4, .val .null] [(.int (2 : Int32)), (.ref b3)])) _
    refine XS.aload X12.here hx rfl (hb hby d6_20) rfl F17_ ?_
    show Steps p.tables e below (T12.setTop (mkF m 22 #[.val (.ref p0), .val (.int (2 : Int32)), .val (.long p2), .second, .val (.long p3), .second, .val p4, .val .null] [p4, (.int (2 : Int32)), (.ref b3)])) _
    refine st16 _ ?_
    show Steps p.tables e below (T16.setTop (mkF m 23 #[.val (.ref p0), .val (.int (2 : Int32)), .val (.long p2), .second, .val (.long p3), .second, .val p4, .val .null] [])) _
    refine XS.aload X16.here hx rfl (hb hby d6_23) rfl rfl ?_
    show Steps p.tables e below (T16.setTop (mkF m 25 #[.val (.ref p0), .val (.int (2 : Int32)), .val (.long p2), .second, .val (.long p3), .second, .val p4, .val .null] [.null])) _
    refine XS.ifnullYes X16.here hx rfl (pc0 := 25) (pc' := 39) rfl (hb hby d6_25) rfl (by decide) (by decide) ?_
    exact Steps.refl _
  have c18 : Arv Z h16 b1 k1 .long (3 : Int32) [(.long x0), (.long x1), (.long p2)] (.long (0 : Int64)) := ((V4.other W10 F9_).other W16 F10_)
  have c19 : Arv Z h16 b2 k2 .long (3 : Int32) [(.long y0), (.long y1), (.long p3)] (.long (0 : Int64)) := (V10.other W16 F11_)
  obtain ⟨fs, hr, hrun, hended, hW, hsame⟩ := X16.leave (v := none) (fun _ => rfl)
  refine ⟨_, _, s17.trans ?_, hrun, hended, _, _, rfl, ?_, ⟨_, rfl⟩, hW, hsame.mono (by decide) (by decide)⟩
  · show Steps p.tables e below (T16.setTop (mkF m 39 #[.val (.ref p0), .val (.int (2 : Int32)), .val (.long p2), .second, .val (.long p3), .second, .val p4, .val .null] [])) _
    exact X16.returnOut hx Bd.returns (hb hby d6_39) hr
  · show Qr3_2 Z p0 p2 p3 p4 b1 b2 b3 k1 k2 k3 x0 x1 x2 y0 y1 y2 u0 u1 h0 n0 _ T16.heap _
    rw [e16]
    exact ⟨rfl, N16, K16, c18, c19, V16⟩
theorem ef_rmc3 (m : MethodId) (p0 : Addr) (p1 : Value) (r_p1 : p1.isRef = true) : entryFrame m #[(.ref p0), p1] 8 = mkF m 0 #[.val (.ref p0), .val p1, .unset, .unset, .unset, .unset, .unset, .unset] [] := by
  cases p1 <;> first | (cases r_p1; done) | (simp [entryFrame, mkF, argsToLocals, Value.category]; done) | rfl
def Qc3 (Z : State) (p0 : Addr) (p1 : Value) (b3 : Addr) (k3 : ClassId) (u0 : Value) (u1 : Value) (u2 : Value) (h0 : Heap) (n0 : Nat) (v : Option Value) (h : Heap) (L : List Loc) : Prop := v = some (.long (if u2 = p1 then ((if u1 = p1 then ((if u0 = p1 then (1 : Int64) else (0 : Int64)) + (1 : Int64)) else (if u0 = p1 then (1 : Int64) else (0 : Int64))) + (1 : Int64)) else (if u1 = p1 then ((if u0 = p1 then (1 : Int64) else (0 : Int64)) + (1 : Int64)) else (if u0 = p1 then (1 : Int64) else (0 : Int64))))) ∧ Fr n0 L ∧ h = h0
set_option maxRecDepth 65536 in
set_option maxHeartbeats 40000000 in
theorem rmc3 (l : Launch) (Z : State) (a0 : Array Value) (hw : ∀ d ∈ tables_1, d.before a0 Z = true) (ws : List Jvm.Cond) (p0 : Addr) (p1 : Value) (b3 : Addr) (k3 : ClassId) (u0 : Value) (u1 : Value) (u2 : Value) (h0 : Heap) (n0 : Nat) (O0 : Old Z n0 h0) (F0_ : Fld Z h0 p0 "com/example/hot_gate/hotgate/bench/Replies" "outcomes" "[Lcom/example/hot_gate/hotgate/bench/Outcome;" (.ref b3)) (F1_ : Arv Z h0 b3 k3 (.object "com/example/hot_gate/hotgate/bench/Outcome") (3 : Int32) [u0, u1, u2] .null) (F2_ : u0.isRef = true) (F3_ : u1.isRef = true) (F4_ : u2.isRef = true) (F5_ : p1.isRef = true) :
    MetFree l (⟨"com/example/hot_gate/hotgate/bench/Replies", "count", "(Lcom/example/hot_gate/hotgate/bench/Outcome;)J"⟩ : MethodName) (head1 (Jvm.Cond.code (⟨"com/example/hot_gate/hotgate/bench/Replies", "count", "(Lcom/example/hot_gate/hotgate/bench/Outcome;)J"⟩ : MethodName) prog_12_method_4_code 8 (some .long) :: ws) ({ frames := 0, cells := 0, slots := 0, locals := 0 } : Room)) (fun a U => a = #[(.ref p0), p1] ∧ Z.Warmed39 U.vm ∧ U.heap = h0) (fun _ _ _ _ _ => True) (fun _ U o U' => ∃ v L, o = .returned v ∧ Qc3 Z p0 p1 b3 k3 u0 u1 u2 h0 n0 v U'.heap L ∧ FrameEnd U o U' L ({ frames := 0, cells := 0, slots := 0, locals := 0 } : Room).cells ({ frames := 0, cells := 0, slots := 0, locals := 0 } : Room).slots) := by
  refine MetFree.of_bodySF (plainFor_of_name pn_2) hisR ?_
  intro p e s m args below meth c s₁ Bd hml0 hP hK
  obtain ⟨rfl, hZ, hh⟩ := hP
  have hx := Bd.exec
  have hby := Bd.bytes
  have hml : c.maxLocals = 8 := hml0
  have hown : s.vm.findClass "com/example/hot_gate/hotgate/bench/Replies" = some m.cls := findClass_of_methodNamed Bd.named
  have hnm := (name_of_methodNamed Bd.named Bd.method).1
  have X0 : Stand p l e ({ frames := 0, cells := 0, slots := 0, locals := 0 } : Room) s m #[(.ref p0), p1] below meth c s₁ [] 0 0 := Stand.of_body Bd
  have e0 : s₁.heap = h0 := by rw [← hh, Bd.state]; rfl
  have N0 := Fr.nil n0
  have s0 : Steps p.tables e below (s₁.setTop (entryFrame m #[(.ref p0), p1] 8)) (s₁.setTop (mkF m 0 #[.val (.ref p0), .val p1, .unset, .unset, .unset, .unset, .unset, .unset] [])) := castTop (ef_rmc3 m p0 p1 F5_) (Steps.refl _)
  obtain ⟨T1, X1, e1, st1⟩ := getF X0 hx hZ hown (host := "") (Or.inl (hw _ (List.mem_of_getElem? (i := 39) rfl))) Via.refl e0 F0_ (g := (mkF m 3 #[.val (.ref p0), .val p1, .val (.long (0 : Int64)), .second, .unset, .unset, .unset, .unset] [(.ref p0)])) rfl rfl (hb hby d5_3)
  obtain ⟨cla2, Ara2, qa2, Sa2, Za2, Ha2, Ga2⟩ := id F1_
  have hin3 : ¬ ((0 : Int32) < 0 ∨ cla2.slots.size ≤ ((0 : Int32)).toNatClampNeg) := inb_of Sa2 ⟨by decide, by decide⟩
  have hat4 : cla2.slots[((0 : Int32)).toNatClampNeg]? = some u0 := Has.at Ha2 hin3 rfl
  have s5 : Steps p.tables e below (s₁.setTop (entryFrame m #[(.ref p0), p1] 8)) (T1.setTop (mkF m 33 #[.val (.ref p0), .val p1, .val (.long (0 : Int64)), .second, .val (.ref b3), .val (.int (3 : Int32)), .val (.int (0 : Int32)), .val u0] [p1, u0])) := by
    refine s0.trans ?_
    show Steps p.tables e below (s₁.setTop (mkF m 0 #[.val (.ref p0), .val p1, .unset, .unset, .unset, .unset, .unset, .unset] [])) _
    refine XS.lconst X0.here hx rfl (hb hby d5_0) ?_
    show Steps p.tables e below (s₁.setTop (mkF m 1 #[.val (.ref p0), .val p1, .unset, .unset, .unset, .unset, .unset, .unset] [(.long (0 : Int64))])) _
    refine XS.lstoreN X0.here hx rfl (hb hby d5_1) rfl (l' := #[.val (.ref p0), .val p1, .val (.long (0 : Int64)), .second, .unset, .unset, .unset, .unset]) rfl ?_
    show Steps p.tables e below (s₁.setTop (mkF m 2 #[.val (.ref p0), .val p1, .val (.long (0 : Int64)), .second, .unset, .unset, .unset, .unset] [])) _
    refine XS.aloadN X0.here hx rfl (hb hby d5_2) rfl rfl ?_
    show Steps p.tables e below (s₁.setTop (mkF m 3 #[.val (.ref p0), .val p1, .val (.long (0 : Int64)), .second, .unset, .unset, .unset, .unset] [(.ref p0)])) _
    refine st1 _ ?_
    show Steps p.tables e below (T1.setTop (mkF m 6 #[.val (.ref p0), .val p1, .val (.long (0 : Int64)), .second, .unset, .unset, .unset, .unset] [(.ref b3)])) _
    refine XS.astore X1.here hx rfl (hb hby d5_6) rfl rfl (l' := #[.val (.ref p0), .val p1, .val (.long (0 : Int64)), .second, .val (.ref b3), .unset, .unset, .unset]) rfl ?_
    show Steps p.tables e below (T1.setTop (mkF m 8 #[.val (.ref p0), .val p1, .val (.long (0 : Int64)), .second, .val (.ref b3), .unset, .unset, .unset] [])) _
    refine XS.aload X1.here hx rfl (hb hby d5_8) rfl rfl ?_
    show Steps p.tables e below (T1.setTop (mkF m 10 #[.val (.ref p0), .val p1, .val (.long (0 : Int64)), .second, .val (.ref b3), .unset, .unset, .unset] [(.ref b3)])) _
    refine X1.arraylength hx (by rw [e1]; exact Ara2.1) (State.isArrayOf_alike hZ.alike Ara2.2.1) (g := (mkF m 10 #[.val (.ref p0), .val p1, .val (.long (0 : Int64)), .second, .val (.ref b3), .unset, .unset, .unset] [(.ref b3)])) rfl rfl (hb hby d5_10) _ ?_
    rw [len_of Sa2 Za2]
    show Steps p.tables e below (T1.setTop (mkF m 11 #[.val (.ref p0), .val p1, .val (.long (0 : Int64)), .second, .val (.ref b3), .unset, .unset, .unset] [(.int (3 : Int32))])) _
    refine XS.istore X1.here hx rfl (hb hby d5_11) rfl (l' := #[.val (.ref p0), .val p1, .val (.long (0 : Int64)), .second, .val (.ref b3), .val (.int (3 : Int32)), .unset, .unset]) rfl ?_
    show Steps p.tables e below (T1.setTop (mkF m 13 #[.val (.ref p0), .val p1, .val (.long (0 : Int64)), .second, .val (.ref b3), .val (.int (3 : Int32)), .unset, .unset] [])) _
    refine XS.iconst X1.here hx rfl (hb hby d5_13) ?_
    show Steps p.tables e below (T1.setTop (mkF m 14 #[.val (.ref p0), .val p1, .val (.long (0 : Int64)), .second, .val (.ref b3), .val (.int (3 : Int32)), .unset, .unset] [(.int (0 : Int32))])) _
    refine XS.istore X1.here hx rfl (hb hby d5_14) rfl (l' := #[.val (.ref p0), .val p1, .val (.long (0 : Int64)), .second, .val (.ref b3), .val (.int (3 : Int32)), .val (.int (0 : Int32)), .unset]) rfl ?_
    show Steps p.tables e below (T1.setTop (mkF m 16 #[.val (.ref p0), .val p1, .val (.long (0 : Int64)), .second, .val (.ref b3), .val (.int (3 : Int32)), .val (.int (0 : Int32)), .unset] [])) _
    refine XS.iload X1.here hx rfl (hb hby d5_16) rfl ?_
    show Steps p.tables e below (T1.setTop (mkF m 18 #[.val (.ref p0), .val p1, .val (.long (0 : Int64)), .second, .val (.ref b3), .val (.int (3 : Int32)), .val (.int (0 : Int32)), .unset] [(.int (0 : Int32))])) _
    refine XS.iload X1.here hx rfl (hb hby d5_18) rfl ?_
    show Steps p.tables e below (T1.setTop (mkF m 20 #[.val (.ref p0), .val p1, .val (.long (0 : Int64)), .second, .val (.ref b3), .val (.int (3 : Int32)), .val (.int (0 : Int32)), .unset] [(.int (3 : Int32)), (.int (0 : Int32))])) _
    refine XS.icmpNo X1.here hx rfl (hb hby d5_20) rfl (tlt (by decide)).2.1 ?_
    show Steps p.tables e below (T1.setTop (mkF m 23 #[.val (.ref p0), .val p1, .val (.long (0 : Int64)), .second, .val (.ref b3), .val (.int (3 : Int32)), .val (.int (0 : Int32)), .unset] [])) _
    refine XS.aload X1.here hx rfl (hb hby d5_23) rfl rfl ?_
    show Steps p.tables e below (T1.setTop (mkF m 25 #[.val (.ref p0), .val p1, .val (.long (0 : Int64)), .second, .val (.ref b3), .val (.int (3 : Int32)), .val (.int (0 : Int32)), .unset] [(.ref b3)])) _
    refine XS.iload X1.here hx rfl (hb hby d5_25) rfl ?_
    show Steps p.tables e below (T1.setTop (mkF m 27 #[.val (.ref p0), .val p1, .val (.long (0 : Int64)), .second, .val (.ref b3), .val (.int (3 : Int32)), .val (.int (0 : Int32)), .unset] [(.int (0 : Int32)), (.ref b3)])) _
    refine X1.aaload hx (j := (0 : Int32)) (v := u0) (by rw [e1]; exact Ara2.1) (State.isArrayOf_alike hZ.alike Ara2.2.1) rfl Ara2.2.2 hin3 hat4 (g := (mkF m 27 #[.val (.ref p0), .val p1, .val (.long (0 : Int64)), .second, .val (.ref b3), .val (.int (3 : Int32)), .val (.int (0 : Int32)), .unset] [(.int (0 : Int32)), (.ref b3)])) rfl rfl (hb hby d5_27) _ ?_
    show Steps p.tables e below (T1.setTop (mkF m 28 #[.val (.ref p0), .val p1, .val (.long (0 : Int64)), .second, .val (.ref b3), .val (.int (3 : Int32)), .val (.int (0 : Int32)), .unset] [u0])) _
    refine XS.astore X1.here hx rfl (hb hby d5_28) rfl F2_ (l' := #[.val (.ref p0), .val p1, .val (.long (0 : Int64)), .second, .val (.ref b3), .val (.int (3 : Int32)), .val (.int (0 : Int32)), .val u0]) (by exact XS.store1 (o := .unset) rfl (Or.inl rfl) (catV F2_)) ?_
    show Steps p.tables e below (T1.setTop (mkF m 30 #[.val (.ref p0), .val p1, .val (.long (0 : Int64)), .second, .val (.ref b3), .val (.int (3 : Int32)), .val (.int (0 : Int32)), .val u0] [])) _
    refine XS.aload X1.here hx rfl (hb hby d5_30) rfl F2_ ?_
    show Steps p.tables e below (T1.setTop (mkF m 32 #[.val (.ref p0), .val p1, .val (.long (0 : Int64)), .second, .val (.ref b3), .val (.int (3 : Int32)), .val (.int (0 : Int32)), .val u0] [u0])) _
    refine XS.aloadN X1.here hx rfl (hb hby d5_32) rfl F5_ ?_
    exact Steps.refl _
  have s7 : Steps p.tables e below (s₁.setTop (entryFrame m #[(.ref p0), p1] 8)) (T1.setTop (mkF m 40 #[.val (.ref p0), .val p1, .val (.long (if u0 = p1 then (1 : Int64) else (0 : Int64))), .second, .val (.ref b3), .val (.int (3 : Int32)), .val (.int (0 : Int32)), .val u0] [])) := by
    by_cases hm6 : u0 = p1
    · simp only [if_pos hm6]
      refine s5.trans ?_
      show Steps p.tables e below (T1.setTop (mkF m 33 #[.val (.ref p0), .val p1, .val (.long (0 : Int64)), .second, .val (.ref b3), .val (.int (3 : Int32)), .val (.int (0 : Int32)), .val u0] [p1, u0])) _
      refine Jvm.RoadKit.acmp (g := (mkF m 33 #[.val (.ref p0), .val p1, .val (.long (0 : Int64)), .second, .val (.ref b3), .val (.int (3 : Int32)), .val (.int (0 : Int32)), .val u0] [p1, u0])) X1 hx rfl F2_ F5_ (pc0 := 33) (pc' := 36) (same := true) rfl (hb hby d5_33) rfl (decide_eq_true hm6) (by decide) (by decide) ?_
      show Steps p.tables e below (T1.setTop (mkF m 36 #[.val (.ref p0), .val p1, .val (.long (0 : Int64)), .second, .val (.ref b3), .val (.int (3 : Int32)), .val (.int (0 : Int32)), .val u0] [])) _
      refine XS.lloadN X1.here hx rfl (hb hby d5_36) rfl ?_
      show Steps p.tables e below (T1.setTop (mkF m 37 #[.val (.ref p0), .val p1, .val (.long (0 : Int64)), .second, .val (.ref b3), .val (.int (3 : Int32)), .val (.int (0 : Int32)), .val u0] [(.long (0 : Int64))])) _
      refine XS.lconst X1.here hx rfl (hb hby d5_37) ?_
      show Steps p.tables e below (T1.setTop (mkF m 38 #[.val (.ref p0), .val p1, .val (.long (0 : Int64)), .second, .val (.ref b3), .val (.int (3 : Int32)), .val (.int (0 : Int32)), .val u0] [(.long (1 : Int64)), (.long (0 : Int64))])) _
      refine XS.ladd X1.here hx rfl (hb hby d5_38) rfl ?_
      show Steps p.tables e below (T1.setTop (mkF m 39 #[.val (.ref p0), .val p1, .val (.long (0 : Int64)), .second, .val (.ref b3), .val (.int (3 : Int32)), .val (.int (0 : Int32)), .val u0] [(.long (1 : Int64))])) _
      refine XS.lstoreN X1.here hx rfl (hb hby d5_39) rfl (l' := #[.val (.ref p0), .val p1, .val (.long (1 : Int64)), .second, .val (.ref b3), .val (.int (3 : Int32)), .val (.int (0 : Int32)), .val u0]) rfl ?_
      exact Steps.refl _
    · simp only [if_neg hm6]
      refine s5.trans ?_
      show Steps p.tables e below (T1.setTop (mkF m 33 #[.val (.ref p0), .val p1, .val (.long (0 : Int64)), .second, .val (.ref b3), .val (.int (3 : Int32)), .val (.int (0 : Int32)), .val u0] [p1, u0])) _
      refine Jvm.RoadKit.acmp (g := (mkF m 33 #[.val (.ref p0), .val p1, .val (.long (0 : Int64)), .second, .val (.ref b3), .val (.int (3 : Int32)), .val (.int (0 : Int32)), .val u0] [p1, u0])) X1 hx rfl F2_ F5_ (pc0 := 33) (pc' := 40) (same := false) rfl (hb hby d5_33) rfl (decide_eq_false hm6) (by decide) (by decide) ?_
      exact Steps.refl _
  obtain ⟨zz0, hzz0⟩ : ∃ z, z = (if u0 = p1 then (1 : Int64) else (0 : Int64)) := ⟨_, rfl⟩
  rw [← hzz0] at s7
  have hin8 : ¬ ((1 : Int32) < 0 ∨ cla2.slots.size ≤ ((1 : Int32)).toNatClampNeg) := inb_of Sa2 ⟨by decide, by decide⟩
  have hat9 : cla2.slots[((1 : Int32)).toNatClampNeg]? = some u1 := Has.at Ha2 hin8 rfl
  have s10 : Steps p.tables e below (s₁.setTop (entryFrame m #[(.ref p0), p1] 8)) (T1.setTop (mkF m 33 #[.val (.ref p0), .val p1, .val (.long zz0), .second, .val (.ref b3), .val (.int (3 : Int32)), .val (.int (1 : Int32)), .val u1] [p1, u1])) := by
    refine s7.trans ?_
    show Steps p.tables e below (T1.setTop (mkF m 40 #[.val (.ref p0), .val p1, .val (.long zz0), .second, .val (.ref b3), .val (.int (3 : Int32)), .val (.int (0 : Int32)), .val u0] [])) _
    refine XS.iinc X1.here hx rfl (hb hby d5_40) rfl (l' := #[.val (.ref p0), .val p1, .val (.long zz0), .second, .val (.ref b3), .val (.int (3 : Int32)), .val (.int (1 : Int32)), .val u0]) rfl ?_
    show Steps p.tables e below (T1.setTop (mkF m 43 #[.val (.ref p0), .val p1, .val (.long zz0), .second, .val (.ref b3), .val (.int (3 : Int32)), .val (.int (1 : Int32)), .val u0] [])) _
    refine XS.goto X1.here hx rfl (pc0 := 43) (pc' := 16) rfl (hb hby d5_43) (by decide) (by decide) ?_
    show Steps p.tables e below (T1.setTop (mkF m 16 #[.val (.ref p0), .val p1, .val (.long zz0), .second, .val (.ref b3), .val (.int (3 : Int32)), .val (.int (1 : Int32)), .val u0] [])) _
    refine XS.iload X1.here hx rfl (hb hby d5_16) rfl ?_
    show Steps p.tables e below (T1.setTop (mkF m 18 #[.val (.ref p0), .val p1, .val (.long zz0), .second, .val (.ref b3), .val (.int (3 : Int32)), .val (.int (1 : Int32)), .val u0] [(.int (1 : Int32))])) _
    refine XS.iload X1.here hx rfl (hb hby d5_18) rfl ?_
    show Steps p.tables e below (T1.setTop (mkF m 20 #[.val (.ref p0), .val p1, .val (.long zz0), .second, .val (.ref b3), .val (.int (3 : Int32)), .val (.int (1 : Int32)), .val u0] [(.int (3 : Int32)), (.int (1 : Int32))])) _
    refine XS.icmpNo X1.here hx rfl (hb hby d5_20) rfl (tlt (by decide)).2.1 ?_
    show Steps p.tables e below (T1.setTop (mkF m 23 #[.val (.ref p0), .val p1, .val (.long zz0), .second, .val (.ref b3), .val (.int (3 : Int32)), .val (.int (1 : Int32)), .val u0] [])) _
    refine XS.aload X1.here hx rfl (hb hby d5_23) rfl rfl ?_
    show Steps p.tables e below (T1.setTop (mkF m 25 #[.val (.ref p0), .val p1, .val (.long zz0), .second, .val (.ref b3), .val (.int (3 : Int32)), .val (.int (1 : Int32)), .val u0] [(.ref b3)])) _
    refine XS.iload X1.here hx rfl (hb hby d5_25) rfl ?_
    show Steps p.tables e below (T1.setTop (mkF m 27 #[.val (.ref p0), .val p1, .val (.long zz0), .second, .val (.ref b3), .val (.int (3 : Int32)), .val (.int (1 : Int32)), .val u0] [(.int (1 : Int32)), (.ref b3)])) _
    refine X1.aaload hx (j := (1 : Int32)) (v := u1) (by rw [e1]; exact Ara2.1) (State.isArrayOf_alike hZ.alike Ara2.2.1) rfl Ara2.2.2 hin8 hat9 (g := (mkF m 27 #[.val (.ref p0), .val p1, .val (.long zz0), .second, .val (.ref b3), .val (.int (3 : Int32)), .val (.int (1 : Int32)), .val u0] [(.int (1 : Int32)), (.ref b3)])) rfl rfl (hb hby d5_27) _ ?_
    show Steps p.tables e below (T1.setTop (mkF m 28 #[.val (.ref p0), .val p1, .val (.long zz0), .second, .val (.ref b3), .val (.int (3 : Int32)), .val (.int (1 : Int32)), .val u0] [u1])) _
    refine XS.astore X1.here hx rfl (hb hby d5_28) rfl F3_ (l' := #[.val (.ref p0), .val p1, .val (.long zz0), .second, .val (.ref b3), .val (.int (3 : Int32)), .val (.int (1 : Int32)), .val u1]) (by exact XS.store1 (o := .val u0) rfl (Or.inr ⟨_, rfl, (catV F2_)⟩) (catV F3_)) ?_
    show Steps p.tables e below (T1.setTop (mkF m 30 #[.val (.ref p0), .val p1, .val (.long zz0), .second, .val (.ref b3), .val (.int (3 : Int32)), .val (.int (1 : Int32)), .val u1] [])) _
    refine XS.aload X1.here hx rfl (hb hby d5_30) rfl F3_ ?_
    show Steps p.tables e below (T1.setTop (mkF m 32 #[.val (.ref p0), .val p1, .val (.long zz0), .second, .val (.ref b3), .val (.int (3 : Int32)), .val (.int (1 : Int32)), .val u1] [u1])) _
    refine XS.aloadN X1.here hx rfl (hb hby d5_32) rfl F5_ ?_
    exact Steps.refl _
  have s12 : Steps p.tables e below (s₁.setTop (entryFrame m #[(.ref p0), p1] 8)) (T1.setTop (mkF m 40 #[.val (.ref p0), .val p1, .val (.long (if u1 = p1 then (zz0 + (1 : Int64)) else zz0)), .second, .val (.ref b3), .val (.int (3 : Int32)), .val (.int (1 : Int32)), .val u1] [])) := by
    by_cases hm11 : u1 = p1
    · simp only [if_pos hm11]
      refine s10.trans ?_
      show Steps p.tables e below (T1.setTop (mkF m 33 #[.val (.ref p0), .val p1, .val (.long zz0), .second, .val (.ref b3), .val (.int (3 : Int32)), .val (.int (1 : Int32)), .val u1] [p1, u1])) _
      refine Jvm.RoadKit.acmp (g := (mkF m 33 #[.val (.ref p0), .val p1, .val (.long zz0), .second, .val (.ref b3), .val (.int (3 : Int32)), .val (.int (1 : Int32)), .val u1] [p1, u1])) X1 hx rfl F3_ F5_ (pc0 := 33) (pc' := 36) (same := true) rfl (hb hby d5_33) rfl (decide_eq_true hm11) (by decide) (by decide) ?_
      show Steps p.tables e below (T1.setTop (mkF m 36 #[.val (.ref p0), .val p1, .val (.long zz0), .second, .val (.ref b3), .val (.int (3 : Int32)), .val (.int (1 : Int32)), .val u1] [])) _
      refine XS.lloadN X1.here hx rfl (hb hby d5_36) rfl ?_
      show Steps p.tables e below (T1.setTop (mkF m 37 #[.val (.ref p0), .val p1, .val (.long zz0), .second, .val (.ref b3), .val (.int (3 : Int32)), .val (.int (1 : Int32)), .val u1] [(.long zz0)])) _
      refine XS.lconst X1.here hx rfl (hb hby d5_37) ?_
      show Steps p.tables e below (T1.setTop (mkF m 38 #[.val (.ref p0), .val p1, .val (.long zz0), .second, .val (.ref b3), .val (.int (3 : Int32)), .val (.int (1 : Int32)), .val u1] [(.long (1 : Int64)), (.long zz0)])) _
      refine XS.ladd X1.here hx rfl (hb hby d5_38) rfl ?_
      show Steps p.tables e below (T1.setTop (mkF m 39 #[.val (.ref p0), .val p1, .val (.long zz0), .second, .val (.ref b3), .val (.int (3 : Int32)), .val (.int (1 : Int32)), .val u1] [(.long (zz0 + (1 : Int64)))])) _
      refine XS.lstoreN X1.here hx rfl (hb hby d5_39) rfl (l' := #[.val (.ref p0), .val p1, .val (.long (zz0 + (1 : Int64))), .second, .val (.ref b3), .val (.int (3 : Int32)), .val (.int (1 : Int32)), .val u1]) rfl ?_
      exact Steps.refl _
    · simp only [if_neg hm11]
      refine s10.trans ?_
      show Steps p.tables e below (T1.setTop (mkF m 33 #[.val (.ref p0), .val p1, .val (.long zz0), .second, .val (.ref b3), .val (.int (3 : Int32)), .val (.int (1 : Int32)), .val u1] [p1, u1])) _
      refine Jvm.RoadKit.acmp (g := (mkF m 33 #[.val (.ref p0), .val p1, .val (.long zz0), .second, .val (.ref b3), .val (.int (3 : Int32)), .val (.int (1 : Int32)), .val u1] [p1, u1])) X1 hx rfl F3_ F5_ (pc0 := 33) (pc' := 40) (same := false) rfl (hb hby d5_33) rfl (decide_eq_false hm11) (by decide) (by decide) ?_
      exact Steps.refl _
  obtain ⟨zz1, hzz1⟩ : ∃ z, z = (if u1 = p1 then (zz0 + (1 : Int64)) else zz0) := ⟨_, rfl⟩
  rw [← hzz1] at s12
  have hin13 : ¬ ((2 : Int32) < 0 ∨ cla2.slots.size ≤ ((2 : Int32)).toNatClampNeg) := inb_of Sa2 ⟨by decide, by decide⟩
  have hat14 : cla2.slots[((2 : Int32)).toNatClampNeg]? = some u2 := Has.at Ha2 hin13 rfl
  have s15 : Steps p.tables e below (s₁.setTop (entryFrame m #[(.ref p0), p1] 8)) (T1.setTop (mkF m 33 #[.val (.ref p0), .val p1, .val (.long zz1), .second, .val (.ref b3), .val (.int (3 : Int32)), .val (.int (2 : Int32)), .val u2] [p1, u2])) := by
    refine s12.trans ?_
    show Steps p.tables e below (T1.setTop (mkF m 40 #[.val (.ref p0), .val p1, .val (.long zz1), .second, .val (.ref b3), .val (.int (3 : Int32)), .val (.int (1 : Int32)), .val u1] [])) _
    refine XS.iinc X1.here hx rfl (hb hby d5_40) rfl (l' := #[.val (.ref p0), .val p1, .val (.long zz1), .second, .val (.ref b3), .val (.int (3 : Int32)), .val (.int (2 : Int32)), .val u1]) rfl ?_
    show Steps p.tables e below (T1.setTop (mkF m 43 #[.val (.ref p0), .val p1, .val (.long zz1), .second, .val (.ref b3), .val (.int (3 : Int32)), .val (.int (2 : Int32)), .val u1] [])) _
    refine XS.goto X1.here hx rfl (pc0 := 43) (pc' := 16) rfl (hb hby d5_43) (by decide) (by decide) ?_
    show Steps p.tables e below (T1.setTop (mkF m 16 #[.val (.ref p0), .val p1, .val (.long zz1), .second, .val (.ref b3), .val (.int (3 : Int32)), .val (.int (2 : Int32)), .val u1] [])) _
    refine XS.iload X1.here hx rfl (hb hby d5_16) rfl ?_
    show Steps p.tables e below (T1.setTop (mkF m 18 #[.val (.ref p0), .val p1, .val (.long zz1), .second, .val (.ref b3), .val (.int (3 : Int32)), .val (.int (2 : Int32)), .val u1] [(.int (2 : Int32))])) _
    refine XS.iload X1.here hx rfl (hb hby d5_18) rfl ?_
    show Steps p.tables e below (T1.setTop (mkF m 20 #[.val (.ref p0), .val p1, .val (.long zz1), .second, .val (.ref b3), .val (.int (3 : Int32)), .val (.int (2 : Int32)), .val u1] [(.int (3 : Int32)), (.int (2 : Int32))])) _
    refine XS.icmpNo X1.here hx rfl (hb hby d5_20) rfl (tlt (by decide)).2.1 ?_
    show Steps p.tables e below (T1.setTop (mkF m 23 #[.val (.ref p0), .val p1, .val (.long zz1), .second, .val (.ref b3), .val (.int (3 : Int32)), .val (.int (2 : Int32)), .val u1] [])) _
    refine XS.aload X1.here hx rfl (hb hby d5_23) rfl rfl ?_
    show Steps p.tables e below (T1.setTop (mkF m 25 #[.val (.ref p0), .val p1, .val (.long zz1), .second, .val (.ref b3), .val (.int (3 : Int32)), .val (.int (2 : Int32)), .val u1] [(.ref b3)])) _
    refine XS.iload X1.here hx rfl (hb hby d5_25) rfl ?_
    show Steps p.tables e below (T1.setTop (mkF m 27 #[.val (.ref p0), .val p1, .val (.long zz1), .second, .val (.ref b3), .val (.int (3 : Int32)), .val (.int (2 : Int32)), .val u1] [(.int (2 : Int32)), (.ref b3)])) _
    refine X1.aaload hx (j := (2 : Int32)) (v := u2) (by rw [e1]; exact Ara2.1) (State.isArrayOf_alike hZ.alike Ara2.2.1) rfl Ara2.2.2 hin13 hat14 (g := (mkF m 27 #[.val (.ref p0), .val p1, .val (.long zz1), .second, .val (.ref b3), .val (.int (3 : Int32)), .val (.int (2 : Int32)), .val u1] [(.int (2 : Int32)), (.ref b3)])) rfl rfl (hb hby d5_27) _ ?_
    show Steps p.tables e below (T1.setTop (mkF m 28 #[.val (.ref p0), .val p1, .val (.long zz1), .second, .val (.ref b3), .val (.int (3 : Int32)), .val (.int (2 : Int32)), .val u1] [u2])) _
    refine XS.astore X1.here hx rfl (hb hby d5_28) rfl F4_ (l' := #[.val (.ref p0), .val p1, .val (.long zz1), .second, .val (.ref b3), .val (.int (3 : Int32)), .val (.int (2 : Int32)), .val u2]) (by exact XS.store1 (o := .val u1) rfl (Or.inr ⟨_, rfl, (catV F3_)⟩) (catV F4_)) ?_
    show Steps p.tables e below (T1.setTop (mkF m 30 #[.val (.ref p0), .val p1, .val (.long zz1), .second, .val (.ref b3), .val (.int (3 : Int32)), .val (.int (2 : Int32)), .val u2] [])) _
    refine XS.aload X1.here hx rfl (hb hby d5_30) rfl F4_ ?_
    show Steps p.tables e below (T1.setTop (mkF m 32 #[.val (.ref p0), .val p1, .val (.long zz1), .second, .val (.ref b3), .val (.int (3 : Int32)), .val (.int (2 : Int32)), .val u2] [u2])) _
    refine XS.aloadN X1.here hx rfl (hb hby d5_32) rfl F5_ ?_
    exact Steps.refl _
  have s17 : Steps p.tables e below (s₁.setTop (entryFrame m #[(.ref p0), p1] 8)) (T1.setTop (mkF m 40 #[.val (.ref p0), .val p1, .val (.long (if u2 = p1 then (zz1 + (1 : Int64)) else zz1)), .second, .val (.ref b3), .val (.int (3 : Int32)), .val (.int (2 : Int32)), .val u2] [])) := by
    by_cases hm16 : u2 = p1
    · simp only [if_pos hm16]
      refine s15.trans ?_
      show Steps p.tables e below (T1.setTop (mkF m 33 #[.val (.ref p0), .val p1, .val (.long zz1), .second, .val (.ref b3), .val (.int (3 : Int32)), .val (.int (2 : Int32)), .val u2] [p1, u2])) _
      refine Jvm.RoadKit.acmp (g := (mkF m 33 #[.val (.ref p0), .val p1, .val (.long zz1), .second, .val (.ref b3), .val (.int (3 : Int32)), .val (.int (2 : Int32)), .val u2] [p1, u2])) X1 hx rfl F4_ F5_ (pc0 := 33) (pc' := 36) (same := true) rfl (hb hby d5_33) rfl (decide_eq_true hm16) (by decide) (by decide) ?_
      show Steps p.tables e below (T1.setTop (mkF m 36 #[.val (.ref p0), .val p1, .val (.long zz1), .second, .val (.ref b3), .val (.int (3 : Int32)), .val (.int (2 : Int32)), .val u2] [])) _
      refine XS.lloadN X1.here hx rfl (hb hby d5_36) rfl ?_
      show Steps p.tables e below (T1.setTop (mkF m 37 #[.val (.ref p0), .val p1, .val (.long zz1), .second, .val (.ref b3), .val (.int (3 : Int32)), .val (.int (2 : Int32)), .val u2] [(.long zz1)])) _
      refine XS.lconst X1.here hx rfl (hb hby d5_37) ?_
      show Steps p.tables e below (T1.setTop (mkF m 38 #[.val (.ref p0), .val p1, .val (.long zz1), .second, .val (.ref b3), .val (.int (3 : Int32)), .val (.int (2 : Int32)), .val u2] [(.long (1 : Int64)), (.long zz1)])) _
      refine XS.ladd X1.here hx rfl (hb hby d5_38) rfl ?_
      show Steps p.tables e below (T1.setTop (mkF m 39 #[.val (.ref p0), .val p1, .val (.long zz1), .second, .val (.ref b3), .val (.int (3 : Int32)), .val (.int (2 : Int32)), .val u2] [(.long (zz1 + (1 : Int64)))])) _
      refine XS.lstoreN X1.here hx rfl (hb hby d5_39) rfl (l' := #[.val (.ref p0), .val p1, .val (.long (zz1 + (1 : Int64))), .second, .val (.ref b3), .val (.int (3 : Int32)), .val (.int (2 : Int32)), .val u2]) rfl ?_
      exact Steps.refl _
    · simp only [if_neg hm16]
      refine s15.trans ?_
      show Steps p.tables e below (T1.setTop (mkF m 33 #[.val (.ref p0), .val p1, .val (.long zz1), .second, .val (.ref b3), .val (.int (3 : Int32)), .val (.int (2 : Int32)), .val u2] [p1, u2])) _
      refine Jvm.RoadKit.acmp (g := (mkF m 33 #[.val (.ref p0), .val p1, .val (.long zz1), .second, .val (.ref b3), .val (.int (3 : Int32)), .val (.int (2 : Int32)), .val u2] [p1, u2])) X1 hx rfl F4_ F5_ (pc0 := 33) (pc' := 40) (same := false) rfl (hb hby d5_33) rfl (decide_eq_false hm16) (by decide) (by decide) ?_
      exact Steps.refl _
  obtain ⟨zz2, hzz2⟩ : ∃ z, z = (if u2 = p1 then (zz1 + (1 : Int64)) else zz1) := ⟨_, rfl⟩
  rw [← hzz2] at s17
  have s18 : Steps p.tables e below (s₁.setTop (entryFrame m #[(.ref p0), p1] 8)) (T1.setTop (mkF m 47 #[.val (.ref p0), .val p1, .val (.long zz2), .second, .val (.ref b3), .val (.int (3 : Int32)), .val (.int (3 : Int32)), .val u2] [(.long zz2)])) := by
    refine s17.trans ?_
    show Steps p.tables e below (T1.setTop (mkF m 40 #[.val (.ref p0), .val p1, .val (.long zz2), .second, .val (.ref b3), .val (.int (3 : Int32)), .val (.int (2 : Int32)), .val u2] [])) _
    refine XS.iinc X1.here hx rfl (hb hby d5_40) rfl (l' := #[.val (.ref p0), .val p1, .val (.long zz2), .second, .val (.ref b3), .val (.int (3 : Int32)), .val (.int (3 : Int32)), .val u2]) rfl ?_
    show Steps p.tables e below (T1.setTop (mkF m 43 #[.val (.ref p0), .val p1, .val (.long zz2), .second, .val (.ref b3), .val (.int (3 : Int32)), .val (.int (3 : Int32)), .val u2] [])) _
    refine XS.goto X1.here hx rfl (pc0 := 43) (pc' := 16) rfl (hb hby d5_43) (by decide) (by decide) ?_
    show Steps p.tables e below (T1.setTop (mkF m 16 #[.val (.ref p0), .val p1, .val (.long zz2), .second, .val (.ref b3), .val (.int (3 : Int32)), .val (.int (3 : Int32)), .val u2] [])) _
    refine XS.iload X1.here hx rfl (hb hby d5_16) rfl ?_
    show Steps p.tables e below (T1.setTop (mkF m 18 #[.val (.ref p0), .val p1, .val (.long zz2), .second, .val (.ref b3), .val (.int (3 : Int32)), .val (.int (3 : Int32)), .val u2] [(.int (3 : Int32))])) _
    refine XS.iload X1.here hx rfl (hb hby d5_18) rfl ?_
    show Steps p.tables e below (T1.setTop (mkF m 20 #[.val (.ref p0), .val p1, .val (.long zz2), .second, .val (.ref b3), .val (.int (3 : Int32)), .val (.int (3 : Int32)), .val u2] [(.int (3 : Int32)), (.int (3 : Int32))])) _
    refine XS.icmpYes X1.here hx rfl (pc0 := 20) (pc' := 46) rfl (hb hby d5_20) rfl (flt (by decide)).2.1 (by decide) (by decide) ?_
    show Steps p.tables e below (T1.setTop (mkF m 46 #[.val (.ref p0), .val p1, .val (.long zz2), .second, .val (.ref b3), .val (.int (3 : Int32)), .val (.int (3 : Int32)), .val u2] [])) _
    refine XS.lloadN X1.here hx rfl (hb hby d5_46) rfl ?_
    exact Steps.refl _
  obtain ⟨fs, hr, hrun, hended, hW, hsame⟩ := X1.leave (v := some (.long zz2)) (fun h => by rw [Bd.returns] at h; cases h)
  refine ⟨_, _, s18.trans ?_, hrun, hended, _, _, rfl, ?_, ⟨_, rfl⟩, hW, hsame.mono (by decide) (by decide)⟩
  · show Steps p.tables e below (T1.setTop (mkF m 47 #[.val (.ref p0), .val p1, .val (.long zz2), .second, .val (.ref b3), .val (.int (3 : Int32)), .val (.int (3 : Int32)), .val u2] [(.long zz2)])) _
    jvm_step X1.here [X1.here.top, hx, (hb hby d5_47), X1.method', Bd.returns, narrow]
    first | (intro acts; rw [hr _ acts rfl rfl rfl]) | rw [hr _ _ rfl rfl rfl]
    exact Steps.refl _
  · show Qc3 Z p0 p1 b3 k3 u0 u1 u2 h0 n0 _ T1.heap _
    rw [e1]
    exact ⟨(by rw [hzz2, hzz1, hzz0]), N0, rfl⟩
theorem pd_rm0_0 : parseMethodDescriptor "(I)Lcom/example/hot_gate/hotgate/bench/Outcome;" = some ⟨[.int], some (.object "com/example/hot_gate/hotgate/bench/Outcome")⟩ := by decide +kernel
theorem pd_rm0_1 : parseMethodDescriptor "(I)V" = some ⟨[.int], none⟩ := by decide +kernel
theorem pd_rm0_2 : parseMethodDescriptor "(Lcom/example/hot_gate/hotgate/bench/Outcome;)J" = some ⟨[(.object "com/example/hot_gate/hotgate/bench/Outcome")], some .long⟩ := by decide +kernel
theorem pd_rm0_3 : parseMethodDescriptor "(IJJLcom/example/hot_gate/hotgate/bench/Outcome;Ljava/lang/String;)V" = some ⟨[.int, .long, .long, (.object "com/example/hot_gate/hotgate/bench/Outcome"), (.object "java/lang/String")], none⟩ := by decide +kernel
theorem ef_rm0 (m : MethodId) (p0 : Int32) (p1 : Int32) (p2 : Int32) (p3 : Int32) (p4 : Int32) (p5 : Int64) : entryFrame m #[(.int p0), (.int p1), (.int p2), (.int p3), (.int p4), (.long p5)] maxLocals = mkF m 0 #[.val (.int p0), .val (.int p1), .val (.int p2), .val (.int p3), .val (.int p4), .val (.long p5), .second, .unset, .unset, .unset, .unset, .unset, .unset, .unset, .unset] [] := by first | (simp [entryFrame, mkF, argsToLocals, Value.category, maxLocals]; done) | rfl
def Q0 (Z : State) (p0 : Int32) (p1 : Int32) (p2 : Int32) (p3 : Int32) (p4 : Int32) (p5 : Int64) (v_ERROR : Addr) (v_SOLD_OUT : Addr) (v_ALREADY_CLAIMED : Addr) (v_ACCEPTED : Addr) (h0 : Heap) (n0 : Nat) (v : Option Value) (h : Heap) (L : List Loc) : Prop := v = some (.int (1 : Int32)) ∧ Fr n0 L
set_option maxRecDepth 65536 in
set_option maxHeartbeats 40000000 in
theorem rm0 (l : Launch) (Z : State) (a0 : Array Value) (hw : ∀ d ∈ tables_1, d.before a0 Z = true) (ws : List Jvm.Cond) (p0 : Int32) (p1 : Int32) (p2 : Int32) (p3 : Int32) (p4 : Int32) (p5 : Int64) (v_ERROR : Addr) (v_SOLD_OUT : Addr) (v_ALREADY_CLAIMED : Addr) (v_ACCEPTED : Addr) (h0 : Heap) (n0 : Nat) (O0 : Old Z n0 h0) (F0_ : Sta Z Z.heap "com/example/hot_gate/hotgate/bench/Outcome" "ERROR" "Lcom/example/hot_gate/hotgate/bench/Outcome;" (.ref v_ERROR)) (F1_ : Exa Z Z.heap v_ERROR "com/example/hot_gate/hotgate/bench/Outcome") (F2_ : Sta Z Z.heap "com/example/hot_gate/hotgate/bench/Outcome" "SOLD_OUT" "Lcom/example/hot_gate/hotgate/bench/Outcome;" (.ref v_SOLD_OUT)) (F3_ : Exa Z Z.heap v_SOLD_OUT "com/example/hot_gate/hotgate/bench/Outcome") (F4_ : Sta Z Z.heap "com/example/hot_gate/hotgate/bench/Outcome" "ALREADY_CLAIMED" "Lcom/example/hot_gate/hotgate/bench/Outcome;" (.ref v_ALREADY_CLAIMED)) (F5_ : Exa Z Z.heap v_ALREADY_CLAIMED "com/example/hot_gate/hotgate/bench/Outcome") (F6_ : Sta Z Z.heap "com/example/hot_gate/hotgate/bench/Outcome" "ACCEPTED" "Lcom/example/hot_gate/hotgate/bench/Outcome;" (.ref v_ACCEPTED)) (F7_ : Exa Z Z.heap v_ACCEPTED "com/example/hot_gate/hotgate/bench/Outcome") :
    MetFree l x (head1 (Jvm.Cond.code x code maxLocals ret :: ws) room_1) (fun a U => a = #[(.int p0), (.int p1), (.int p2), (.int p3), (.int p4), (.long p5)] ∧ Z.Warmed39 U.vm ∧ U.heap = h0) (fun _ _ _ _ _ => True) (fun _ U o U' => ∃ v L, o = .returned v ∧ Q0 Z p0 p1 p2 p3 p4 p5 v_ERROR v_SOLD_OUT v_ALREADY_CLAIMED v_ACCEPTED h0 n0 v U'.heap L ∧ FrameEnd U o U' L room_1.cells room_1.slots) := by
  refine MetFree.of_bodySF (plainFor_of_name pn_1) hisR ?_
  intro p e s m args below meth c s₁ Bd hml0 hP hK
  obtain ⟨rfl, hZ, hh⟩ := hP
  have hx := Bd.exec
  have hby := Bd.bytes
  have hml : c.maxLocals = 15 := hml0
  have hown : s.vm.findClass "com/example/hot_gate/hotgate/bench/RepliesCountPinLaw" = some m.cls := findClass_of_methodNamed Bd.named
  have hnm := (name_of_methodNamed Bd.named Bd.method).1
  have X0 : Stand p l e room_1 s m #[(.int p0), (.int p1), (.int p2), (.int p3), (.int p4), (.long p5)] below meth c s₁ [] 0 0 := Stand.of_body Bd
  have e0 : s₁.heap = h0 := by rw [← hh, Bd.state]; rfl
  have N0 := Fr.nil n0
  have s0 : Steps p.tables e below (s₁.setTop (entryFrame m #[(.int p0), (.int p1), (.int p2), (.int p3), (.int p4), (.long p5)] maxLocals)) (s₁.setTop (mkF m 0 #[.val (.int p0), .val (.int p1), .val (.int p2), .val (.int p3), .val (.int p4), .val (.long p5), .second, .unset, .unset, .unset, .unset, .unset, .unset, .unset, .unset] [])) := castTop (ef_rm0 m p0 p1 p2 p3 p4 p5) (Steps.refl _)
  obtain ⟨_, _, ⟨T1, L1, k1, n1⟩, -, X1, ⟨Lc1, hQ1, l1, y1, z1⟩, st1⟩ := Jvm.LawKit.callS X0 hx (y := (⟨"com/example/hot_gate/hotgate/bench/RepliesCountPinLaw", "pick", "(I)Lcom/example/hot_gate/hotgate/bench/Outcome;"⟩ : MethodName)) hown (mvT hZ (hw _ (List.mem_of_getElem? (i := 0) rfl))) (mvT hZ (hw _ (List.mem_of_getElem? (i := 1) rfl))) (mvT hZ (hw _ (List.mem_of_getElem? (i := 2) rfl))) (mvT hZ (hw _ (List.mem_of_getElem? (i := 3) rfl))) (by decide) (backOf (W := 0) (rm1 l Z a0 hw [] p1 v_ERROR v_SOLD_OUT v_ALREADY_CLAIMED v_ACCEPTED h0 n0 O0 F0_ F1_ F2_ F3_ F4_ F5_ F6_ F7_) hZ (hw _ (List.mem_of_getElem? (i := 3) rfl)) (hw _ (List.mem_of_getElem? (i := 2) rfl)) (by decide) (by decide)) (g := (mkF m 6 #[.val (.int p0), .val (.int p1), .val (.int p2), .val (.int p3), .val (.int p4), .val (.long p5), .second, .val (.int (p0 &&& (3 : Int32))), .unset, .unset, .unset, .unset, .unset, .unset, .unset] [(.int p1)])) rfl (by rw [hml]; rfl) (argsL := [(.int p1)]) (rest := []) (lenOf pd_rm0_0 rfl) rfl (by show 2 * 0 + _ ≤ _; exact Nat.le_of_eq rfl) (hb hby at_6) (fun _ _ => ⟨rfl, e0, (by decide : 0 + 0 ≤ _), (by decide : 0 + 0 ≤ _)⟩)
  dsimp only [Pt.U, Pt.locs, Pt.cells, Pt.slots] at X1 l1 y1 z1 st1 hQ1
  subst l1 y1 z1
  obtain ⟨u2, rfl, Nq1, e1, f1_0, f1_1⟩ := hQ1
  have N1 := Fr.app N0 Nq1
  obtain ⟨_, _, ⟨T3, L3, k3, n3⟩, -, X3, ⟨Lc3, hQ3, l3, y3, z3⟩, st3⟩ := Jvm.LawKit.callS X1 hx (y := (⟨"com/example/hot_gate/hotgate/bench/RepliesCountPinLaw", "pick", "(I)Lcom/example/hot_gate/hotgate/bench/Outcome;"⟩ : MethodName)) hown (mvT hZ (hw _ (List.mem_of_getElem? (i := 0) rfl))) (mvT hZ (hw _ (List.mem_of_getElem? (i := 1) rfl))) (mvT hZ (hw _ (List.mem_of_getElem? (i := 2) rfl))) (mvT hZ (hw _ (List.mem_of_getElem? (i := 3) rfl))) (by decide) (backOf (W := 0) (rm1 l Z a0 hw [] p2 v_ERROR v_SOLD_OUT v_ALREADY_CLAIMED v_ACCEPTED h0 n0 O0 F0_ F1_ F2_ F3_ F4_ F5_ F6_ F7_) hZ (hw _ (List.mem_of_getElem? (i := 3) rfl)) (hw _ (List.mem_of_getElem? (i := 2) rfl)) (by decide) (by decide)) (g := (mkF m 12 #[.val (.int p0), .val (.int p1), .val (.int p2), .val (.int p3), .val (.int p4), .val (.long p5), .second, .val (.int (p0 &&& (3 : Int32))), .val u2, .unset, .unset, .unset, .unset, .unset, .unset] [(.int p2)])) rfl (by rw [hml]; rfl) (argsL := [(.int p2)]) (rest := []) (lenOf pd_rm0_0 rfl) rfl (by show 2 * 0 + _ ≤ _; exact Nat.le_of_eq rfl) (hb hby at_12) (fun _ _ => ⟨rfl, e1, (by decide : 0 + 0 ≤ _), (by decide : 0 + 0 ≤ _)⟩)
  dsimp only [Pt.U, Pt.locs, Pt.cells, Pt.slots] at X3 l3 y3 z3 st3 hQ3
  subst l3 y3 z3
  obtain ⟨u4, rfl, Nq3, e3, f3_0, f3_1⟩ := hQ3
  have N3 := Fr.app N1 Nq3
  obtain ⟨_, _, ⟨T5, L5, k5, n5⟩, -, X5, ⟨Lc5, hQ5, l5, y5, z5⟩, st5⟩ := Jvm.LawKit.callS X3 hx (y := (⟨"com/example/hot_gate/hotgate/bench/RepliesCountPinLaw", "pick", "(I)Lcom/example/hot_gate/hotgate/bench/Outcome;"⟩ : MethodName)) hown (mvT hZ (hw _ (List.mem_of_getElem? (i := 0) rfl))) (mvT hZ (hw _ (List.mem_of_getElem? (i := 1) rfl))) (mvT hZ (hw _ (List.mem_of_getElem? (i := 2) rfl))) (mvT hZ (hw _ (List.mem_of_getElem? (i := 3) rfl))) (by decide) (backOf (W := 0) (rm1 l Z a0 hw [] p3 v_ERROR v_SOLD_OUT v_ALREADY_CLAIMED v_ACCEPTED h0 n0 O0 F0_ F1_ F2_ F3_ F4_ F5_ F6_ F7_) hZ (hw _ (List.mem_of_getElem? (i := 3) rfl)) (hw _ (List.mem_of_getElem? (i := 2) rfl)) (by decide) (by decide)) (g := (mkF m 18 #[.val (.int p0), .val (.int p1), .val (.int p2), .val (.int p3), .val (.int p4), .val (.long p5), .second, .val (.int (p0 &&& (3 : Int32))), .val u2, .val u4, .unset, .unset, .unset, .unset, .unset] [(.int p3)])) rfl (by rw [hml]; rfl) (argsL := [(.int p3)]) (rest := []) (lenOf pd_rm0_0 rfl) rfl (by show 2 * 0 + _ ≤ _; exact Nat.le_of_eq rfl) (hb hby at_18) (fun _ _ => ⟨rfl, e3, (by decide : 0 + 0 ≤ _), (by decide : 0 + 0 ≤ _)⟩)
  dsimp only [Pt.U, Pt.locs, Pt.cells, Pt.slots] at X5 l5 y5 z5 st5 hQ5
  subst l5 y5 z5
  obtain ⟨u6, rfl, Nq5, e5, f5_0, f5_1⟩ := hQ5
  have N5 := Fr.app N3 Nq5
  obtain ⟨_, _, ⟨T7, L7, k7, n7⟩, -, X7, ⟨Lc7, hQ7, l7, y7, z7⟩, st7⟩ := Jvm.LawKit.callS X5 hx (y := (⟨"com/example/hot_gate/hotgate/bench/RepliesCountPinLaw", "pick", "(I)Lcom/example/hot_gate/hotgate/bench/Outcome;"⟩ : MethodName)) hown (mvT hZ (hw _ (List.mem_of_getElem? (i := 0) rfl))) (mvT hZ (hw _ (List.mem_of_getElem? (i := 1) rfl))) (mvT hZ (hw _ (List.mem_of_getElem? (i := 2) rfl))) (mvT hZ (hw _ (List.mem_of_getElem? (i := 3) rfl))) (by decide) (backOf (W := 0) (rm1 l Z a0 hw [] p4 v_ERROR v_SOLD_OUT v_ALREADY_CLAIMED v_ACCEPTED h0 n0 O0 F0_ F1_ F2_ F3_ F4_ F5_ F6_ F7_) hZ (hw _ (List.mem_of_getElem? (i := 3) rfl)) (hw _ (List.mem_of_getElem? (i := 2) rfl)) (by decide) (by decide)) (g := (mkF m 25 #[.val (.int p0), .val (.int p1), .val (.int p2), .val (.int p3), .val (.int p4), .val (.long p5), .second, .val (.int (p0 &&& (3 : Int32))), .val u2, .val u4, .val u6, .unset, .unset, .unset, .unset] [(.int p4)])) rfl (by rw [hml]; rfl) (argsL := [(.int p4)]) (rest := []) (lenOf pd_rm0_0 rfl) rfl (by show 2 * 0 + _ ≤ _; exact Nat.le_of_eq rfl) (hb hby at_25) (fun _ _ => ⟨rfl, e5, (by decide : 0 + 0 ≤ _), (by decide : 0 + 0 ≤ _)⟩)
  dsimp only [Pt.U, Pt.locs, Pt.cells, Pt.slots] at X7 l7 y7 z7 st7 hQ7
  subst l7 y7 z7
  obtain ⟨u8, rfl, Nq7, e7, f7_0, f7_1⟩ := hQ7
  have N7 := Fr.app N5 Nq7
  have s9 : Steps p.tables e below (s₁.setTop (entryFrame m #[(.int p0), (.int p1), (.int p2), (.int p3), (.int p4), (.long p5)] maxLocals)) (T7.setTop (mkF m 30 #[.val (.int p0), .val (.int p1), .val (.int p2), .val (.int p3), .val (.int p4), .val (.long p5), .second, .val (.int (p0 &&& (3 : Int32))), .val u2, .val u4, .val u6, .val u8, .unset, .unset, .unset] [])) := by
    refine s0.trans ?_
    show Steps p.tables e below (s₁.setTop (mkF m 0 #[.val (.int p0), .val (.int p1), .val (.int p2), .val (.int p3), .val (.int p4), .val (.long p5), .second, .unset, .unset, .unset, .unset, .unset, .unset, .unset, .unset] [])) _
    refine XS.iloadN X0.here hx rfl (hb hby at_0) rfl ?_
    show Steps p.tables e below (s₁.setTop (mkF m 1 #[.val (.int p0), .val (.int p1), .val (.int p2), .val (.int p3), .val (.int p4), .val (.long p5), .second, .unset, .unset, .unset, .unset, .unset, .unset, .unset, .unset] [(.int p0)])) _
    refine XS.iconst X0.here hx rfl (hb hby at_1) ?_
    show Steps p.tables e below (s₁.setTop (mkF m 2 #[.val (.int p0), .val (.int p1), .val (.int p2), .val (.int p3), .val (.int p4), .val (.long p5), .second, .unset, .unset, .unset, .unset, .unset, .unset, .unset, .unset] [(.int (3 : Int32)), (.int p0)])) _
    refine XS.iand X0.here hx rfl (hb hby at_2) rfl ?_
    show Steps p.tables e below (s₁.setTop (mkF m 3 #[.val (.int p0), .val (.int p1), .val (.int p2), .val (.int p3), .val (.int p4), .val (.long p5), .second, .unset, .unset, .unset, .unset, .unset, .unset, .unset, .unset] [(.int (p0 &&& (3 : Int32)))])) _
    refine XS.istore X0.here hx rfl (hb hby at_3) rfl (l' := #[.val (.int p0), .val (.int p1), .val (.int p2), .val (.int p3), .val (.int p4), .val (.long p5), .second, .val (.int (p0 &&& (3 : Int32))), .unset, .unset, .unset, .unset, .unset, .unset, .unset]) rfl ?_
    show Steps p.tables e below (s₁.setTop (mkF m 5 #[.val (.int p0), .val (.int p1), .val (.int p2), .val (.int p3), .val (.int p4), .val (.long p5), .second, .val (.int (p0 &&& (3 : Int32))), .unset, .unset, .unset, .unset, .unset, .unset, .unset] [])) _
    refine XS.iloadN X0.here hx rfl (hb hby at_5) rfl ?_
    show Steps p.tables e below (s₁.setTop (mkF m 6 #[.val (.int p0), .val (.int p1), .val (.int p2), .val (.int p3), .val (.int p4), .val (.long p5), .second, .val (.int (p0 &&& (3 : Int32))), .unset, .unset, .unset, .unset, .unset, .unset, .unset] [(.int p1)])) _
    refine st1 _ ?_
    show Steps p.tables e below (T1.setTop (mkF m 9 #[.val (.int p0), .val (.int p1), .val (.int p2), .val (.int p3), .val (.int p4), .val (.long p5), .second, .val (.int (p0 &&& (3 : Int32))), .unset, .unset, .unset, .unset, .unset, .unset, .unset] [u2])) _
    refine XS.astore X1.here hx rfl (hb hby at_9) rfl f1_0 (l' := #[.val (.int p0), .val (.int p1), .val (.int p2), .val (.int p3), .val (.int p4), .val (.long p5), .second, .val (.int (p0 &&& (3 : Int32))), .val u2, .unset, .unset, .unset, .unset, .unset, .unset]) (by exact XS.store1 (o := .unset) rfl (Or.inl rfl) (catV f1_0)) ?_
    show Steps p.tables e below (T1.setTop (mkF m 11 #[.val (.int p0), .val (.int p1), .val (.int p2), .val (.int p3), .val (.int p4), .val (.long p5), .second, .val (.int (p0 &&& (3 : Int32))), .val u2, .unset, .unset, .unset, .unset, .unset, .unset] [])) _
    refine XS.iloadN X1.here hx rfl (hb hby at_11) rfl ?_
    show Steps p.tables e below (T1.setTop (mkF m 12 #[.val (.int p0), .val (.int p1), .val (.int p2), .val (.int p3), .val (.int p4), .val (.long p5), .second, .val (.int (p0 &&& (3 : Int32))), .val u2, .unset, .unset, .unset, .unset, .unset, .unset] [(.int p2)])) _
    refine st3 _ ?_
    show Steps p.tables e below (T3.setTop (mkF m 15 #[.val (.int p0), .val (.int p1), .val (.int p2), .val (.int p3), .val (.int p4), .val (.long p5), .second, .val (.int (p0 &&& (3 : Int32))), .val u2, .unset, .unset, .unset, .unset, .unset, .unset] [u4])) _
    refine XS.astore X3.here hx rfl (hb hby at_15) rfl f3_0 (l' := #[.val (.int p0), .val (.int p1), .val (.int p2), .val (.int p3), .val (.int p4), .val (.long p5), .second, .val (.int (p0 &&& (3 : Int32))), .val u2, .val u4, .unset, .unset, .unset, .unset, .unset]) (by exact XS.store1 (o := .unset) rfl (Or.inl rfl) (catV f3_0)) ?_
    show Steps p.tables e below (T3.setTop (mkF m 17 #[.val (.int p0), .val (.int p1), .val (.int p2), .val (.int p3), .val (.int p4), .val (.long p5), .second, .val (.int (p0 &&& (3 : Int32))), .val u2, .val u4, .unset, .unset, .unset, .unset, .unset] [])) _
    refine XS.iloadN X3.here hx rfl (hb hby at_17) rfl ?_
    show Steps p.tables e below (T3.setTop (mkF m 18 #[.val (.int p0), .val (.int p1), .val (.int p2), .val (.int p3), .val (.int p4), .val (.long p5), .second, .val (.int (p0 &&& (3 : Int32))), .val u2, .val u4, .unset, .unset, .unset, .unset, .unset] [(.int p3)])) _
    refine st5 _ ?_
    show Steps p.tables e below (T5.setTop (mkF m 21 #[.val (.int p0), .val (.int p1), .val (.int p2), .val (.int p3), .val (.int p4), .val (.long p5), .second, .val (.int (p0 &&& (3 : Int32))), .val u2, .val u4, .unset, .unset, .unset, .unset, .unset] [u6])) _
    refine XS.astore X5.here hx rfl (hb hby at_21) rfl f5_0 (l' := #[.val (.int p0), .val (.int p1), .val (.int p2), .val (.int p3), .val (.int p4), .val (.long p5), .second, .val (.int (p0 &&& (3 : Int32))), .val u2, .val u4, .val u6, .unset, .unset, .unset, .unset]) (by exact XS.store1 (o := .unset) rfl (Or.inl rfl) (catV f5_0)) ?_
    show Steps p.tables e below (T5.setTop (mkF m 23 #[.val (.int p0), .val (.int p1), .val (.int p2), .val (.int p3), .val (.int p4), .val (.long p5), .second, .val (.int (p0 &&& (3 : Int32))), .val u2, .val u4, .val u6, .unset, .unset, .unset, .unset] [])) _
    refine XS.iload X5.here hx rfl (hb hby at_23) rfl ?_
    show Steps p.tables e below (T5.setTop (mkF m 25 #[.val (.int p0), .val (.int p1), .val (.int p2), .val (.int p3), .val (.int p4), .val (.long p5), .second, .val (.int (p0 &&& (3 : Int32))), .val u2, .val u4, .val u6, .unset, .unset, .unset, .unset] [(.int p4)])) _
    refine st7 _ ?_
    show Steps p.tables e below (T7.setTop (mkF m 28 #[.val (.int p0), .val (.int p1), .val (.int p2), .val (.int p3), .val (.int p4), .val (.long p5), .second, .val (.int (p0 &&& (3 : Int32))), .val u2, .val u4, .val u6, .unset, .unset, .unset, .unset] [u8])) _
    refine XS.astore X7.here hx rfl (hb hby at_28) rfl f7_0 (l' := #[.val (.int p0), .val (.int p1), .val (.int p2), .val (.int p3), .val (.int p4), .val (.long p5), .second, .val (.int (p0 &&& (3 : Int32))), .val u2, .val u4, .val u6, .val u8, .unset, .unset, .unset]) (by exact XS.store1 (o := .unset) rfl (Or.inl rfl) (catV f7_0)) ?_
    exact Steps.refl _
  rcases own_and3 p0 with hk10 | hk10 | hk10 | hk10
  · have s11 := s9
    rw [hk10] at s11
    obtain ⟨T12, h12, X12, e12, E12, A12, D12, -, st12⟩ := newO X7 hx hZ hown (hw _ (List.mem_of_getElem? (i := 14) rfl)) (hw _ (List.mem_of_getElem? (i := 15) rfl)) (hw _ (List.mem_of_getElem? (i := 16) rfl)) e7 (g := (mkF m 30 #[.val (.int p0), .val (.int p1), .val (.int p2), .val (.int p3), .val (.int p4), .val (.long p5), .second, .val (.int (0 : Int32)), .val u2, .val u4, .val u6, .val u8, .unset, .unset, .unset] [])) rfl (hb hby at_30) (by decide) (by decide)
    obtain ⟨b12, g12⟩ : ∃ z, z = h0.size := ⟨_, rfl⟩
    rw [← g12] at A12 D12 st12
    have g_b12 : n0 ≤ b12 := Nat.le_trans (Nat.le_of_eq O0.1.symm) (Nat.le_trans O0.2.1 (Nat.le_of_eq g12.symm))
    have O12 := O0.ext E12
    have F12_firstError : Fld Z h12 b12 "com/example/hot_gate/hotgate/bench/Replies" "firstError" "Ljava/util/concurrent/atomic/AtomicReference;" .null := D12 (Or.inr (hw _ (List.mem_of_getElem? (i := 31) rfl))) (ty := (.object "java/util/concurrent/atomic/AtomicReference")) (by decide)
    have F12_sentAt : Fld Z h12 b12 "com/example/hot_gate/hotgate/bench/Replies" "sentAt" "[J" .null := D12 (Or.inr (hw _ (List.mem_of_getElem? (i := 34) rfl))) (ty := (.array .long)) (by decide)
    have F12_answeredAt : Fld Z h12 b12 "com/example/hot_gate/hotgate/bench/Replies" "answeredAt" "[J" .null := D12 (Or.inr (hw _ (List.mem_of_getElem? (i := 36) rfl))) (ty := (.array .long)) (by decide)
    have F12_outcomes : Fld Z h12 b12 "com/example/hot_gate/hotgate/bench/Replies" "outcomes" "[Lcom/example/hot_gate/hotgate/bench/Outcome;" .null := D12 (Or.inr (hw _ (List.mem_of_getElem? (i := 40) rfl))) (ty := (.array (.object "com/example/hot_gate/hotgate/bench/Outcome"))) (by decide)
    obtain ⟨_, _, ⟨T13, L13, k13, n13⟩, -, X13, ⟨Lc13, hQ13, l13, y13, z13⟩, st13⟩ := X12.specialBack hx (y := (⟨"com/example/hot_gate/hotgate/bench/Replies", "<init>", "(I)V"⟩ : MethodName)) rfl hown (mvT hZ (hw _ (List.mem_of_getElem? (i := 17) rfl))) (mvT hZ (hw _ (List.mem_of_getElem? (i := 18) rfl))) (mvT hZ (hw _ (List.mem_of_getElem? (i := 19) rfl))) (by decide) (backOf (W := 1) (rmi0 l Z a0 hw [] b12 h12 n0 O12 A12 F12_firstError F12_sentAt F12_answeredAt F12_outcomes g_b12) hZ (hw _ (List.mem_of_getElem? (i := 19) rfl)) (hw _ (List.mem_of_getElem? (i := 16) rfl)) (by decide) (by decide)) (g := (mkF m 36 #[.val (.int p0), .val (.int p1), .val (.int p2), .val (.int p3), .val (.int p4), .val (.long p5), .second, .val (.int (0 : Int32)), .val u2, .val u4, .val u6, .val u8, .unset, .unset, .unset] [(.int (0 : Int32)), (.ref b12), (.ref b12)])) rfl (by rw [hml]; rfl) (Steps.refl _) (a := b12) (argsL := [(.int (0 : Int32))]) (rest := [(.ref b12)]) (lenOf pd_rm0_1 rfl) rfl (by show 2 * 0 + _ ≤ _; exact Nat.le_of_eq rfl) (hb hby at_36) (fun _ _ => ⟨rfl, e12, (by decide : 1 + 4 ≤ _), (by decide : 4 + 1 ≤ _)⟩)
    dsimp only [Pt.U, Pt.locs, Pt.cells, Pt.slots] at X13 l13 y13 z13 st13 hQ13
    subst l13 y13 z13
    obtain ⟨u14, u15, u16, u17, u18, u19, rfl, Nq13, Kc13, f13_0, f13_1, f13_2, f13_3, f13_4, f13_5, f13_6, f13_7, f13_8, f13_9, f13_10, f13_11, f13_12, f13_13⟩ := hQ13
    have N13 := Fr.app N7 Nq13
    have ne_b12_u14 : b12 ≠ u14 := Nat.ne_of_lt (Nat.lt_of_lt_of_le A12.lt f13_7)
    have ne_b12_u15 : b12 ≠ u15 := Nat.ne_of_lt (Nat.lt_of_lt_of_le A12.lt f13_8)
    have ne_b12_u16 : b12 ≠ u16 := Nat.ne_of_lt (Nat.lt_of_lt_of_le A12.lt f13_9)
    have g_u14 : n0 ≤ u14 := Nat.le_trans (Nat.le_of_eq O12.1.symm) (Nat.le_trans O12.2.1 f13_7)
    have g_u15 : n0 ≤ u15 := Nat.le_trans (Nat.le_of_eq O12.1.symm) (Nat.le_trans O12.2.1 f13_8)
    have g_u16 : n0 ≤ u16 := Nat.le_trans (Nat.le_of_eq O12.1.symm) (Nat.le_trans O12.2.1 f13_9)
    have O13 := O12.keep Kc13 (allS g_b12 all0)
    obtain ⟨cq20, kq20, q20a, q20b, q20c⟩ := isOf hZ (rfl : T13.heap = T13.heap) f13_0
    obtain ⟨_, _, ⟨T20, L20, k20, n20⟩, -, X20, ⟨Lc20, hQ20, l20, y20, z20⟩, st20⟩ := X13.virtualBack hx (y := (⟨"com/example/hot_gate/hotgate/bench/Replies", "count", "(Lcom/example/hot_gate/hotgate/bench/Outcome;)J"⟩ : MethodName)) (z := (⟨"com/example/hot_gate/hotgate/bench/Replies", "count", "(Lcom/example/hot_gate/hotgate/bench/Outcome;)J"⟩ : MethodName)) hown (mvT hZ (hw _ (List.mem_of_getElem? (i := 41) rfl))) (mvT hZ (hw _ (List.mem_of_getElem? (i := 42) rfl))) (notFace_of_selects (args := #[]) (mvT hZ (hw _ (List.mem_of_getElem? (i := 44) rfl)))) (mvT hZ (hw _ (List.mem_of_getElem? (i := 44) rfl))) (mvT hZ (hw _ (List.mem_of_getElem? (i := 43) rfl))) (by decide) (backOf (W := 0) (rmc0 l Z a0 hw [] b12 u8 u16 u19 T13.heap n0 O13 f13_3 f13_6 f7_0) hZ (hw _ (List.mem_of_getElem? (i := 45) rfl)) (hw _ (List.mem_of_getElem? (i := 16) rfl)) (by decide) (by decide)) q20a q20c (g := (mkF m 168 #[.val (.int p0), .val (.int p1), .val (.int p2), .val (.int p3), .val (.int p4), .val (.long p5), .second, .val (.int (0 : Int32)), .val u2, .val u4, .val u6, .val u8, .val (.ref b12), .val (.long (0 : Int64)), .second] [u8, (.ref b12)])) rfl (by rw [hml]; rfl) (Steps.refl _) (argsL := [u8]) (rest := []) (lenOf pd_rm0_2 rfl) rfl (by show 2 * 0 + _ ≤ _; exact Nat.le_of_eq rfl) (hb hby at_168) (fun _ _ => ⟨rfl, (rfl : T13.heap = T13.heap), (by decide : 5 + 0 ≤ _), (by decide : 5 + 0 ≤ _)⟩)
    dsimp only [Pt.U, Pt.locs, Pt.cells, Pt.slots] at X20 l20 y20 z20 st20 hQ20
    subst l20 y20 z20
    obtain ⟨rfl, Nq20, e20⟩ := hQ20
    have N20 := Fr.app N13 Nq20
    have s21 : Steps p.tables e below (s₁.setTop (entryFrame m #[(.int p0), (.int p1), (.int p2), (.int p3), (.int p4), (.long p5)] maxLocals)) (T20.setTop (mkF m 182 #[.val (.int p0), .val (.int p1), .val (.int p2), .val (.int p3), .val (.int p4), .val (.long p5), .second, .val (.int (0 : Int32)), .val u2, .val u4, .val u6, .val u8, .val (.ref b12), .val (.long (0 : Int64)), .second] [(.int (1 : Int32))])) := by
      refine s11.trans ?_
      show Steps p.tables e below (T7.setTop (mkF m 30 #[.val (.int p0), .val (.int p1), .val (.int p2), .val (.int p3), .val (.int p4), .val (.long p5), .second, .val (.int (0 : Int32)), .val u2, .val u4, .val u6, .val u8, .unset, .unset, .unset] [])) _
      refine st12 _ ?_
      show Steps p.tables e below (T12.setTop (mkF m 33 #[.val (.int p0), .val (.int p1), .val (.int p2), .val (.int p3), .val (.int p4), .val (.long p5), .second, .val (.int (0 : Int32)), .val u2, .val u4, .val u6, .val u8, .unset, .unset, .unset] [(.ref b12)])) _
      refine XS.dup X12.here hx rfl (hb hby at_33) rfl rfl ?_
      show Steps p.tables e below (T12.setTop (mkF m 34 #[.val (.int p0), .val (.int p1), .val (.int p2), .val (.int p3), .val (.int p4), .val (.long p5), .second, .val (.int (0 : Int32)), .val u2, .val u4, .val u6, .val u8, .unset, .unset, .unset] [(.ref b12), (.ref b12)])) _
      refine XS.iload X12.here hx rfl (hb hby at_34) rfl ?_
      show Steps p.tables e below (T12.setTop (mkF m 36 #[.val (.int p0), .val (.int p1), .val (.int p2), .val (.int p3), .val (.int p4), .val (.long p5), .second, .val (.int (0 : Int32)), .val u2, .val u4, .val u6, .val u8, .unset, .unset, .unset] [(.int (0 : Int32)), (.ref b12), (.ref b12)])) _
      refine st13.trans ?_
      show Steps p.tables e below (T13.setTop (mkF m 39 #[.val (.int p0), .val (.int p1), .val (.int p2), .val (.int p3), .val (.int p4), .val (.long p5), .second, .val (.int (0 : Int32)), .val u2, .val u4, .val u6, .val u8, .unset, .unset, .unset] [(.ref b12)])) _
      refine XS.astore X13.here hx rfl (hb hby at_39) rfl rfl (l' := #[.val (.int p0), .val (.int p1), .val (.int p2), .val (.int p3), .val (.int p4), .val (.long p5), .second, .val (.int (0 : Int32)), .val u2, .val u4, .val u6, .val u8, .val (.ref b12), .unset, .unset]) rfl ?_
      show Steps p.tables e below (T13.setTop (mkF m 41 #[.val (.int p0), .val (.int p1), .val (.int p2), .val (.int p3), .val (.int p4), .val (.long p5), .second, .val (.int (0 : Int32)), .val u2, .val u4, .val u6, .val u8, .val (.ref b12), .unset, .unset] [])) _
      refine XS.iload X13.here hx rfl (hb hby at_41) rfl ?_
      show Steps p.tables e below (T13.setTop (mkF m 43 #[.val (.int p0), .val (.int p1), .val (.int p2), .val (.int p3), .val (.int p4), .val (.long p5), .second, .val (.int (0 : Int32)), .val u2, .val u4, .val u6, .val u8, .val (.ref b12), .unset, .unset] [(.int (0 : Int32))])) _
      refine XS.ifYes X13.here hx rfl (pc0 := 43) (pc' := 59) rfl (hb hby at_43) rfl ((if0 _ _).trans (flt (by decide)).2.2.2) (by decide) (by decide) ?_
      show Steps p.tables e below (T13.setTop (mkF m 59 #[.val (.int p0), .val (.int p1), .val (.int p2), .val (.int p3), .val (.int p4), .val (.long p5), .second, .val (.int (0 : Int32)), .val u2, .val u4, .val u6, .val u8, .val (.ref b12), .unset, .unset] [])) _
      refine XS.iload X13.here hx rfl (hb hby at_59) rfl ?_
      show Steps p.tables e below (T13.setTop (mkF m 61 #[.val (.int p0), .val (.int p1), .val (.int p2), .val (.int p3), .val (.int p4), .val (.long p5), .second, .val (.int (0 : Int32)), .val u2, .val u4, .val u6, .val u8, .val (.ref b12), .unset, .unset] [(.int (0 : Int32))])) _
      refine XS.iconst X13.here hx rfl (hb hby at_61) ?_
      show Steps p.tables e below (T13.setTop (mkF m 62 #[.val (.int p0), .val (.int p1), .val (.int p2), .val (.int p3), .val (.int p4), .val (.long p5), .second, .val (.int (0 : Int32)), .val u2, .val u4, .val u6, .val u8, .val (.ref b12), .unset, .unset] [(.int (1 : Int32)), (.int (0 : Int32))])) _
      refine XS.icmpYes X13.here hx rfl (pc0 := 62) (pc' := 82) rfl (hb hby at_62) rfl (flt (by decide)).2.2.2 (by decide) (by decide) ?_
      show Steps p.tables e below (T13.setTop (mkF m 82 #[.val (.int p0), .val (.int p1), .val (.int p2), .val (.int p3), .val (.int p4), .val (.long p5), .second, .val (.int (0 : Int32)), .val u2, .val u4, .val u6, .val u8, .val (.ref b12), .unset, .unset] [])) _
      refine XS.iload X13.here hx rfl (hb hby at_82) rfl ?_
      show Steps p.tables e below (T13.setTop (mkF m 84 #[.val (.int p0), .val (.int p1), .val (.int p2), .val (.int p3), .val (.int p4), .val (.long p5), .second, .val (.int (0 : Int32)), .val u2, .val u4, .val u6, .val u8, .val (.ref b12), .unset, .unset] [(.int (0 : Int32))])) _
      refine XS.iconst X13.here hx rfl (hb hby at_84) ?_
      show Steps p.tables e below (T13.setTop (mkF m 85 #[.val (.int p0), .val (.int p1), .val (.int p2), .val (.int p3), .val (.int p4), .val (.long p5), .second, .val (.int (0 : Int32)), .val u2, .val u4, .val u6, .val u8, .val (.ref b12), .unset, .unset] [(.int (2 : Int32)), (.int (0 : Int32))])) _
      refine XS.icmpYes X13.here hx rfl (pc0 := 85) (pc' := 105) rfl (hb hby at_85) rfl (flt (by decide)).2.2.2 (by decide) (by decide) ?_
      show Steps p.tables e below (T13.setTop (mkF m 105 #[.val (.int p0), .val (.int p1), .val (.int p2), .val (.int p3), .val (.int p4), .val (.long p5), .second, .val (.int (0 : Int32)), .val u2, .val u4, .val u6, .val u8, .val (.ref b12), .unset, .unset] [])) _
      refine XS.lconst X13.here hx rfl (hb hby at_105) ?_
      show Steps p.tables e below (T13.setTop (mkF m 106 #[.val (.int p0), .val (.int p1), .val (.int p2), .val (.int p3), .val (.int p4), .val (.long p5), .second, .val (.int (0 : Int32)), .val u2, .val u4, .val u6, .val u8, .val (.ref b12), .unset, .unset] [(.long (0 : Int64))])) _
      refine XS.lstore X13.here hx rfl (hb hby at_106) rfl (l' := #[.val (.int p0), .val (.int p1), .val (.int p2), .val (.int p3), .val (.int p4), .val (.long p5), .second, .val (.int (0 : Int32)), .val u2, .val u4, .val u6, .val u8, .val (.ref b12), .val (.long (0 : Int64)), .second]) rfl ?_
      show Steps p.tables e below (T13.setTop (mkF m 108 #[.val (.int p0), .val (.int p1), .val (.int p2), .val (.int p3), .val (.int p4), .val (.long p5), .second, .val (.int (0 : Int32)), .val u2, .val u4, .val u6, .val u8, .val (.ref b12), .val (.long (0 : Int64)), .second] [])) _
      refine XS.iload X13.here hx rfl (hb hby at_108) rfl ?_
      show Steps p.tables e below (T13.setTop (mkF m 110 #[.val (.int p0), .val (.int p1), .val (.int p2), .val (.int p3), .val (.int p4), .val (.long p5), .second, .val (.int (0 : Int32)), .val u2, .val u4, .val u6, .val u8, .val (.ref b12), .val (.long (0 : Int64)), .second] [(.int (0 : Int32))])) _
      refine XS.ifYes X13.here hx rfl (pc0 := 110) (pc' := 126) rfl (hb hby at_110) rfl ((if0 _ _).trans (flt (by decide)).2.2.2) (by decide) (by decide) ?_
      show Steps p.tables e below (T13.setTop (mkF m 126 #[.val (.int p0), .val (.int p1), .val (.int p2), .val (.int p3), .val (.int p4), .val (.long p5), .second, .val (.int (0 : Int32)), .val u2, .val u4, .val u6, .val u8, .val (.ref b12), .val (.long (0 : Int64)), .second] [])) _
      refine XS.iload X13.here hx rfl (hb hby at_126) rfl ?_
      show Steps p.tables e below (T13.setTop (mkF m 128 #[.val (.int p0), .val (.int p1), .val (.int p2), .val (.int p3), .val (.int p4), .val (.long p5), .second, .val (.int (0 : Int32)), .val u2, .val u4, .val u6, .val u8, .val (.ref b12), .val (.long (0 : Int64)), .second] [(.int (0 : Int32))])) _
      refine XS.iconst X13.here hx rfl (hb hby at_128) ?_
      show Steps p.tables e below (T13.setTop (mkF m 129 #[.val (.int p0), .val (.int p1), .val (.int p2), .val (.int p3), .val (.int p4), .val (.long p5), .second, .val (.int (0 : Int32)), .val u2, .val u4, .val u6, .val u8, .val (.ref b12), .val (.long (0 : Int64)), .second] [(.int (1 : Int32)), (.int (0 : Int32))])) _
      refine XS.icmpYes X13.here hx rfl (pc0 := 129) (pc' := 145) rfl (hb hby at_129) rfl (flt (by decide)).2.2.2 (by decide) (by decide) ?_
      show Steps p.tables e below (T13.setTop (mkF m 145 #[.val (.int p0), .val (.int p1), .val (.int p2), .val (.int p3), .val (.int p4), .val (.long p5), .second, .val (.int (0 : Int32)), .val u2, .val u4, .val u6, .val u8, .val (.ref b12), .val (.long (0 : Int64)), .second] [])) _
      refine XS.iload X13.here hx rfl (hb hby at_145) rfl ?_
      show Steps p.tables e below (T13.setTop (mkF m 147 #[.val (.int p0), .val (.int p1), .val (.int p2), .val (.int p3), .val (.int p4), .val (.long p5), .second, .val (.int (0 : Int32)), .val u2, .val u4, .val u6, .val u8, .val (.ref b12), .val (.long (0 : Int64)), .second] [(.int (0 : Int32))])) _
      refine XS.iconst X13.here hx rfl (hb hby at_147) ?_
      show Steps p.tables e below (T13.setTop (mkF m 148 #[.val (.int p0), .val (.int p1), .val (.int p2), .val (.int p3), .val (.int p4), .val (.long p5), .second, .val (.int (0 : Int32)), .val u2, .val u4, .val u6, .val u8, .val (.ref b12), .val (.long (0 : Int64)), .second] [(.int (2 : Int32)), (.int (0 : Int32))])) _
      refine XS.icmpYes X13.here hx rfl (pc0 := 148) (pc' := 164) rfl (hb hby at_148) rfl (flt (by decide)).2.2.2 (by decide) (by decide) ?_
      show Steps p.tables e below (T13.setTop (mkF m 164 #[.val (.int p0), .val (.int p1), .val (.int p2), .val (.int p3), .val (.int p4), .val (.long p5), .second, .val (.int (0 : Int32)), .val u2, .val u4, .val u6, .val u8, .val (.ref b12), .val (.long (0 : Int64)), .second] [])) _
      refine XS.aload X13.here hx rfl (hb hby at_164) rfl rfl ?_
      show Steps p.tables e below (T13.setTop (mkF m 166 #[.val (.int p0), .val (.int p1), .val (.int p2), .val (.int p3), .val (.int p4), .val (.long p5), .second, .val (.int (0 : Int32)), .val u2, .val u4, .val u6, .val u8, .val (.ref b12), .val (.long (0 : Int64)), .second] [(.ref b12)])) _
      refine XS.aload X13.here hx rfl (hb hby at_166) rfl f7_0 ?_
      show Steps p.tables e below (T13.setTop (mkF m 168 #[.val (.int p0), .val (.int p1), .val (.int p2), .val (.int p3), .val (.int p4), .val (.long p5), .second, .val (.int (0 : Int32)), .val u2, .val u4, .val u6, .val u8, .val (.ref b12), .val (.long (0 : Int64)), .second] [u8, (.ref b12)])) _
      refine st20.trans ?_
      show Steps p.tables e below (T20.setTop (mkF m 171 #[.val (.int p0), .val (.int p1), .val (.int p2), .val (.int p3), .val (.int p4), .val (.long p5), .second, .val (.int (0 : Int32)), .val u2, .val u4, .val u6, .val u8, .val (.ref b12), .val (.long (0 : Int64)), .second] [(.long (0 : Int64))])) _
      refine XS.lload X20.here hx rfl (hb hby at_171) rfl ?_
      show Steps p.tables e below (T20.setTop (mkF m 173 #[.val (.int p0), .val (.int p1), .val (.int p2), .val (.int p3), .val (.int p4), .val (.long p5), .second, .val (.int (0 : Int32)), .val u2, .val u4, .val u6, .val u8, .val (.ref b12), .val (.long (0 : Int64)), .second] [(.long (0 : Int64)), (.long (0 : Int64))])) _
      refine XS.lcmp X20.here hx rfl (hb hby at_173) rfl ?_
      show Steps p.tables e below (T20.setTop (mkF m 174 #[.val (.int p0), .val (.int p1), .val (.int p2), .val (.int p3), .val (.int p4), .val (.long p5), .second, .val (.int (0 : Int32)), .val u2, .val u4, .val u6, .val u8, .val (.ref b12), .val (.long (0 : Int64)), .second] [(.int (lcmpW (0 : Int64) (0 : Int64)))])) _
      refine XS.ifNo X20.here hx rfl (hb hby at_174) rfl ((if0 _ _).trans (teq ((lw_eq _ _).mpr rfl)).2) ?_
      show Steps p.tables e below (T20.setTop (mkF m 177 #[.val (.int p0), .val (.int p1), .val (.int p2), .val (.int p3), .val (.int p4), .val (.long p5), .second, .val (.int (0 : Int32)), .val u2, .val u4, .val u6, .val u8, .val (.ref b12), .val (.long (0 : Int64)), .second] [])) _
      refine XS.iconst X20.here hx rfl (hb hby at_177) ?_
      show Steps p.tables e below (T20.setTop (mkF m 178 #[.val (.int p0), .val (.int p1), .val (.int p2), .val (.int p3), .val (.int p4), .val (.long p5), .second, .val (.int (0 : Int32)), .val u2, .val u4, .val u6, .val u8, .val (.ref b12), .val (.long (0 : Int64)), .second] [(.int (1 : Int32))])) _
      refine XS.goto X20.here hx rfl (pc0 := 178) (pc' := 182) rfl (hb hby at_178) (by decide) (by decide) ?_
      exact Steps.refl _
    obtain ⟨fs, hr, hrun, hended, hW, hsame⟩ := X20.leave (v := some (.int (1 : Int32))) (fun h => by rw [Bd.returns] at h; cases h)
    refine ⟨_, _, s21.trans ?_, hrun, hended, _, _, rfl, ?_, ⟨_, rfl⟩, hW, hsame.mono (by decide) (by decide)⟩
    · show Steps p.tables e below (T20.setTop (mkF m 182 #[.val (.int p0), .val (.int p1), .val (.int p2), .val (.int p3), .val (.int p4), .val (.long p5), .second, .val (.int (0 : Int32)), .val u2, .val u4, .val u6, .val u8, .val (.ref b12), .val (.long (0 : Int64)), .second] [(.int (1 : Int32))])) _
      exact retN X20 hx (t := .boolean) Bd.returns (by simp) (hb hby at_182) hr
    · show Q0 Z p0 p1 p2 p3 p4 p5 v_ERROR v_SOLD_OUT v_ALREADY_CLAIMED v_ACCEPTED h0 n0 _ T20.heap _
      rw [e20]
      exact ⟨rfl, N20⟩
  · have s22 := s9
    rw [hk10] at s22
    obtain ⟨T23, h23, X23, e23, E23, A23, D23, -, st23⟩ := newO X7 hx hZ hown (hw _ (List.mem_of_getElem? (i := 14) rfl)) (hw _ (List.mem_of_getElem? (i := 15) rfl)) (hw _ (List.mem_of_getElem? (i := 16) rfl)) e7 (g := (mkF m 30 #[.val (.int p0), .val (.int p1), .val (.int p2), .val (.int p3), .val (.int p4), .val (.long p5), .second, .val (.int (1 : Int32)), .val u2, .val u4, .val u6, .val u8, .unset, .unset, .unset] [])) rfl (hb hby at_30) (by decide) (by decide)
    obtain ⟨b23, g23⟩ : ∃ z, z = h0.size := ⟨_, rfl⟩
    rw [← g23] at A23 D23 st23
    have g_b23 : n0 ≤ b23 := Nat.le_trans (Nat.le_of_eq O0.1.symm) (Nat.le_trans O0.2.1 (Nat.le_of_eq g23.symm))
    have O23 := O0.ext E23
    have F23_firstError : Fld Z h23 b23 "com/example/hot_gate/hotgate/bench/Replies" "firstError" "Ljava/util/concurrent/atomic/AtomicReference;" .null := D23 (Or.inr (hw _ (List.mem_of_getElem? (i := 31) rfl))) (ty := (.object "java/util/concurrent/atomic/AtomicReference")) (by decide)
    have F23_sentAt : Fld Z h23 b23 "com/example/hot_gate/hotgate/bench/Replies" "sentAt" "[J" .null := D23 (Or.inr (hw _ (List.mem_of_getElem? (i := 34) rfl))) (ty := (.array .long)) (by decide)
    have F23_answeredAt : Fld Z h23 b23 "com/example/hot_gate/hotgate/bench/Replies" "answeredAt" "[J" .null := D23 (Or.inr (hw _ (List.mem_of_getElem? (i := 36) rfl))) (ty := (.array .long)) (by decide)
    have F23_outcomes : Fld Z h23 b23 "com/example/hot_gate/hotgate/bench/Replies" "outcomes" "[Lcom/example/hot_gate/hotgate/bench/Outcome;" .null := D23 (Or.inr (hw _ (List.mem_of_getElem? (i := 40) rfl))) (ty := (.array (.object "com/example/hot_gate/hotgate/bench/Outcome"))) (by decide)
    obtain ⟨_, _, ⟨T24, L24, k24, n24⟩, -, X24, ⟨Lc24, hQ24, l24, y24, z24⟩, st24⟩ := X23.specialBack hx (y := (⟨"com/example/hot_gate/hotgate/bench/Replies", "<init>", "(I)V"⟩ : MethodName)) rfl hown (mvT hZ (hw _ (List.mem_of_getElem? (i := 17) rfl))) (mvT hZ (hw _ (List.mem_of_getElem? (i := 18) rfl))) (mvT hZ (hw _ (List.mem_of_getElem? (i := 19) rfl))) (by decide) (backOf (W := 1) (rmi1 l Z a0 hw [] b23 h23 n0 O23 A23 F23_firstError F23_sentAt F23_answeredAt F23_outcomes g_b23) hZ (hw _ (List.mem_of_getElem? (i := 19) rfl)) (hw _ (List.mem_of_getElem? (i := 16) rfl)) (by decide) (by decide)) (g := (mkF m 36 #[.val (.int p0), .val (.int p1), .val (.int p2), .val (.int p3), .val (.int p4), .val (.long p5), .second, .val (.int (1 : Int32)), .val u2, .val u4, .val u6, .val u8, .unset, .unset, .unset] [(.int (1 : Int32)), (.ref b23), (.ref b23)])) rfl (by rw [hml]; rfl) (Steps.refl _) (a := b23) (argsL := [(.int (1 : Int32))]) (rest := [(.ref b23)]) (lenOf pd_rm0_1 rfl) rfl (by show 2 * 0 + _ ≤ _; exact Nat.le_of_eq rfl) (hb hby at_36) (fun _ _ => ⟨rfl, e23, (by decide : 1 + 4 ≤ _), (by decide : 4 + 4 ≤ _)⟩)
    dsimp only [Pt.U, Pt.locs, Pt.cells, Pt.slots] at X24 l24 y24 z24 st24 hQ24
    subst l24 y24 z24
    obtain ⟨u25, u26, u27, u28, u29, u30, rfl, Nq24, Kc24, f24_0, f24_1, f24_2, f24_3, f24_4, f24_5, f24_6, f24_7, f24_8, f24_9, f24_10, f24_11, f24_12, f24_13⟩ := hQ24
    have N24 := Fr.app N7 Nq24
    have ne_b23_u25 : b23 ≠ u25 := Nat.ne_of_lt (Nat.lt_of_lt_of_le A23.lt f24_7)
    have ne_b23_u26 : b23 ≠ u26 := Nat.ne_of_lt (Nat.lt_of_lt_of_le A23.lt f24_8)
    have ne_b23_u27 : b23 ≠ u27 := Nat.ne_of_lt (Nat.lt_of_lt_of_le A23.lt f24_9)
    have g_u25 : n0 ≤ u25 := Nat.le_trans (Nat.le_of_eq O23.1.symm) (Nat.le_trans O23.2.1 f24_7)
    have g_u26 : n0 ≤ u26 := Nat.le_trans (Nat.le_of_eq O23.1.symm) (Nat.le_trans O23.2.1 f24_8)
    have g_u27 : n0 ≤ u27 := Nat.le_trans (Nat.le_of_eq O23.1.symm) (Nat.le_trans O23.2.1 f24_9)
    have O24 := O23.keep Kc24 (allS g_b23 all0)
    obtain ⟨cq31, kq31, q31a, q31b, q31c⟩ := isOf hZ (rfl : T24.heap = T24.heap) f24_0
    obtain ⟨_, _, ⟨T31, L31, k31, n31⟩, -, X31, ⟨Lc31, hQ31, l31, y31, z31⟩, st31⟩ := X24.virtualBack hx (y := (⟨"com/example/hot_gate/hotgate/bench/Replies", "record", "(IJJLcom/example/hot_gate/hotgate/bench/Outcome;Ljava/lang/String;)V"⟩ : MethodName)) (z := (⟨"com/example/hot_gate/hotgate/bench/Replies", "record", "(IJJLcom/example/hot_gate/hotgate/bench/Outcome;Ljava/lang/String;)V"⟩ : MethodName)) hown (mvT hZ (hw _ (List.mem_of_getElem? (i := 46) rfl))) (mvT hZ (hw _ (List.mem_of_getElem? (i := 47) rfl))) (notFace_of_selects (args := #[]) (mvT hZ (hw _ (List.mem_of_getElem? (i := 49) rfl)))) (mvT hZ (hw _ (List.mem_of_getElem? (i := 49) rfl))) (mvT hZ (hw _ (List.mem_of_getElem? (i := 48) rfl))) (by decide) (backOf (W := 0) (rmr1_0 l Z a0 hw [] b23 p5 p5 u2 u25 u26 u27 u28 u29 u30 (0 : Int64) (0 : Int64) T24.heap n0 O24 f24_1 f24_2 f24_3 f24_4 f24_5 f24_6 g_u25 g_u26 g_u27 f24_10 f24_11 f24_12 ne_b23_u25 ne_b23_u26 ne_b23_u27 f24_13 f1_1 f1_0) hZ (hw _ (List.mem_of_getElem? (i := 50) rfl)) (hw _ (List.mem_of_getElem? (i := 16) rfl)) (by decide) (by decide)) q31a q31c (g := (mkF m 56 #[.val (.int p0), .val (.int p1), .val (.int p2), .val (.int p3), .val (.int p4), .val (.long p5), .second, .val (.int (1 : Int32)), .val u2, .val u4, .val u6, .val u8, .val (.ref b23), .unset, .unset] [.null, u2, (.long p5), (.long p5), (.int (0 : Int32)), (.ref b23)])) rfl (by rw [hml]; rfl) (Steps.refl _) (argsL := [(.int (0 : Int32)), (.long p5), (.long p5), u2, .null]) (rest := []) (lenOf pd_rm0_3 rfl) rfl (by show 2 * 0 + _ ≤ _; exact Nat.le_of_eq rfl) (hb hby at_56) (fun _ _ => ⟨rfl, (rfl : T24.heap = T24.heap), (by decide : 5 + 0 ≤ _), (by decide : 8 + 0 ≤ _)⟩)
    dsimp only [Pt.U, Pt.locs, Pt.cells, Pt.slots] at X31 l31 y31 z31 st31 hQ31
    subst l31 y31 z31
    obtain ⟨rfl, Nq31, Kc31, f31_0, f31_1, f31_2⟩ := hQ31
    have N31 := Fr.app N24 Nq31
    have O31 := O24.keep Kc31 (allS g_u25 (allS g_u26 (allS g_u27 all0)))
    have s32 : Steps p.tables e below (s₁.setTop (entryFrame m #[(.int p0), (.int p1), (.int p2), (.int p3), (.int p4), (.long p5)] maxLocals)) (T31.setTop (mkF m 117 #[.val (.int p0), .val (.int p1), .val (.int p2), .val (.int p3), .val (.int p4), .val (.long p5), .second, .val (.int (1 : Int32)), .val u2, .val u4, .val u6, .val u8, .val (.ref b23), .val (.long (0 : Int64)), .second] [u8, u2])) := by
      refine s22.trans ?_
      show Steps p.tables e below (T7.setTop (mkF m 30 #[.val (.int p0), .val (.int p1), .val (.int p2), .val (.int p3), .val (.int p4), .val (.long p5), .second, .val (.int (1 : Int32)), .val u2, .val u4, .val u6, .val u8, .unset, .unset, .unset] [])) _
      refine st23 _ ?_
      show Steps p.tables e below (T23.setTop (mkF m 33 #[.val (.int p0), .val (.int p1), .val (.int p2), .val (.int p3), .val (.int p4), .val (.long p5), .second, .val (.int (1 : Int32)), .val u2, .val u4, .val u6, .val u8, .unset, .unset, .unset] [(.ref b23)])) _
      refine XS.dup X23.here hx rfl (hb hby at_33) rfl rfl ?_
      show Steps p.tables e below (T23.setTop (mkF m 34 #[.val (.int p0), .val (.int p1), .val (.int p2), .val (.int p3), .val (.int p4), .val (.long p5), .second, .val (.int (1 : Int32)), .val u2, .val u4, .val u6, .val u8, .unset, .unset, .unset] [(.ref b23), (.ref b23)])) _
      refine XS.iload X23.here hx rfl (hb hby at_34) rfl ?_
      show Steps p.tables e below (T23.setTop (mkF m 36 #[.val (.int p0), .val (.int p1), .val (.int p2), .val (.int p3), .val (.int p4), .val (.long p5), .second, .val (.int (1 : Int32)), .val u2, .val u4, .val u6, .val u8, .unset, .unset, .unset] [(.int (1 : Int32)), (.ref b23), (.ref b23)])) _
      refine st24.trans ?_
      show Steps p.tables e below (T24.setTop (mkF m 39 #[.val (.int p0), .val (.int p1), .val (.int p2), .val (.int p3), .val (.int p4), .val (.long p5), .second, .val (.int (1 : Int32)), .val u2, .val u4, .val u6, .val u8, .unset, .unset, .unset] [(.ref b23)])) _
      refine XS.astore X24.here hx rfl (hb hby at_39) rfl rfl (l' := #[.val (.int p0), .val (.int p1), .val (.int p2), .val (.int p3), .val (.int p4), .val (.long p5), .second, .val (.int (1 : Int32)), .val u2, .val u4, .val u6, .val u8, .val (.ref b23), .unset, .unset]) rfl ?_
      show Steps p.tables e below (T24.setTop (mkF m 41 #[.val (.int p0), .val (.int p1), .val (.int p2), .val (.int p3), .val (.int p4), .val (.long p5), .second, .val (.int (1 : Int32)), .val u2, .val u4, .val u6, .val u8, .val (.ref b23), .unset, .unset] [])) _
      refine XS.iload X24.here hx rfl (hb hby at_41) rfl ?_
      show Steps p.tables e below (T24.setTop (mkF m 43 #[.val (.int p0), .val (.int p1), .val (.int p2), .val (.int p3), .val (.int p4), .val (.long p5), .second, .val (.int (1 : Int32)), .val u2, .val u4, .val u6, .val u8, .val (.ref b23), .unset, .unset] [(.int (1 : Int32))])) _
      refine XS.ifNo X24.here hx rfl (hb hby at_43) rfl ((if0 _ _).trans (tlt (by decide)).2.2.2) ?_
      show Steps p.tables e below (T24.setTop (mkF m 46 #[.val (.int p0), .val (.int p1), .val (.int p2), .val (.int p3), .val (.int p4), .val (.long p5), .second, .val (.int (1 : Int32)), .val u2, .val u4, .val u6, .val u8, .val (.ref b23), .unset, .unset] [])) _
      refine XS.aload X24.here hx rfl (hb hby at_46) rfl rfl ?_
      show Steps p.tables e below (T24.setTop (mkF m 48 #[.val (.int p0), .val (.int p1), .val (.int p2), .val (.int p3), .val (.int p4), .val (.long p5), .second, .val (.int (1 : Int32)), .val u2, .val u4, .val u6, .val u8, .val (.ref b23), .unset, .unset] [(.ref b23)])) _
      refine XS.iconst X24.here hx rfl (hb hby at_48) ?_
      show Steps p.tables e below (T24.setTop (mkF m 49 #[.val (.int p0), .val (.int p1), .val (.int p2), .val (.int p3), .val (.int p4), .val (.long p5), .second, .val (.int (1 : Int32)), .val u2, .val u4, .val u6, .val u8, .val (.ref b23), .unset, .unset] [(.int (0 : Int32)), (.ref b23)])) _
      refine XS.lload X24.here hx rfl (hb hby at_49) rfl ?_
      show Steps p.tables e below (T24.setTop (mkF m 51 #[.val (.int p0), .val (.int p1), .val (.int p2), .val (.int p3), .val (.int p4), .val (.long p5), .second, .val (.int (1 : Int32)), .val u2, .val u4, .val u6, .val u8, .val (.ref b23), .unset, .unset] [(.long p5), (.int (0 : Int32)), (.ref b23)])) _
      refine XS.lload X24.here hx rfl (hb hby at_51) rfl ?_
      show Steps p.tables e below (T24.setTop (mkF m 53 #[.val (.int p0), .val (.int p1), .val (.int p2), .val (.int p3), .val (.int p4), .val (.long p5), .second, .val (.int (1 : Int32)), .val u2, .val u4, .val u6, .val u8, .val (.ref b23), .unset, .unset] [(.long p5), (.long p5), (.int (0 : Int32)), (.ref b23)])) _
      refine XS.aload X24.here hx rfl (hb hby at_53) rfl f1_0 ?_
      show Steps p.tables e below (T24.setTop (mkF m 55 #[.val (.int p0), .val (.int p1), .val (.int p2), .val (.int p3), .val (.int p4), .val (.long p5), .second, .val (.int (1 : Int32)), .val u2, .val u4, .val u6, .val u8, .val (.ref b23), .unset, .unset] [u2, (.long p5), (.long p5), (.int (0 : Int32)), (.ref b23)])) _
      refine XS.aconstNull X24.here hx rfl (hb hby at_55) ?_
      show Steps p.tables e below (T24.setTop (mkF m 56 #[.val (.int p0), .val (.int p1), .val (.int p2), .val (.int p3), .val (.int p4), .val (.long p5), .second, .val (.int (1 : Int32)), .val u2, .val u4, .val u6, .val u8, .val (.ref b23), .unset, .unset] [.null, u2, (.long p5), (.long p5), (.int (0 : Int32)), (.ref b23)])) _
      refine st31.trans ?_
      show Steps p.tables e below (T31.setTop (mkF m 59 #[.val (.int p0), .val (.int p1), .val (.int p2), .val (.int p3), .val (.int p4), .val (.long p5), .second, .val (.int (1 : Int32)), .val u2, .val u4, .val u6, .val u8, .val (.ref b23), .unset, .unset] [])) _
      refine XS.iload X31.here hx rfl (hb hby at_59) rfl ?_
      show Steps p.tables e below (T31.setTop (mkF m 61 #[.val (.int p0), .val (.int p1), .val (.int p2), .val (.int p3), .val (.int p4), .val (.long p5), .second, .val (.int (1 : Int32)), .val u2, .val u4, .val u6, .val u8, .val (.ref b23), .unset, .unset] [(.int (1 : Int32))])) _
      refine XS.iconst X31.here hx rfl (hb hby at_61) ?_
      show Steps p.tables e below (T31.setTop (mkF m 62 #[.val (.int p0), .val (.int p1), .val (.int p2), .val (.int p3), .val (.int p4), .val (.long p5), .second, .val (.int (1 : Int32)), .val u2, .val u4, .val u6, .val u8, .val (.ref b23), .unset, .unset] [(.int (1 : Int32)), (.int (1 : Int32))])) _
      refine XS.icmpYes X31.here hx rfl (pc0 := 62) (pc' := 82) rfl (hb hby at_62) rfl (flt (by decide)).2.2.2 (by decide) (by decide) ?_
      show Steps p.tables e below (T31.setTop (mkF m 82 #[.val (.int p0), .val (.int p1), .val (.int p2), .val (.int p3), .val (.int p4), .val (.long p5), .second, .val (.int (1 : Int32)), .val u2, .val u4, .val u6, .val u8, .val (.ref b23), .unset, .unset] [])) _
      refine XS.iload X31.here hx rfl (hb hby at_82) rfl ?_
      show Steps p.tables e below (T31.setTop (mkF m 84 #[.val (.int p0), .val (.int p1), .val (.int p2), .val (.int p3), .val (.int p4), .val (.long p5), .second, .val (.int (1 : Int32)), .val u2, .val u4, .val u6, .val u8, .val (.ref b23), .unset, .unset] [(.int (1 : Int32))])) _
      refine XS.iconst X31.here hx rfl (hb hby at_84) ?_
      show Steps p.tables e below (T31.setTop (mkF m 85 #[.val (.int p0), .val (.int p1), .val (.int p2), .val (.int p3), .val (.int p4), .val (.long p5), .second, .val (.int (1 : Int32)), .val u2, .val u4, .val u6, .val u8, .val (.ref b23), .unset, .unset] [(.int (2 : Int32)), (.int (1 : Int32))])) _
      refine XS.icmpYes X31.here hx rfl (pc0 := 85) (pc' := 105) rfl (hb hby at_85) rfl (flt (by decide)).2.2.2 (by decide) (by decide) ?_
      show Steps p.tables e below (T31.setTop (mkF m 105 #[.val (.int p0), .val (.int p1), .val (.int p2), .val (.int p3), .val (.int p4), .val (.long p5), .second, .val (.int (1 : Int32)), .val u2, .val u4, .val u6, .val u8, .val (.ref b23), .unset, .unset] [])) _
      refine XS.lconst X31.here hx rfl (hb hby at_105) ?_
      show Steps p.tables e below (T31.setTop (mkF m 106 #[.val (.int p0), .val (.int p1), .val (.int p2), .val (.int p3), .val (.int p4), .val (.long p5), .second, .val (.int (1 : Int32)), .val u2, .val u4, .val u6, .val u8, .val (.ref b23), .unset, .unset] [(.long (0 : Int64))])) _
      refine XS.lstore X31.here hx rfl (hb hby at_106) rfl (l' := #[.val (.int p0), .val (.int p1), .val (.int p2), .val (.int p3), .val (.int p4), .val (.long p5), .second, .val (.int (1 : Int32)), .val u2, .val u4, .val u6, .val u8, .val (.ref b23), .val (.long (0 : Int64)), .second]) rfl ?_
      show Steps p.tables e below (T31.setTop (mkF m 108 #[.val (.int p0), .val (.int p1), .val (.int p2), .val (.int p3), .val (.int p4), .val (.long p5), .second, .val (.int (1 : Int32)), .val u2, .val u4, .val u6, .val u8, .val (.ref b23), .val (.long (0 : Int64)), .second] [])) _
      refine XS.iload X31.here hx rfl (hb hby at_108) rfl ?_
      show Steps p.tables e below (T31.setTop (mkF m 110 #[.val (.int p0), .val (.int p1), .val (.int p2), .val (.int p3), .val (.int p4), .val (.long p5), .second, .val (.int (1 : Int32)), .val u2, .val u4, .val u6, .val u8, .val (.ref b23), .val (.long (0 : Int64)), .second] [(.int (1 : Int32))])) _
      refine XS.ifNo X31.here hx rfl (hb hby at_110) rfl ((if0 _ _).trans (tlt (by decide)).2.2.2) ?_
      show Steps p.tables e below (T31.setTop (mkF m 113 #[.val (.int p0), .val (.int p1), .val (.int p2), .val (.int p3), .val (.int p4), .val (.long p5), .second, .val (.int (1 : Int32)), .val u2, .val u4, .val u6, .val u8, .val (.ref b23), .val (.long (0 : Int64)), .second] [])) _
      refine XS.aload X31.here hx rfl (hb hby at_113) rfl f1_0 ?_
      show Steps p.tables e below (T31.setTop (mkF m 115 #[.val (.int p0), .val (.int p1), .val (.int p2), .val (.int p3), .val (.int p4), .val (.long p5), .second, .val (.int (1 : Int32)), .val u2, .val u4, .val u6, .val u8, .val (.ref b23), .val (.long (0 : Int64)), .second] [u2])) _
      refine XS.aload X31.here hx rfl (hb hby at_115) rfl f7_0 ?_
      exact Steps.refl _
    have s34 : Steps p.tables e below (s₁.setTop (entryFrame m #[(.int p0), (.int p1), (.int p2), (.int p3), (.int p4), (.long p5)] maxLocals)) (T31.setTop (mkF m 126 #[.val (.int p0), .val (.int p1), .val (.int p2), .val (.int p3), .val (.int p4), .val (.long p5), .second, .val (.int (1 : Int32)), .val u2, .val u4, .val u6, .val u8, .val (.ref b23), .val (.long (if u2 = u8 then (1 : Int64) else (0 : Int64))), .second] [])) := by
      by_cases hm33 : u2 = u8
      · simp only [if_pos hm33]
        refine s32.trans ?_
        show Steps p.tables e below (T31.setTop (mkF m 117 #[.val (.int p0), .val (.int p1), .val (.int p2), .val (.int p3), .val (.int p4), .val (.long p5), .second, .val (.int (1 : Int32)), .val u2, .val u4, .val u6, .val u8, .val (.ref b23), .val (.long (0 : Int64)), .second] [u8, u2])) _
        refine Jvm.RoadKit.acmp (g := (mkF m 117 #[.val (.int p0), .val (.int p1), .val (.int p2), .val (.int p3), .val (.int p4), .val (.long p5), .second, .val (.int (1 : Int32)), .val u2, .val u4, .val u6, .val u8, .val (.ref b23), .val (.long (0 : Int64)), .second] [u8, u2])) X31 hx rfl f1_0 f7_0 (pc0 := 117) (pc' := 120) (same := true) rfl (hb hby at_117) rfl (decide_eq_true hm33) (by decide) (by decide) ?_
        show Steps p.tables e below (T31.setTop (mkF m 120 #[.val (.int p0), .val (.int p1), .val (.int p2), .val (.int p3), .val (.int p4), .val (.long p5), .second, .val (.int (1 : Int32)), .val u2, .val u4, .val u6, .val u8, .val (.ref b23), .val (.long (0 : Int64)), .second] [])) _
        refine XS.lload X31.here hx rfl (hb hby at_120) rfl ?_
        show Steps p.tables e below (T31.setTop (mkF m 122 #[.val (.int p0), .val (.int p1), .val (.int p2), .val (.int p3), .val (.int p4), .val (.long p5), .second, .val (.int (1 : Int32)), .val u2, .val u4, .val u6, .val u8, .val (.ref b23), .val (.long (0 : Int64)), .second] [(.long (0 : Int64))])) _
        refine XS.lconst X31.here hx rfl (hb hby at_122) ?_
        show Steps p.tables e below (T31.setTop (mkF m 123 #[.val (.int p0), .val (.int p1), .val (.int p2), .val (.int p3), .val (.int p4), .val (.long p5), .second, .val (.int (1 : Int32)), .val u2, .val u4, .val u6, .val u8, .val (.ref b23), .val (.long (0 : Int64)), .second] [(.long (1 : Int64)), (.long (0 : Int64))])) _
        refine XS.ladd X31.here hx rfl (hb hby at_123) rfl ?_
        show Steps p.tables e below (T31.setTop (mkF m 124 #[.val (.int p0), .val (.int p1), .val (.int p2), .val (.int p3), .val (.int p4), .val (.long p5), .second, .val (.int (1 : Int32)), .val u2, .val u4, .val u6, .val u8, .val (.ref b23), .val (.long (0 : Int64)), .second] [(.long (1 : Int64))])) _
        refine XS.lstore X31.here hx rfl (hb hby at_124) rfl (l' := #[.val (.int p0), .val (.int p1), .val (.int p2), .val (.int p3), .val (.int p4), .val (.long p5), .second, .val (.int (1 : Int32)), .val u2, .val u4, .val u6, .val u8, .val (.ref b23), .val (.long (1 : Int64)), .second]) rfl ?_
        exact Steps.refl _
      · simp only [if_neg hm33]
        refine s32.trans ?_
        show Steps p.tables e below (T31.setTop (mkF m 117 #[.val (.int p0), .val (.int p1), .val (.int p2), .val (.int p3), .val (.int p4), .val (.long p5), .second, .val (.int (1 : Int32)), .val u2, .val u4, .val u6, .val u8, .val (.ref b23), .val (.long (0 : Int64)), .second] [u8, u2])) _
        refine Jvm.RoadKit.acmp (g := (mkF m 117 #[.val (.int p0), .val (.int p1), .val (.int p2), .val (.int p3), .val (.int p4), .val (.long p5), .second, .val (.int (1 : Int32)), .val u2, .val u4, .val u6, .val u8, .val (.ref b23), .val (.long (0 : Int64)), .second] [u8, u2])) X31 hx rfl f1_0 f7_0 (pc0 := 117) (pc' := 126) (same := false) rfl (hb hby at_117) rfl (decide_eq_false hm33) (by decide) (by decide) ?_
        exact Steps.refl _
    obtain ⟨z0, hz0⟩ : ∃ z, z = (if u2 = u8 then (1 : Int64) else (0 : Int64)) := ⟨_, rfl⟩
    rw [← hz0] at s34
    have c35 : Fld Z T31.heap b23 "com/example/hot_gate/hotgate/bench/Replies" "outcomes" "[Lcom/example/hot_gate/hotgate/bench/Outcome;" (.ref u27) := (f24_3.keep Kc31 (ninS ne_b23_u25 (ninS ne_b23_u26 (ninS ne_b23_u27 nin0))))
    have c37 : Exa Z T31.heap b23 "com/example/hot_gate/hotgate/bench/Replies" := (f24_0.keep Kc31)
    obtain ⟨cq36, kq36, q36a, q36b, q36c⟩ := isOf hZ (rfl : T31.heap = T31.heap) c37
    obtain ⟨_, _, ⟨T36, L36, k36, n36⟩, -, X36, ⟨Lc36, hQ36, l36, y36, z36⟩, st36⟩ := X31.virtualBack hx (y := (⟨"com/example/hot_gate/hotgate/bench/Replies", "count", "(Lcom/example/hot_gate/hotgate/bench/Outcome;)J"⟩ : MethodName)) (z := (⟨"com/example/hot_gate/hotgate/bench/Replies", "count", "(Lcom/example/hot_gate/hotgate/bench/Outcome;)J"⟩ : MethodName)) hown (mvT hZ (hw _ (List.mem_of_getElem? (i := 41) rfl))) (mvT hZ (hw _ (List.mem_of_getElem? (i := 42) rfl))) (notFace_of_selects (args := #[]) (mvT hZ (hw _ (List.mem_of_getElem? (i := 44) rfl)))) (mvT hZ (hw _ (List.mem_of_getElem? (i := 44) rfl))) (mvT hZ (hw _ (List.mem_of_getElem? (i := 43) rfl))) (by decide) (backOf (W := 0) (rmc1 l Z a0 hw [] b23 u8 u27 u30 u2 T31.heap n0 O31 c35 f31_2 f1_0 f7_0) hZ (hw _ (List.mem_of_getElem? (i := 45) rfl)) (hw _ (List.mem_of_getElem? (i := 16) rfl)) (by decide) (by decide)) q36a q36c (g := (mkF m 168 #[.val (.int p0), .val (.int p1), .val (.int p2), .val (.int p3), .val (.int p4), .val (.long p5), .second, .val (.int (1 : Int32)), .val u2, .val u4, .val u6, .val u8, .val (.ref b23), .val (.long z0), .second] [u8, (.ref b23)])) rfl (by rw [hml]; rfl) (Steps.refl _) (argsL := [u8]) (rest := []) (lenOf pd_rm0_2 rfl) rfl (by show 2 * 0 + _ ≤ _; exact Nat.le_of_eq rfl) (hb hby at_168) (fun _ _ => ⟨rfl, (rfl : T31.heap = T31.heap), (by decide : 5 + 0 ≤ _), (by decide : 8 + 0 ≤ _)⟩)
    dsimp only [Pt.U, Pt.locs, Pt.cells, Pt.slots] at X36 l36 y36 z36 st36 hQ36
    subst l36 y36 z36
    obtain ⟨rfl, Nq36, e36⟩ := hQ36
    have N36 := Fr.app N31 Nq36
    have s38 : Steps p.tables e below (s₁.setTop (entryFrame m #[(.int p0), (.int p1), (.int p2), (.int p3), (.int p4), (.long p5)] maxLocals)) (T36.setTop (mkF m 182 #[.val (.int p0), .val (.int p1), .val (.int p2), .val (.int p3), .val (.int p4), .val (.long p5), .second, .val (.int (1 : Int32)), .val u2, .val u4, .val u6, .val u8, .val (.ref b23), .val (.long z0), .second] [(.int (1 : Int32))])) := by
      refine s34.trans ?_
      show Steps p.tables e below (T31.setTop (mkF m 126 #[.val (.int p0), .val (.int p1), .val (.int p2), .val (.int p3), .val (.int p4), .val (.long p5), .second, .val (.int (1 : Int32)), .val u2, .val u4, .val u6, .val u8, .val (.ref b23), .val (.long z0), .second] [])) _
      refine XS.iload X31.here hx rfl (hb hby at_126) rfl ?_
      show Steps p.tables e below (T31.setTop (mkF m 128 #[.val (.int p0), .val (.int p1), .val (.int p2), .val (.int p3), .val (.int p4), .val (.long p5), .second, .val (.int (1 : Int32)), .val u2, .val u4, .val u6, .val u8, .val (.ref b23), .val (.long z0), .second] [(.int (1 : Int32))])) _
      refine XS.iconst X31.here hx rfl (hb hby at_128) ?_
      show Steps p.tables e below (T31.setTop (mkF m 129 #[.val (.int p0), .val (.int p1), .val (.int p2), .val (.int p3), .val (.int p4), .val (.long p5), .second, .val (.int (1 : Int32)), .val u2, .val u4, .val u6, .val u8, .val (.ref b23), .val (.long z0), .second] [(.int (1 : Int32)), (.int (1 : Int32))])) _
      refine XS.icmpYes X31.here hx rfl (pc0 := 129) (pc' := 145) rfl (hb hby at_129) rfl (flt (by decide)).2.2.2 (by decide) (by decide) ?_
      show Steps p.tables e below (T31.setTop (mkF m 145 #[.val (.int p0), .val (.int p1), .val (.int p2), .val (.int p3), .val (.int p4), .val (.long p5), .second, .val (.int (1 : Int32)), .val u2, .val u4, .val u6, .val u8, .val (.ref b23), .val (.long z0), .second] [])) _
      refine XS.iload X31.here hx rfl (hb hby at_145) rfl ?_
      show Steps p.tables e below (T31.setTop (mkF m 147 #[.val (.int p0), .val (.int p1), .val (.int p2), .val (.int p3), .val (.int p4), .val (.long p5), .second, .val (.int (1 : Int32)), .val u2, .val u4, .val u6, .val u8, .val (.ref b23), .val (.long z0), .second] [(.int (1 : Int32))])) _
      refine XS.iconst X31.here hx rfl (hb hby at_147) ?_
      show Steps p.tables e below (T31.setTop (mkF m 148 #[.val (.int p0), .val (.int p1), .val (.int p2), .val (.int p3), .val (.int p4), .val (.long p5), .second, .val (.int (1 : Int32)), .val u2, .val u4, .val u6, .val u8, .val (.ref b23), .val (.long z0), .second] [(.int (2 : Int32)), (.int (1 : Int32))])) _
      refine XS.icmpYes X31.here hx rfl (pc0 := 148) (pc' := 164) rfl (hb hby at_148) rfl (flt (by decide)).2.2.2 (by decide) (by decide) ?_
      show Steps p.tables e below (T31.setTop (mkF m 164 #[.val (.int p0), .val (.int p1), .val (.int p2), .val (.int p3), .val (.int p4), .val (.long p5), .second, .val (.int (1 : Int32)), .val u2, .val u4, .val u6, .val u8, .val (.ref b23), .val (.long z0), .second] [])) _
      refine XS.aload X31.here hx rfl (hb hby at_164) rfl rfl ?_
      show Steps p.tables e below (T31.setTop (mkF m 166 #[.val (.int p0), .val (.int p1), .val (.int p2), .val (.int p3), .val (.int p4), .val (.long p5), .second, .val (.int (1 : Int32)), .val u2, .val u4, .val u6, .val u8, .val (.ref b23), .val (.long z0), .second] [(.ref b23)])) _
      refine XS.aload X31.here hx rfl (hb hby at_166) rfl f7_0 ?_
      show Steps p.tables e below (T31.setTop (mkF m 168 #[.val (.int p0), .val (.int p1), .val (.int p2), .val (.int p3), .val (.int p4), .val (.long p5), .second, .val (.int (1 : Int32)), .val u2, .val u4, .val u6, .val u8, .val (.ref b23), .val (.long z0), .second] [u8, (.ref b23)])) _
      refine st36.trans ?_
      show Steps p.tables e below (T36.setTop (mkF m 171 #[.val (.int p0), .val (.int p1), .val (.int p2), .val (.int p3), .val (.int p4), .val (.long p5), .second, .val (.int (1 : Int32)), .val u2, .val u4, .val u6, .val u8, .val (.ref b23), .val (.long z0), .second] [(.long (if u2 = u8 then (1 : Int64) else (0 : Int64)))])) _
      refine XS.lload X36.here hx rfl (hb hby at_171) rfl ?_
      show Steps p.tables e below (T36.setTop (mkF m 173 #[.val (.int p0), .val (.int p1), .val (.int p2), .val (.int p3), .val (.int p4), .val (.long p5), .second, .val (.int (1 : Int32)), .val u2, .val u4, .val u6, .val u8, .val (.ref b23), .val (.long z0), .second] [(.long z0), (.long (if u2 = u8 then (1 : Int64) else (0 : Int64)))])) _
      refine XS.lcmp X36.here hx rfl (hb hby at_173) rfl ?_
      show Steps p.tables e below (T36.setTop (mkF m 174 #[.val (.int p0), .val (.int p1), .val (.int p2), .val (.int p3), .val (.int p4), .val (.long p5), .second, .val (.int (1 : Int32)), .val u2, .val u4, .val u6, .val u8, .val (.ref b23), .val (.long z0), .second] [(.int (lcmpW (if u2 = u8 then (1 : Int64) else (0 : Int64)) z0))])) _
      refine XS.ifNo X36.here hx rfl (hb hby at_174) rfl ((if0 _ _).trans (teq (by rw [hz0]; exact (lw_eq _ _).mpr rfl)).2) ?_
      show Steps p.tables e below (T36.setTop (mkF m 177 #[.val (.int p0), .val (.int p1), .val (.int p2), .val (.int p3), .val (.int p4), .val (.long p5), .second, .val (.int (1 : Int32)), .val u2, .val u4, .val u6, .val u8, .val (.ref b23), .val (.long z0), .second] [])) _
      refine XS.iconst X36.here hx rfl (hb hby at_177) ?_
      show Steps p.tables e below (T36.setTop (mkF m 178 #[.val (.int p0), .val (.int p1), .val (.int p2), .val (.int p3), .val (.int p4), .val (.long p5), .second, .val (.int (1 : Int32)), .val u2, .val u4, .val u6, .val u8, .val (.ref b23), .val (.long z0), .second] [(.int (1 : Int32))])) _
      refine XS.goto X36.here hx rfl (pc0 := 178) (pc' := 182) rfl (hb hby at_178) (by decide) (by decide) ?_
      exact Steps.refl _
    obtain ⟨fs, hr, hrun, hended, hW, hsame⟩ := X36.leave (v := some (.int (1 : Int32))) (fun h => by rw [Bd.returns] at h; cases h)
    refine ⟨_, _, s38.trans ?_, hrun, hended, _, _, rfl, ?_, ⟨_, rfl⟩, hW, hsame.mono (by decide) (by decide)⟩
    · show Steps p.tables e below (T36.setTop (mkF m 182 #[.val (.int p0), .val (.int p1), .val (.int p2), .val (.int p3), .val (.int p4), .val (.long p5), .second, .val (.int (1 : Int32)), .val u2, .val u4, .val u6, .val u8, .val (.ref b23), .val (.long z0), .second] [(.int (1 : Int32))])) _
      exact retN X36 hx (t := .boolean) Bd.returns (by simp) (hb hby at_182) hr
    · show Q0 Z p0 p1 p2 p3 p4 p5 v_ERROR v_SOLD_OUT v_ALREADY_CLAIMED v_ACCEPTED h0 n0 _ T36.heap _
      rw [e36]
      exact ⟨rfl, N36⟩
  · have s39 := s9
    rw [hk10] at s39
    obtain ⟨T40, h40, X40, e40, E40, A40, D40, -, st40⟩ := newO X7 hx hZ hown (hw _ (List.mem_of_getElem? (i := 14) rfl)) (hw _ (List.mem_of_getElem? (i := 15) rfl)) (hw _ (List.mem_of_getElem? (i := 16) rfl)) e7 (g := (mkF m 30 #[.val (.int p0), .val (.int p1), .val (.int p2), .val (.int p3), .val (.int p4), .val (.long p5), .second, .val (.int (2 : Int32)), .val u2, .val u4, .val u6, .val u8, .unset, .unset, .unset] [])) rfl (hb hby at_30) (by decide) (by decide)
    obtain ⟨b40, g40⟩ : ∃ z, z = h0.size := ⟨_, rfl⟩
    rw [← g40] at A40 D40 st40
    have g_b40 : n0 ≤ b40 := Nat.le_trans (Nat.le_of_eq O0.1.symm) (Nat.le_trans O0.2.1 (Nat.le_of_eq g40.symm))
    have O40 := O0.ext E40
    have F40_firstError : Fld Z h40 b40 "com/example/hot_gate/hotgate/bench/Replies" "firstError" "Ljava/util/concurrent/atomic/AtomicReference;" .null := D40 (Or.inr (hw _ (List.mem_of_getElem? (i := 31) rfl))) (ty := (.object "java/util/concurrent/atomic/AtomicReference")) (by decide)
    have F40_sentAt : Fld Z h40 b40 "com/example/hot_gate/hotgate/bench/Replies" "sentAt" "[J" .null := D40 (Or.inr (hw _ (List.mem_of_getElem? (i := 34) rfl))) (ty := (.array .long)) (by decide)
    have F40_answeredAt : Fld Z h40 b40 "com/example/hot_gate/hotgate/bench/Replies" "answeredAt" "[J" .null := D40 (Or.inr (hw _ (List.mem_of_getElem? (i := 36) rfl))) (ty := (.array .long)) (by decide)
    have F40_outcomes : Fld Z h40 b40 "com/example/hot_gate/hotgate/bench/Replies" "outcomes" "[Lcom/example/hot_gate/hotgate/bench/Outcome;" .null := D40 (Or.inr (hw _ (List.mem_of_getElem? (i := 40) rfl))) (ty := (.array (.object "com/example/hot_gate/hotgate/bench/Outcome"))) (by decide)
    obtain ⟨_, _, ⟨T41, L41, k41, n41⟩, -, X41, ⟨Lc41, hQ41, l41, y41, z41⟩, st41⟩ := X40.specialBack hx (y := (⟨"com/example/hot_gate/hotgate/bench/Replies", "<init>", "(I)V"⟩ : MethodName)) rfl hown (mvT hZ (hw _ (List.mem_of_getElem? (i := 17) rfl))) (mvT hZ (hw _ (List.mem_of_getElem? (i := 18) rfl))) (mvT hZ (hw _ (List.mem_of_getElem? (i := 19) rfl))) (by decide) (backOf (W := 1) (rmi2 l Z a0 hw [] b40 h40 n0 O40 A40 F40_firstError F40_sentAt F40_answeredAt F40_outcomes g_b40) hZ (hw _ (List.mem_of_getElem? (i := 19) rfl)) (hw _ (List.mem_of_getElem? (i := 16) rfl)) (by decide) (by decide)) (g := (mkF m 36 #[.val (.int p0), .val (.int p1), .val (.int p2), .val (.int p3), .val (.int p4), .val (.long p5), .second, .val (.int (2 : Int32)), .val u2, .val u4, .val u6, .val u8, .unset, .unset, .unset] [(.int (2 : Int32)), (.ref b40), (.ref b40)])) rfl (by rw [hml]; rfl) (Steps.refl _) (a := b40) (argsL := [(.int (2 : Int32))]) (rest := [(.ref b40)]) (lenOf pd_rm0_1 rfl) rfl (by show 2 * 0 + _ ≤ _; exact Nat.le_of_eq rfl) (hb hby at_36) (fun _ _ => ⟨rfl, e40, (by decide : 1 + 4 ≤ _), (by decide : 4 + 7 ≤ _)⟩)
    dsimp only [Pt.U, Pt.locs, Pt.cells, Pt.slots] at X41 l41 y41 z41 st41 hQ41
    subst l41 y41 z41
    obtain ⟨u42, u43, u44, u45, u46, u47, rfl, Nq41, Kc41, f41_0, f41_1, f41_2, f41_3, f41_4, f41_5, f41_6, f41_7, f41_8, f41_9, f41_10, f41_11, f41_12, f41_13⟩ := hQ41
    have N41 := Fr.app N7 Nq41
    have ne_b40_u42 : b40 ≠ u42 := Nat.ne_of_lt (Nat.lt_of_lt_of_le A40.lt f41_7)
    have ne_b40_u43 : b40 ≠ u43 := Nat.ne_of_lt (Nat.lt_of_lt_of_le A40.lt f41_8)
    have ne_b40_u44 : b40 ≠ u44 := Nat.ne_of_lt (Nat.lt_of_lt_of_le A40.lt f41_9)
    have g_u42 : n0 ≤ u42 := Nat.le_trans (Nat.le_of_eq O40.1.symm) (Nat.le_trans O40.2.1 f41_7)
    have g_u43 : n0 ≤ u43 := Nat.le_trans (Nat.le_of_eq O40.1.symm) (Nat.le_trans O40.2.1 f41_8)
    have g_u44 : n0 ≤ u44 := Nat.le_trans (Nat.le_of_eq O40.1.symm) (Nat.le_trans O40.2.1 f41_9)
    have O41 := O40.keep Kc41 (allS g_b40 all0)
    obtain ⟨cq48, kq48, q48a, q48b, q48c⟩ := isOf hZ (rfl : T41.heap = T41.heap) f41_0
    obtain ⟨_, _, ⟨T48, L48, k48, n48⟩, -, X48, ⟨Lc48, hQ48, l48, y48, z48⟩, st48⟩ := X41.virtualBack hx (y := (⟨"com/example/hot_gate/hotgate/bench/Replies", "record", "(IJJLcom/example/hot_gate/hotgate/bench/Outcome;Ljava/lang/String;)V"⟩ : MethodName)) (z := (⟨"com/example/hot_gate/hotgate/bench/Replies", "record", "(IJJLcom/example/hot_gate/hotgate/bench/Outcome;Ljava/lang/String;)V"⟩ : MethodName)) hown (mvT hZ (hw _ (List.mem_of_getElem? (i := 46) rfl))) (mvT hZ (hw _ (List.mem_of_getElem? (i := 47) rfl))) (notFace_of_selects (args := #[]) (mvT hZ (hw _ (List.mem_of_getElem? (i := 49) rfl)))) (mvT hZ (hw _ (List.mem_of_getElem? (i := 49) rfl))) (mvT hZ (hw _ (List.mem_of_getElem? (i := 48) rfl))) (by decide) (backOf (W := 0) (rmr2_0 l Z a0 hw [] b40 p5 p5 u2 u42 u43 u44 u45 u46 u47 (0 : Int64) (0 : Int64) (0 : Int64) (0 : Int64) T41.heap n0 O41 f41_1 f41_2 f41_3 f41_4 f41_5 f41_6 g_u42 g_u43 g_u44 f41_10 f41_11 f41_12 ne_b40_u42 ne_b40_u43 ne_b40_u44 f41_13 f1_1 f1_0) hZ (hw _ (List.mem_of_getElem? (i := 50) rfl)) (hw _ (List.mem_of_getElem? (i := 16) rfl)) (by decide) (by decide)) q48a q48c (g := (mkF m 56 #[.val (.int p0), .val (.int p1), .val (.int p2), .val (.int p3), .val (.int p4), .val (.long p5), .second, .val (.int (2 : Int32)), .val u2, .val u4, .val u6, .val u8, .val (.ref b40), .unset, .unset] [.null, u2, (.long p5), (.long p5), (.int (0 : Int32)), (.ref b40)])) rfl (by rw [hml]; rfl) (Steps.refl _) (argsL := [(.int (0 : Int32)), (.long p5), (.long p5), u2, .null]) (rest := []) (lenOf pd_rm0_3 rfl) rfl (by show 2 * 0 + _ ≤ _; exact Nat.le_of_eq rfl) (hb hby at_56) (fun _ _ => ⟨rfl, (rfl : T41.heap = T41.heap), (by decide : 5 + 0 ≤ _), (by decide : 11 + 0 ≤ _)⟩)
    dsimp only [Pt.U, Pt.locs, Pt.cells, Pt.slots] at X48 l48 y48 z48 st48 hQ48
    subst l48 y48 z48
    obtain ⟨rfl, Nq48, Kc48, f48_0, f48_1, f48_2⟩ := hQ48
    have N48 := Fr.app N41 Nq48
    have O48 := O41.keep Kc48 (allS g_u42 (allS g_u43 (allS g_u44 all0)))
    have c49 : Fld Z T48.heap b40 "com/example/hot_gate/hotgate/bench/Replies" "sentAt" "[J" (.ref u42) := (f41_1.keep Kc48 (ninS ne_b40_u42 (ninS ne_b40_u43 (ninS ne_b40_u44 nin0))))
    have c50 : Fld Z T48.heap b40 "com/example/hot_gate/hotgate/bench/Replies" "answeredAt" "[J" (.ref u43) := (f41_2.keep Kc48 (ninS ne_b40_u42 (ninS ne_b40_u43 (ninS ne_b40_u44 nin0))))
    have c51 : Fld Z T48.heap b40 "com/example/hot_gate/hotgate/bench/Replies" "outcomes" "[Lcom/example/hot_gate/hotgate/bench/Outcome;" (.ref u44) := (f41_3.keep Kc48 (ninS ne_b40_u42 (ninS ne_b40_u43 (ninS ne_b40_u44 nin0))))
    have c53 : Exa Z T48.heap b40 "com/example/hot_gate/hotgate/bench/Replies" := (f41_0.keep Kc48)
    obtain ⟨cq52, kq52, q52a, q52b, q52c⟩ := isOf hZ (rfl : T48.heap = T48.heap) c53
    obtain ⟨_, _, ⟨T52, L52, k52, n52⟩, -, X52, ⟨Lc52, hQ52, l52, y52, z52⟩, st52⟩ := X48.virtualBack hx (y := (⟨"com/example/hot_gate/hotgate/bench/Replies", "record", "(IJJLcom/example/hot_gate/hotgate/bench/Outcome;Ljava/lang/String;)V"⟩ : MethodName)) (z := (⟨"com/example/hot_gate/hotgate/bench/Replies", "record", "(IJJLcom/example/hot_gate/hotgate/bench/Outcome;Ljava/lang/String;)V"⟩ : MethodName)) hown (mvT hZ (hw _ (List.mem_of_getElem? (i := 46) rfl))) (mvT hZ (hw _ (List.mem_of_getElem? (i := 47) rfl))) (notFace_of_selects (args := #[]) (mvT hZ (hw _ (List.mem_of_getElem? (i := 49) rfl)))) (mvT hZ (hw _ (List.mem_of_getElem? (i := 49) rfl))) (mvT hZ (hw _ (List.mem_of_getElem? (i := 48) rfl))) (by decide) (backOf (W := 0) (rmr2_1 l Z a0 hw [] b40 p5 (p5 ^^^ (-1 : Int64)) u4 u42 u43 u44 u45 u46 u47 p5 (0 : Int64) p5 (0 : Int64) u2 T48.heap n0 O48 c49 c50 c51 f48_0 f48_1 f48_2 g_u42 g_u43 g_u44 f41_10 f41_11 f41_12 ne_b40_u42 ne_b40_u43 ne_b40_u44 f41_13 f3_1 f3_0) hZ (hw _ (List.mem_of_getElem? (i := 50) rfl)) (hw _ (List.mem_of_getElem? (i := 16) rfl)) (by decide) (by decide)) q52a q52c (g := (mkF m 79 #[.val (.int p0), .val (.int p1), .val (.int p2), .val (.int p3), .val (.int p4), .val (.long p5), .second, .val (.int (2 : Int32)), .val u2, .val u4, .val u6, .val u8, .val (.ref b40), .unset, .unset] [.null, u4, (.long (p5 ^^^ (-1 : Int64))), (.long p5), (.int (1 : Int32)), (.ref b40)])) rfl (by rw [hml]; rfl) (Steps.refl _) (argsL := [(.int (1 : Int32)), (.long p5), (.long (p5 ^^^ (-1 : Int64))), u4, .null]) (rest := []) (lenOf pd_rm0_3 rfl) rfl (by show 2 * 0 + _ ≤ _; exact Nat.le_of_eq rfl) (hb hby at_79) (fun _ _ => ⟨rfl, (rfl : T48.heap = T48.heap), (by decide : 5 + 0 ≤ _), (by decide : 11 + 0 ≤ _)⟩)
    dsimp only [Pt.U, Pt.locs, Pt.cells, Pt.slots] at X52 l52 y52 z52 st52 hQ52
    subst l52 y52 z52
    obtain ⟨rfl, Nq52, Kc52, f52_0, f52_1, f52_2⟩ := hQ52
    have N52 := Fr.app N48 Nq52
    have O52 := O48.keep Kc52 (allS g_u42 (allS g_u43 (allS g_u44 all0)))
    have s54 : Steps p.tables e below (s₁.setTop (entryFrame m #[(.int p0), (.int p1), (.int p2), (.int p3), (.int p4), (.long p5)] maxLocals)) (T52.setTop (mkF m 117 #[.val (.int p0), .val (.int p1), .val (.int p2), .val (.int p3), .val (.int p4), .val (.long p5), .second, .val (.int (2 : Int32)), .val u2, .val u4, .val u6, .val u8, .val (.ref b40), .val (.long (0 : Int64)), .second] [u8, u2])) := by
      refine s39.trans ?_
      show Steps p.tables e below (T7.setTop (mkF m 30 #[.val (.int p0), .val (.int p1), .val (.int p2), .val (.int p3), .val (.int p4), .val (.long p5), .second, .val (.int (2 : Int32)), .val u2, .val u4, .val u6, .val u8, .unset, .unset, .unset] [])) _
      refine st40 _ ?_
      show Steps p.tables e below (T40.setTop (mkF m 33 #[.val (.int p0), .val (.int p1), .val (.int p2), .val (.int p3), .val (.int p4), .val (.long p5), .second, .val (.int (2 : Int32)), .val u2, .val u4, .val u6, .val u8, .unset, .unset, .unset] [(.ref b40)])) _
      refine XS.dup X40.here hx rfl (hb hby at_33) rfl rfl ?_
      show Steps p.tables e below (T40.setTop (mkF m 34 #[.val (.int p0), .val (.int p1), .val (.int p2), .val (.int p3), .val (.int p4), .val (.long p5), .second, .val (.int (2 : Int32)), .val u2, .val u4, .val u6, .val u8, .unset, .unset, .unset] [(.ref b40), (.ref b40)])) _
      refine XS.iload X40.here hx rfl (hb hby at_34) rfl ?_
      show Steps p.tables e below (T40.setTop (mkF m 36 #[.val (.int p0), .val (.int p1), .val (.int p2), .val (.int p3), .val (.int p4), .val (.long p5), .second, .val (.int (2 : Int32)), .val u2, .val u4, .val u6, .val u8, .unset, .unset, .unset] [(.int (2 : Int32)), (.ref b40), (.ref b40)])) _
      refine st41.trans ?_
      show Steps p.tables e below (T41.setTop (mkF m 39 #[.val (.int p0), .val (.int p1), .val (.int p2), .val (.int p3), .val (.int p4), .val (.long p5), .second, .val (.int (2 : Int32)), .val u2, .val u4, .val u6, .val u8, .unset, .unset, .unset] [(.ref b40)])) _
      refine XS.astore X41.here hx rfl (hb hby at_39) rfl rfl (l' := #[.val (.int p0), .val (.int p1), .val (.int p2), .val (.int p3), .val (.int p4), .val (.long p5), .second, .val (.int (2 : Int32)), .val u2, .val u4, .val u6, .val u8, .val (.ref b40), .unset, .unset]) rfl ?_
      show Steps p.tables e below (T41.setTop (mkF m 41 #[.val (.int p0), .val (.int p1), .val (.int p2), .val (.int p3), .val (.int p4), .val (.long p5), .second, .val (.int (2 : Int32)), .val u2, .val u4, .val u6, .val u8, .val (.ref b40), .unset, .unset] [])) _
      refine XS.iload X41.here hx rfl (hb hby at_41) rfl ?_
      show Steps p.tables e below (T41.setTop (mkF m 43 #[.val (.int p0), .val (.int p1), .val (.int p2), .val (.int p3), .val (.int p4), .val (.long p5), .second, .val (.int (2 : Int32)), .val u2, .val u4, .val u6, .val u8, .val (.ref b40), .unset, .unset] [(.int (2 : Int32))])) _
      refine XS.ifNo X41.here hx rfl (hb hby at_43) rfl ((if0 _ _).trans (tlt (by decide)).2.2.2) ?_
      show Steps p.tables e below (T41.setTop (mkF m 46 #[.val (.int p0), .val (.int p1), .val (.int p2), .val (.int p3), .val (.int p4), .val (.long p5), .second, .val (.int (2 : Int32)), .val u2, .val u4, .val u6, .val u8, .val (.ref b40), .unset, .unset] [])) _
      refine XS.aload X41.here hx rfl (hb hby at_46) rfl rfl ?_
      show Steps p.tables e below (T41.setTop (mkF m 48 #[.val (.int p0), .val (.int p1), .val (.int p2), .val (.int p3), .val (.int p4), .val (.long p5), .second, .val (.int (2 : Int32)), .val u2, .val u4, .val u6, .val u8, .val (.ref b40), .unset, .unset] [(.ref b40)])) _
      refine XS.iconst X41.here hx rfl (hb hby at_48) ?_
      show Steps p.tables e below (T41.setTop (mkF m 49 #[.val (.int p0), .val (.int p1), .val (.int p2), .val (.int p3), .val (.int p4), .val (.long p5), .second, .val (.int (2 : Int32)), .val u2, .val u4, .val u6, .val u8, .val (.ref b40), .unset, .unset] [(.int (0 : Int32)), (.ref b40)])) _
      refine XS.lload X41.here hx rfl (hb hby at_49) rfl ?_
      show Steps p.tables e below (T41.setTop (mkF m 51 #[.val (.int p0), .val (.int p1), .val (.int p2), .val (.int p3), .val (.int p4), .val (.long p5), .second, .val (.int (2 : Int32)), .val u2, .val u4, .val u6, .val u8, .val (.ref b40), .unset, .unset] [(.long p5), (.int (0 : Int32)), (.ref b40)])) _
      refine XS.lload X41.here hx rfl (hb hby at_51) rfl ?_
      show Steps p.tables e below (T41.setTop (mkF m 53 #[.val (.int p0), .val (.int p1), .val (.int p2), .val (.int p3), .val (.int p4), .val (.long p5), .second, .val (.int (2 : Int32)), .val u2, .val u4, .val u6, .val u8, .val (.ref b40), .unset, .unset] [(.long p5), (.long p5), (.int (0 : Int32)), (.ref b40)])) _
      refine XS.aload X41.here hx rfl (hb hby at_53) rfl f1_0 ?_
      show Steps p.tables e below (T41.setTop (mkF m 55 #[.val (.int p0), .val (.int p1), .val (.int p2), .val (.int p3), .val (.int p4), .val (.long p5), .second, .val (.int (2 : Int32)), .val u2, .val u4, .val u6, .val u8, .val (.ref b40), .unset, .unset] [u2, (.long p5), (.long p5), (.int (0 : Int32)), (.ref b40)])) _
      refine XS.aconstNull X41.here hx rfl (hb hby at_55) ?_
      show Steps p.tables e below (T41.setTop (mkF m 56 #[.val (.int p0), .val (.int p1), .val (.int p2), .val (.int p3), .val (.int p4), .val (.long p5), .second, .val (.int (2 : Int32)), .val u2, .val u4, .val u6, .val u8, .val (.ref b40), .unset, .unset] [.null, u2, (.long p5), (.long p5), (.int (0 : Int32)), (.ref b40)])) _
      refine st48.trans ?_
      show Steps p.tables e below (T48.setTop (mkF m 59 #[.val (.int p0), .val (.int p1), .val (.int p2), .val (.int p3), .val (.int p4), .val (.long p5), .second, .val (.int (2 : Int32)), .val u2, .val u4, .val u6, .val u8, .val (.ref b40), .unset, .unset] [])) _
      refine XS.iload X48.here hx rfl (hb hby at_59) rfl ?_
      show Steps p.tables e below (T48.setTop (mkF m 61 #[.val (.int p0), .val (.int p1), .val (.int p2), .val (.int p3), .val (.int p4), .val (.long p5), .second, .val (.int (2 : Int32)), .val u2, .val u4, .val u6, .val u8, .val (.ref b40), .unset, .unset] [(.int (2 : Int32))])) _
      refine XS.iconst X48.here hx rfl (hb hby at_61) ?_
      show Steps p.tables e below (T48.setTop (mkF m 62 #[.val (.int p0), .val (.int p1), .val (.int p2), .val (.int p3), .val (.int p4), .val (.long p5), .second, .val (.int (2 : Int32)), .val u2, .val u4, .val u6, .val u8, .val (.ref b40), .unset, .unset] [(.int (1 : Int32)), (.int (2 : Int32))])) _
      refine XS.icmpNo X48.here hx rfl (hb hby at_62) rfl (tlt (by decide)).2.2.2 ?_
      show Steps p.tables e below (T48.setTop (mkF m 65 #[.val (.int p0), .val (.int p1), .val (.int p2), .val (.int p3), .val (.int p4), .val (.long p5), .second, .val (.int (2 : Int32)), .val u2, .val u4, .val u6, .val u8, .val (.ref b40), .unset, .unset] [])) _
      refine XS.aload X48.here hx rfl (hb hby at_65) rfl rfl ?_
      show Steps p.tables e below (T48.setTop (mkF m 67 #[.val (.int p0), .val (.int p1), .val (.int p2), .val (.int p3), .val (.int p4), .val (.long p5), .second, .val (.int (2 : Int32)), .val u2, .val u4, .val u6, .val u8, .val (.ref b40), .unset, .unset] [(.ref b40)])) _
      refine XS.iconst X48.here hx rfl (hb hby at_67) ?_
      show Steps p.tables e below (T48.setTop (mkF m 68 #[.val (.int p0), .val (.int p1), .val (.int p2), .val (.int p3), .val (.int p4), .val (.long p5), .second, .val (.int (2 : Int32)), .val u2, .val u4, .val u6, .val u8, .val (.ref b40), .unset, .unset] [(.int (1 : Int32)), (.ref b40)])) _
      refine XS.lload X48.here hx rfl (hb hby at_68) rfl ?_
      show Steps p.tables e below (T48.setTop (mkF m 70 #[.val (.int p0), .val (.int p1), .val (.int p2), .val (.int p3), .val (.int p4), .val (.long p5), .second, .val (.int (2 : Int32)), .val u2, .val u4, .val u6, .val u8, .val (.ref b40), .unset, .unset] [(.long p5), (.int (1 : Int32)), (.ref b40)])) _
      refine XS.lload X48.here hx rfl (hb hby at_70) rfl ?_
      show Steps p.tables e below (T48.setTop (mkF m 72 #[.val (.int p0), .val (.int p1), .val (.int p2), .val (.int p3), .val (.int p4), .val (.long p5), .second, .val (.int (2 : Int32)), .val u2, .val u4, .val u6, .val u8, .val (.ref b40), .unset, .unset] [(.long p5), (.long p5), (.int (1 : Int32)), (.ref b40)])) _
      refine X48.ldc2Long hx hown (mvT hZ (hw _ (List.mem_of_getElem? (i := 52) rfl))) (g := (mkF m 72 #[.val (.int p0), .val (.int p1), .val (.int p2), .val (.int p3), .val (.int p4), .val (.long p5), .second, .val (.int (2 : Int32)), .val u2, .val u4, .val u6, .val u8, .val (.ref b40), .unset, .unset] [(.long p5), (.long p5), (.int (1 : Int32)), (.ref b40)])) rfl (hb hby at_72) _ ?_
      show Steps p.tables e below (T48.setTop (mkF m 75 #[.val (.int p0), .val (.int p1), .val (.int p2), .val (.int p3), .val (.int p4), .val (.long p5), .second, .val (.int (2 : Int32)), .val u2, .val u4, .val u6, .val u8, .val (.ref b40), .unset, .unset] [(.long (-1 : Int64)), (.long p5), (.long p5), (.int (1 : Int32)), (.ref b40)])) _
      refine XS.lxor X48.here hx rfl (hb hby at_75) rfl ?_
      show Steps p.tables e below (T48.setTop (mkF m 76 #[.val (.int p0), .val (.int p1), .val (.int p2), .val (.int p3), .val (.int p4), .val (.long p5), .second, .val (.int (2 : Int32)), .val u2, .val u4, .val u6, .val u8, .val (.ref b40), .unset, .unset] [(.long (p5 ^^^ (-1 : Int64))), (.long p5), (.int (1 : Int32)), (.ref b40)])) _
      refine XS.aload X48.here hx rfl (hb hby at_76) rfl f3_0 ?_
      show Steps p.tables e below (T48.setTop (mkF m 78 #[.val (.int p0), .val (.int p1), .val (.int p2), .val (.int p3), .val (.int p4), .val (.long p5), .second, .val (.int (2 : Int32)), .val u2, .val u4, .val u6, .val u8, .val (.ref b40), .unset, .unset] [u4, (.long (p5 ^^^ (-1 : Int64))), (.long p5), (.int (1 : Int32)), (.ref b40)])) _
      refine XS.aconstNull X48.here hx rfl (hb hby at_78) ?_
      show Steps p.tables e below (T48.setTop (mkF m 79 #[.val (.int p0), .val (.int p1), .val (.int p2), .val (.int p3), .val (.int p4), .val (.long p5), .second, .val (.int (2 : Int32)), .val u2, .val u4, .val u6, .val u8, .val (.ref b40), .unset, .unset] [.null, u4, (.long (p5 ^^^ (-1 : Int64))), (.long p5), (.int (1 : Int32)), (.ref b40)])) _
      refine st52.trans ?_
      show Steps p.tables e below (T52.setTop (mkF m 82 #[.val (.int p0), .val (.int p1), .val (.int p2), .val (.int p3), .val (.int p4), .val (.long p5), .second, .val (.int (2 : Int32)), .val u2, .val u4, .val u6, .val u8, .val (.ref b40), .unset, .unset] [])) _
      refine XS.iload X52.here hx rfl (hb hby at_82) rfl ?_
      show Steps p.tables e below (T52.setTop (mkF m 84 #[.val (.int p0), .val (.int p1), .val (.int p2), .val (.int p3), .val (.int p4), .val (.long p5), .second, .val (.int (2 : Int32)), .val u2, .val u4, .val u6, .val u8, .val (.ref b40), .unset, .unset] [(.int (2 : Int32))])) _
      refine XS.iconst X52.here hx rfl (hb hby at_84) ?_
      show Steps p.tables e below (T52.setTop (mkF m 85 #[.val (.int p0), .val (.int p1), .val (.int p2), .val (.int p3), .val (.int p4), .val (.long p5), .second, .val (.int (2 : Int32)), .val u2, .val u4, .val u6, .val u8, .val (.ref b40), .unset, .unset] [(.int (2 : Int32)), (.int (2 : Int32))])) _
      refine XS.icmpYes X52.here hx rfl (pc0 := 85) (pc' := 105) rfl (hb hby at_85) rfl (flt (by decide)).2.2.2 (by decide) (by decide) ?_
      show Steps p.tables e below (T52.setTop (mkF m 105 #[.val (.int p0), .val (.int p1), .val (.int p2), .val (.int p3), .val (.int p4), .val (.long p5), .second, .val (.int (2 : Int32)), .val u2, .val u4, .val u6, .val u8, .val (.ref b40), .unset, .unset] [])) _
      refine XS.lconst X52.here hx rfl (hb hby at_105) ?_
      show Steps p.tables e below (T52.setTop (mkF m 106 #[.val (.int p0), .val (.int p1), .val (.int p2), .val (.int p3), .val (.int p4), .val (.long p5), .second, .val (.int (2 : Int32)), .val u2, .val u4, .val u6, .val u8, .val (.ref b40), .unset, .unset] [(.long (0 : Int64))])) _
      refine XS.lstore X52.here hx rfl (hb hby at_106) rfl (l' := #[.val (.int p0), .val (.int p1), .val (.int p2), .val (.int p3), .val (.int p4), .val (.long p5), .second, .val (.int (2 : Int32)), .val u2, .val u4, .val u6, .val u8, .val (.ref b40), .val (.long (0 : Int64)), .second]) rfl ?_
      show Steps p.tables e below (T52.setTop (mkF m 108 #[.val (.int p0), .val (.int p1), .val (.int p2), .val (.int p3), .val (.int p4), .val (.long p5), .second, .val (.int (2 : Int32)), .val u2, .val u4, .val u6, .val u8, .val (.ref b40), .val (.long (0 : Int64)), .second] [])) _
      refine XS.iload X52.here hx rfl (hb hby at_108) rfl ?_
      show Steps p.tables e below (T52.setTop (mkF m 110 #[.val (.int p0), .val (.int p1), .val (.int p2), .val (.int p3), .val (.int p4), .val (.long p5), .second, .val (.int (2 : Int32)), .val u2, .val u4, .val u6, .val u8, .val (.ref b40), .val (.long (0 : Int64)), .second] [(.int (2 : Int32))])) _
      refine XS.ifNo X52.here hx rfl (hb hby at_110) rfl ((if0 _ _).trans (tlt (by decide)).2.2.2) ?_
      show Steps p.tables e below (T52.setTop (mkF m 113 #[.val (.int p0), .val (.int p1), .val (.int p2), .val (.int p3), .val (.int p4), .val (.long p5), .second, .val (.int (2 : Int32)), .val u2, .val u4, .val u6, .val u8, .val (.ref b40), .val (.long (0 : Int64)), .second] [])) _
      refine XS.aload X52.here hx rfl (hb hby at_113) rfl f1_0 ?_
      show Steps p.tables e below (T52.setTop (mkF m 115 #[.val (.int p0), .val (.int p1), .val (.int p2), .val (.int p3), .val (.int p4), .val (.long p5), .second, .val (.int (2 : Int32)), .val u2, .val u4, .val u6, .val u8, .val (.ref b40), .val (.long (0 : Int64)), .second] [u2])) _
      refine XS.aload X52.here hx rfl (hb hby at_115) rfl f7_0 ?_
      exact Steps.refl _
    have s56 : Steps p.tables e below (s₁.setTop (entryFrame m #[(.int p0), (.int p1), (.int p2), (.int p3), (.int p4), (.long p5)] maxLocals)) (T52.setTop (mkF m 126 #[.val (.int p0), .val (.int p1), .val (.int p2), .val (.int p3), .val (.int p4), .val (.long p5), .second, .val (.int (2 : Int32)), .val u2, .val u4, .val u6, .val u8, .val (.ref b40), .val (.long (if u2 = u8 then (1 : Int64) else (0 : Int64))), .second] [])) := by
      by_cases hm55 : u2 = u8
      · simp only [if_pos hm55]
        refine s54.trans ?_
        show Steps p.tables e below (T52.setTop (mkF m 117 #[.val (.int p0), .val (.int p1), .val (.int p2), .val (.int p3), .val (.int p4), .val (.long p5), .second, .val (.int (2 : Int32)), .val u2, .val u4, .val u6, .val u8, .val (.ref b40), .val (.long (0 : Int64)), .second] [u8, u2])) _
        refine Jvm.RoadKit.acmp (g := (mkF m 117 #[.val (.int p0), .val (.int p1), .val (.int p2), .val (.int p3), .val (.int p4), .val (.long p5), .second, .val (.int (2 : Int32)), .val u2, .val u4, .val u6, .val u8, .val (.ref b40), .val (.long (0 : Int64)), .second] [u8, u2])) X52 hx rfl f1_0 f7_0 (pc0 := 117) (pc' := 120) (same := true) rfl (hb hby at_117) rfl (decide_eq_true hm55) (by decide) (by decide) ?_
        show Steps p.tables e below (T52.setTop (mkF m 120 #[.val (.int p0), .val (.int p1), .val (.int p2), .val (.int p3), .val (.int p4), .val (.long p5), .second, .val (.int (2 : Int32)), .val u2, .val u4, .val u6, .val u8, .val (.ref b40), .val (.long (0 : Int64)), .second] [])) _
        refine XS.lload X52.here hx rfl (hb hby at_120) rfl ?_
        show Steps p.tables e below (T52.setTop (mkF m 122 #[.val (.int p0), .val (.int p1), .val (.int p2), .val (.int p3), .val (.int p4), .val (.long p5), .second, .val (.int (2 : Int32)), .val u2, .val u4, .val u6, .val u8, .val (.ref b40), .val (.long (0 : Int64)), .second] [(.long (0 : Int64))])) _
        refine XS.lconst X52.here hx rfl (hb hby at_122) ?_
        show Steps p.tables e below (T52.setTop (mkF m 123 #[.val (.int p0), .val (.int p1), .val (.int p2), .val (.int p3), .val (.int p4), .val (.long p5), .second, .val (.int (2 : Int32)), .val u2, .val u4, .val u6, .val u8, .val (.ref b40), .val (.long (0 : Int64)), .second] [(.long (1 : Int64)), (.long (0 : Int64))])) _
        refine XS.ladd X52.here hx rfl (hb hby at_123) rfl ?_
        show Steps p.tables e below (T52.setTop (mkF m 124 #[.val (.int p0), .val (.int p1), .val (.int p2), .val (.int p3), .val (.int p4), .val (.long p5), .second, .val (.int (2 : Int32)), .val u2, .val u4, .val u6, .val u8, .val (.ref b40), .val (.long (0 : Int64)), .second] [(.long (1 : Int64))])) _
        refine XS.lstore X52.here hx rfl (hb hby at_124) rfl (l' := #[.val (.int p0), .val (.int p1), .val (.int p2), .val (.int p3), .val (.int p4), .val (.long p5), .second, .val (.int (2 : Int32)), .val u2, .val u4, .val u6, .val u8, .val (.ref b40), .val (.long (1 : Int64)), .second]) rfl ?_
        exact Steps.refl _
      · simp only [if_neg hm55]
        refine s54.trans ?_
        show Steps p.tables e below (T52.setTop (mkF m 117 #[.val (.int p0), .val (.int p1), .val (.int p2), .val (.int p3), .val (.int p4), .val (.long p5), .second, .val (.int (2 : Int32)), .val u2, .val u4, .val u6, .val u8, .val (.ref b40), .val (.long (0 : Int64)), .second] [u8, u2])) _
        refine Jvm.RoadKit.acmp (g := (mkF m 117 #[.val (.int p0), .val (.int p1), .val (.int p2), .val (.int p3), .val (.int p4), .val (.long p5), .second, .val (.int (2 : Int32)), .val u2, .val u4, .val u6, .val u8, .val (.ref b40), .val (.long (0 : Int64)), .second] [u8, u2])) X52 hx rfl f1_0 f7_0 (pc0 := 117) (pc' := 126) (same := false) rfl (hb hby at_117) rfl (decide_eq_false hm55) (by decide) (by decide) ?_
        exact Steps.refl _
    obtain ⟨z0, hz0⟩ : ∃ z, z = (if u2 = u8 then (1 : Int64) else (0 : Int64)) := ⟨_, rfl⟩
    rw [← hz0] at s56
    have s57 : Steps p.tables e below (s₁.setTop (entryFrame m #[(.int p0), (.int p1), (.int p2), (.int p3), (.int p4), (.long p5)] maxLocals)) (T52.setTop (mkF m 136 #[.val (.int p0), .val (.int p1), .val (.int p2), .val (.int p3), .val (.int p4), .val (.long p5), .second, .val (.int (2 : Int32)), .val u2, .val u4, .val u6, .val u8, .val (.ref b40), .val (.long z0), .second] [u8, u4])) := by
      refine s56.trans ?_
      show Steps p.tables e below (T52.setTop (mkF m 126 #[.val (.int p0), .val (.int p1), .val (.int p2), .val (.int p3), .val (.int p4), .val (.long p5), .second, .val (.int (2 : Int32)), .val u2, .val u4, .val u6, .val u8, .val (.ref b40), .val (.long z0), .second] [])) _
      refine XS.iload X52.here hx rfl (hb hby at_126) rfl ?_
      show Steps p.tables e below (T52.setTop (mkF m 128 #[.val (.int p0), .val (.int p1), .val (.int p2), .val (.int p3), .val (.int p4), .val (.long p5), .second, .val (.int (2 : Int32)), .val u2, .val u4, .val u6, .val u8, .val (.ref b40), .val (.long z0), .second] [(.int (2 : Int32))])) _
      refine XS.iconst X52.here hx rfl (hb hby at_128) ?_
      show Steps p.tables e below (T52.setTop (mkF m 129 #[.val (.int p0), .val (.int p1), .val (.int p2), .val (.int p3), .val (.int p4), .val (.long p5), .second, .val (.int (2 : Int32)), .val u2, .val u4, .val u6, .val u8, .val (.ref b40), .val (.long z0), .second] [(.int (1 : Int32)), (.int (2 : Int32))])) _
      refine XS.icmpNo X52.here hx rfl (hb hby at_129) rfl (tlt (by decide)).2.2.2 ?_
      show Steps p.tables e below (T52.setTop (mkF m 132 #[.val (.int p0), .val (.int p1), .val (.int p2), .val (.int p3), .val (.int p4), .val (.long p5), .second, .val (.int (2 : Int32)), .val u2, .val u4, .val u6, .val u8, .val (.ref b40), .val (.long z0), .second] [])) _
      refine XS.aload X52.here hx rfl (hb hby at_132) rfl f3_0 ?_
      show Steps p.tables e below (T52.setTop (mkF m 134 #[.val (.int p0), .val (.int p1), .val (.int p2), .val (.int p3), .val (.int p4), .val (.long p5), .second, .val (.int (2 : Int32)), .val u2, .val u4, .val u6, .val u8, .val (.ref b40), .val (.long z0), .second] [u4])) _
      refine XS.aload X52.here hx rfl (hb hby at_134) rfl f7_0 ?_
      exact Steps.refl _
    have s59 : Steps p.tables e below (s₁.setTop (entryFrame m #[(.int p0), (.int p1), (.int p2), (.int p3), (.int p4), (.long p5)] maxLocals)) (T52.setTop (mkF m 145 #[.val (.int p0), .val (.int p1), .val (.int p2), .val (.int p3), .val (.int p4), .val (.long p5), .second, .val (.int (2 : Int32)), .val u2, .val u4, .val u6, .val u8, .val (.ref b40), .val (.long (if u4 = u8 then (z0 + (1 : Int64)) else z0)), .second] [])) := by
      by_cases hm58 : u4 = u8
      · simp only [if_pos hm58]
        refine s57.trans ?_
        show Steps p.tables e below (T52.setTop (mkF m 136 #[.val (.int p0), .val (.int p1), .val (.int p2), .val (.int p3), .val (.int p4), .val (.long p5), .second, .val (.int (2 : Int32)), .val u2, .val u4, .val u6, .val u8, .val (.ref b40), .val (.long z0), .second] [u8, u4])) _
        refine Jvm.RoadKit.acmp (g := (mkF m 136 #[.val (.int p0), .val (.int p1), .val (.int p2), .val (.int p3), .val (.int p4), .val (.long p5), .second, .val (.int (2 : Int32)), .val u2, .val u4, .val u6, .val u8, .val (.ref b40), .val (.long z0), .second] [u8, u4])) X52 hx rfl f3_0 f7_0 (pc0 := 136) (pc' := 139) (same := true) rfl (hb hby at_136) rfl (decide_eq_true hm58) (by decide) (by decide) ?_
        show Steps p.tables e below (T52.setTop (mkF m 139 #[.val (.int p0), .val (.int p1), .val (.int p2), .val (.int p3), .val (.int p4), .val (.long p5), .second, .val (.int (2 : Int32)), .val u2, .val u4, .val u6, .val u8, .val (.ref b40), .val (.long z0), .second] [])) _
        refine XS.lload X52.here hx rfl (hb hby at_139) rfl ?_
        show Steps p.tables e below (T52.setTop (mkF m 141 #[.val (.int p0), .val (.int p1), .val (.int p2), .val (.int p3), .val (.int p4), .val (.long p5), .second, .val (.int (2 : Int32)), .val u2, .val u4, .val u6, .val u8, .val (.ref b40), .val (.long z0), .second] [(.long z0)])) _
        refine XS.lconst X52.here hx rfl (hb hby at_141) ?_
        show Steps p.tables e below (T52.setTop (mkF m 142 #[.val (.int p0), .val (.int p1), .val (.int p2), .val (.int p3), .val (.int p4), .val (.long p5), .second, .val (.int (2 : Int32)), .val u2, .val u4, .val u6, .val u8, .val (.ref b40), .val (.long z0), .second] [(.long (1 : Int64)), (.long z0)])) _
        refine XS.ladd X52.here hx rfl (hb hby at_142) rfl ?_
        show Steps p.tables e below (T52.setTop (mkF m 143 #[.val (.int p0), .val (.int p1), .val (.int p2), .val (.int p3), .val (.int p4), .val (.long p5), .second, .val (.int (2 : Int32)), .val u2, .val u4, .val u6, .val u8, .val (.ref b40), .val (.long z0), .second] [(.long (z0 + (1 : Int64)))])) _
        refine XS.lstore X52.here hx rfl (hb hby at_143) rfl (l' := #[.val (.int p0), .val (.int p1), .val (.int p2), .val (.int p3), .val (.int p4), .val (.long p5), .second, .val (.int (2 : Int32)), .val u2, .val u4, .val u6, .val u8, .val (.ref b40), .val (.long (z0 + (1 : Int64))), .second]) rfl ?_
        exact Steps.refl _
      · simp only [if_neg hm58]
        refine s57.trans ?_
        show Steps p.tables e below (T52.setTop (mkF m 136 #[.val (.int p0), .val (.int p1), .val (.int p2), .val (.int p3), .val (.int p4), .val (.long p5), .second, .val (.int (2 : Int32)), .val u2, .val u4, .val u6, .val u8, .val (.ref b40), .val (.long z0), .second] [u8, u4])) _
        refine Jvm.RoadKit.acmp (g := (mkF m 136 #[.val (.int p0), .val (.int p1), .val (.int p2), .val (.int p3), .val (.int p4), .val (.long p5), .second, .val (.int (2 : Int32)), .val u2, .val u4, .val u6, .val u8, .val (.ref b40), .val (.long z0), .second] [u8, u4])) X52 hx rfl f3_0 f7_0 (pc0 := 136) (pc' := 145) (same := false) rfl (hb hby at_136) rfl (decide_eq_false hm58) (by decide) (by decide) ?_
        exact Steps.refl _
    obtain ⟨z1, hz1⟩ : ∃ z, z = (if u4 = u8 then (z0 + (1 : Int64)) else z0) := ⟨_, rfl⟩
    rw [← hz1] at s59
    have c60 : Fld Z T52.heap b40 "com/example/hot_gate/hotgate/bench/Replies" "outcomes" "[Lcom/example/hot_gate/hotgate/bench/Outcome;" (.ref u44) := (c51.keep Kc52 (ninS ne_b40_u42 (ninS ne_b40_u43 (ninS ne_b40_u44 nin0))))
    have c62 : Exa Z T52.heap b40 "com/example/hot_gate/hotgate/bench/Replies" := (c53.keep Kc52)
    obtain ⟨cq61, kq61, q61a, q61b, q61c⟩ := isOf hZ (rfl : T52.heap = T52.heap) c62
    obtain ⟨_, _, ⟨T61, L61, k61, n61⟩, -, X61, ⟨Lc61, hQ61, l61, y61, z61⟩, st61⟩ := X52.virtualBack hx (y := (⟨"com/example/hot_gate/hotgate/bench/Replies", "count", "(Lcom/example/hot_gate/hotgate/bench/Outcome;)J"⟩ : MethodName)) (z := (⟨"com/example/hot_gate/hotgate/bench/Replies", "count", "(Lcom/example/hot_gate/hotgate/bench/Outcome;)J"⟩ : MethodName)) hown (mvT hZ (hw _ (List.mem_of_getElem? (i := 41) rfl))) (mvT hZ (hw _ (List.mem_of_getElem? (i := 42) rfl))) (notFace_of_selects (args := #[]) (mvT hZ (hw _ (List.mem_of_getElem? (i := 44) rfl)))) (mvT hZ (hw _ (List.mem_of_getElem? (i := 44) rfl))) (mvT hZ (hw _ (List.mem_of_getElem? (i := 43) rfl))) (by decide) (backOf (W := 0) (rmc2 l Z a0 hw [] b40 u8 u44 u47 u2 u4 T52.heap n0 O52 c60 f52_2 f1_0 f3_0 f7_0) hZ (hw _ (List.mem_of_getElem? (i := 45) rfl)) (hw _ (List.mem_of_getElem? (i := 16) rfl)) (by decide) (by decide)) q61a q61c (g := (mkF m 168 #[.val (.int p0), .val (.int p1), .val (.int p2), .val (.int p3), .val (.int p4), .val (.long p5), .second, .val (.int (2 : Int32)), .val u2, .val u4, .val u6, .val u8, .val (.ref b40), .val (.long z1), .second] [u8, (.ref b40)])) rfl (by rw [hml]; rfl) (Steps.refl _) (argsL := [u8]) (rest := []) (lenOf pd_rm0_2 rfl) rfl (by show 2 * 0 + _ ≤ _; exact Nat.le_of_eq rfl) (hb hby at_168) (fun _ _ => ⟨rfl, (rfl : T52.heap = T52.heap), (by decide : 5 + 0 ≤ _), (by decide : 11 + 0 ≤ _)⟩)
    dsimp only [Pt.U, Pt.locs, Pt.cells, Pt.slots] at X61 l61 y61 z61 st61 hQ61
    subst l61 y61 z61
    obtain ⟨rfl, Nq61, e61⟩ := hQ61
    have N61 := Fr.app N52 Nq61
    have s63 : Steps p.tables e below (s₁.setTop (entryFrame m #[(.int p0), (.int p1), (.int p2), (.int p3), (.int p4), (.long p5)] maxLocals)) (T61.setTop (mkF m 182 #[.val (.int p0), .val (.int p1), .val (.int p2), .val (.int p3), .val (.int p4), .val (.long p5), .second, .val (.int (2 : Int32)), .val u2, .val u4, .val u6, .val u8, .val (.ref b40), .val (.long z1), .second] [(.int (1 : Int32))])) := by
      refine s59.trans ?_
      show Steps p.tables e below (T52.setTop (mkF m 145 #[.val (.int p0), .val (.int p1), .val (.int p2), .val (.int p3), .val (.int p4), .val (.long p5), .second, .val (.int (2 : Int32)), .val u2, .val u4, .val u6, .val u8, .val (.ref b40), .val (.long z1), .second] [])) _
      refine XS.iload X52.here hx rfl (hb hby at_145) rfl ?_
      show Steps p.tables e below (T52.setTop (mkF m 147 #[.val (.int p0), .val (.int p1), .val (.int p2), .val (.int p3), .val (.int p4), .val (.long p5), .second, .val (.int (2 : Int32)), .val u2, .val u4, .val u6, .val u8, .val (.ref b40), .val (.long z1), .second] [(.int (2 : Int32))])) _
      refine XS.iconst X52.here hx rfl (hb hby at_147) ?_
      show Steps p.tables e below (T52.setTop (mkF m 148 #[.val (.int p0), .val (.int p1), .val (.int p2), .val (.int p3), .val (.int p4), .val (.long p5), .second, .val (.int (2 : Int32)), .val u2, .val u4, .val u6, .val u8, .val (.ref b40), .val (.long z1), .second] [(.int (2 : Int32)), (.int (2 : Int32))])) _
      refine XS.icmpYes X52.here hx rfl (pc0 := 148) (pc' := 164) rfl (hb hby at_148) rfl (flt (by decide)).2.2.2 (by decide) (by decide) ?_
      show Steps p.tables e below (T52.setTop (mkF m 164 #[.val (.int p0), .val (.int p1), .val (.int p2), .val (.int p3), .val (.int p4), .val (.long p5), .second, .val (.int (2 : Int32)), .val u2, .val u4, .val u6, .val u8, .val (.ref b40), .val (.long z1), .second] [])) _
      refine XS.aload X52.here hx rfl (hb hby at_164) rfl rfl ?_
      show Steps p.tables e below (T52.setTop (mkF m 166 #[.val (.int p0), .val (.int p1), .val (.int p2), .val (.int p3), .val (.int p4), .val (.long p5), .second, .val (.int (2 : Int32)), .val u2, .val u4, .val u6, .val u8, .val (.ref b40), .val (.long z1), .second] [(.ref b40)])) _
      refine XS.aload X52.here hx rfl (hb hby at_166) rfl f7_0 ?_
      show Steps p.tables e below (T52.setTop (mkF m 168 #[.val (.int p0), .val (.int p1), .val (.int p2), .val (.int p3), .val (.int p4), .val (.long p5), .second, .val (.int (2 : Int32)), .val u2, .val u4, .val u6, .val u8, .val (.ref b40), .val (.long z1), .second] [u8, (.ref b40)])) _
      refine st61.trans ?_
      show Steps p.tables e below (T61.setTop (mkF m 171 #[.val (.int p0), .val (.int p1), .val (.int p2), .val (.int p3), .val (.int p4), .val (.long p5), .second, .val (.int (2 : Int32)), .val u2, .val u4, .val u6, .val u8, .val (.ref b40), .val (.long z1), .second] [(.long (if u4 = u8 then ((if u2 = u8 then (1 : Int64) else (0 : Int64)) + (1 : Int64)) else (if u2 = u8 then (1 : Int64) else (0 : Int64))))])) _
      refine XS.lload X61.here hx rfl (hb hby at_171) rfl ?_
      show Steps p.tables e below (T61.setTop (mkF m 173 #[.val (.int p0), .val (.int p1), .val (.int p2), .val (.int p3), .val (.int p4), .val (.long p5), .second, .val (.int (2 : Int32)), .val u2, .val u4, .val u6, .val u8, .val (.ref b40), .val (.long z1), .second] [(.long z1), (.long (if u4 = u8 then ((if u2 = u8 then (1 : Int64) else (0 : Int64)) + (1 : Int64)) else (if u2 = u8 then (1 : Int64) else (0 : Int64))))])) _
      refine XS.lcmp X61.here hx rfl (hb hby at_173) rfl ?_
      show Steps p.tables e below (T61.setTop (mkF m 174 #[.val (.int p0), .val (.int p1), .val (.int p2), .val (.int p3), .val (.int p4), .val (.long p5), .second, .val (.int (2 : Int32)), .val u2, .val u4, .val u6, .val u8, .val (.ref b40), .val (.long z1), .second] [(.int (lcmpW (if u4 = u8 then ((if u2 = u8 then (1 : Int64) else (0 : Int64)) + (1 : Int64)) else (if u2 = u8 then (1 : Int64) else (0 : Int64))) z1))])) _
      refine XS.ifNo X61.here hx rfl (hb hby at_174) rfl ((if0 _ _).trans (teq (by rw [hz1, hz0]; exact (lw_eq _ _).mpr rfl)).2) ?_
      show Steps p.tables e below (T61.setTop (mkF m 177 #[.val (.int p0), .val (.int p1), .val (.int p2), .val (.int p3), .val (.int p4), .val (.long p5), .second, .val (.int (2 : Int32)), .val u2, .val u4, .val u6, .val u8, .val (.ref b40), .val (.long z1), .second] [])) _
      refine XS.iconst X61.here hx rfl (hb hby at_177) ?_
      show Steps p.tables e below (T61.setTop (mkF m 178 #[.val (.int p0), .val (.int p1), .val (.int p2), .val (.int p3), .val (.int p4), .val (.long p5), .second, .val (.int (2 : Int32)), .val u2, .val u4, .val u6, .val u8, .val (.ref b40), .val (.long z1), .second] [(.int (1 : Int32))])) _
      refine XS.goto X61.here hx rfl (pc0 := 178) (pc' := 182) rfl (hb hby at_178) (by decide) (by decide) ?_
      exact Steps.refl _
    obtain ⟨fs, hr, hrun, hended, hW, hsame⟩ := X61.leave (v := some (.int (1 : Int32))) (fun h => by rw [Bd.returns] at h; cases h)
    refine ⟨_, _, s63.trans ?_, hrun, hended, _, _, rfl, ?_, ⟨_, rfl⟩, hW, hsame.mono (by decide) (by decide)⟩
    · show Steps p.tables e below (T61.setTop (mkF m 182 #[.val (.int p0), .val (.int p1), .val (.int p2), .val (.int p3), .val (.int p4), .val (.long p5), .second, .val (.int (2 : Int32)), .val u2, .val u4, .val u6, .val u8, .val (.ref b40), .val (.long z1), .second] [(.int (1 : Int32))])) _
      exact retN X61 hx (t := .boolean) Bd.returns (by simp) (hb hby at_182) hr
    · show Q0 Z p0 p1 p2 p3 p4 p5 v_ERROR v_SOLD_OUT v_ALREADY_CLAIMED v_ACCEPTED h0 n0 _ T61.heap _
      rw [e61]
      exact ⟨rfl, N61⟩
  · have s64 := s9
    rw [hk10] at s64
    obtain ⟨T65, h65, X65, e65, E65, A65, D65, -, st65⟩ := newO X7 hx hZ hown (hw _ (List.mem_of_getElem? (i := 14) rfl)) (hw _ (List.mem_of_getElem? (i := 15) rfl)) (hw _ (List.mem_of_getElem? (i := 16) rfl)) e7 (g := (mkF m 30 #[.val (.int p0), .val (.int p1), .val (.int p2), .val (.int p3), .val (.int p4), .val (.long p5), .second, .val (.int (3 : Int32)), .val u2, .val u4, .val u6, .val u8, .unset, .unset, .unset] [])) rfl (hb hby at_30) (by decide) (by decide)
    obtain ⟨b65, g65⟩ : ∃ z, z = h0.size := ⟨_, rfl⟩
    rw [← g65] at A65 D65 st65
    have g_b65 : n0 ≤ b65 := Nat.le_trans (Nat.le_of_eq O0.1.symm) (Nat.le_trans O0.2.1 (Nat.le_of_eq g65.symm))
    have O65 := O0.ext E65
    have F65_firstError : Fld Z h65 b65 "com/example/hot_gate/hotgate/bench/Replies" "firstError" "Ljava/util/concurrent/atomic/AtomicReference;" .null := D65 (Or.inr (hw _ (List.mem_of_getElem? (i := 31) rfl))) (ty := (.object "java/util/concurrent/atomic/AtomicReference")) (by decide)
    have F65_sentAt : Fld Z h65 b65 "com/example/hot_gate/hotgate/bench/Replies" "sentAt" "[J" .null := D65 (Or.inr (hw _ (List.mem_of_getElem? (i := 34) rfl))) (ty := (.array .long)) (by decide)
    have F65_answeredAt : Fld Z h65 b65 "com/example/hot_gate/hotgate/bench/Replies" "answeredAt" "[J" .null := D65 (Or.inr (hw _ (List.mem_of_getElem? (i := 36) rfl))) (ty := (.array .long)) (by decide)
    have F65_outcomes : Fld Z h65 b65 "com/example/hot_gate/hotgate/bench/Replies" "outcomes" "[Lcom/example/hot_gate/hotgate/bench/Outcome;" .null := D65 (Or.inr (hw _ (List.mem_of_getElem? (i := 40) rfl))) (ty := (.array (.object "com/example/hot_gate/hotgate/bench/Outcome"))) (by decide)
    obtain ⟨_, _, ⟨T66, L66, k66, n66⟩, -, X66, ⟨Lc66, hQ66, l66, y66, z66⟩, st66⟩ := X65.specialBack hx (y := (⟨"com/example/hot_gate/hotgate/bench/Replies", "<init>", "(I)V"⟩ : MethodName)) rfl hown (mvT hZ (hw _ (List.mem_of_getElem? (i := 17) rfl))) (mvT hZ (hw _ (List.mem_of_getElem? (i := 18) rfl))) (mvT hZ (hw _ (List.mem_of_getElem? (i := 19) rfl))) (by decide) (backOf (W := 1) (rmi3 l Z a0 hw [] b65 h65 n0 O65 A65 F65_firstError F65_sentAt F65_answeredAt F65_outcomes g_b65) hZ (hw _ (List.mem_of_getElem? (i := 19) rfl)) (hw _ (List.mem_of_getElem? (i := 16) rfl)) (by decide) (by decide)) (g := (mkF m 36 #[.val (.int p0), .val (.int p1), .val (.int p2), .val (.int p3), .val (.int p4), .val (.long p5), .second, .val (.int (3 : Int32)), .val u2, .val u4, .val u6, .val u8, .unset, .unset, .unset] [(.int (3 : Int32)), (.ref b65), (.ref b65)])) rfl (by rw [hml]; rfl) (Steps.refl _) (a := b65) (argsL := [(.int (3 : Int32))]) (rest := [(.ref b65)]) (lenOf pd_rm0_1 rfl) rfl (by show 2 * 0 + _ ≤ _; exact Nat.le_of_eq rfl) (hb hby at_36) (fun _ _ => ⟨rfl, e65, (by decide : 1 + 4 ≤ _), (by decide : 4 + 10 ≤ _)⟩)
    dsimp only [Pt.U, Pt.locs, Pt.cells, Pt.slots] at X66 l66 y66 z66 st66 hQ66
    subst l66 y66 z66
    obtain ⟨u67, u68, u69, u70, u71, u72, rfl, Nq66, Kc66, f66_0, f66_1, f66_2, f66_3, f66_4, f66_5, f66_6, f66_7, f66_8, f66_9, f66_10, f66_11, f66_12, f66_13⟩ := hQ66
    have N66 := Fr.app N7 Nq66
    have ne_b65_u67 : b65 ≠ u67 := Nat.ne_of_lt (Nat.lt_of_lt_of_le A65.lt f66_7)
    have ne_b65_u68 : b65 ≠ u68 := Nat.ne_of_lt (Nat.lt_of_lt_of_le A65.lt f66_8)
    have ne_b65_u69 : b65 ≠ u69 := Nat.ne_of_lt (Nat.lt_of_lt_of_le A65.lt f66_9)
    have g_u67 : n0 ≤ u67 := Nat.le_trans (Nat.le_of_eq O65.1.symm) (Nat.le_trans O65.2.1 f66_7)
    have g_u68 : n0 ≤ u68 := Nat.le_trans (Nat.le_of_eq O65.1.symm) (Nat.le_trans O65.2.1 f66_8)
    have g_u69 : n0 ≤ u69 := Nat.le_trans (Nat.le_of_eq O65.1.symm) (Nat.le_trans O65.2.1 f66_9)
    have O66 := O65.keep Kc66 (allS g_b65 all0)
    obtain ⟨cq73, kq73, q73a, q73b, q73c⟩ := isOf hZ (rfl : T66.heap = T66.heap) f66_0
    obtain ⟨_, _, ⟨T73, L73, k73, n73⟩, -, X73, ⟨Lc73, hQ73, l73, y73, z73⟩, st73⟩ := X66.virtualBack hx (y := (⟨"com/example/hot_gate/hotgate/bench/Replies", "record", "(IJJLcom/example/hot_gate/hotgate/bench/Outcome;Ljava/lang/String;)V"⟩ : MethodName)) (z := (⟨"com/example/hot_gate/hotgate/bench/Replies", "record", "(IJJLcom/example/hot_gate/hotgate/bench/Outcome;Ljava/lang/String;)V"⟩ : MethodName)) hown (mvT hZ (hw _ (List.mem_of_getElem? (i := 46) rfl))) (mvT hZ (hw _ (List.mem_of_getElem? (i := 47) rfl))) (notFace_of_selects (args := #[]) (mvT hZ (hw _ (List.mem_of_getElem? (i := 49) rfl)))) (mvT hZ (hw _ (List.mem_of_getElem? (i := 49) rfl))) (mvT hZ (hw _ (List.mem_of_getElem? (i := 48) rfl))) (by decide) (backOf (W := 0) (rmr3_0 l Z a0 hw [] b65 p5 p5 u2 u67 u68 u69 u70 u71 u72 (0 : Int64) (0 : Int64) (0 : Int64) (0 : Int64) (0 : Int64) (0 : Int64) T66.heap n0 O66 f66_1 f66_2 f66_3 f66_4 f66_5 f66_6 g_u67 g_u68 g_u69 f66_10 f66_11 f66_12 ne_b65_u67 ne_b65_u68 ne_b65_u69 f66_13 f1_1 f1_0) hZ (hw _ (List.mem_of_getElem? (i := 50) rfl)) (hw _ (List.mem_of_getElem? (i := 16) rfl)) (by decide) (by decide)) q73a q73c (g := (mkF m 56 #[.val (.int p0), .val (.int p1), .val (.int p2), .val (.int p3), .val (.int p4), .val (.long p5), .second, .val (.int (3 : Int32)), .val u2, .val u4, .val u6, .val u8, .val (.ref b65), .unset, .unset] [.null, u2, (.long p5), (.long p5), (.int (0 : Int32)), (.ref b65)])) rfl (by rw [hml]; rfl) (Steps.refl _) (argsL := [(.int (0 : Int32)), (.long p5), (.long p5), u2, .null]) (rest := []) (lenOf pd_rm0_3 rfl) rfl (by show 2 * 0 + _ ≤ _; exact Nat.le_of_eq rfl) (hb hby at_56) (fun _ _ => ⟨rfl, (rfl : T66.heap = T66.heap), (by decide : 5 + 0 ≤ _), (by decide : 14 + 0 ≤ _)⟩)
    dsimp only [Pt.U, Pt.locs, Pt.cells, Pt.slots] at X73 l73 y73 z73 st73 hQ73
    subst l73 y73 z73
    obtain ⟨rfl, Nq73, Kc73, f73_0, f73_1, f73_2⟩ := hQ73
    have N73 := Fr.app N66 Nq73
    have O73 := O66.keep Kc73 (allS g_u67 (allS g_u68 (allS g_u69 all0)))
    have c74 : Fld Z T73.heap b65 "com/example/hot_gate/hotgate/bench/Replies" "sentAt" "[J" (.ref u67) := (f66_1.keep Kc73 (ninS ne_b65_u67 (ninS ne_b65_u68 (ninS ne_b65_u69 nin0))))
    have c75 : Fld Z T73.heap b65 "com/example/hot_gate/hotgate/bench/Replies" "answeredAt" "[J" (.ref u68) := (f66_2.keep Kc73 (ninS ne_b65_u67 (ninS ne_b65_u68 (ninS ne_b65_u69 nin0))))
    have c76 : Fld Z T73.heap b65 "com/example/hot_gate/hotgate/bench/Replies" "outcomes" "[Lcom/example/hot_gate/hotgate/bench/Outcome;" (.ref u69) := (f66_3.keep Kc73 (ninS ne_b65_u67 (ninS ne_b65_u68 (ninS ne_b65_u69 nin0))))
    have c78 : Exa Z T73.heap b65 "com/example/hot_gate/hotgate/bench/Replies" := (f66_0.keep Kc73)
    obtain ⟨cq77, kq77, q77a, q77b, q77c⟩ := isOf hZ (rfl : T73.heap = T73.heap) c78
    obtain ⟨_, _, ⟨T77, L77, k77, n77⟩, -, X77, ⟨Lc77, hQ77, l77, y77, z77⟩, st77⟩ := X73.virtualBack hx (y := (⟨"com/example/hot_gate/hotgate/bench/Replies", "record", "(IJJLcom/example/hot_gate/hotgate/bench/Outcome;Ljava/lang/String;)V"⟩ : MethodName)) (z := (⟨"com/example/hot_gate/hotgate/bench/Replies", "record", "(IJJLcom/example/hot_gate/hotgate/bench/Outcome;Ljava/lang/String;)V"⟩ : MethodName)) hown (mvT hZ (hw _ (List.mem_of_getElem? (i := 46) rfl))) (mvT hZ (hw _ (List.mem_of_getElem? (i := 47) rfl))) (notFace_of_selects (args := #[]) (mvT hZ (hw _ (List.mem_of_getElem? (i := 49) rfl)))) (mvT hZ (hw _ (List.mem_of_getElem? (i := 49) rfl))) (mvT hZ (hw _ (List.mem_of_getElem? (i := 48) rfl))) (by decide) (backOf (W := 0) (rmr3_1 l Z a0 hw [] b65 p5 (p5 ^^^ (-1 : Int64)) u4 u67 u68 u69 u70 u71 u72 p5 (0 : Int64) (0 : Int64) p5 (0 : Int64) (0 : Int64) u2 T73.heap n0 O73 c74 c75 c76 f73_0 f73_1 f73_2 g_u67 g_u68 g_u69 f66_10 f66_11 f66_12 ne_b65_u67 ne_b65_u68 ne_b65_u69 f66_13 f3_1 f3_0) hZ (hw _ (List.mem_of_getElem? (i := 50) rfl)) (hw _ (List.mem_of_getElem? (i := 16) rfl)) (by decide) (by decide)) q77a q77c (g := (mkF m 79 #[.val (.int p0), .val (.int p1), .val (.int p2), .val (.int p3), .val (.int p4), .val (.long p5), .second, .val (.int (3 : Int32)), .val u2, .val u4, .val u6, .val u8, .val (.ref b65), .unset, .unset] [.null, u4, (.long (p5 ^^^ (-1 : Int64))), (.long p5), (.int (1 : Int32)), (.ref b65)])) rfl (by rw [hml]; rfl) (Steps.refl _) (argsL := [(.int (1 : Int32)), (.long p5), (.long (p5 ^^^ (-1 : Int64))), u4, .null]) (rest := []) (lenOf pd_rm0_3 rfl) rfl (by show 2 * 0 + _ ≤ _; exact Nat.le_of_eq rfl) (hb hby at_79) (fun _ _ => ⟨rfl, (rfl : T73.heap = T73.heap), (by decide : 5 + 0 ≤ _), (by decide : 14 + 0 ≤ _)⟩)
    dsimp only [Pt.U, Pt.locs, Pt.cells, Pt.slots] at X77 l77 y77 z77 st77 hQ77
    subst l77 y77 z77
    obtain ⟨rfl, Nq77, Kc77, f77_0, f77_1, f77_2⟩ := hQ77
    have N77 := Fr.app N73 Nq77
    have O77 := O73.keep Kc77 (allS g_u67 (allS g_u68 (allS g_u69 all0)))
    have c79 : Fld Z T77.heap b65 "com/example/hot_gate/hotgate/bench/Replies" "sentAt" "[J" (.ref u67) := (c74.keep Kc77 (ninS ne_b65_u67 (ninS ne_b65_u68 (ninS ne_b65_u69 nin0))))
    have c80 : Fld Z T77.heap b65 "com/example/hot_gate/hotgate/bench/Replies" "answeredAt" "[J" (.ref u68) := (c75.keep Kc77 (ninS ne_b65_u67 (ninS ne_b65_u68 (ninS ne_b65_u69 nin0))))
    have c81 : Fld Z T77.heap b65 "com/example/hot_gate/hotgate/bench/Replies" "outcomes" "[Lcom/example/hot_gate/hotgate/bench/Outcome;" (.ref u69) := (c76.keep Kc77 (ninS ne_b65_u67 (ninS ne_b65_u68 (ninS ne_b65_u69 nin0))))
    have c83 : Exa Z T77.heap b65 "com/example/hot_gate/hotgate/bench/Replies" := (c78.keep Kc77)
    obtain ⟨cq82, kq82, q82a, q82b, q82c⟩ := isOf hZ (rfl : T77.heap = T77.heap) c83
    obtain ⟨_, _, ⟨T82, L82, k82, n82⟩, -, X82, ⟨Lc82, hQ82, l82, y82, z82⟩, st82⟩ := X77.virtualBack hx (y := (⟨"com/example/hot_gate/hotgate/bench/Replies", "record", "(IJJLcom/example/hot_gate/hotgate/bench/Outcome;Ljava/lang/String;)V"⟩ : MethodName)) (z := (⟨"com/example/hot_gate/hotgate/bench/Replies", "record", "(IJJLcom/example/hot_gate/hotgate/bench/Outcome;Ljava/lang/String;)V"⟩ : MethodName)) hown (mvT hZ (hw _ (List.mem_of_getElem? (i := 46) rfl))) (mvT hZ (hw _ (List.mem_of_getElem? (i := 47) rfl))) (notFace_of_selects (args := #[]) (mvT hZ (hw _ (List.mem_of_getElem? (i := 49) rfl)))) (mvT hZ (hw _ (List.mem_of_getElem? (i := 49) rfl))) (mvT hZ (hw _ (List.mem_of_getElem? (i := 48) rfl))) (by decide) (backOf (W := 0) (rmr3_2 l Z a0 hw [] b65 (p5 ^^^ (-1 : Int64)) p5 u6 u67 u68 u69 u70 u71 u72 p5 p5 (0 : Int64) p5 (p5 ^^^ (-1 : Int64)) (0 : Int64) u2 u4 T77.heap n0 O77 c79 c80 c81 f77_0 f77_1 f77_2 g_u67 g_u68 g_u69 f66_10 f66_11 f66_12 ne_b65_u67 ne_b65_u68 ne_b65_u69 f66_13 f5_1 f5_0) hZ (hw _ (List.mem_of_getElem? (i := 50) rfl)) (hw _ (List.mem_of_getElem? (i := 16) rfl)) (by decide) (by decide)) q82a q82c (g := (mkF m 102 #[.val (.int p0), .val (.int p1), .val (.int p2), .val (.int p3), .val (.int p4), .val (.long p5), .second, .val (.int (3 : Int32)), .val u2, .val u4, .val u6, .val u8, .val (.ref b65), .unset, .unset] [.null, u6, (.long p5), (.long (p5 ^^^ (-1 : Int64))), (.int (2 : Int32)), (.ref b65)])) rfl (by rw [hml]; rfl) (Steps.refl _) (argsL := [(.int (2 : Int32)), (.long (p5 ^^^ (-1 : Int64))), (.long p5), u6, .null]) (rest := []) (lenOf pd_rm0_3 rfl) rfl (by show 2 * 0 + _ ≤ _; exact Nat.le_of_eq rfl) (hb hby at_102) (fun _ _ => ⟨rfl, (rfl : T77.heap = T77.heap), (by decide : 5 + 0 ≤ _), (by decide : 14 + 0 ≤ _)⟩)
    dsimp only [Pt.U, Pt.locs, Pt.cells, Pt.slots] at X82 l82 y82 z82 st82 hQ82
    subst l82 y82 z82
    obtain ⟨rfl, Nq82, Kc82, f82_0, f82_1, f82_2⟩ := hQ82
    have N82 := Fr.app N77 Nq82
    have O82 := O77.keep Kc82 (allS g_u67 (allS g_u68 (allS g_u69 all0)))
    have s84 : Steps p.tables e below (s₁.setTop (entryFrame m #[(.int p0), (.int p1), (.int p2), (.int p3), (.int p4), (.long p5)] maxLocals)) (T82.setTop (mkF m 117 #[.val (.int p0), .val (.int p1), .val (.int p2), .val (.int p3), .val (.int p4), .val (.long p5), .second, .val (.int (3 : Int32)), .val u2, .val u4, .val u6, .val u8, .val (.ref b65), .val (.long (0 : Int64)), .second] [u8, u2])) := by
      refine s64.trans ?_
      show Steps p.tables e below (T7.setTop (mkF m 30 #[.val (.int p0), .val (.int p1), .val (.int p2), .val (.int p3), .val (.int p4), .val (.long p5), .second, .val (.int (3 : Int32)), .val u2, .val u4, .val u6, .val u8, .unset, .unset, .unset] [])) _
      refine st65 _ ?_
      show Steps p.tables e below (T65.setTop (mkF m 33 #[.val (.int p0), .val (.int p1), .val (.int p2), .val (.int p3), .val (.int p4), .val (.long p5), .second, .val (.int (3 : Int32)), .val u2, .val u4, .val u6, .val u8, .unset, .unset, .unset] [(.ref b65)])) _
      refine XS.dup X65.here hx rfl (hb hby at_33) rfl rfl ?_
      show Steps p.tables e below (T65.setTop (mkF m 34 #[.val (.int p0), .val (.int p1), .val (.int p2), .val (.int p3), .val (.int p4), .val (.long p5), .second, .val (.int (3 : Int32)), .val u2, .val u4, .val u6, .val u8, .unset, .unset, .unset] [(.ref b65), (.ref b65)])) _
      refine XS.iload X65.here hx rfl (hb hby at_34) rfl ?_
      show Steps p.tables e below (T65.setTop (mkF m 36 #[.val (.int p0), .val (.int p1), .val (.int p2), .val (.int p3), .val (.int p4), .val (.long p5), .second, .val (.int (3 : Int32)), .val u2, .val u4, .val u6, .val u8, .unset, .unset, .unset] [(.int (3 : Int32)), (.ref b65), (.ref b65)])) _
      refine st66.trans ?_
      show Steps p.tables e below (T66.setTop (mkF m 39 #[.val (.int p0), .val (.int p1), .val (.int p2), .val (.int p3), .val (.int p4), .val (.long p5), .second, .val (.int (3 : Int32)), .val u2, .val u4, .val u6, .val u8, .unset, .unset, .unset] [(.ref b65)])) _
      refine XS.astore X66.here hx rfl (hb hby at_39) rfl rfl (l' := #[.val (.int p0), .val (.int p1), .val (.int p2), .val (.int p3), .val (.int p4), .val (.long p5), .second, .val (.int (3 : Int32)), .val u2, .val u4, .val u6, .val u8, .val (.ref b65), .unset, .unset]) rfl ?_
      show Steps p.tables e below (T66.setTop (mkF m 41 #[.val (.int p0), .val (.int p1), .val (.int p2), .val (.int p3), .val (.int p4), .val (.long p5), .second, .val (.int (3 : Int32)), .val u2, .val u4, .val u6, .val u8, .val (.ref b65), .unset, .unset] [])) _
      refine XS.iload X66.here hx rfl (hb hby at_41) rfl ?_
      show Steps p.tables e below (T66.setTop (mkF m 43 #[.val (.int p0), .val (.int p1), .val (.int p2), .val (.int p3), .val (.int p4), .val (.long p5), .second, .val (.int (3 : Int32)), .val u2, .val u4, .val u6, .val u8, .val (.ref b65), .unset, .unset] [(.int (3 : Int32))])) _
      refine XS.ifNo X66.here hx rfl (hb hby at_43) rfl ((if0 _ _).trans (tlt (by decide)).2.2.2) ?_
      show Steps p.tables e below (T66.setTop (mkF m 46 #[.val (.int p0), .val (.int p1), .val (.int p2), .val (.int p3), .val (.int p4), .val (.long p5), .second, .val (.int (3 : Int32)), .val u2, .val u4, .val u6, .val u8, .val (.ref b65), .unset, .unset] [])) _
      refine XS.aload X66.here hx rfl (hb hby at_46) rfl rfl ?_
      show Steps p.tables e below (T66.setTop (mkF m 48 #[.val (.int p0), .val (.int p1), .val (.int p2), .val (.int p3), .val (.int p4), .val (.long p5), .second, .val (.int (3 : Int32)), .val u2, .val u4, .val u6, .val u8, .val (.ref b65), .unset, .unset] [(.ref b65)])) _
      refine XS.iconst X66.here hx rfl (hb hby at_48) ?_
      show Steps p.tables e below (T66.setTop (mkF m 49 #[.val (.int p0), .val (.int p1), .val (.int p2), .val (.int p3), .val (.int p4), .val (.long p5), .second, .val (.int (3 : Int32)), .val u2, .val u4, .val u6, .val u8, .val (.ref b65), .unset, .unset] [(.int (0 : Int32)), (.ref b65)])) _
      refine XS.lload X66.here hx rfl (hb hby at_49) rfl ?_
      show Steps p.tables e below (T66.setTop (mkF m 51 #[.val (.int p0), .val (.int p1), .val (.int p2), .val (.int p3), .val (.int p4), .val (.long p5), .second, .val (.int (3 : Int32)), .val u2, .val u4, .val u6, .val u8, .val (.ref b65), .unset, .unset] [(.long p5), (.int (0 : Int32)), (.ref b65)])) _
      refine XS.lload X66.here hx rfl (hb hby at_51) rfl ?_
      show Steps p.tables e below (T66.setTop (mkF m 53 #[.val (.int p0), .val (.int p1), .val (.int p2), .val (.int p3), .val (.int p4), .val (.long p5), .second, .val (.int (3 : Int32)), .val u2, .val u4, .val u6, .val u8, .val (.ref b65), .unset, .unset] [(.long p5), (.long p5), (.int (0 : Int32)), (.ref b65)])) _
      refine XS.aload X66.here hx rfl (hb hby at_53) rfl f1_0 ?_
      show Steps p.tables e below (T66.setTop (mkF m 55 #[.val (.int p0), .val (.int p1), .val (.int p2), .val (.int p3), .val (.int p4), .val (.long p5), .second, .val (.int (3 : Int32)), .val u2, .val u4, .val u6, .val u8, .val (.ref b65), .unset, .unset] [u2, (.long p5), (.long p5), (.int (0 : Int32)), (.ref b65)])) _
      refine XS.aconstNull X66.here hx rfl (hb hby at_55) ?_
      show Steps p.tables e below (T66.setTop (mkF m 56 #[.val (.int p0), .val (.int p1), .val (.int p2), .val (.int p3), .val (.int p4), .val (.long p5), .second, .val (.int (3 : Int32)), .val u2, .val u4, .val u6, .val u8, .val (.ref b65), .unset, .unset] [.null, u2, (.long p5), (.long p5), (.int (0 : Int32)), (.ref b65)])) _
      refine st73.trans ?_
      show Steps p.tables e below (T73.setTop (mkF m 59 #[.val (.int p0), .val (.int p1), .val (.int p2), .val (.int p3), .val (.int p4), .val (.long p5), .second, .val (.int (3 : Int32)), .val u2, .val u4, .val u6, .val u8, .val (.ref b65), .unset, .unset] [])) _
      refine XS.iload X73.here hx rfl (hb hby at_59) rfl ?_
      show Steps p.tables e below (T73.setTop (mkF m 61 #[.val (.int p0), .val (.int p1), .val (.int p2), .val (.int p3), .val (.int p4), .val (.long p5), .second, .val (.int (3 : Int32)), .val u2, .val u4, .val u6, .val u8, .val (.ref b65), .unset, .unset] [(.int (3 : Int32))])) _
      refine XS.iconst X73.here hx rfl (hb hby at_61) ?_
      show Steps p.tables e below (T73.setTop (mkF m 62 #[.val (.int p0), .val (.int p1), .val (.int p2), .val (.int p3), .val (.int p4), .val (.long p5), .second, .val (.int (3 : Int32)), .val u2, .val u4, .val u6, .val u8, .val (.ref b65), .unset, .unset] [(.int (1 : Int32)), (.int (3 : Int32))])) _
      refine XS.icmpNo X73.here hx rfl (hb hby at_62) rfl (tlt (by decide)).2.2.2 ?_
      show Steps p.tables e below (T73.setTop (mkF m 65 #[.val (.int p0), .val (.int p1), .val (.int p2), .val (.int p3), .val (.int p4), .val (.long p5), .second, .val (.int (3 : Int32)), .val u2, .val u4, .val u6, .val u8, .val (.ref b65), .unset, .unset] [])) _
      refine XS.aload X73.here hx rfl (hb hby at_65) rfl rfl ?_
      show Steps p.tables e below (T73.setTop (mkF m 67 #[.val (.int p0), .val (.int p1), .val (.int p2), .val (.int p3), .val (.int p4), .val (.long p5), .second, .val (.int (3 : Int32)), .val u2, .val u4, .val u6, .val u8, .val (.ref b65), .unset, .unset] [(.ref b65)])) _
      refine XS.iconst X73.here hx rfl (hb hby at_67) ?_
      show Steps p.tables e below (T73.setTop (mkF m 68 #[.val (.int p0), .val (.int p1), .val (.int p2), .val (.int p3), .val (.int p4), .val (.long p5), .second, .val (.int (3 : Int32)), .val u2, .val u4, .val u6, .val u8, .val (.ref b65), .unset, .unset] [(.int (1 : Int32)), (.ref b65)])) _
      refine XS.lload X73.here hx rfl (hb hby at_68) rfl ?_
      show Steps p.tables e below (T73.setTop (mkF m 70 #[.val (.int p0), .val (.int p1), .val (.int p2), .val (.int p3), .val (.int p4), .val (.long p5), .second, .val (.int (3 : Int32)), .val u2, .val u4, .val u6, .val u8, .val (.ref b65), .unset, .unset] [(.long p5), (.int (1 : Int32)), (.ref b65)])) _
      refine XS.lload X73.here hx rfl (hb hby at_70) rfl ?_
      show Steps p.tables e below (T73.setTop (mkF m 72 #[.val (.int p0), .val (.int p1), .val (.int p2), .val (.int p3), .val (.int p4), .val (.long p5), .second, .val (.int (3 : Int32)), .val u2, .val u4, .val u6, .val u8, .val (.ref b65), .unset, .unset] [(.long p5), (.long p5), (.int (1 : Int32)), (.ref b65)])) _
      refine X73.ldc2Long hx hown (mvT hZ (hw _ (List.mem_of_getElem? (i := 52) rfl))) (g := (mkF m 72 #[.val (.int p0), .val (.int p1), .val (.int p2), .val (.int p3), .val (.int p4), .val (.long p5), .second, .val (.int (3 : Int32)), .val u2, .val u4, .val u6, .val u8, .val (.ref b65), .unset, .unset] [(.long p5), (.long p5), (.int (1 : Int32)), (.ref b65)])) rfl (hb hby at_72) _ ?_
      show Steps p.tables e below (T73.setTop (mkF m 75 #[.val (.int p0), .val (.int p1), .val (.int p2), .val (.int p3), .val (.int p4), .val (.long p5), .second, .val (.int (3 : Int32)), .val u2, .val u4, .val u6, .val u8, .val (.ref b65), .unset, .unset] [(.long (-1 : Int64)), (.long p5), (.long p5), (.int (1 : Int32)), (.ref b65)])) _
      refine XS.lxor X73.here hx rfl (hb hby at_75) rfl ?_
      show Steps p.tables e below (T73.setTop (mkF m 76 #[.val (.int p0), .val (.int p1), .val (.int p2), .val (.int p3), .val (.int p4), .val (.long p5), .second, .val (.int (3 : Int32)), .val u2, .val u4, .val u6, .val u8, .val (.ref b65), .unset, .unset] [(.long (p5 ^^^ (-1 : Int64))), (.long p5), (.int (1 : Int32)), (.ref b65)])) _
      refine XS.aload X73.here hx rfl (hb hby at_76) rfl f3_0 ?_
      show Steps p.tables e below (T73.setTop (mkF m 78 #[.val (.int p0), .val (.int p1), .val (.int p2), .val (.int p3), .val (.int p4), .val (.long p5), .second, .val (.int (3 : Int32)), .val u2, .val u4, .val u6, .val u8, .val (.ref b65), .unset, .unset] [u4, (.long (p5 ^^^ (-1 : Int64))), (.long p5), (.int (1 : Int32)), (.ref b65)])) _
      refine XS.aconstNull X73.here hx rfl (hb hby at_78) ?_
      show Steps p.tables e below (T73.setTop (mkF m 79 #[.val (.int p0), .val (.int p1), .val (.int p2), .val (.int p3), .val (.int p4), .val (.long p5), .second, .val (.int (3 : Int32)), .val u2, .val u4, .val u6, .val u8, .val (.ref b65), .unset, .unset] [.null, u4, (.long (p5 ^^^ (-1 : Int64))), (.long p5), (.int (1 : Int32)), (.ref b65)])) _
      refine st77.trans ?_
      show Steps p.tables e below (T77.setTop (mkF m 82 #[.val (.int p0), .val (.int p1), .val (.int p2), .val (.int p3), .val (.int p4), .val (.long p5), .second, .val (.int (3 : Int32)), .val u2, .val u4, .val u6, .val u8, .val (.ref b65), .unset, .unset] [])) _
      refine XS.iload X77.here hx rfl (hb hby at_82) rfl ?_
      show Steps p.tables e below (T77.setTop (mkF m 84 #[.val (.int p0), .val (.int p1), .val (.int p2), .val (.int p3), .val (.int p4), .val (.long p5), .second, .val (.int (3 : Int32)), .val u2, .val u4, .val u6, .val u8, .val (.ref b65), .unset, .unset] [(.int (3 : Int32))])) _
      refine XS.iconst X77.here hx rfl (hb hby at_84) ?_
      show Steps p.tables e below (T77.setTop (mkF m 85 #[.val (.int p0), .val (.int p1), .val (.int p2), .val (.int p3), .val (.int p4), .val (.long p5), .second, .val (.int (3 : Int32)), .val u2, .val u4, .val u6, .val u8, .val (.ref b65), .unset, .unset] [(.int (2 : Int32)), (.int (3 : Int32))])) _
      refine XS.icmpNo X77.here hx rfl (hb hby at_85) rfl (tlt (by decide)).2.2.2 ?_
      show Steps p.tables e below (T77.setTop (mkF m 88 #[.val (.int p0), .val (.int p1), .val (.int p2), .val (.int p3), .val (.int p4), .val (.long p5), .second, .val (.int (3 : Int32)), .val u2, .val u4, .val u6, .val u8, .val (.ref b65), .unset, .unset] [])) _
      refine XS.aload X77.here hx rfl (hb hby at_88) rfl rfl ?_
      show Steps p.tables e below (T77.setTop (mkF m 90 #[.val (.int p0), .val (.int p1), .val (.int p2), .val (.int p3), .val (.int p4), .val (.long p5), .second, .val (.int (3 : Int32)), .val u2, .val u4, .val u6, .val u8, .val (.ref b65), .unset, .unset] [(.ref b65)])) _
      refine XS.iconst X77.here hx rfl (hb hby at_90) ?_
      show Steps p.tables e below (T77.setTop (mkF m 91 #[.val (.int p0), .val (.int p1), .val (.int p2), .val (.int p3), .val (.int p4), .val (.long p5), .second, .val (.int (3 : Int32)), .val u2, .val u4, .val u6, .val u8, .val (.ref b65), .unset, .unset] [(.int (2 : Int32)), (.ref b65)])) _
      refine XS.lload X77.here hx rfl (hb hby at_91) rfl ?_
      show Steps p.tables e below (T77.setTop (mkF m 93 #[.val (.int p0), .val (.int p1), .val (.int p2), .val (.int p3), .val (.int p4), .val (.long p5), .second, .val (.int (3 : Int32)), .val u2, .val u4, .val u6, .val u8, .val (.ref b65), .unset, .unset] [(.long p5), (.int (2 : Int32)), (.ref b65)])) _
      refine X77.ldc2Long hx hown (mvT hZ (hw _ (List.mem_of_getElem? (i := 52) rfl))) (g := (mkF m 93 #[.val (.int p0), .val (.int p1), .val (.int p2), .val (.int p3), .val (.int p4), .val (.long p5), .second, .val (.int (3 : Int32)), .val u2, .val u4, .val u6, .val u8, .val (.ref b65), .unset, .unset] [(.long p5), (.int (2 : Int32)), (.ref b65)])) rfl (hb hby at_93) _ ?_
      show Steps p.tables e below (T77.setTop (mkF m 96 #[.val (.int p0), .val (.int p1), .val (.int p2), .val (.int p3), .val (.int p4), .val (.long p5), .second, .val (.int (3 : Int32)), .val u2, .val u4, .val u6, .val u8, .val (.ref b65), .unset, .unset] [(.long (-1 : Int64)), (.long p5), (.int (2 : Int32)), (.ref b65)])) _
      refine XS.lxor X77.here hx rfl (hb hby at_96) rfl ?_
      show Steps p.tables e below (T77.setTop (mkF m 97 #[.val (.int p0), .val (.int p1), .val (.int p2), .val (.int p3), .val (.int p4), .val (.long p5), .second, .val (.int (3 : Int32)), .val u2, .val u4, .val u6, .val u8, .val (.ref b65), .unset, .unset] [(.long (p5 ^^^ (-1 : Int64))), (.int (2 : Int32)), (.ref b65)])) _
      refine XS.lload X77.here hx rfl (hb hby at_97) rfl ?_
      show Steps p.tables e below (T77.setTop (mkF m 99 #[.val (.int p0), .val (.int p1), .val (.int p2), .val (.int p3), .val (.int p4), .val (.long p5), .second, .val (.int (3 : Int32)), .val u2, .val u4, .val u6, .val u8, .val (.ref b65), .unset, .unset] [(.long p5), (.long (p5 ^^^ (-1 : Int64))), (.int (2 : Int32)), (.ref b65)])) _
      refine XS.aload X77.here hx rfl (hb hby at_99) rfl f5_0 ?_
      show Steps p.tables e below (T77.setTop (mkF m 101 #[.val (.int p0), .val (.int p1), .val (.int p2), .val (.int p3), .val (.int p4), .val (.long p5), .second, .val (.int (3 : Int32)), .val u2, .val u4, .val u6, .val u8, .val (.ref b65), .unset, .unset] [u6, (.long p5), (.long (p5 ^^^ (-1 : Int64))), (.int (2 : Int32)), (.ref b65)])) _
      refine XS.aconstNull X77.here hx rfl (hb hby at_101) ?_
      show Steps p.tables e below (T77.setTop (mkF m 102 #[.val (.int p0), .val (.int p1), .val (.int p2), .val (.int p3), .val (.int p4), .val (.long p5), .second, .val (.int (3 : Int32)), .val u2, .val u4, .val u6, .val u8, .val (.ref b65), .unset, .unset] [.null, u6, (.long p5), (.long (p5 ^^^ (-1 : Int64))), (.int (2 : Int32)), (.ref b65)])) _
      refine st82.trans ?_
      show Steps p.tables e below (T82.setTop (mkF m 105 #[.val (.int p0), .val (.int p1), .val (.int p2), .val (.int p3), .val (.int p4), .val (.long p5), .second, .val (.int (3 : Int32)), .val u2, .val u4, .val u6, .val u8, .val (.ref b65), .unset, .unset] [])) _
      refine XS.lconst X82.here hx rfl (hb hby at_105) ?_
      show Steps p.tables e below (T82.setTop (mkF m 106 #[.val (.int p0), .val (.int p1), .val (.int p2), .val (.int p3), .val (.int p4), .val (.long p5), .second, .val (.int (3 : Int32)), .val u2, .val u4, .val u6, .val u8, .val (.ref b65), .unset, .unset] [(.long (0 : Int64))])) _
      refine XS.lstore X82.here hx rfl (hb hby at_106) rfl (l' := #[.val (.int p0), .val (.int p1), .val (.int p2), .val (.int p3), .val (.int p4), .val (.long p5), .second, .val (.int (3 : Int32)), .val u2, .val u4, .val u6, .val u8, .val (.ref b65), .val (.long (0 : Int64)), .second]) rfl ?_
      show Steps p.tables e below (T82.setTop (mkF m 108 #[.val (.int p0), .val (.int p1), .val (.int p2), .val (.int p3), .val (.int p4), .val (.long p5), .second, .val (.int (3 : Int32)), .val u2, .val u4, .val u6, .val u8, .val (.ref b65), .val (.long (0 : Int64)), .second] [])) _
      refine XS.iload X82.here hx rfl (hb hby at_108) rfl ?_
      show Steps p.tables e below (T82.setTop (mkF m 110 #[.val (.int p0), .val (.int p1), .val (.int p2), .val (.int p3), .val (.int p4), .val (.long p5), .second, .val (.int (3 : Int32)), .val u2, .val u4, .val u6, .val u8, .val (.ref b65), .val (.long (0 : Int64)), .second] [(.int (3 : Int32))])) _
      refine XS.ifNo X82.here hx rfl (hb hby at_110) rfl ((if0 _ _).trans (tlt (by decide)).2.2.2) ?_
      show Steps p.tables e below (T82.setTop (mkF m 113 #[.val (.int p0), .val (.int p1), .val (.int p2), .val (.int p3), .val (.int p4), .val (.long p5), .second, .val (.int (3 : Int32)), .val u2, .val u4, .val u6, .val u8, .val (.ref b65), .val (.long (0 : Int64)), .second] [])) _
      refine XS.aload X82.here hx rfl (hb hby at_113) rfl f1_0 ?_
      show Steps p.tables e below (T82.setTop (mkF m 115 #[.val (.int p0), .val (.int p1), .val (.int p2), .val (.int p3), .val (.int p4), .val (.long p5), .second, .val (.int (3 : Int32)), .val u2, .val u4, .val u6, .val u8, .val (.ref b65), .val (.long (0 : Int64)), .second] [u2])) _
      refine XS.aload X82.here hx rfl (hb hby at_115) rfl f7_0 ?_
      exact Steps.refl _
    have s86 : Steps p.tables e below (s₁.setTop (entryFrame m #[(.int p0), (.int p1), (.int p2), (.int p3), (.int p4), (.long p5)] maxLocals)) (T82.setTop (mkF m 126 #[.val (.int p0), .val (.int p1), .val (.int p2), .val (.int p3), .val (.int p4), .val (.long p5), .second, .val (.int (3 : Int32)), .val u2, .val u4, .val u6, .val u8, .val (.ref b65), .val (.long (if u2 = u8 then (1 : Int64) else (0 : Int64))), .second] [])) := by
      by_cases hm85 : u2 = u8
      · simp only [if_pos hm85]
        refine s84.trans ?_
        show Steps p.tables e below (T82.setTop (mkF m 117 #[.val (.int p0), .val (.int p1), .val (.int p2), .val (.int p3), .val (.int p4), .val (.long p5), .second, .val (.int (3 : Int32)), .val u2, .val u4, .val u6, .val u8, .val (.ref b65), .val (.long (0 : Int64)), .second] [u8, u2])) _
        refine Jvm.RoadKit.acmp (g := (mkF m 117 #[.val (.int p0), .val (.int p1), .val (.int p2), .val (.int p3), .val (.int p4), .val (.long p5), .second, .val (.int (3 : Int32)), .val u2, .val u4, .val u6, .val u8, .val (.ref b65), .val (.long (0 : Int64)), .second] [u8, u2])) X82 hx rfl f1_0 f7_0 (pc0 := 117) (pc' := 120) (same := true) rfl (hb hby at_117) rfl (decide_eq_true hm85) (by decide) (by decide) ?_
        show Steps p.tables e below (T82.setTop (mkF m 120 #[.val (.int p0), .val (.int p1), .val (.int p2), .val (.int p3), .val (.int p4), .val (.long p5), .second, .val (.int (3 : Int32)), .val u2, .val u4, .val u6, .val u8, .val (.ref b65), .val (.long (0 : Int64)), .second] [])) _
        refine XS.lload X82.here hx rfl (hb hby at_120) rfl ?_
        show Steps p.tables e below (T82.setTop (mkF m 122 #[.val (.int p0), .val (.int p1), .val (.int p2), .val (.int p3), .val (.int p4), .val (.long p5), .second, .val (.int (3 : Int32)), .val u2, .val u4, .val u6, .val u8, .val (.ref b65), .val (.long (0 : Int64)), .second] [(.long (0 : Int64))])) _
        refine XS.lconst X82.here hx rfl (hb hby at_122) ?_
        show Steps p.tables e below (T82.setTop (mkF m 123 #[.val (.int p0), .val (.int p1), .val (.int p2), .val (.int p3), .val (.int p4), .val (.long p5), .second, .val (.int (3 : Int32)), .val u2, .val u4, .val u6, .val u8, .val (.ref b65), .val (.long (0 : Int64)), .second] [(.long (1 : Int64)), (.long (0 : Int64))])) _
        refine XS.ladd X82.here hx rfl (hb hby at_123) rfl ?_
        show Steps p.tables e below (T82.setTop (mkF m 124 #[.val (.int p0), .val (.int p1), .val (.int p2), .val (.int p3), .val (.int p4), .val (.long p5), .second, .val (.int (3 : Int32)), .val u2, .val u4, .val u6, .val u8, .val (.ref b65), .val (.long (0 : Int64)), .second] [(.long (1 : Int64))])) _
        refine XS.lstore X82.here hx rfl (hb hby at_124) rfl (l' := #[.val (.int p0), .val (.int p1), .val (.int p2), .val (.int p3), .val (.int p4), .val (.long p5), .second, .val (.int (3 : Int32)), .val u2, .val u4, .val u6, .val u8, .val (.ref b65), .val (.long (1 : Int64)), .second]) rfl ?_
        exact Steps.refl _
      · simp only [if_neg hm85]
        refine s84.trans ?_
        show Steps p.tables e below (T82.setTop (mkF m 117 #[.val (.int p0), .val (.int p1), .val (.int p2), .val (.int p3), .val (.int p4), .val (.long p5), .second, .val (.int (3 : Int32)), .val u2, .val u4, .val u6, .val u8, .val (.ref b65), .val (.long (0 : Int64)), .second] [u8, u2])) _
        refine Jvm.RoadKit.acmp (g := (mkF m 117 #[.val (.int p0), .val (.int p1), .val (.int p2), .val (.int p3), .val (.int p4), .val (.long p5), .second, .val (.int (3 : Int32)), .val u2, .val u4, .val u6, .val u8, .val (.ref b65), .val (.long (0 : Int64)), .second] [u8, u2])) X82 hx rfl f1_0 f7_0 (pc0 := 117) (pc' := 126) (same := false) rfl (hb hby at_117) rfl (decide_eq_false hm85) (by decide) (by decide) ?_
        exact Steps.refl _
    obtain ⟨z0, hz0⟩ : ∃ z, z = (if u2 = u8 then (1 : Int64) else (0 : Int64)) := ⟨_, rfl⟩
    rw [← hz0] at s86
    have s87 : Steps p.tables e below (s₁.setTop (entryFrame m #[(.int p0), (.int p1), (.int p2), (.int p3), (.int p4), (.long p5)] maxLocals)) (T82.setTop (mkF m 136 #[.val (.int p0), .val (.int p1), .val (.int p2), .val (.int p3), .val (.int p4), .val (.long p5), .second, .val (.int (3 : Int32)), .val u2, .val u4, .val u6, .val u8, .val (.ref b65), .val (.long z0), .second] [u8, u4])) := by
      refine s86.trans ?_
      show Steps p.tables e below (T82.setTop (mkF m 126 #[.val (.int p0), .val (.int p1), .val (.int p2), .val (.int p3), .val (.int p4), .val (.long p5), .second, .val (.int (3 : Int32)), .val u2, .val u4, .val u6, .val u8, .val (.ref b65), .val (.long z0), .second] [])) _
      refine XS.iload X82.here hx rfl (hb hby at_126) rfl ?_
      show Steps p.tables e below (T82.setTop (mkF m 128 #[.val (.int p0), .val (.int p1), .val (.int p2), .val (.int p3), .val (.int p4), .val (.long p5), .second, .val (.int (3 : Int32)), .val u2, .val u4, .val u6, .val u8, .val (.ref b65), .val (.long z0), .second] [(.int (3 : Int32))])) _
      refine XS.iconst X82.here hx rfl (hb hby at_128) ?_
      show Steps p.tables e below (T82.setTop (mkF m 129 #[.val (.int p0), .val (.int p1), .val (.int p2), .val (.int p3), .val (.int p4), .val (.long p5), .second, .val (.int (3 : Int32)), .val u2, .val u4, .val u6, .val u8, .val (.ref b65), .val (.long z0), .second] [(.int (1 : Int32)), (.int (3 : Int32))])) _
      refine XS.icmpNo X82.here hx rfl (hb hby at_129) rfl (tlt (by decide)).2.2.2 ?_
      show Steps p.tables e below (T82.setTop (mkF m 132 #[.val (.int p0), .val (.int p1), .val (.int p2), .val (.int p3), .val (.int p4), .val (.long p5), .second, .val (.int (3 : Int32)), .val u2, .val u4, .val u6, .val u8, .val (.ref b65), .val (.long z0), .second] [])) _
      refine XS.aload X82.here hx rfl (hb hby at_132) rfl f3_0 ?_
      show Steps p.tables e below (T82.setTop (mkF m 134 #[.val (.int p0), .val (.int p1), .val (.int p2), .val (.int p3), .val (.int p4), .val (.long p5), .second, .val (.int (3 : Int32)), .val u2, .val u4, .val u6, .val u8, .val (.ref b65), .val (.long z0), .second] [u4])) _
      refine XS.aload X82.here hx rfl (hb hby at_134) rfl f7_0 ?_
      exact Steps.refl _
    have s89 : Steps p.tables e below (s₁.setTop (entryFrame m #[(.int p0), (.int p1), (.int p2), (.int p3), (.int p4), (.long p5)] maxLocals)) (T82.setTop (mkF m 145 #[.val (.int p0), .val (.int p1), .val (.int p2), .val (.int p3), .val (.int p4), .val (.long p5), .second, .val (.int (3 : Int32)), .val u2, .val u4, .val u6, .val u8, .val (.ref b65), .val (.long (if u4 = u8 then (z0 + (1 : Int64)) else z0)), .second] [])) := by
      by_cases hm88 : u4 = u8
      · simp only [if_pos hm88]
        refine s87.trans ?_
        show Steps p.tables e below (T82.setTop (mkF m 136 #[.val (.int p0), .val (.int p1), .val (.int p2), .val (.int p3), .val (.int p4), .val (.long p5), .second, .val (.int (3 : Int32)), .val u2, .val u4, .val u6, .val u8, .val (.ref b65), .val (.long z0), .second] [u8, u4])) _
        refine Jvm.RoadKit.acmp (g := (mkF m 136 #[.val (.int p0), .val (.int p1), .val (.int p2), .val (.int p3), .val (.int p4), .val (.long p5), .second, .val (.int (3 : Int32)), .val u2, .val u4, .val u6, .val u8, .val (.ref b65), .val (.long z0), .second] [u8, u4])) X82 hx rfl f3_0 f7_0 (pc0 := 136) (pc' := 139) (same := true) rfl (hb hby at_136) rfl (decide_eq_true hm88) (by decide) (by decide) ?_
        show Steps p.tables e below (T82.setTop (mkF m 139 #[.val (.int p0), .val (.int p1), .val (.int p2), .val (.int p3), .val (.int p4), .val (.long p5), .second, .val (.int (3 : Int32)), .val u2, .val u4, .val u6, .val u8, .val (.ref b65), .val (.long z0), .second] [])) _
        refine XS.lload X82.here hx rfl (hb hby at_139) rfl ?_
        show Steps p.tables e below (T82.setTop (mkF m 141 #[.val (.int p0), .val (.int p1), .val (.int p2), .val (.int p3), .val (.int p4), .val (.long p5), .second, .val (.int (3 : Int32)), .val u2, .val u4, .val u6, .val u8, .val (.ref b65), .val (.long z0), .second] [(.long z0)])) _
        refine XS.lconst X82.here hx rfl (hb hby at_141) ?_
        show Steps p.tables e below (T82.setTop (mkF m 142 #[.val (.int p0), .val (.int p1), .val (.int p2), .val (.int p3), .val (.int p4), .val (.long p5), .second, .val (.int (3 : Int32)), .val u2, .val u4, .val u6, .val u8, .val (.ref b65), .val (.long z0), .second] [(.long (1 : Int64)), (.long z0)])) _
        refine XS.ladd X82.here hx rfl (hb hby at_142) rfl ?_
        show Steps p.tables e below (T82.setTop (mkF m 143 #[.val (.int p0), .val (.int p1), .val (.int p2), .val (.int p3), .val (.int p4), .val (.long p5), .second, .val (.int (3 : Int32)), .val u2, .val u4, .val u6, .val u8, .val (.ref b65), .val (.long z0), .second] [(.long (z0 + (1 : Int64)))])) _
        refine XS.lstore X82.here hx rfl (hb hby at_143) rfl (l' := #[.val (.int p0), .val (.int p1), .val (.int p2), .val (.int p3), .val (.int p4), .val (.long p5), .second, .val (.int (3 : Int32)), .val u2, .val u4, .val u6, .val u8, .val (.ref b65), .val (.long (z0 + (1 : Int64))), .second]) rfl ?_
        exact Steps.refl _
      · simp only [if_neg hm88]
        refine s87.trans ?_
        show Steps p.tables e below (T82.setTop (mkF m 136 #[.val (.int p0), .val (.int p1), .val (.int p2), .val (.int p3), .val (.int p4), .val (.long p5), .second, .val (.int (3 : Int32)), .val u2, .val u4, .val u6, .val u8, .val (.ref b65), .val (.long z0), .second] [u8, u4])) _
        refine Jvm.RoadKit.acmp (g := (mkF m 136 #[.val (.int p0), .val (.int p1), .val (.int p2), .val (.int p3), .val (.int p4), .val (.long p5), .second, .val (.int (3 : Int32)), .val u2, .val u4, .val u6, .val u8, .val (.ref b65), .val (.long z0), .second] [u8, u4])) X82 hx rfl f3_0 f7_0 (pc0 := 136) (pc' := 145) (same := false) rfl (hb hby at_136) rfl (decide_eq_false hm88) (by decide) (by decide) ?_
        exact Steps.refl _
    obtain ⟨z1, hz1⟩ : ∃ z, z = (if u4 = u8 then (z0 + (1 : Int64)) else z0) := ⟨_, rfl⟩
    rw [← hz1] at s89
    have s90 : Steps p.tables e below (s₁.setTop (entryFrame m #[(.int p0), (.int p1), (.int p2), (.int p3), (.int p4), (.long p5)] maxLocals)) (T82.setTop (mkF m 155 #[.val (.int p0), .val (.int p1), .val (.int p2), .val (.int p3), .val (.int p4), .val (.long p5), .second, .val (.int (3 : Int32)), .val u2, .val u4, .val u6, .val u8, .val (.ref b65), .val (.long z1), .second] [u8, u6])) := by
      refine s89.trans ?_
      show Steps p.tables e below (T82.setTop (mkF m 145 #[.val (.int p0), .val (.int p1), .val (.int p2), .val (.int p3), .val (.int p4), .val (.long p5), .second, .val (.int (3 : Int32)), .val u2, .val u4, .val u6, .val u8, .val (.ref b65), .val (.long z1), .second] [])) _
      refine XS.iload X82.here hx rfl (hb hby at_145) rfl ?_
      show Steps p.tables e below (T82.setTop (mkF m 147 #[.val (.int p0), .val (.int p1), .val (.int p2), .val (.int p3), .val (.int p4), .val (.long p5), .second, .val (.int (3 : Int32)), .val u2, .val u4, .val u6, .val u8, .val (.ref b65), .val (.long z1), .second] [(.int (3 : Int32))])) _
      refine XS.iconst X82.here hx rfl (hb hby at_147) ?_
      show Steps p.tables e below (T82.setTop (mkF m 148 #[.val (.int p0), .val (.int p1), .val (.int p2), .val (.int p3), .val (.int p4), .val (.long p5), .second, .val (.int (3 : Int32)), .val u2, .val u4, .val u6, .val u8, .val (.ref b65), .val (.long z1), .second] [(.int (2 : Int32)), (.int (3 : Int32))])) _
      refine XS.icmpNo X82.here hx rfl (hb hby at_148) rfl (tlt (by decide)).2.2.2 ?_
      show Steps p.tables e below (T82.setTop (mkF m 151 #[.val (.int p0), .val (.int p1), .val (.int p2), .val (.int p3), .val (.int p4), .val (.long p5), .second, .val (.int (3 : Int32)), .val u2, .val u4, .val u6, .val u8, .val (.ref b65), .val (.long z1), .second] [])) _
      refine XS.aload X82.here hx rfl (hb hby at_151) rfl f5_0 ?_
      show Steps p.tables e below (T82.setTop (mkF m 153 #[.val (.int p0), .val (.int p1), .val (.int p2), .val (.int p3), .val (.int p4), .val (.long p5), .second, .val (.int (3 : Int32)), .val u2, .val u4, .val u6, .val u8, .val (.ref b65), .val (.long z1), .second] [u6])) _
      refine XS.aload X82.here hx rfl (hb hby at_153) rfl f7_0 ?_
      exact Steps.refl _
    have s92 : Steps p.tables e below (s₁.setTop (entryFrame m #[(.int p0), (.int p1), (.int p2), (.int p3), (.int p4), (.long p5)] maxLocals)) (T82.setTop (mkF m 164 #[.val (.int p0), .val (.int p1), .val (.int p2), .val (.int p3), .val (.int p4), .val (.long p5), .second, .val (.int (3 : Int32)), .val u2, .val u4, .val u6, .val u8, .val (.ref b65), .val (.long (if u6 = u8 then (z1 + (1 : Int64)) else z1)), .second] [])) := by
      by_cases hm91 : u6 = u8
      · simp only [if_pos hm91]
        refine s90.trans ?_
        show Steps p.tables e below (T82.setTop (mkF m 155 #[.val (.int p0), .val (.int p1), .val (.int p2), .val (.int p3), .val (.int p4), .val (.long p5), .second, .val (.int (3 : Int32)), .val u2, .val u4, .val u6, .val u8, .val (.ref b65), .val (.long z1), .second] [u8, u6])) _
        refine Jvm.RoadKit.acmp (g := (mkF m 155 #[.val (.int p0), .val (.int p1), .val (.int p2), .val (.int p3), .val (.int p4), .val (.long p5), .second, .val (.int (3 : Int32)), .val u2, .val u4, .val u6, .val u8, .val (.ref b65), .val (.long z1), .second] [u8, u6])) X82 hx rfl f5_0 f7_0 (pc0 := 155) (pc' := 158) (same := true) rfl (hb hby at_155) rfl (decide_eq_true hm91) (by decide) (by decide) ?_
        show Steps p.tables e below (T82.setTop (mkF m 158 #[.val (.int p0), .val (.int p1), .val (.int p2), .val (.int p3), .val (.int p4), .val (.long p5), .second, .val (.int (3 : Int32)), .val u2, .val u4, .val u6, .val u8, .val (.ref b65), .val (.long z1), .second] [])) _
        refine XS.lload X82.here hx rfl (hb hby at_158) rfl ?_
        show Steps p.tables e below (T82.setTop (mkF m 160 #[.val (.int p0), .val (.int p1), .val (.int p2), .val (.int p3), .val (.int p4), .val (.long p5), .second, .val (.int (3 : Int32)), .val u2, .val u4, .val u6, .val u8, .val (.ref b65), .val (.long z1), .second] [(.long z1)])) _
        refine XS.lconst X82.here hx rfl (hb hby at_160) ?_
        show Steps p.tables e below (T82.setTop (mkF m 161 #[.val (.int p0), .val (.int p1), .val (.int p2), .val (.int p3), .val (.int p4), .val (.long p5), .second, .val (.int (3 : Int32)), .val u2, .val u4, .val u6, .val u8, .val (.ref b65), .val (.long z1), .second] [(.long (1 : Int64)), (.long z1)])) _
        refine XS.ladd X82.here hx rfl (hb hby at_161) rfl ?_
        show Steps p.tables e below (T82.setTop (mkF m 162 #[.val (.int p0), .val (.int p1), .val (.int p2), .val (.int p3), .val (.int p4), .val (.long p5), .second, .val (.int (3 : Int32)), .val u2, .val u4, .val u6, .val u8, .val (.ref b65), .val (.long z1), .second] [(.long (z1 + (1 : Int64)))])) _
        refine XS.lstore X82.here hx rfl (hb hby at_162) rfl (l' := #[.val (.int p0), .val (.int p1), .val (.int p2), .val (.int p3), .val (.int p4), .val (.long p5), .second, .val (.int (3 : Int32)), .val u2, .val u4, .val u6, .val u8, .val (.ref b65), .val (.long (z1 + (1 : Int64))), .second]) rfl ?_
        exact Steps.refl _
      · simp only [if_neg hm91]
        refine s90.trans ?_
        show Steps p.tables e below (T82.setTop (mkF m 155 #[.val (.int p0), .val (.int p1), .val (.int p2), .val (.int p3), .val (.int p4), .val (.long p5), .second, .val (.int (3 : Int32)), .val u2, .val u4, .val u6, .val u8, .val (.ref b65), .val (.long z1), .second] [u8, u6])) _
        refine Jvm.RoadKit.acmp (g := (mkF m 155 #[.val (.int p0), .val (.int p1), .val (.int p2), .val (.int p3), .val (.int p4), .val (.long p5), .second, .val (.int (3 : Int32)), .val u2, .val u4, .val u6, .val u8, .val (.ref b65), .val (.long z1), .second] [u8, u6])) X82 hx rfl f5_0 f7_0 (pc0 := 155) (pc' := 164) (same := false) rfl (hb hby at_155) rfl (decide_eq_false hm91) (by decide) (by decide) ?_
        exact Steps.refl _
    obtain ⟨z2, hz2⟩ : ∃ z, z = (if u6 = u8 then (z1 + (1 : Int64)) else z1) := ⟨_, rfl⟩
    rw [← hz2] at s92
    have c93 : Fld Z T82.heap b65 "com/example/hot_gate/hotgate/bench/Replies" "outcomes" "[Lcom/example/hot_gate/hotgate/bench/Outcome;" (.ref u69) := (c81.keep Kc82 (ninS ne_b65_u67 (ninS ne_b65_u68 (ninS ne_b65_u69 nin0))))
    have c95 : Exa Z T82.heap b65 "com/example/hot_gate/hotgate/bench/Replies" := (c83.keep Kc82)
    obtain ⟨cq94, kq94, q94a, q94b, q94c⟩ := isOf hZ (rfl : T82.heap = T82.heap) c95
    obtain ⟨_, _, ⟨T94, L94, k94, n94⟩, -, X94, ⟨Lc94, hQ94, l94, y94, z94⟩, st94⟩ := X82.virtualBack hx (y := (⟨"com/example/hot_gate/hotgate/bench/Replies", "count", "(Lcom/example/hot_gate/hotgate/bench/Outcome;)J"⟩ : MethodName)) (z := (⟨"com/example/hot_gate/hotgate/bench/Replies", "count", "(Lcom/example/hot_gate/hotgate/bench/Outcome;)J"⟩ : MethodName)) hown (mvT hZ (hw _ (List.mem_of_getElem? (i := 41) rfl))) (mvT hZ (hw _ (List.mem_of_getElem? (i := 42) rfl))) (notFace_of_selects (args := #[]) (mvT hZ (hw _ (List.mem_of_getElem? (i := 44) rfl)))) (mvT hZ (hw _ (List.mem_of_getElem? (i := 44) rfl))) (mvT hZ (hw _ (List.mem_of_getElem? (i := 43) rfl))) (by decide) (backOf (W := 0) (rmc3 l Z a0 hw [] b65 u8 u69 u72 u2 u4 u6 T82.heap n0 O82 c93 f82_2 f1_0 f3_0 f5_0 f7_0) hZ (hw _ (List.mem_of_getElem? (i := 45) rfl)) (hw _ (List.mem_of_getElem? (i := 16) rfl)) (by decide) (by decide)) q94a q94c (g := (mkF m 168 #[.val (.int p0), .val (.int p1), .val (.int p2), .val (.int p3), .val (.int p4), .val (.long p5), .second, .val (.int (3 : Int32)), .val u2, .val u4, .val u6, .val u8, .val (.ref b65), .val (.long z2), .second] [u8, (.ref b65)])) rfl (by rw [hml]; rfl) (Steps.refl _) (argsL := [u8]) (rest := []) (lenOf pd_rm0_2 rfl) rfl (by show 2 * 0 + _ ≤ _; exact Nat.le_of_eq rfl) (hb hby at_168) (fun _ _ => ⟨rfl, (rfl : T82.heap = T82.heap), (by decide : 5 + 0 ≤ _), (by decide : 14 + 0 ≤ _)⟩)
    dsimp only [Pt.U, Pt.locs, Pt.cells, Pt.slots] at X94 l94 y94 z94 st94 hQ94
    subst l94 y94 z94
    obtain ⟨rfl, Nq94, e94⟩ := hQ94
    have N94 := Fr.app N82 Nq94
    have s96 : Steps p.tables e below (s₁.setTop (entryFrame m #[(.int p0), (.int p1), (.int p2), (.int p3), (.int p4), (.long p5)] maxLocals)) (T94.setTop (mkF m 182 #[.val (.int p0), .val (.int p1), .val (.int p2), .val (.int p3), .val (.int p4), .val (.long p5), .second, .val (.int (3 : Int32)), .val u2, .val u4, .val u6, .val u8, .val (.ref b65), .val (.long z2), .second] [(.int (1 : Int32))])) := by
      refine s92.trans ?_
      show Steps p.tables e below (T82.setTop (mkF m 164 #[.val (.int p0), .val (.int p1), .val (.int p2), .val (.int p3), .val (.int p4), .val (.long p5), .second, .val (.int (3 : Int32)), .val u2, .val u4, .val u6, .val u8, .val (.ref b65), .val (.long z2), .second] [])) _
      refine XS.aload X82.here hx rfl (hb hby at_164) rfl rfl ?_
      show Steps p.tables e below (T82.setTop (mkF m 166 #[.val (.int p0), .val (.int p1), .val (.int p2), .val (.int p3), .val (.int p4), .val (.long p5), .second, .val (.int (3 : Int32)), .val u2, .val u4, .val u6, .val u8, .val (.ref b65), .val (.long z2), .second] [(.ref b65)])) _
      refine XS.aload X82.here hx rfl (hb hby at_166) rfl f7_0 ?_
      show Steps p.tables e below (T82.setTop (mkF m 168 #[.val (.int p0), .val (.int p1), .val (.int p2), .val (.int p3), .val (.int p4), .val (.long p5), .second, .val (.int (3 : Int32)), .val u2, .val u4, .val u6, .val u8, .val (.ref b65), .val (.long z2), .second] [u8, (.ref b65)])) _
      refine st94.trans ?_
      show Steps p.tables e below (T94.setTop (mkF m 171 #[.val (.int p0), .val (.int p1), .val (.int p2), .val (.int p3), .val (.int p4), .val (.long p5), .second, .val (.int (3 : Int32)), .val u2, .val u4, .val u6, .val u8, .val (.ref b65), .val (.long z2), .second] [(.long (if u6 = u8 then ((if u4 = u8 then ((if u2 = u8 then (1 : Int64) else (0 : Int64)) + (1 : Int64)) else (if u2 = u8 then (1 : Int64) else (0 : Int64))) + (1 : Int64)) else (if u4 = u8 then ((if u2 = u8 then (1 : Int64) else (0 : Int64)) + (1 : Int64)) else (if u2 = u8 then (1 : Int64) else (0 : Int64)))))])) _
      refine XS.lload X94.here hx rfl (hb hby at_171) rfl ?_
      show Steps p.tables e below (T94.setTop (mkF m 173 #[.val (.int p0), .val (.int p1), .val (.int p2), .val (.int p3), .val (.int p4), .val (.long p5), .second, .val (.int (3 : Int32)), .val u2, .val u4, .val u6, .val u8, .val (.ref b65), .val (.long z2), .second] [(.long z2), (.long (if u6 = u8 then ((if u4 = u8 then ((if u2 = u8 then (1 : Int64) else (0 : Int64)) + (1 : Int64)) else (if u2 = u8 then (1 : Int64) else (0 : Int64))) + (1 : Int64)) else (if u4 = u8 then ((if u2 = u8 then (1 : Int64) else (0 : Int64)) + (1 : Int64)) else (if u2 = u8 then (1 : Int64) else (0 : Int64)))))])) _
      refine XS.lcmp X94.here hx rfl (hb hby at_173) rfl ?_
      show Steps p.tables e below (T94.setTop (mkF m 174 #[.val (.int p0), .val (.int p1), .val (.int p2), .val (.int p3), .val (.int p4), .val (.long p5), .second, .val (.int (3 : Int32)), .val u2, .val u4, .val u6, .val u8, .val (.ref b65), .val (.long z2), .second] [(.int (lcmpW (if u6 = u8 then ((if u4 = u8 then ((if u2 = u8 then (1 : Int64) else (0 : Int64)) + (1 : Int64)) else (if u2 = u8 then (1 : Int64) else (0 : Int64))) + (1 : Int64)) else (if u4 = u8 then ((if u2 = u8 then (1 : Int64) else (0 : Int64)) + (1 : Int64)) else (if u2 = u8 then (1 : Int64) else (0 : Int64)))) z2))])) _
      refine XS.ifNo X94.here hx rfl (hb hby at_174) rfl ((if0 _ _).trans (teq (by rw [hz2, hz1, hz0]; exact (lw_eq _ _).mpr rfl)).2) ?_
      show Steps p.tables e below (T94.setTop (mkF m 177 #[.val (.int p0), .val (.int p1), .val (.int p2), .val (.int p3), .val (.int p4), .val (.long p5), .second, .val (.int (3 : Int32)), .val u2, .val u4, .val u6, .val u8, .val (.ref b65), .val (.long z2), .second] [])) _
      refine XS.iconst X94.here hx rfl (hb hby at_177) ?_
      show Steps p.tables e below (T94.setTop (mkF m 178 #[.val (.int p0), .val (.int p1), .val (.int p2), .val (.int p3), .val (.int p4), .val (.long p5), .second, .val (.int (3 : Int32)), .val u2, .val u4, .val u6, .val u8, .val (.ref b65), .val (.long z2), .second] [(.int (1 : Int32))])) _
      refine XS.goto X94.here hx rfl (pc0 := 178) (pc' := 182) rfl (hb hby at_178) (by decide) (by decide) ?_
      exact Steps.refl _
    obtain ⟨fs, hr, hrun, hended, hW, hsame⟩ := X94.leave (v := some (.int (1 : Int32))) (fun h => by rw [Bd.returns] at h; cases h)
    refine ⟨_, _, s96.trans ?_, hrun, hended, _, _, rfl, ?_, ⟨_, rfl⟩, hW, hsame.mono (by decide) (by decide)⟩
    · show Steps p.tables e below (T94.setTop (mkF m 182 #[.val (.int p0), .val (.int p1), .val (.int p2), .val (.int p3), .val (.int p4), .val (.long p5), .second, .val (.int (3 : Int32)), .val u2, .val u4, .val u6, .val u8, .val (.ref b65), .val (.long z2), .second] [(.int (1 : Int32))])) _
      exact retN X94 hx (t := .boolean) Bd.returns (by simp) (hb hby at_182) hr
    · show Q0 Z p0 p1 p2 p3 p4 p5 v_ERROR v_SOLD_OUT v_ALREADY_CLAIMED v_ACCEPTED h0 n0 _ T94.heap _
      rw [e94]
      exact ⟨rfl, N94⟩
set_option maxRecDepth 65536 in
set_option maxHeartbeats 40000000 in
theorem comes_1 {Post : Tables → Env → Array Value → State → Outcome → State → Prop} (hpost : ∀ tb e args s v u, (limb_1_1.after args s (.returned v) u = true ∧ limb_1_2.after args s (.returned v) u = true ∧ True) → FrameEnd s (.returned v) u (Jvm.fieldLocs frame_1_writes args s ++ Jvm.arrayLocs frame_1_arrays args s ++ Jvm.staticLocs frame_1_statics s) 24 128 → Post tb e args s (.returned v) u) :
    ArmFor flags0 classFile x code maxLocals ret World_1 tables_1 room_1 Calls_1 rest_1 Pre_1 Post := by
  intro l hfl _ _ p e ha hc hk s m args below hf hA hF happ hP
  obtain ⟨hcalls, hrest, hpre⟩ := hP
  obtain ⟨-, -, -, hnamed, -, -, -, hat⟩ := (Spec.applies_iff hf).mp happ
  obtain ⟨hg, hn⟩ := and_e (Cond.before_iff.mp (show (Jvm.Cond.and given_1 narrow_1).before args s = true from hpre))
  obtain ⟨gc, gk0⟩ := and_e hg
  obtain ⟨ga0, gk1⟩ := and_e gk0
  obtain ⟨ga1, gk2⟩ := and_e gk1
  obtain ⟨ga2, gk3⟩ := and_e gk2
  obtain ⟨ga3, gk4⟩ := and_e gk3
  obtain ⟨ga4, gk5⟩ := and_e gk4
  obtain ⟨w0, w1, w2, w3, w4, w5, rfl⟩ : ∃ w0 w1 w2 w3 w4 w5 : Value, args = #[w0, w1, w2, w3, w4, w5] := by
    have hs : args.size = 6 := by simpa [Cond.value, given_1] using gc
    obtain ⟨L⟩ := args
    match L, hs with
    | [w0, w1, w2, w3, w4, w5], _ => exact ⟨w0, w1, w2, w3, w4, w5, rfl⟩
  have hw := fun d (hd : d ∈ tables_1) => atoms_spec (ws := Jvm.Cond.code x code maxLocals ret :: tables_1) hat d (List.mem_cons_of_mem _ hd)
  have hfit : Fit s := fun {y c} hc i hi => by
    obtain ⟨ha, rfl⟩ := Array.getElem?_eq_some_iff.mp hc
    have q := List.all_eq_true.mp ((Array.all_eq_true_iff_forall_mem.mp hF) _ (Array.getElem_mem ha)) i (List.mem_range.mpr hi)
    simpa [Array.getElem?_eq_getElem hi] using q
  obtain ⟨i0, ei0⟩ := is_v ga0
  obtain rfl : w0 = (.int i0) := Option.some.inj ei0
  obtain ⟨i1, ei1⟩ := is_v ga1
  obtain rfl : w1 = (.int i1) := Option.some.inj ei1
  obtain ⟨i2, ei2⟩ := is_v ga2
  obtain rfl : w2 = (.int i2) := Option.some.inj ei2
  obtain ⟨i3, ei3⟩ := is_v ga3
  obtain rfl : w3 = (.int i3) := Option.some.inj ei3
  obtain ⟨i4, ei4⟩ := is_v ga4
  obtain rfl : w4 = (.int i4) := Option.some.inj ei4
  obtain ⟨i5, ei5⟩ := isL_v gk5
  obtain rfl : w5 = (.long i5) := Option.some.inj ei5
  obtain ⟨n_0, nr_0⟩ := and_e hn
  obtain ⟨n_1, nr_1⟩ := and_e nr_0
  obtain ⟨n_2, nr_2⟩ := and_e nr_1
  obtain ⟨n_3, nr_3⟩ := and_e nr_2
  obtain ⟨n_4, nr_4⟩ := and_e nr_3
  obtain ⟨n_5, nr_5⟩ := and_e nr_4
  obtain ⟨n_6, nr_6⟩ := and_e nr_5
  obtain ⟨v_ERROR, ev_v_ERROR⟩ := exa_v n_0
  have S_v_ERROR : Sta s s.heap "com/example/hot_gate/hotgate/bench/Outcome" "ERROR" "Lcom/example/hot_gate/hotgate/bench/Outcome;" (.ref v_ERROR) := Sta.start ev_v_ERROR (Or.inr ⟨(hw _ (List.mem_of_getElem? (i := 6) rfl)), (hw _ (List.mem_of_getElem? (i := 7) rfl))⟩)
  have E_v_ERROR : Exa s s.heap v_ERROR "com/example/hot_gate/hotgate/bench/Outcome" := Exa.start ev_v_ERROR n_0
  obtain ⟨v_SOLD_OUT, ev_v_SOLD_OUT⟩ := exa_v n_1
  have S_v_SOLD_OUT : Sta s s.heap "com/example/hot_gate/hotgate/bench/Outcome" "SOLD_OUT" "Lcom/example/hot_gate/hotgate/bench/Outcome;" (.ref v_SOLD_OUT) := Sta.start ev_v_SOLD_OUT (Or.inr ⟨(hw _ (List.mem_of_getElem? (i := 6) rfl)), (hw _ (List.mem_of_getElem? (i := 9) rfl))⟩)
  have E_v_SOLD_OUT : Exa s s.heap v_SOLD_OUT "com/example/hot_gate/hotgate/bench/Outcome" := Exa.start ev_v_SOLD_OUT n_1
  obtain ⟨v_ALREADY_CLAIMED, ev_v_ALREADY_CLAIMED⟩ := exa_v n_2
  have S_v_ALREADY_CLAIMED : Sta s s.heap "com/example/hot_gate/hotgate/bench/Outcome" "ALREADY_CLAIMED" "Lcom/example/hot_gate/hotgate/bench/Outcome;" (.ref v_ALREADY_CLAIMED) := Sta.start ev_v_ALREADY_CLAIMED (Or.inr ⟨(hw _ (List.mem_of_getElem? (i := 6) rfl)), (hw _ (List.mem_of_getElem? (i := 11) rfl))⟩)
  have E_v_ALREADY_CLAIMED : Exa s s.heap v_ALREADY_CLAIMED "com/example/hot_gate/hotgate/bench/Outcome" := Exa.start ev_v_ALREADY_CLAIMED n_2
  obtain ⟨v_ACCEPTED, ev_v_ACCEPTED⟩ := exa_v n_3
  have S_v_ACCEPTED : Sta s s.heap "com/example/hot_gate/hotgate/bench/Outcome" "ACCEPTED" "Lcom/example/hot_gate/hotgate/bench/Outcome;" (.ref v_ACCEPTED) := Sta.start ev_v_ACCEPTED (Or.inr ⟨(hw _ (List.mem_of_getElem? (i := 6) rfl)), (hw _ (List.mem_of_getElem? (i := 13) rfl))⟩)
  have E_v_ACCEPTED : Exa s s.heap v_ACCEPTED "com/example/hot_gate/hotgate/bench/Outcome" := Exa.start ev_v_ACCEPTED n_3
  have F_v_ACCEPTED_ordinal : Fld s s.heap v_ACCEPTED "java/lang/Enum" "ordinal" "I" (.int (0 : Int32)) := Fld.start ((fld_at ev_v_ACCEPTED).symm.trans (own_eq_int n_4))
  have F_v_SOLD_OUT_ordinal : Fld s s.heap v_SOLD_OUT "java/lang/Enum" "ordinal" "I" (.int (2 : Int32)) := Fld.start ((fld_at ev_v_SOLD_OUT).symm.trans (own_eq_int n_5))
  have F_v_ERROR_ordinal : Fld s s.heap v_ERROR "java/lang/Enum" "ordinal" "I" (.int (3 : Int32)) := Fld.start ((fld_at ev_v_ERROR).symm.trans (own_eq_int n_6))
  have F_v_ALREADY_CLAIMED_ordinal : Fld s s.heap v_ALREADY_CLAIMED "java/lang/Enum" "ordinal" "I" (.int (1 : Int32)) := Fld.start ((fld_at ev_v_ALREADY_CLAIMED).symm.trans (own_eq_int nr_6))
  obtain ⟨n, o, h1, h2, h3, _, L, rfl, ⟨rfl, N⟩, hq⟩ := rm0 l s _ hw tables_1 i0 i1 i2 i3 i4 i5 v_ERROR v_SOLD_OUT v_ALREADY_CLAIMED v_ACCEPTED s.heap s.heap.size (Old.start s) S_v_ERROR E_v_ERROR S_v_SOLD_OUT E_v_SOLD_OUT S_v_ALREADY_CLAIMED E_v_ALREADY_CLAIMED S_v_ACCEPTED E_v_ACCEPTED p e ha hc hk s m _ below hf ((Spec.applies_iff_loose hf).mp happ).1 ⟨rfl, State.Warmed39.refl s, rfl⟩ trivial
  refine ⟨n, _, h1, h2, h3, hpost _ _ _ _ _ _ ⟨Cond.after_iff.mpr rfl, Cond.after_iff.mpr (eq_i res_at (Term.int_eval (1)) rfl), trivial⟩ ⟨hq.1, hq.2.1, (hq.2.2.sift fun y hy => Or.inr (N y hy)).mono (by decide) (by decide)⟩⟩
theorem main_1_1 : Claimed_1_1 := comes_1 fun _ _ _ _ _ _ h hF => ⟨h.1, hF⟩
theorem main_1_2 : Claimed_1_2 := comes_1 fun _ _ _ _ _ _ h hF => ⟨h.2.1, hF⟩
end Jvm.Pilot.@@N@@
namespace Jvm.Pilot.@@N@@
open Jvm Jvm.ClassFile Sem Op Lib Jvm.Free Jvm.Stand Jvm.Pilot.@@N@@.Jvm.D
/-! MADE BY PROGRAM (witnessworld.py) out of the Statement's table words and the real class files: 17 classes; the members and pool entries that the words name. The judged class is class 1, her method 1. -/
namespace start1
open Jvm.ClassFile
def u (s : String) : CpInfo := .utf8 (stringToUtf16 s)
/-- a pool by its gaps: so many unusable entries, then the entry; so many at the end -/
def gap : Nat → List CpInfo → List CpInfo
  | 0, r => r
  | n + 1, r => .unusable :: gap n r
def poolList (es : List (Nat × CpInfo)) (last : Nat) : List CpInfo := es.foldr (fun e r => gap e.1 (e.2 :: r)) (gap last [])
def pool (es : List (Nat × CpInfo)) (last : Nat) : Array CpInfo := ⟨poolList es last⟩
def fileOf (pool : Array CpInfo) (this : Nat) (attrs : Array Attribute := #[]) (ms : Array MethodInfo := #[]) (fl : Nat := 33) (sup : Nat := 0) (ifs : Array Nat := #[]) (fds : Array FieldInfo := #[]) : ClassFile where
  minorVersion := 0
  majorVersion := 65
  constantPool := pool
  accessFlags := fl
  thisClass := this
  superClass := sup
  interfaces := ifs
  fields := fds
  methods := ms
  attributes := attrs
def plain (name : String) (sup : Option ClassId) : Class where
  name := name
  kind := .ordinary
  loader := none
  accessFlags := 33
  super := sup
  interfaces := #[]
  cf := none
  fields := #[]
  methods := #[]
  instanceTypes := #[]
  staticTypes := #[]
  resolved := #[]
  callSites := []
  init := .initialized
  statics := none
  mirror := none

def pool0 : Array CpInfo := pool [(5, u "<init>"), (0, u "()V"), (1, .class_ 10), (1, u "java/lang/Object")] 113

def k0c0 : Code := { maxStack := 0, maxLocals := 1, code := object_method_1_code, exceptionTable := #[], attributes := #[] }
def k0m0 : Method := { name := "<init>", desc := "()V", sig := { parameters := [], returnType := none }, accessFlags := 1, code := some k0c0 }
/-- java/lang/Object -/
def k0 : Class := { plain "java/lang/Object" none with
  accessFlags := 33
  interfaces := #[]
  cf := some (fileOf pool0 8 #[] #[{ accessFlags := 1, nameIndex := 5, descriptorIndex := 6, attributes := #[] }] 33 0 #[] #[])
  fields := #[]
  methods := #[k0m0]
  instanceTypes := #[]
  staticTypes := #[]
  resolved := Array.replicate 124 none
  statics := none }

def pool1 : Array CpInfo := pool [(2, .class_ 4), (1, u "java/lang/Object"), (0, u "<init>"), (0, u "()V"), (0, .methodref 8 9), (0, .class_ 10), (0, .nameAndType 11 12), (0, u "com/example/hot_gate/hotgate/bench/RepliesCountPinLaw"), (0, u "pick"), (0, u "(I)Lcom/example/hot_gate/hotgate/bench/Outcome;"), (0, .class_ 14), (0, u "com/example/hot_gate/hotgate/bench/Replies"), (0, .methodref 13 16), (0, .nameAndType 5 17), (0, u "(I)V"), (0, .methodref 13 19), (0, .nameAndType 20 21), (0, u "record"), (0, u "(IJJLcom/example/hot_gate/hotgate/bench/Outcome;Ljava/lang/String;)V"), (0, .long 18446744073709551615), (1, .methodref 13 25), (0, .nameAndType 26 27), (0, u "count"), (0, u "(Lcom/example/hot_gate/hotgate/bench/Outcome;)J"), (0, .integer 2147483647), (0, .fieldref 30 31), (0, .class_ 32), (0, .nameAndType 33 34), (0, u "com/example/hot_gate/hotgate/bench/Outcome"), (0, u "ACCEPTED"), (0, u "Lcom/example/hot_gate/hotgate/bench/Outcome;"), (0, .fieldref 30 36), (0, .nameAndType 37 34), (0, u "ALREADY_CLAIMED"), (0, .fieldref 30 39), (0, .nameAndType 40 34), (0, u "SOLD_OUT"), (0, .fieldref 30 42), (0, .nameAndType 43 34), (0, u "ERROR"), (2, u "law"), (0, u "(IIIIIJ)Z")] 3

def k1m0 : Method := { name := "<init>", desc := "()V", sig := { parameters := [], returnType := none }, accessFlags := 1, code := none }
def k1c1 : Code := { maxStack := 8, maxLocals := 15, code := code, exceptionTable := #[], attributes := #[] }
def k1m1 : Method := { name := "law", desc := "(IIIIIJ)Z", sig := { parameters := [.int, .int, .int, .int, .int, .long], returnType := some .boolean }, accessFlags := 9, code := some k1c1 }
def k1c2 : Code := { maxStack := 2, maxLocals := 2, code := method_3_code, exceptionTable := #[], attributes := #[] }
def k1m2 : Method := { name := "pick", desc := "(I)Lcom/example/hot_gate/hotgate/bench/Outcome;", sig := { parameters := [.int], returnType := some (.object "com/example/hot_gate/hotgate/bench/Outcome") }, accessFlags := 10, code := some k1c2 }
/-- com/example/hot_gate/hotgate/bench/RepliesCountPinLaw -/
def k1 : Class := { plain "com/example/hot_gate/hotgate/bench/RepliesCountPinLaw" (some 0) with
  accessFlags := 49
  interfaces := #[]
  cf := some (fileOf pool1 8 #[] #[{ accessFlags := 1, nameIndex := 5, descriptorIndex := 6, attributes := #[] }, { accessFlags := 9, nameIndex := 46, descriptorIndex := 47, attributes := #[] }, { accessFlags := 10, nameIndex := 11, descriptorIndex := 12, attributes := #[] }] 49 2 #[] #[])
  fields := #[]
  methods := #[k1m0, k1m1, k1m2]
  instanceTypes := #[]
  staticTypes := #[]
  resolved := Array.replicate 51 none
  statics := none }

def pool2 : Array CpInfo := pool [(1, .class_ 2), (0, u "java/lang/constant/Constable"), (0, .class_ 4), (0, u "java/lang/Object")] 6

/-- java/lang/constant/Constable -/
def k2 : Class := { plain "java/lang/constant/Constable" (some 0) with
  accessFlags := 1537
  interfaces := #[]
  cf := some (fileOf pool2 1 #[] #[] 1537 3 #[] #[])
  fields := #[]
  methods := #[]
  instanceTypes := #[]
  staticTypes := #[]
  resolved := Array.replicate 11 none
  statics := none }

def pool3 : Array CpInfo := pool [(1, .class_ 2), (0, u "java/lang/Comparable"), (0, .class_ 4), (0, u "java/lang/Object")] 7

/-- java/lang/Comparable -/
def k3 : Class := { plain "java/lang/Comparable" (some 0) with
  accessFlags := 1537
  interfaces := #[]
  cf := some (fileOf pool3 1 #[] #[] 1537 3 #[] #[])
  fields := #[]
  methods := #[]
  instanceTypes := #[]
  staticTypes := #[]
  resolved := Array.replicate 12 none
  statics := none }

def pool4 : Array CpInfo := pool [(1, .class_ 2), (0, u "java/io/Serializable"), (0, .class_ 4), (0, u "java/lang/Object")] 2

/-- java/io/Serializable -/
def k4 : Class := { plain "java/io/Serializable" (some 0) with
  accessFlags := 1537
  interfaces := #[]
  cf := some (fileOf pool4 1 #[] #[] 1537 3 #[] #[])
  fields := #[]
  methods := #[]
  instanceTypes := #[]
  staticTypes := #[]
  resolved := Array.replicate 7 none
  statics := none }

def pool5 : Array CpInfo := pool [(2, .class_ 4), (1, u "java/lang/Enum"), (0, u "name"), (0, u "Ljava/lang/String;"), (2, u "ordinal"), (0, u "I"), (1, .class_ 14), (1, u "java/lang/Object"), (4, u "hash"), (86, .class_ 108), (1, u "java/lang/Enum$EnumDesc"), (2, .class_ 112), (0, u "java/lang/constant/Constable"), (0, .class_ 114), (0, u "java/lang/Comparable"), (0, .class_ 116), (0, u "java/io/Serializable")] 87

/-- java/lang/Enum -/
def k5 : Class := { plain "java/lang/Enum" (some 0) with
  accessFlags := 1057
  interfaces := #[2, 3, 4]
  cf := some (fileOf pool5 2 #[.nestMembers #[106]] #[] 1057 12 #[111, 113, 115] #[{ accessFlags := 18, nameIndex := 5, descriptorIndex := 6, attributes := #[] }, { accessFlags := 18, nameIndex := 9, descriptorIndex := 10, attributes := #[] }, { accessFlags := 2, nameIndex := 19, descriptorIndex := 10, attributes := #[] }])
  fields := #[{ name := "name", type := (.object "java/lang/String"), accessFlags := 18, slot := 0, constantValue := 0 }, { name := "ordinal", type := .int, accessFlags := 18, slot := 1, constantValue := 0 }, { name := "hash", type := .int, accessFlags := 2, slot := 2, constantValue := 0 }]
  methods := #[]
  instanceTypes := #[(.object "java/lang/String"), .int, .int]
  staticTypes := #[]
  resolved := Array.replicate 204 none
  statics := none }

def pool6 : Array CpInfo := pool [(1, .class_ 2), (0, u "com/example/hot_gate/hotgate/bench/Outcome"), (2, u "ACCEPTED"), (0, u "Lcom/example/hot_gate/hotgate/bench/Outcome;"), (2, u "ALREADY_CLAIMED"), (2, u "SOLD_OUT"), (2, u "ERROR"), (2, u "$VALUES"), (0, u "[Lcom/example/hot_gate/hotgate/bench/Outcome;"), (6, .class_ 28), (1, u "java/lang/Enum"), (8, u "field"), (0, u "Ljava/lang/String;"), (2, u "reply"), (0, u "Lcom/example/hot_gate/hotgate/api/Status;")] 58

/-- com/example/hot_gate/hotgate/bench/Outcome -/
def k6 : Class := { plain "com/example/hot_gate/hotgate/bench/Outcome" (some 5) with
  accessFlags := 16432
  interfaces := #[]
  cf := some (fileOf pool6 1 #[] #[] 16432 26 #[] #[{ accessFlags := 16409, nameIndex := 5, descriptorIndex := 6, attributes := #[] }, { accessFlags := 16409, nameIndex := 9, descriptorIndex := 6, attributes := #[] }, { accessFlags := 16409, nameIndex := 12, descriptorIndex := 6, attributes := #[] }, { accessFlags := 16409, nameIndex := 15, descriptorIndex := 6, attributes := #[] }, { accessFlags := 18, nameIndex := 37, descriptorIndex := 38, attributes := #[] }, { accessFlags := 18, nameIndex := 41, descriptorIndex := 42, attributes := #[] }, { accessFlags := 4122, nameIndex := 18, descriptorIndex := 19, attributes := #[] }])
  fields := #[{ name := "ACCEPTED", type := (.object "com/example/hot_gate/hotgate/bench/Outcome"), accessFlags := 16409, slot := 0, constantValue := 0 }, { name := "ALREADY_CLAIMED", type := (.object "com/example/hot_gate/hotgate/bench/Outcome"), accessFlags := 16409, slot := 1, constantValue := 0 }, { name := "SOLD_OUT", type := (.object "com/example/hot_gate/hotgate/bench/Outcome"), accessFlags := 16409, slot := 2, constantValue := 0 }, { name := "ERROR", type := (.object "com/example/hot_gate/hotgate/bench/Outcome"), accessFlags := 16409, slot := 3, constantValue := 0 }, { name := "field", type := (.object "java/lang/String"), accessFlags := 18, slot := 3, constantValue := 0 }, { name := "reply", type := (.object "com/example/hot_gate/hotgate/api/Status"), accessFlags := 18, slot := 4, constantValue := 0 }, { name := "$VALUES", type := (.array (.object "com/example/hot_gate/hotgate/bench/Outcome")), accessFlags := 4122, slot := 4, constantValue := 0 }]
  methods := #[]
  instanceTypes := #[(.object "java/lang/String"), .int, .int, (.object "java/lang/String"), (.object "com/example/hot_gate/hotgate/api/Status")]
  staticTypes := #[(.object "com/example/hot_gate/hotgate/bench/Outcome"), (.object "com/example/hot_gate/hotgate/bench/Outcome"), (.object "com/example/hot_gate/hotgate/bench/Outcome"), (.object "com/example/hot_gate/hotgate/bench/Outcome"), (.array (.object "com/example/hot_gate/hotgate/bench/Outcome"))]
  resolved := Array.replicate 101 none
  statics := some 0 }

def pool7 : Array CpInfo := pool [(1, .methodref 2 3), (0, .class_ 4), (0, .nameAndType 5 6), (0, u "java/lang/Object"), (0, u "<init>"), (0, u "()V"), (0, .class_ 8), (0, u "java/util/concurrent/atomic/AtomicReference"), (0, .methodref 7 3), (0, .fieldref 11 12), (0, .class_ 13), (0, .nameAndType 14 15), (0, u "com/example/hot_gate/hotgate/bench/Replies"), (0, u "firstError"), (0, u "Ljava/util/concurrent/atomic/AtomicReference;"), (0, .fieldref 11 17), (0, .nameAndType 18 19), (0, u "sentAt"), (0, u "[J"), (0, .fieldref 11 21), (0, .nameAndType 22 19), (0, u "answeredAt"), (0, .class_ 24), (0, u "com/example/hot_gate/hotgate/bench/Outcome"), (0, .fieldref 11 26), (0, .nameAndType 27 28), (0, u "outcomes"), (0, u "[Lcom/example/hot_gate/hotgate/bench/Outcome;"), (23, u "(Lcom/example/hot_gate/hotgate/bench/Outcome;)J"), (15, u "(I)V"), (4, u "record"), (0, u "(IJJLcom/example/hot_gate/hotgate/bench/Outcome;Ljava/lang/String;)V"), (1, u "count")] 7

def k7c0 : Code := { maxStack := 3, maxLocals := 2, code := prog_12_method_1_code, exceptionTable := #[], attributes := #[] }
def k7m0 : Method := { name := "<init>", desc := "(I)V", sig := { parameters := [.int], returnType := none }, accessFlags := 0, code := some k7c0 }
def k7c1 : Code := { maxStack := 4, maxLocals := 8, code := prog_12_method_3_code, exceptionTable := #[], attributes := #[] }
def k7m1 : Method := { name := "record", desc := "(IJJLcom/example/hot_gate/hotgate/bench/Outcome;Ljava/lang/String;)V", sig := { parameters := [.int, .long, .long, (.object "com/example/hot_gate/hotgate/bench/Outcome"), (.object "java/lang/String")], returnType := none }, accessFlags := 0, code := some k7c1 }
def k7c2 : Code := { maxStack := 4, maxLocals := 8, code := prog_12_method_4_code, exceptionTable := #[], attributes := #[] }
def k7m2 : Method := { name := "count", desc := "(Lcom/example/hot_gate/hotgate/bench/Outcome;)J", sig := { parameters := [(.object "com/example/hot_gate/hotgate/bench/Outcome")], returnType := some .long }, accessFlags := 0, code := some k7c2 }
/-- com/example/hot_gate/hotgate/bench/Replies -/
def k7 : Class := { plain "com/example/hot_gate/hotgate/bench/Replies" (some 0) with
  accessFlags := 32
  interfaces := #[]
  cf := some (fileOf pool7 11 #[] #[{ accessFlags := 0, nameIndex := 5, descriptorIndex := 68, attributes := #[] }, { accessFlags := 0, nameIndex := 73, descriptorIndex := 74, attributes := #[] }, { accessFlags := 0, nameIndex := 76, descriptorIndex := 52, attributes := #[] }] 32 2 #[] #[{ accessFlags := 18, nameIndex := 18, descriptorIndex := 19, attributes := #[] }, { accessFlags := 18, nameIndex := 22, descriptorIndex := 19, attributes := #[] }, { accessFlags := 18, nameIndex := 27, descriptorIndex := 28, attributes := #[] }, { accessFlags := 18, nameIndex := 14, descriptorIndex := 15, attributes := #[] }])
  fields := #[{ name := "sentAt", type := (.array .long), accessFlags := 18, slot := 0, constantValue := 0 }, { name := "answeredAt", type := (.array .long), accessFlags := 18, slot := 1, constantValue := 0 }, { name := "outcomes", type := (.array (.object "com/example/hot_gate/hotgate/bench/Outcome")), accessFlags := 18, slot := 2, constantValue := 0 }, { name := "firstError", type := (.object "java/util/concurrent/atomic/AtomicReference"), accessFlags := 18, slot := 3, constantValue := 0 }]
  methods := #[k7m0, k7m1, k7m2]
  instanceTypes := #[(.array .long), (.array .long), (.array (.object "com/example/hot_gate/hotgate/bench/Outcome")), (.object "java/util/concurrent/atomic/AtomicReference")]
  staticTypes := #[]
  resolved := Array.replicate 84 none
  statics := none }

def pool8 : Array CpInfo := pool [(1, .methodref 2 3), (0, .class_ 4), (0, .nameAndType 5 6), (0, u "java/lang/Object"), (0, u "<init>"), (0, u "()V"), (1, .class_ 10), (1, u "java/util/concurrent/atomic/AtomicReference"), (0, u "value"), (0, u "Ljava/lang/Object;"), (2, u "VALUE"), (0, u "Ljava/lang/invoke/VarHandle;"), (96, .class_ 114), (0, u "java/io/Serializable"), (0, u "serialVersionUID"), (0, u "J")] 61

def k8c0 : Code := { maxStack := 1, maxLocals := 1, code := jdk_2809_method_2_code, exceptionTable := #[], attributes := #[] }
def k8m0 : Method := { name := "<init>", desc := "()V", sig := { parameters := [], returnType := none }, accessFlags := 1, code := some k8c0 }
/-- java/util/concurrent/atomic/AtomicReference -/
def k8 : Class := { plain "java/util/concurrent/atomic/AtomicReference" (some 0) with
  accessFlags := 33
  interfaces := #[4]
  cf := some (fileOf pool8 8 #[] #[{ accessFlags := 1, nameIndex := 5, descriptorIndex := 6, attributes := #[] }] 33 2 #[113] #[{ accessFlags := 26, nameIndex := 115, descriptorIndex := 116, attributes := #[] }, { accessFlags := 26, nameIndex := 15, descriptorIndex := 16, attributes := #[] }, { accessFlags := 66, nameIndex := 11, descriptorIndex := 12, attributes := #[] }])
  fields := #[{ name := "serialVersionUID", type := .long, accessFlags := 26, slot := 0, constantValue := 0 }, { name := "VALUE", type := (.object "java/lang/invoke/VarHandle"), accessFlags := 26, slot := 1, constantValue := 0 }, { name := "value", type := (.object "java/lang/Object"), accessFlags := 66, slot := 0, constantValue := 0 }]
  methods := #[k8m0]
  instanceTypes := #[(.object "java/lang/Object")]
  staticTypes := #[.long, (.object "java/lang/invoke/VarHandle")]
  resolved := Array.replicate 178 none
  statics := none }

def pool9 : Array CpInfo := pool [(1, u "java/lang/Cloneable"), (0, .class_ 1), (0, u "java/lang/Object"), (0, .class_ 3)] 3

/-- java/lang/Cloneable -/
def k9 : Class := { plain "java/lang/Cloneable" (some 0) with
  accessFlags := 1537
  interfaces := #[]
  cf := some (fileOf pool9 2 #[] #[] 1537 4 #[] #[])
  fields := #[]
  methods := #[]
  instanceTypes := #[]
  staticTypes := #[]
  resolved := Array.replicate 8 none
  statics := none }

/-- the primitive byte -/
def k10 : Class := { plain "byte" none with kind := .primitive 'B', accessFlags := 0x411 }
/-- [B -/
def k11 : Class := { plain "[B" (some 0) with kind := .array 10 .byte, interfaces := #[9, 4], accessFlags := 1041 }

/-- the primitive int -/
def k12 : Class := { plain "int" none with kind := .primitive 'I', accessFlags := 0x411 }
/-- [I -/
def k13 : Class := { plain "[I" (some 0) with kind := .array 12 .int, interfaces := #[9, 4], accessFlags := 1041 }

/-- the primitive long -/
def k14 : Class := { plain "long" none with kind := .primitive 'J', accessFlags := 0x411 }
/-- [J -/
def k15 : Class := { plain "[J" (some 0) with kind := .array 14 .long, interfaces := #[9, 4], accessFlags := 1041 }

/-- [Lcom/example/hot_gate/hotgate/bench/Outcome; -/
def k16 : Class := { plain "[Lcom/example/hot_gate/hotgate/bench/Outcome;" (some 0) with kind := .array 6 (.object "com/example/hot_gate/hotgate/bench/Outcome"), interfaces := #[9, 4], accessFlags := 1041 }

def heap : Heap := #[{ cls := 6, slots := #[.ref 1, .ref 2, .ref 3, .ref 4, .null], vm := .statics 6 },
  { cls := 6, slots := #[.null, .int 0, .int 0, .null, .null], vm := .none },
  { cls := 6, slots := #[.null, .int 1, .int 0, .null, .null], vm := .none },
  { cls := 6, slots := #[.null, .int 2, .int 0, .null, .null], vm := .none },
  { cls := 6, slots := #[.null, .int 3, .int 0, .null, .null], vm := .none }]
def classes : Array Class := #[k0, k1, k2, k3, k4, k5, k6, k7, k8, k9, k10, k11, k12, k13, k14, k15, k16]
def interned : List (Array UInt16 × Addr) := []
def slotsUsed : Nat := 25
def theMethod : MethodId := ⟨1, 1⟩
def args0 : Array Value := #[.int 3, .int 5, .int 6, .int 7, .int 8, .long 9]
def aboutOver (below : List Frame) : State where
  vm := { classes := classes, interned := interned.toArray }
  heap := heap
  slotsUsed := slotsUsed
  threads := #[{ frames := .invoking theMethod args0 :: below }]
def below0 : List Frame := [.native { method := ⟨0, 0⟩, args := #[] }]
def about1 : State := aboutOver below0
def p0 : Program := .bare "" "" ""
def e0 : Env := launch0.env 0 0 0
theorem w_frames : about1.frames = Frame.invoking theMethod args0 :: below0 := rfl
set_option maxRecDepth 65536 in
theorem w_args : argsFit about1.vm theMethod args0 = true := by decide +kernel
set_option maxRecDepth 65536 in
theorem w_heap : heapFits about1 = true := by decide +kernel
set_option maxRecDepth 65536 in
theorem w_runnable : about1.curStatus? = some .runnable := by decide +kernel
set_option maxRecDepth 65536 in
theorem w_alone : about1.alone = true := by decide +kernel
set_option maxRecDepth 65536 in
theorem w_named : about1.methodNamed? x = some theMethod := by decide +kernel
set_option maxRecDepth 65536 in
theorem w_hears : about1.hears theMethod below0 = true := by decide +kernel
set_option maxRecDepth 65536 in
theorem w_ripe : about1.ripe theMethod args0 below0 = true := by decide +kernel
theorem w_running : about1.status = .running := rfl
set_option maxRecDepth 65536 in
theorem w_room : about1.hasRoom e0.platform room_1 = true :=
  launch0.hasRoom_least _ room_1 (by decide +kernel) (by decide +kernel) (by decide +kernel) (by decide +kernel) (by decide +kernel) (by decide +kernel)
theorem allAtoms_all (ts : List Jvm.Cond) (a : Array Jvm.Value) (st : Jvm.State) : (allAtoms ts).before a st = ts.all (fun c => c.before a st) := by
  induction ts with
  | nil => rfl
  | cons c t ih =>
    show (Jvm.Cond.and c (allAtoms t)).before a st = _
    rw [Jvm.Cond.before_and, ih, List.all_cons]
def words1 : List Jvm.Cond := Jvm.Cond.code x code maxLocals ret :: tables_1
/-- a 'code' word, met by the world's own term for the bytes: nothing is compared byte by byte -/
theorem code_word {y : MethodName} {bytes : ByteArray} {mx : Nat} {rt : Option FieldType} {a : Array Value} {s : State} {m : MethodId} {meth : Method} {c : Code} (h1 : s.methodNamed? y = some m) (h2 : s.vm.method? m = some meth) (h3 : meth.code = some c) (h4 : c.code = bytes)
    (h5 : (c.maxLocals == mx && c.exceptionTable.isEmpty && decide (c.maxStack ≤ mostOperands) && decide (meth.sig.returnType = rt) && !meth.locks && decide (parseMethodDescriptor y.desc = some meth.sig)) = true) : (Jvm.Cond.code y bytes mx rt).before a s = true := by
  simp only [Bool.and_eq_true, beq_iff_eq, Bool.not_eq_true', decide_eq_true_eq] at h5
  obtain ⟨⟨⟨⟨⟨g1, g2⟩, g3⟩, g4⟩, g5⟩, g6⟩ := h5
  simp [Cond.before, Cond.holds, Cond.value, h1, h2, h3, h4, g1, g2, g3, g4, g5, g6]
def isCode : Jvm.Cond → Bool
  | .code _ _ _ _ => true
  | _ => false
theorem all_split {L : List Jvm.Cond} {P : Jvm.Cond → Bool} (h1 : L.all (fun c => isCode c || P c) = true) (h2 : ∀ c ∈ L.filter isCode, P c = true) : L.all P = true := by
  refine List.all_eq_true.mpr fun c hc => ?_
  have h := List.all_eq_true.mp h1 c hc
  rcases Bool.eq_false_or_eq_true (isCode c) with hi | hi
  · exact h2 c (List.mem_filter.mpr ⟨hc, hi⟩)
  · simpa [hi] using h
set_option maxRecDepth 65536 in
theorem w_c0 : (Jvm.Cond.code x code maxLocals ret).before args0 about1 = true := code_word (m := ⟨1, 1⟩) (meth := k1m1) (c := k1c1) (by decide +kernel) rfl rfl rfl (by decide +kernel)
set_option maxRecDepth 65536 in
theorem w_c1 : (Jvm.Cond.code ({ cls := "com/example/hot_gate/hotgate/bench/RepliesCountPinLaw", name := "pick", desc := "(I)Lcom/example/hot_gate/hotgate/bench/Outcome;" } : Jvm.MethodName) method_3_code (2 : Nat) (Option.some (Jvm.ClassFile.FieldType.object "com/example/hot_gate/hotgate/bench/Outcome"))).before args0 about1 = true := code_word (m := ⟨1, 2⟩) (meth := k1m2) (c := k1c2) (by decide +kernel) rfl rfl rfl (by decide +kernel)
set_option maxRecDepth 65536 in
theorem w_c2 : (Jvm.Cond.code ({ cls := "com/example/hot_gate/hotgate/bench/Replies", name := "<init>", desc := "(I)V" } : Jvm.MethodName) prog_12_method_1_code (2 : Nat) (Option.none : Option Jvm.ClassFile.FieldType)).before args0 about1 = true := code_word (m := ⟨7, 0⟩) (meth := k7m0) (c := k7c0) (by decide +kernel) rfl rfl rfl (by decide +kernel)
set_option maxRecDepth 65536 in
theorem w_c3 : (Jvm.Cond.code ({ cls := "java/lang/Object", name := "<init>", desc := "()V" } : Jvm.MethodName) object_method_1_code (1 : Nat) (Option.none : Option Jvm.ClassFile.FieldType)).before args0 about1 = true := code_word (m := ⟨0, 0⟩) (meth := k0m0) (c := k0c0) (by decide +kernel) rfl rfl rfl (by decide +kernel)
set_option maxRecDepth 65536 in
theorem w_c4 : (Jvm.Cond.code ({ cls := "java/util/concurrent/atomic/AtomicReference", name := "<init>", desc := "()V" } : Jvm.MethodName) jdk_2809_method_2_code (1 : Nat) (Option.none : Option Jvm.ClassFile.FieldType)).before args0 about1 = true := code_word (m := ⟨8, 0⟩) (meth := k8m0) (c := k8c0) (by decide +kernel) rfl rfl rfl (by decide +kernel)
set_option maxRecDepth 65536 in
theorem w_c5 : (Jvm.Cond.code ({ cls := "com/example/hot_gate/hotgate/bench/Replies", name := "count", desc := "(Lcom/example/hot_gate/hotgate/bench/Outcome;)J" } : Jvm.MethodName) prog_12_method_4_code (8 : Nat) (Option.some Jvm.ClassFile.FieldType.long)).before args0 about1 = true := code_word (m := ⟨7, 2⟩) (meth := k7m2) (c := k7c2) (by decide +kernel) rfl rfl rfl (by decide +kernel)
set_option maxRecDepth 65536 in
theorem w_c6 : (Jvm.Cond.code ({ cls := "com/example/hot_gate/hotgate/bench/Replies", name := "record", desc := "(IJJLcom/example/hot_gate/hotgate/bench/Outcome;Ljava/lang/String;)V" } : Jvm.MethodName) prog_12_method_3_code (8 : Nat) (Option.none : Option Jvm.ClassFile.FieldType)).before args0 about1 = true := code_word (m := ⟨7, 1⟩) (meth := k7m1) (c := k7c1) (by decide +kernel) rfl rfl rfl (by decide +kernel)
def codes1 : List Jvm.Cond := [Jvm.Cond.code x code maxLocals ret, Jvm.Cond.code ({ cls := "com/example/hot_gate/hotgate/bench/RepliesCountPinLaw", name := "pick", desc := "(I)Lcom/example/hot_gate/hotgate/bench/Outcome;" } : Jvm.MethodName) method_3_code (2 : Nat) (Option.some (Jvm.ClassFile.FieldType.object "com/example/hot_gate/hotgate/bench/Outcome")), Jvm.Cond.code ({ cls := "com/example/hot_gate/hotgate/bench/Replies", name := "<init>", desc := "(I)V" } : Jvm.MethodName) prog_12_method_1_code (2 : Nat) (Option.none : Option Jvm.ClassFile.FieldType), Jvm.Cond.code ({ cls := "java/lang/Object", name := "<init>", desc := "()V" } : Jvm.MethodName) object_method_1_code (1 : Nat) (Option.none : Option Jvm.ClassFile.FieldType), Jvm.Cond.code ({ cls := "java/util/concurrent/atomic/AtomicReference", name := "<init>", desc := "()V" } : Jvm.MethodName) jdk_2809_method_2_code (1 : Nat) (Option.none : Option Jvm.ClassFile.FieldType), Jvm.Cond.code ({ cls := "com/example/hot_gate/hotgate/bench/Replies", name := "count", desc := "(Lcom/example/hot_gate/hotgate/bench/Outcome;)J" } : Jvm.MethodName) prog_12_method_4_code (8 : Nat) (Option.some Jvm.ClassFile.FieldType.long), Jvm.Cond.code ({ cls := "com/example/hot_gate/hotgate/bench/Replies", name := "record", desc := "(IJJLcom/example/hot_gate/hotgate/bench/Outcome;Ljava/lang/String;)V" } : Jvm.MethodName) prog_12_method_3_code (8 : Nat) (Option.none : Option Jvm.ClassFile.FieldType)]
set_option maxRecDepth 65536 in
theorem codes_eq : words1.filter isCode = codes1 := rfl
theorem w_codes : ∀ c ∈ words1.filter isCode, c.before args0 about1 = true := by
  rw [codes_eq]
  intro c hc
  simp only [codes1, List.mem_cons, List.not_mem_nil, or_false] at hc
  rcases hc with rfl | rfl | rfl | rfl | rfl | rfl | rfl
  · exact w_c0
  · exact w_c1
  · exact w_c2
  · exact w_c3
  · exact w_c4
  · exact w_c5
  · exact w_c6
set_option maxRecDepth 65536 in
theorem w_t1 : (words1.take 24).all (fun c => isCode c || c.before args0 about1) = true := by decide +kernel
set_option maxRecDepth 65536 in
theorem w_t2 : ((words1.drop 24).take 24).all (fun c => isCode c || c.before args0 about1) = true := by decide +kernel
set_option maxRecDepth 65536 in
theorem w_t3 : ((words1.drop 24).drop 24).all (fun c => isCode c || c.before args0 about1) = true := by decide +kernel
theorem w_tables : (allAtoms (Jvm.Cond.code x code maxLocals ret :: tables_1)).before args0 about1 = true := by
  rw [allAtoms_all]
  show words1.all (fun c => c.before args0 about1) = true
  refine all_split ?_ w_codes
  rw [← List.take_append_drop 24 words1, List.all_append, w_t1, ← List.take_append_drop 24 (words1.drop 24), List.all_append, w_t2, w_t3]
  rfl
set_option maxRecDepth 65536 in
theorem w_case : (Jvm.Cond.and given_1 narrow_1).before args0 about1 = true := by decide +kernel
theorem w_applies : (headSpec (Jvm.Cond.code x code maxLocals ret :: tables_1) room_1).applies x e0.platform about1 = true :=
  (Spec.applies_iff w_frames).mpr ⟨w_running, w_runnable, w_alone, w_named, w_hears, w_ripe, w_room, w_tables⟩
theorem atStart : AtStart classFile x code maxLocals ret World_1 tables_1 room_1 Calls_1 rest_1 Pre_1 launch0 p0 e0 about1 theMethod args0 below0 :=
  ⟨lists_1, trivial, launch0.admits_env _ _ _, launch0.least_env, fairChoices_fair.cas, fairChoices_fair.clock, w_frames, w_args, w_heap, w_applies, trivial, trivial, w_case⟩
end start1
theorem witness_1 : WitnessClaimed_1 := ⟨start1.p0, start1.e0, start1.about1, start1.theMethod, start1.args0, start1.below0, start1.atStart⟩
end Jvm.Pilot.@@N@@
