import JvmDerived
import JvmDerived.Pilot.@@N@@Statement
import JvmDerived.Pilot.@@N@@Code
set_option linter.unusedVariables false
set_option linter.unusedSimpArgs false
namespace Jvm.RoadKit
open Sem ClassFile Op Lib Jvm.Stand Jvm.Free Jvm.LawKit
section New
variable {p : Program} {l : Launch} {e : Env} {R : Room} {s : State} {m : MethodId} {args : Array Value} {below : List Frame} {meth : Method} {c : Code} {T : State} {locs : List Loc} {cells slots : Nat}
theorem retI (X : Stand p l e R s m args below meth c T locs cells slots) (hx : p.tables.exec = Jvm.exec) {pc : Nat} {Ls : Array Slot} {z : Int32} {rest : List Value} (hret : meth.sig.returnType = some .int) (hd : decode c.code pc = .ok (.ireturn, 1)) {fs : List Frame}
    (hl : ∀ (f : JFrame) (acts : List Action), f.method = m → f.locked = none → f.entered = [] → (doReturn e (T.setTop f) acts (some (.int z))).1 = T.setFrames fs) : Steps p.tables e below (T.setTop (mkF m pc Ls (.int z :: rest))) (T.setFrames fs) := by
  have hm' : T.vm.method? m = some meth := X.method'
  have hn : narrow .int (.int z) = .int z := rfl
  show Steps p.tables e below (T.setTop { method := m, pc := pc, locals := Ls, stack := _ :: rest, locked := none }) _
  jvm_step X.here [X.here.top, hx, hd, hm', hret, hn]
  first | (intro acts; rw [hl _ acts rfl rfl rfl]) | rw [hl _ _ rfl rfl rfl]
  exact Steps.refl _
end New
end Jvm.RoadKit
namespace Jvm.Pilot.@@N@@
open Jvm Jvm.ClassFile Sem Op Lib Jvm.Free Jvm.Stand Jvm.LawKit Jvm.RoadKit Bundle Jvm.Pilot.@@N@@.Jvm.D
def own_hash (w1 w2 w3 : Int32) : Int32 := ((((31 : Int32) * w1) + w2) * (2 : Int32)) + (if w3 = (0 : Int32) then (0 : Int32) else (1 : Int32))
theorem own_nar0 : nar .boolean (0 : Int32) = 0 := rfl
theorem own_nar1 : nar .boolean (1 : Int32) = 1 := rfl
def own_eq (a b c d e f : Int32) : Int32 := (if a = d then (if b = e then (if c = f then (1 : Int32) else (0 : Int32)) else (0 : Int32)) else (0 : Int32))
def own_cache (Z : State) (bc : Addr) : Prop := ∃ cl : Cell, Arr Z Z.heap bc cl (.object "java/lang/Integer") ∧ cl.slots.size = 256 ∧ ∀ j : Nat, j < 256 → ∃ a : Addr, cl.slots[j]? = some (.ref a) ∧ Exa Z Z.heap a "java/lang/Integer"
theorem own_idx {p : Int32} (h1 : ¬ p < (-128 : Int32)) (h2 : ¬ (127 : Int32) < p) : ¬ (p + (128 : Int32)) < 0 ∧ (p + (128 : Int32)).toNatClampNeg < 256 := by
  have a := c_iadd p 128
  have r := rng32 (p + 128)
  have k1 : (128 : Int32).toInt = 128 := rfl
  have k2 : (127 : Int32).toInt = 127 := rfl
  have k3 : (-128 : Int32).toInt = -128 := rfl
  have k4 : (0 : Int32).toInt = 0 := rfl
  rw [Int32.lt_iff_toInt_lt] at h1 h2
  have q : ¬ (p + (128 : Int32)) < 0 := by rw [Int32.lt_iff_toInt_lt]; omega
  refine ⟨q, ?_⟩
  have := nat_of q
  omega
theorem own_assign {Z : State} {a0 : Array Value} {n : Nat} (w1 : (Jvm.Cond.superclass "java/lang/Integer" "java/lang/Number").before a0 Z = true) (w2 : (Jvm.Cond.superclass "java/lang/Number" "java/lang/Object").before a0 Z = true) (w3 : (Jvm.Cond.noSuperclass "java/lang/Object").before a0 Z = true) (wk : (Jvm.Cond.instantiable "com/example/schemactl/schemactl/Unfinished" n).before a0 Z = true) :
    ∃ c t, Z.vm.findClass "java/lang/Integer" = some c ∧ Z.vm.findClass "com/example/schemactl/schemactl/Unfinished" = some t ∧ Z.vm.assignable c t = false := by
  obtain ⟨t, kt, g1, g2, g5, g7, -, -⟩ := Cond.instantiable_spec wk
  obtain ⟨o, ko, h1, h2, h3, -, -⟩ := Cond.noSuperclass_spec w3
  have hf : kt.isInterface = false := by
    cases q : kt.isInterface with
    | false => rfl
    | true => rw [q] at g7; cases g7
  have ne0 := ids_ne h1 g1 (by decide)
  have n0 : NS Z "java/lang/Object" "com/example/schemactl/schemactl/Unfinished" := ⟨o, t, h1, g1, fun fuel => by
    cases fuel with
    | zero => rfl
    | succ f => simp [Vm.isSubclassAux, ne0, h2, h3]⟩
  have n1 := NS.step w2 n0 (by decide)
  have n2 := NS.step w1 n1 (by decide)
  obtain ⟨c, t', h0, g0, n3⟩ := n2
  cases g1.symm.trans g0
  have ne := ids_ne h0 g1 (by decide)
  obtain ⟨p, k, kp, a1, a2, a3, a4, a5, -, a7⟩ := Cond.superclass_spec h0 w1
  refine ⟨c, t, h0, g1, ?_⟩
  show Z.vm.assignableAux (255 + 1) c t = false
  simp [Vm.assignableAux, ne, a2, g2, a5, g5, hf, Vm.isSubclass, n3]
theorem own_eq_int {a : Term} {n : Int32} {args : Array Value} {s : State} (h : (Jvm.Cond.eq a (.int n)).value args s none s [] = some true) : a.eval args s none [] s = some (.int n) := by
  obtain ⟨x, y, e1, e2, -, k⟩ := cmp_v (Or.inl h)
  cases (Term.int_eval n).symm.trans e2
  obtain ⟨z, rfl⟩ := k
  have q := gotT (Cond.eq_ints e1 e2) h
  rw [e1, q]
theorem own_eq_ref {a b : Term} {y : Addr} {args : Array Value} {s : State} (h : (Jvm.Cond.eq a b).value args s none s [] = some true) (hb : b.eval args s none [] s = some (.ref y)) : a.eval args s none [] s = some (.ref y) := by
  obtain ⟨x, y', e1, e2, -, k⟩ := cmp_v (Or.inl h)
  cases hb.symm.trans e2
  have q := gotT (eq_R e1 e2 k.2 rfl) h
  rw [e1, q]
theorem own_len {args : Array Value} {s : State} {t : Term} {a : Addr} {c : Cell} {ty : FieldType} {n : Int32} (ht : t.eval args s none [] s = some (.ref a)) (A : Arr s s.heap a c ty) (h : (Term.length t).eval args s none [] s = some (.int n)) : c.slots.size < 2 ^ 31 ∧ c.slots.size.toInt32 = n := by
  have ha := Arr.fin (U := s) (State.Warmed39.refl s).alike A
  by_cases hl : c.slots.size < 2 ^ 31
  · exact ⟨hl, Value.int.inj (Option.some.inj ((len_f ht ha hl).symm.trans h))⟩
  · simp [Term.eval, ht, ha, hl] at h
theorem own_256 {n : Nat} (h : n < 2 ^ 31) (e : n.toInt32 = 256) : n = 256 := by
  have := len_toInt h
  rw [e] at this
  have k : (256 : Int32).toInt = 256 := rfl
  omega
theorem own_all {args : Array Value} {s : State} {t : Term} {a : Addr} {c : Cell} {P : Jvm.Cond} (ht : ∀ idx, t.eval args s none idx s = some (.ref a)) (A : Arr s s.heap a c (.object "java/lang/Integer")) (hsz : c.slots.size = 256)
    (h : (Jvm.Cond.all t (Jvm.Cond.and (Jvm.Cond.exactly (Jvm.Term.elem t (Jvm.Term.index 0)) "java/lang/Integer") P)).value args s none s [] = some true) : ∀ j : Nat, j < 256 → ∃ x : Addr, c.slots[j]? = some (.ref x) ∧ Exa s s.heap x "java/lang/Integer" := by
  intro j hj
  have ha := Arr.fin (U := s) (State.Warmed39.refl s).alike A
  have q := Cond.all_elim (ht []) ha h j (by rw [hsz]; exact hj)
  obtain ⟨q1, -⟩ := and_e q
  obtain ⟨x, ex⟩ := exa_v q1
  have hc : (Int32.ofNat j).toNatClampNeg = j := clamp_of rfl (by omega)
  have hn : ¬ (Int32.ofNat j) < 0 := fun z => idx_in (i := j) (n := 256) hj (by decide) (Or.inl z)
  have hi := idx_at (args := args) (s := s) (first := s) (o := none) hn
  rw [hc] at hi
  have hf := elem_f (ht [j]) hi ha hn
  rw [hc] at hf
  exact ⟨x, hf.symm.trans ex, exa_at ex q1⟩
theorem d2_0 : decode jdk_30_method_1_code 0 = .ok (.aload_n 0, 1) := by decide +kernel
theorem d2_1 : decode jdk_30_method_1_code 1 = .ok (.invokespecial 1, 3) := by decide +kernel
theorem d2_4 : decode jdk_30_method_1_code 4 = .ok (.return_, 1) := by decide +kernel
theorem pn_2 : plainName "java/lang/Record" = true := by first | (simp [plainName, overriddenIn]; done) | decide +kernel
theorem ef_rm2 (m : MethodId) (p0 : Addr) : entryFrame m #[(.ref p0)] 1 = mkF m 0 #[.val (.ref p0)] [] := by first | (simp [entryFrame, mkF, argsToLocals, Value.category]; done) | rfl
def Q2 (Z : State) (p0 : Addr) (h0 : Heap) (n0 : Nat) (v : Option Value) (h : Heap) (L : List Loc) : Prop := v = none ∧ Fr n0 L ∧ h = h0
set_option maxRecDepth 65536 in
set_option maxHeartbeats 40000000 in
theorem rm2 (l : Launch) (Z : State) (a0 : Array Value) (hw : ∀ d ∈ tables_1, d.before a0 Z = true) (ws : List Jvm.Cond) (p0 : Addr) (h0 : Heap) (n0 : Nat) (O0 : Old Z n0 h0) :
    MetFree l (⟨"java/lang/Record", "<init>", "()V"⟩ : MethodName) (head1 (Jvm.Cond.code (⟨"java/lang/Record", "<init>", "()V"⟩ : MethodName) jdk_30_method_1_code 1 none :: ws) ({ frames := 1, cells := 0, slots := 0, locals := 12 } : Room)) (fun a U => a = #[(.ref p0)] ∧ Z.Warmed39 U.vm ∧ U.heap = h0) (fun _ _ _ _ _ => True) (fun _ U o U' => ∃ v L, o = .returned v ∧ Q2 Z p0 h0 n0 v U'.heap L ∧ FrameEnd U o U' L ({ frames := 1, cells := 0, slots := 0, locals := 12 } : Room).cells ({ frames := 1, cells := 0, slots := 0, locals := 12 } : Room).slots) := by
  refine MetFree.of_bodySF (plainFor_of_name pn_2) hisR ?_
  intro p e s m args below meth c s₁ Bd hml0 hP hK
  obtain ⟨rfl, hZ, hh⟩ := hP
  have hx := Bd.exec
  have hby := Bd.bytes
  have hml : c.maxLocals = 1 := hml0
  have hown : s.vm.findClass "java/lang/Record" = some m.cls := findClass_of_methodNamed Bd.named
  have hnm := (name_of_methodNamed Bd.named Bd.method).1
  have X0 : Stand p l e ({ frames := 1, cells := 0, slots := 0, locals := 12 } : Room) s m #[(.ref p0)] below meth c s₁ [] 0 0 := Stand.of_body Bd
  have e0 : s₁.heap = h0 := by rw [← hh, Bd.state]; rfl
  have N0 := Fr.nil n0
  have s0 : Steps p.tables e below (s₁.setTop (entryFrame m #[(.ref p0)] 1)) (s₁.setTop (mkF m 0 #[.val (.ref p0)] [])) := castTop (ef_rm2 m p0) (Steps.refl _)
  obtain ⟨T1, X1, e1, st1⟩ := initO X0 hx hZ hown (hw _ (List.mem_of_getElem? (i := 11) rfl)) (hw _ (List.mem_of_getElem? (i := 12) rfl)) (hw _ (List.mem_of_getElem? (i := 13) rfl)) e0 (g := (mkF m 1 #[.val (.ref p0)] [(.ref p0)])) rfl (by rw [hml]; rfl) rfl (hb hby d2_1) (by decide) (W := 0) (by show 2 * 0 + _ ≤ _; exact Nat.le_of_eq rfl) (by decide)
  have s2 : Steps p.tables e below (s₁.setTop (entryFrame m #[(.ref p0)] 1)) (T1.setTop (mkF m 4 #[.val (.ref p0)] [])) := by
    refine s0.trans ?_
    show Steps p.tables e below (s₁.setTop (mkF m 0 #[.val (.ref p0)] [])) _
    refine XS.aloadN X0.here hx rfl (hb hby d2_0) rfl rfl ?_
    show Steps p.tables e below (s₁.setTop (mkF m 1 #[.val (.ref p0)] [(.ref p0)])) _
    refine st1 _ ?_
    exact Steps.refl _
  obtain ⟨fs, hr, hrun, hended, hW, hsame⟩ := X1.leave (v := none) (fun _ => rfl)
  refine ⟨_, _, s2.trans ?_, hrun, hended, _, _, rfl, ?_, ⟨_, rfl⟩, hW, hsame.mono (by decide) (by decide)⟩
  · show Steps p.tables e below (T1.setTop (mkF m 4 #[.val (.ref p0)] [])) _
    exact X1.returnOut hx Bd.returns (hb hby d2_4) hr
  · show Q2 Z p0 h0 n0 _ T1.heap _
    rw [e1]
    exact ⟨rfl, N0, rfl⟩
theorem d7_0 : decode jdk_18_method_1_code 0 = .ok (.aload_n 0, 1) := by decide +kernel
theorem d7_1 : decode jdk_18_method_1_code 1 = .ok (.invokespecial 1, 3) := by decide +kernel
theorem d7_4 : decode jdk_18_method_1_code 4 = .ok (.return_, 1) := by decide +kernel
theorem pn_7 : plainName "java/lang/Number" = true := by first | (simp [plainName, overriddenIn]; done) | decide +kernel
theorem ef_rm7 (m : MethodId) (p0 : Addr) : entryFrame m #[(.ref p0)] 1 = mkF m 0 #[.val (.ref p0)] [] := by first | (simp [entryFrame, mkF, argsToLocals, Value.category]; done) | rfl
def Q7 (Z : State) (p0 : Addr) (h0 : Heap) (n0 : Nat) (v : Option Value) (h : Heap) (L : List Loc) : Prop := v = none ∧ Fr n0 L ∧ h = h0
set_option maxRecDepth 65536 in
set_option maxHeartbeats 40000000 in
theorem rm7 (l : Launch) (Z : State) (a0 : Array Value) (hw : ∀ d ∈ tables_1, d.before a0 Z = true) (ws : List Jvm.Cond) (p0 : Addr) (h0 : Heap) (n0 : Nat) (O0 : Old Z n0 h0) :
    MetFree l (⟨"java/lang/Number", "<init>", "()V"⟩ : MethodName) (head1 (Jvm.Cond.code (⟨"java/lang/Number", "<init>", "()V"⟩ : MethodName) jdk_18_method_1_code 1 none :: ws) ({ frames := 1, cells := 0, slots := 0, locals := 12 } : Room)) (fun a U => a = #[(.ref p0)] ∧ Z.Warmed39 U.vm ∧ U.heap = h0) (fun _ _ _ _ _ => True) (fun _ U o U' => ∃ v L, o = .returned v ∧ Q7 Z p0 h0 n0 v U'.heap L ∧ FrameEnd U o U' L ({ frames := 1, cells := 0, slots := 0, locals := 12 } : Room).cells ({ frames := 1, cells := 0, slots := 0, locals := 12 } : Room).slots) := by
  refine MetFree.of_bodySF (plainFor_of_name pn_7) hisR ?_
  intro p e s m args below meth c s₁ Bd hml0 hP hK
  obtain ⟨rfl, hZ, hh⟩ := hP
  have hx := Bd.exec
  have hby := Bd.bytes
  have hml : c.maxLocals = 1 := hml0
  have hown : s.vm.findClass "java/lang/Number" = some m.cls := findClass_of_methodNamed Bd.named
  have hnm := (name_of_methodNamed Bd.named Bd.method).1
  have X0 : Stand p l e ({ frames := 1, cells := 0, slots := 0, locals := 12 } : Room) s m #[(.ref p0)] below meth c s₁ [] 0 0 := Stand.of_body Bd
  have e0 : s₁.heap = h0 := by rw [← hh, Bd.state]; rfl
  have N0 := Fr.nil n0
  have s0 : Steps p.tables e below (s₁.setTop (entryFrame m #[(.ref p0)] 1)) (s₁.setTop (mkF m 0 #[.val (.ref p0)] [])) := castTop (ef_rm7 m p0) (Steps.refl _)
  obtain ⟨T1, X1, e1, st1⟩ := initO X0 hx hZ hown (hw _ (List.mem_of_getElem? (i := 49) rfl)) (hw _ (List.mem_of_getElem? (i := 12) rfl)) (hw _ (List.mem_of_getElem? (i := 13) rfl)) e0 (g := (mkF m 1 #[.val (.ref p0)] [(.ref p0)])) rfl (by rw [hml]; rfl) rfl (hb hby d7_1) (by decide) (W := 0) (by show 2 * 0 + _ ≤ _; exact Nat.le_of_eq rfl) (by decide)
  have s2 : Steps p.tables e below (s₁.setTop (entryFrame m #[(.ref p0)] 1)) (T1.setTop (mkF m 4 #[.val (.ref p0)] [])) := by
    refine s0.trans ?_
    show Steps p.tables e below (s₁.setTop (mkF m 0 #[.val (.ref p0)] [])) _
    refine XS.aloadN X0.here hx rfl (hb hby d7_0) rfl rfl ?_
    show Steps p.tables e below (s₁.setTop (mkF m 1 #[.val (.ref p0)] [(.ref p0)])) _
    refine st1 _ ?_
    exact Steps.refl _
  obtain ⟨fs, hr, hrun, hended, hW, hsame⟩ := X1.leave (v := none) (fun _ => rfl)
  refine ⟨_, _, s2.trans ?_, hrun, hended, _, _, rfl, ?_, ⟨_, rfl⟩, hW, hsame.mono (by decide) (by decide)⟩
  · show Steps p.tables e below (T1.setTop (mkF m 4 #[.val (.ref p0)] [])) _
    exact X1.returnOut hx Bd.returns (hb hby d7_4) hr
  · show Q7 Z p0 h0 n0 _ T1.heap _
    rw [e1]
    exact ⟨rfl, N0, rfl⟩
theorem d1_0 : decode prog_32_method_1_code 0 = .ok (.aload_n 0, 1) := by decide +kernel
theorem d1_1 : decode prog_32_method_1_code 1 = .ok (.invokespecial 1, 3) := by decide +kernel
theorem d1_4 : decode prog_32_method_1_code 4 = .ok (.aload_n 0, 1) := by decide +kernel
theorem d1_5 : decode prog_32_method_1_code 5 = .ok (.iload_n 1, 1) := by decide +kernel
theorem d1_6 : decode prog_32_method_1_code 6 = .ok (.putfield 7, 3) := by decide +kernel
theorem d1_9 : decode prog_32_method_1_code 9 = .ok (.aload_n 0, 1) := by decide +kernel
theorem d1_10 : decode prog_32_method_1_code 10 = .ok (.iload_n 2, 1) := by decide +kernel
theorem d1_11 : decode prog_32_method_1_code 11 = .ok (.putfield 13, 3) := by decide +kernel
theorem d1_14 : decode prog_32_method_1_code 14 = .ok (.aload_n 0, 1) := by decide +kernel
theorem d1_15 : decode prog_32_method_1_code 15 = .ok (.iload_n 3, 1) := by decide +kernel
theorem d1_16 : decode prog_32_method_1_code 16 = .ok (.putfield 16, 3) := by decide +kernel
theorem d1_19 : decode prog_32_method_1_code 19 = .ok (.return_, 1) := by decide +kernel
theorem pn_1 : plainName "com/example/schemactl/schemactl/Unfinished" = true := by first | (simp [plainName, overriddenIn]; done) | decide +kernel
theorem pd_rm1_0 : parseMethodDescriptor "()V" = some ⟨[], none⟩ := by decide +kernel
theorem ef_rm1 (m : MethodId) (p0 : Addr) (p1 : Int32) (p2 : Int32) (p3 : Int32) : entryFrame m #[(.ref p0), (.int p1), (.int p2), (.int p3)] 4 = mkF m 0 #[.val (.ref p0), .val (.int p1), .val (.int p2), .val (.int p3)] [] := by first | (simp [entryFrame, mkF, argsToLocals, Value.category]; done) | rfl
def Q1 (Z : State) (p0 : Addr) (p1 : Int32) (p2 : Int32) (p3 : Int32) (h0 : Heap) (n0 : Nat) (v : Option Value) (h : Heap) (L : List Loc) : Prop := v = none ∧ Fr n0 L ∧ Keep h0 h [p0] ∧ (Exa Z h p0 "com/example/schemactl/schemactl/Unfinished") ∧ (Fld Z h p0 "com/example/schemactl/schemactl/Unfinished" "applied" "I" (.int p1)) ∧ (Fld Z h p0 "com/example/schemactl/schemactl/Unfinished" "uncertain" "I" (.int p2)) ∧ (Fld Z h p0 "com/example/schemactl/schemactl/Unfinished" "resumable" "Z" (.int (nar .boolean p3)))
set_option maxRecDepth 65536 in
set_option maxHeartbeats 40000000 in
theorem rm1 (l : Launch) (Z : State) (a0 : Array Value) (hw : ∀ d ∈ tables_1, d.before a0 Z = true) (ws : List Jvm.Cond) (p0 : Addr) (p1 : Int32) (p2 : Int32) (p3 : Int32) (h0 : Heap) (n0 : Nat) (O0 : Old Z n0 h0) (F0_ : Exa Z h0 p0 "com/example/schemactl/schemactl/Unfinished") (F1_ : Fld Z h0 p0 "com/example/schemactl/schemactl/Unfinished" "applied" "I" (.int (0 : Int32))) (F2_ : Fld Z h0 p0 "com/example/schemactl/schemactl/Unfinished" "uncertain" "I" (.int (0 : Int32))) (F3_ : Fld Z h0 p0 "com/example/schemactl/schemactl/Unfinished" "resumable" "Z" (.int (0 : Int32))) (F4_ : n0 ≤ p0) :
    MetFree l (⟨"com/example/schemactl/schemactl/Unfinished", "<init>", "(IIZ)V"⟩ : MethodName) (head1 (Jvm.Cond.code (⟨"com/example/schemactl/schemactl/Unfinished", "<init>", "(IIZ)V"⟩ : MethodName) prog_32_method_1_code 4 none :: ws) ({ frames := 2, cells := 0, slots := 0, locals := 24 } : Room)) (fun a U => a = #[(.ref p0), (.int p1), (.int p2), (.int p3)] ∧ Z.Warmed39 U.vm ∧ U.heap = h0) (fun _ _ _ _ _ => True) (fun _ U o U' => ∃ v L, o = .returned v ∧ Q1 Z p0 p1 p2 p3 h0 n0 v U'.heap L ∧ FrameEnd U o U' L ({ frames := 2, cells := 0, slots := 0, locals := 24 } : Room).cells ({ frames := 2, cells := 0, slots := 0, locals := 24 } : Room).slots) := by
  refine MetFree.of_bodySF (plainFor_of_name pn_1) hisR ?_
  intro p e s m args below meth c s₁ Bd hml0 hP hK
  obtain ⟨rfl, hZ, hh⟩ := hP
  have hx := Bd.exec
  have hby := Bd.bytes
  have hml : c.maxLocals = 4 := hml0
  have hown : s.vm.findClass "com/example/schemactl/schemactl/Unfinished" = some m.cls := findClass_of_methodNamed Bd.named
  have hnm := (name_of_methodNamed Bd.named Bd.method).1
  have X0 : Stand p l e ({ frames := 2, cells := 0, slots := 0, locals := 24 } : Room) s m #[(.ref p0), (.int p1), (.int p2), (.int p3)] below meth c s₁ [] 0 0 := Stand.of_body Bd
  have e0 : s₁.heap = h0 := by rw [← hh, Bd.state]; rfl
  have N0 := Fr.nil n0
  have s0 : Steps p.tables e below (s₁.setTop (entryFrame m #[(.ref p0), (.int p1), (.int p2), (.int p3)] 4)) (s₁.setTop (mkF m 0 #[.val (.ref p0), .val (.int p1), .val (.int p2), .val (.int p3)] [])) := castTop (ef_rm1 m p0 p1 p2 p3) (Steps.refl _)
  obtain ⟨_, _, ⟨T1, L1, k1, n1⟩, -, X1, ⟨Lc1, hQ1, l1, y1, z1⟩, st1⟩ := X0.specialBack hx (y := (⟨"java/lang/Record", "<init>", "()V"⟩ : MethodName)) rfl hown (mvT hZ (hw _ (List.mem_of_getElem? (i := 6) rfl))) (mvT hZ (hw _ (List.mem_of_getElem? (i := 7) rfl))) (mvT hZ (hw _ (List.mem_of_getElem? (i := 10) rfl))) (by decide) (backOf (W := 0) (rm2 l Z a0 hw [] p0 h0 n0 O0 ) hZ (hw _ (List.mem_of_getElem? (i := 10) rfl)) (hw _ (List.mem_of_getElem? (i := 9) rfl)) (by decide) (by decide)) (g := (mkF m 1 #[.val (.ref p0), .val (.int p1), .val (.int p2), .val (.int p3)] [(.ref p0)])) rfl (by rw [hml]; rfl) (Steps.refl _) (a := p0) (argsL := []) (rest := []) (lenOf pd_rm1_0 rfl) rfl (by show 2 * 0 + _ ≤ _; exact Nat.le_of_eq rfl) (hb hby d1_1) (fun _ _ => ⟨rfl, e0, (by decide : 0 + 0 ≤ _), (by decide : 0 + 0 ≤ _)⟩)
  dsimp only [Pt.U, Pt.locs, Pt.cells, Pt.slots] at X1 l1 y1 z1 st1 hQ1
  subst l1 y1 z1
  obtain ⟨rfl, Nq1, e1⟩ := hQ1
  have N1 := Fr.app N0 Nq1
  obtain ⟨T2, h2, X2, e2, W2, st2⟩ := putF X1 hx hZ hown (host := "") (Or.inl (hw _ (List.mem_of_getElem? (i := 14) rfl))) Via.refl e1 F1_ F0_ (Or.inr ⟨(hw _ (List.mem_of_getElem? (i := 15) rfl)), rfl, hnm⟩) (hw _ (List.mem_of_getElem? (i := 1) rfl)) (ty := .int) (by decide) rfl rfl (g := (mkF m 6 #[.val (.ref p0), .val (.int p1), .val (.int p2), .val (.int p3)] [(.int p1), (.ref p0)])) rfl rfl (hb hby d1_6)
  have Fw2 := F1_.same W2
  have O2 := O0.wr W2 F4_
  have K2 : Keep h0 h2 [p0] := (Keep.refl h0 [p0]).wr W2 (Or.inl (List.mem_of_getElem? (i := 0) rfl))
  have N2 := Fr.snoc X2 N1 F4_
  have c3 : Exa Z h2 p0 "com/example/schemactl/schemactl/Unfinished" := (F0_.wr W2)
  have c4 : Fld Z h2 p0 "com/example/schemactl/schemactl/Unfinished" "uncertain" "I" (.int (0 : Int32)) := (F2_.other W2 (Or.inr (slot_ne (Or.inr (hw _ (List.mem_of_getElem? (i := 17) rfl))) (Or.inr (hw _ (List.mem_of_getElem? (i := 15) rfl))) (by decide) (t := .int) (t' := .int) (by decide) (by decide))))
  obtain ⟨T5, h5, X5, e5, W5, st5⟩ := putF X2 hx hZ hown (host := "") (Or.inl (hw _ (List.mem_of_getElem? (i := 16) rfl))) Via.refl e2 c4 c3 (Or.inr ⟨(hw _ (List.mem_of_getElem? (i := 17) rfl)), rfl, hnm⟩) (hw _ (List.mem_of_getElem? (i := 1) rfl)) (ty := .int) (by decide) rfl rfl (g := (mkF m 11 #[.val (.ref p0), .val (.int p1), .val (.int p2), .val (.int p3)] [(.int p2), (.ref p0)])) rfl rfl (hb hby d1_11)
  have Fw5 := c4.same W5
  have O5 := O2.wr W5 F4_
  have K5 : Keep h0 h5 [p0] := K2.wr W5 (Or.inl (List.mem_of_getElem? (i := 0) rfl))
  have N5 := Fr.snoc X5 N2 F4_
  have c6 : Exa Z h5 p0 "com/example/schemactl/schemactl/Unfinished" := (c3.wr W5)
  have c7 : Fld Z h5 p0 "com/example/schemactl/schemactl/Unfinished" "resumable" "Z" (.int (0 : Int32)) := ((F3_.other W2 (Or.inr (slot_ne (Or.inr (hw _ (List.mem_of_getElem? (i := 19) rfl))) (Or.inr (hw _ (List.mem_of_getElem? (i := 15) rfl))) (by decide) (t := .boolean) (t' := .int) (by decide) (by decide)))).other W5 (Or.inr (slot_ne (Or.inr (hw _ (List.mem_of_getElem? (i := 19) rfl))) (Or.inr (hw _ (List.mem_of_getElem? (i := 17) rfl))) (by decide) (t := .boolean) (t' := .int) (by decide) (by decide))))
  obtain ⟨T8, h8, X8, e8, W8, st8⟩ := putFN X5 hx hZ hown (hw _ (List.mem_of_getElem? (i := 18) rfl)) Via.refl e5 c7 c6 (Or.inr ⟨(hw _ (List.mem_of_getElem? (i := 19) rfl)), rfl, hnm⟩) (hw _ (List.mem_of_getElem? (i := 1) rfl)) (ty := .boolean) (v' := (.int (nar .boolean p3))) (by decide) rfl (fits_nar_bool _) (g := (mkF m 16 #[.val (.ref p0), .val (.int p1), .val (.int p2), .val (.int p3)] [(.int p3), (.ref p0)])) rfl rfl (hb hby d1_16)
  have Fw8 := c7.same W8
  have O8 := O5.wr W8 F4_
  have K8 : Keep h0 h8 [p0] := K5.wr W8 (Or.inl (List.mem_of_getElem? (i := 0) rfl))
  have N8 := Fr.snoc X8 N5 F4_
  have s9 : Steps p.tables e below (s₁.setTop (entryFrame m #[(.ref p0), (.int p1), (.int p2), (.int p3)] 4)) (T8.setTop (mkF m 19 #[.val (.ref p0), .val (.int p1), .val (.int p2), .val (.int p3)] [])) := by
    refine s0.trans ?_
    show Steps p.tables e below (s₁.setTop (mkF m 0 #[.val (.ref p0), .val (.int p1), .val (.int p2), .val (.int p3)] [])) _
    refine XS.aloadN X0.here hx rfl (hb hby d1_0) rfl rfl ?_
    show Steps p.tables e below (s₁.setTop (mkF m 1 #[.val (.ref p0), .val (.int p1), .val (.int p2), .val (.int p3)] [(.ref p0)])) _
    refine st1.trans ?_
    show Steps p.tables e below (T1.setTop (mkF m 4 #[.val (.ref p0), .val (.int p1), .val (.int p2), .val (.int p3)] [])) _
    refine XS.aloadN X1.here hx rfl (hb hby d1_4) rfl rfl ?_
    show Steps p.tables e below (T1.setTop (mkF m 5 #[.val (.ref p0), .val (.int p1), .val (.int p2), .val (.int p3)] [(.ref p0)])) _
    refine XS.iloadN X1.here hx rfl (hb hby d1_5) rfl ?_
    show Steps p.tables e below (T1.setTop (mkF m 6 #[.val (.ref p0), .val (.int p1), .val (.int p2), .val (.int p3)] [(.int p1), (.ref p0)])) _
    refine st2 _ ?_
    show Steps p.tables e below (T2.setTop (mkF m 9 #[.val (.ref p0), .val (.int p1), .val (.int p2), .val (.int p3)] [])) _
    refine XS.aloadN X2.here hx rfl (hb hby d1_9) rfl rfl ?_
    show Steps p.tables e below (T2.setTop (mkF m 10 #[.val (.ref p0), .val (.int p1), .val (.int p2), .val (.int p3)] [(.ref p0)])) _
    refine XS.iloadN X2.here hx rfl (hb hby d1_10) rfl ?_
    show Steps p.tables e below (T2.setTop (mkF m 11 #[.val (.ref p0), .val (.int p1), .val (.int p2), .val (.int p3)] [(.int p2), (.ref p0)])) _
    refine st5 _ ?_
    show Steps p.tables e below (T5.setTop (mkF m 14 #[.val (.ref p0), .val (.int p1), .val (.int p2), .val (.int p3)] [])) _
    refine XS.aloadN X5.here hx rfl (hb hby d1_14) rfl rfl ?_
    show Steps p.tables e below (T5.setTop (mkF m 15 #[.val (.ref p0), .val (.int p1), .val (.int p2), .val (.int p3)] [(.ref p0)])) _
    refine XS.iloadN X5.here hx rfl (hb hby d1_15) rfl ?_
    show Steps p.tables e below (T5.setTop (mkF m 16 #[.val (.ref p0), .val (.int p1), .val (.int p2), .val (.int p3)] [(.int p3), (.ref p0)])) _
    refine st8 _ ?_
    exact Steps.refl _
  have c10 : Exa Z h8 p0 "com/example/schemactl/schemactl/Unfinished" := (c6.wr W8)
  have c11 : Fld Z h8 p0 "com/example/schemactl/schemactl/Unfinished" "applied" "I" (.int p1) := ((Fw2.other W5 (Or.inr (slot_ne (Or.inr (hw _ (List.mem_of_getElem? (i := 15) rfl))) (Or.inr (hw _ (List.mem_of_getElem? (i := 17) rfl))) (by decide) (t := .int) (t' := .int) (by decide) (by decide)))).other W8 (Or.inr (slot_ne (Or.inr (hw _ (List.mem_of_getElem? (i := 15) rfl))) (Or.inr (hw _ (List.mem_of_getElem? (i := 19) rfl))) (by decide) (t := .int) (t' := .boolean) (by decide) (by decide))))
  have c12 : Fld Z h8 p0 "com/example/schemactl/schemactl/Unfinished" "uncertain" "I" (.int p2) := (Fw5.other W8 (Or.inr (slot_ne (Or.inr (hw _ (List.mem_of_getElem? (i := 17) rfl))) (Or.inr (hw _ (List.mem_of_getElem? (i := 19) rfl))) (by decide) (t := .int) (t' := .boolean) (by decide) (by decide))))
  obtain ⟨fs, hr, hrun, hended, hW, hsame⟩ := X8.leave (v := none) (fun _ => rfl)
  refine ⟨_, _, s9.trans ?_, hrun, hended, _, _, rfl, ?_, ⟨_, rfl⟩, hW, hsame.mono (by decide) (by decide)⟩
  · show Steps p.tables e below (T8.setTop (mkF m 19 #[.val (.ref p0), .val (.int p1), .val (.int p2), .val (.int p3)] [])) _
    exact X8.returnOut hx Bd.returns (hb hby d1_19) hr
  · show Q1 Z p0 p1 p2 p3 h0 n0 _ T8.heap _
    rw [e8]
    exact ⟨rfl, N8, K8, c10, c11, c12, Fw8⟩
theorem d6_0 : decode jdk_33_method_23_code 0 = .ok (.aload_n 0, 1) := by decide +kernel
theorem d6_1 : decode jdk_33_method_23_code 1 = .ok (.invokespecial 202, 3) := by decide +kernel
theorem d6_4 : decode jdk_33_method_23_code 4 = .ok (.aload_n 0, 1) := by decide +kernel
theorem d6_5 : decode jdk_33_method_23_code 5 = .ok (.iload_n 1, 1) := by decide +kernel
theorem d6_6 : decode jdk_33_method_23_code 6 = .ok (.putfield 205, 3) := by decide +kernel
theorem d6_9 : decode jdk_33_method_23_code 9 = .ok (.return_, 1) := by decide +kernel
theorem pn_6 : plainName "java/lang/Integer" = true := by first | (simp [plainName, overriddenIn]; done) | decide +kernel
theorem pd_rm6_0 : parseMethodDescriptor "()V" = some ⟨[], none⟩ := by decide +kernel
theorem ef_rm6 (m : MethodId) (p0 : Addr) (p1 : Int32) : entryFrame m #[(.ref p0), (.int p1)] 2 = mkF m 0 #[.val (.ref p0), .val (.int p1)] [] := by first | (simp [entryFrame, mkF, argsToLocals, Value.category]; done) | rfl
def Q6 (Z : State) (p0 : Addr) (p1 : Int32) (h0 : Heap) (n0 : Nat) (v : Option Value) (h : Heap) (L : List Loc) : Prop := v = none ∧ Fr n0 L ∧ Keep h0 h [p0] ∧ (Exa Z h p0 "java/lang/Integer") ∧ (Fld Z h p0 "java/lang/Integer" "value" "I" (.int p1))
set_option maxRecDepth 65536 in
set_option maxHeartbeats 40000000 in
theorem rm6 (l : Launch) (Z : State) (a0 : Array Value) (hw : ∀ d ∈ tables_1, d.before a0 Z = true) (ws : List Jvm.Cond) (p0 : Addr) (p1 : Int32) (h0 : Heap) (n0 : Nat) (O0 : Old Z n0 h0) (F0_ : Exa Z h0 p0 "java/lang/Integer") (F1_ : Fld Z h0 p0 "java/lang/Integer" "value" "I" (.int (0 : Int32))) (F2_ : n0 ≤ p0) :
    MetFree l (⟨"java/lang/Integer", "<init>", "(I)V"⟩ : MethodName) (head1 (Jvm.Cond.code (⟨"java/lang/Integer", "<init>", "(I)V"⟩ : MethodName) jdk_33_method_23_code 2 none :: ws) ({ frames := 2, cells := 0, slots := 0, locals := 24 } : Room)) (fun a U => a = #[(.ref p0), (.int p1)] ∧ Z.Warmed39 U.vm ∧ U.heap = h0) (fun _ _ _ _ _ => True) (fun _ U o U' => ∃ v L, o = .returned v ∧ Q6 Z p0 p1 h0 n0 v U'.heap L ∧ FrameEnd U o U' L ({ frames := 2, cells := 0, slots := 0, locals := 24 } : Room).cells ({ frames := 2, cells := 0, slots := 0, locals := 24 } : Room).slots) := by
  refine MetFree.of_bodySF (plainFor_of_name pn_6) hisR ?_
  intro p e s m args below meth c s₁ Bd hml0 hP hK
  obtain ⟨rfl, hZ, hh⟩ := hP
  have hx := Bd.exec
  have hby := Bd.bytes
  have hml : c.maxLocals = 2 := hml0
  have hown : s.vm.findClass "java/lang/Integer" = some m.cls := findClass_of_methodNamed Bd.named
  have hnm := (name_of_methodNamed Bd.named Bd.method).1
  have X0 : Stand p l e ({ frames := 2, cells := 0, slots := 0, locals := 24 } : Room) s m #[(.ref p0), (.int p1)] below meth c s₁ [] 0 0 := Stand.of_body Bd
  have e0 : s₁.heap = h0 := by rw [← hh, Bd.state]; rfl
  have N0 := Fr.nil n0
  have s0 : Steps p.tables e below (s₁.setTop (entryFrame m #[(.ref p0), (.int p1)] 2)) (s₁.setTop (mkF m 0 #[.val (.ref p0), .val (.int p1)] [])) := castTop (ef_rm6 m p0 p1) (Steps.refl _)
  obtain ⟨_, _, ⟨T1, L1, k1, n1⟩, -, X1, ⟨Lc1, hQ1, l1, y1, z1⟩, st1⟩ := X0.specialBack hx (y := (⟨"java/lang/Number", "<init>", "()V"⟩ : MethodName)) rfl hown (mvT hZ (hw _ (List.mem_of_getElem? (i := 43) rfl))) (mvT hZ (hw _ (List.mem_of_getElem? (i := 44) rfl))) (mvT hZ (hw _ (List.mem_of_getElem? (i := 48) rfl))) (by decide) (backOf (W := 0) (rm7 l Z a0 hw [] p0 h0 n0 O0 ) hZ (hw _ (List.mem_of_getElem? (i := 48) rfl)) (hw _ (List.mem_of_getElem? (i := 47) rfl)) (by decide) (by decide)) (g := (mkF m 1 #[.val (.ref p0), .val (.int p1)] [(.ref p0)])) rfl (by rw [hml]; rfl) (Steps.refl _) (a := p0) (argsL := []) (rest := []) (lenOf pd_rm6_0 rfl) rfl (by show 2 * 0 + _ ≤ _; exact Nat.le_of_eq rfl) (hb hby d6_1) (fun _ _ => ⟨rfl, e0, (by decide : 0 + 0 ≤ _), (by decide : 0 + 0 ≤ _)⟩)
  dsimp only [Pt.U, Pt.locs, Pt.cells, Pt.slots] at X1 l1 y1 z1 st1 hQ1
  subst l1 y1 z1
  obtain ⟨rfl, Nq1, e1⟩ := hQ1
  have N1 := Fr.app N0 Nq1
  obtain ⟨T2, h2, X2, e2, W2, st2⟩ := putF X1 hx hZ hown (host := "") (Or.inl (hw _ (List.mem_of_getElem? (i := 50) rfl))) Via.refl e1 F1_ F0_ (Or.inr ⟨(hw _ (List.mem_of_getElem? (i := 51) rfl)), rfl, hnm⟩) (hw _ (List.mem_of_getElem? (i := 38) rfl)) (ty := .int) (by decide) rfl rfl (g := (mkF m 6 #[.val (.ref p0), .val (.int p1)] [(.int p1), (.ref p0)])) rfl rfl (hb hby d6_6)
  have Fw2 := F1_.same W2
  have O2 := O0.wr W2 F2_
  have K2 : Keep h0 h2 [p0] := (Keep.refl h0 [p0]).wr W2 (Or.inl (List.mem_of_getElem? (i := 0) rfl))
  have N2 := Fr.snoc X2 N1 F2_
  have s3 : Steps p.tables e below (s₁.setTop (entryFrame m #[(.ref p0), (.int p1)] 2)) (T2.setTop (mkF m 9 #[.val (.ref p0), .val (.int p1)] [])) := by
    refine s0.trans ?_
    show Steps p.tables e below (s₁.setTop (mkF m 0 #[.val (.ref p0), .val (.int p1)] [])) _
    refine XS.aloadN X0.here hx rfl (hb hby d6_0) rfl rfl ?_
    show Steps p.tables e below (s₁.setTop (mkF m 1 #[.val (.ref p0), .val (.int p1)] [(.ref p0)])) _
    refine st1.trans ?_
    show Steps p.tables e below (T1.setTop (mkF m 4 #[.val (.ref p0), .val (.int p1)] [])) _
    refine XS.aloadN X1.here hx rfl (hb hby d6_4) rfl rfl ?_
    show Steps p.tables e below (T1.setTop (mkF m 5 #[.val (.ref p0), .val (.int p1)] [(.ref p0)])) _
    refine XS.iloadN X1.here hx rfl (hb hby d6_5) rfl ?_
    show Steps p.tables e below (T1.setTop (mkF m 6 #[.val (.ref p0), .val (.int p1)] [(.int p1), (.ref p0)])) _
    refine st2 _ ?_
    exact Steps.refl _
  have c4 : Exa Z h2 p0 "java/lang/Integer" := (F0_.wr W2)
  obtain ⟨fs, hr, hrun, hended, hW, hsame⟩ := X2.leave (v := none) (fun _ => rfl)
  refine ⟨_, _, s3.trans ?_, hrun, hended, _, _, rfl, ?_, ⟨_, rfl⟩, hW, hsame.mono (by decide) (by decide)⟩
  · show Steps p.tables e below (T2.setTop (mkF m 9 #[.val (.ref p0), .val (.int p1)] [])) _
    exact X2.returnOut hx Bd.returns (hb hby d6_9) hr
  · show Q6 Z p0 p1 h0 n0 _ T2.heap _
    rw [e2]
    exact ⟨rfl, N2, K2, c4, Fw2⟩
theorem d8_0 : decode prog_32_method_3_code 0 = .ok (.bipush 31, 2) := by decide +kernel
theorem d8_2 : decode prog_32_method_3_code 2 = .ok (.aload_n 0, 1) := by decide +kernel
theorem d8_3 : decode prog_32_method_3_code 3 = .ok (.getfield 7, 3) := by decide +kernel
theorem d8_6 : decode prog_32_method_3_code 6 = .ok (.imul, 1) := by decide +kernel
theorem d8_7 : decode prog_32_method_3_code 7 = .ok (.aload_n 0, 1) := by decide +kernel
theorem d8_8 : decode prog_32_method_3_code 8 = .ok (.getfield 13, 3) := by decide +kernel
theorem d8_11 : decode prog_32_method_3_code 11 = .ok (.iadd, 1) := by decide +kernel
theorem d8_12 : decode prog_32_method_3_code 12 = .ok (.iconst 2, 1) := by decide +kernel
theorem d8_13 : decode prog_32_method_3_code 13 = .ok (.imul, 1) := by decide +kernel
theorem d8_14 : decode prog_32_method_3_code 14 = .ok (.aload_n 0, 1) := by decide +kernel
theorem d8_15 : decode prog_32_method_3_code 15 = .ok (.getfield 16, 3) := by decide +kernel
theorem d8_18 : decode prog_32_method_3_code 18 = .ok (.ifCond .eq 7, 3) := by decide +kernel
theorem d8_21 : decode prog_32_method_3_code 21 = .ok (.iconst 1, 1) := by decide +kernel
theorem d8_22 : decode prog_32_method_3_code 22 = .ok (.goto 4, 3) := by decide +kernel
theorem d8_25 : decode prog_32_method_3_code 25 = .ok (.iconst 0, 1) := by decide +kernel
theorem d8_26 : decode prog_32_method_3_code 26 = .ok (.iadd, 1) := by decide +kernel
theorem d8_27 : decode prog_32_method_3_code 27 = .ok (.ireturn, 1) := by decide +kernel
theorem ef_rm8 (m : MethodId) (p0 : Addr) : entryFrame m #[(.ref p0)] 1 = mkF m 0 #[.val (.ref p0)] [] := by first | (simp [entryFrame, mkF, argsToLocals, Value.category]; done) | rfl
def Q8 (Z : State) (p0 : Addr) (w1 : Int32) (w2 : Int32) (w3 : Int32) (h0 : Heap) (n0 : Nat) (v : Option Value) (h : Heap) (L : List Loc) : Prop := v = some (.int (own_hash w1 w2 w3)) ∧ Fr n0 L ∧ h = h0
set_option maxRecDepth 65536 in
set_option maxHeartbeats 40000000 in
theorem rm8 (l : Launch) (Z : State) (a0 : Array Value) (hw : ∀ d ∈ tables_1, d.before a0 Z = true) (ws : List Jvm.Cond) (p0 : Addr) (w1 : Int32) (w2 : Int32) (w3 : Int32) (h0 : Heap) (n0 : Nat) (O0 : Old Z n0 h0) (F0_ : Fld Z h0 p0 "com/example/schemactl/schemactl/Unfinished" "applied" "I" (.int w1)) (F1_ : Fld Z h0 p0 "com/example/schemactl/schemactl/Unfinished" "uncertain" "I" (.int w2)) (F2_ : Fld Z h0 p0 "com/example/schemactl/schemactl/Unfinished" "resumable" "Z" (.int w3)) :
    MetFree l (⟨"com/example/schemactl/schemactl/Unfinished", "hashCode", "()I"⟩ : MethodName) (head1 (Jvm.Cond.code (⟨"com/example/schemactl/schemactl/Unfinished", "hashCode", "()I"⟩ : MethodName) prog_32_method_3_code 1 (some .int) :: ws) ({ frames := 0, cells := 0, slots := 0, locals := 0 } : Room)) (fun a U => a = #[(.ref p0)] ∧ Z.Warmed39 U.vm ∧ U.heap = h0) (fun _ _ _ _ _ => True) (fun _ U o U' => ∃ v L, o = .returned v ∧ Q8 Z p0 w1 w2 w3 h0 n0 v U'.heap L ∧ FrameEnd U o U' L ({ frames := 0, cells := 0, slots := 0, locals := 0 } : Room).cells ({ frames := 0, cells := 0, slots := 0, locals := 0 } : Room).slots) := by
  refine MetFree.of_bodySF (plainFor_of_name pn_1) hisR ?_
  intro p e s m args below meth c s₁ Bd hml0 hP hK
  obtain ⟨rfl, hZ, hh⟩ := hP
  have hx := Bd.exec
  have hby := Bd.bytes
  have hml : c.maxLocals = 1 := hml0
  have hown : s.vm.findClass "com/example/schemactl/schemactl/Unfinished" = some m.cls := findClass_of_methodNamed Bd.named
  have hnm := (name_of_methodNamed Bd.named Bd.method).1
  have X0 : Stand p l e ({ frames := 0, cells := 0, slots := 0, locals := 0 } : Room) s m #[(.ref p0)] below meth c s₁ [] 0 0 := Stand.of_body Bd
  have e0 : s₁.heap = h0 := by rw [← hh, Bd.state]; rfl
  have N0 := Fr.nil n0
  have s0 : Steps p.tables e below (s₁.setTop (entryFrame m #[(.ref p0)] 1)) (s₁.setTop (mkF m 0 #[.val (.ref p0)] [])) := castTop (ef_rm8 m p0) (Steps.refl _)
  obtain ⟨T1, X1, e1, st1⟩ := getF X0 hx hZ hown (host := "") (Or.inl (hw _ (List.mem_of_getElem? (i := 14) rfl))) Via.refl e0 F0_ (g := (mkF m 3 #[.val (.ref p0)] [(.ref p0), (.int (31 : Int32))])) rfl rfl (hb hby d8_3)
  obtain ⟨T2, X2, e2, st2⟩ := getF X1 hx hZ hown (host := "") (Or.inl (hw _ (List.mem_of_getElem? (i := 16) rfl))) Via.refl e1 F1_ (g := (mkF m 8 #[.val (.ref p0)] [(.ref p0), (.int ((31 : Int32) * w1))])) rfl rfl (hb hby d8_8)
  obtain ⟨T3, X3, e3, st3⟩ := getF X2 hx hZ hown (host := "") (Or.inl (hw _ (List.mem_of_getElem? (i := 18) rfl))) Via.refl e2 F2_ (g := (mkF m 15 #[.val (.ref p0)] [(.ref p0), (.int ((((31 : Int32) * w1) + w2) * (2 : Int32)))])) rfl rfl (hb hby d8_15)
  have s4 : Steps p.tables e below (s₁.setTop (entryFrame m #[(.ref p0)] 1)) (T3.setTop (mkF m 18 #[.val (.ref p0)] [(.int w3), (.int ((((31 : Int32) * w1) + w2) * (2 : Int32)))])) := by
    refine s0.trans ?_
    show Steps p.tables e below (s₁.setTop (mkF m 0 #[.val (.ref p0)] [])) _
    refine XS.bipush X0.here hx rfl (hb hby d8_0) ?_
    show Steps p.tables e below (s₁.setTop (mkF m 2 #[.val (.ref p0)] [(.int (31 : Int32))])) _
    refine XS.aloadN X0.here hx rfl (hb hby d8_2) rfl rfl ?_
    show Steps p.tables e below (s₁.setTop (mkF m 3 #[.val (.ref p0)] [(.ref p0), (.int (31 : Int32))])) _
    refine st1 _ ?_
    show Steps p.tables e below (T1.setTop (mkF m 6 #[.val (.ref p0)] [(.int w1), (.int (31 : Int32))])) _
    refine XS.imul X1.here hx rfl (hb hby d8_6) rfl ?_
    show Steps p.tables e below (T1.setTop (mkF m 7 #[.val (.ref p0)] [(.int ((31 : Int32) * w1))])) _
    refine XS.aloadN X1.here hx rfl (hb hby d8_7) rfl rfl ?_
    show Steps p.tables e below (T1.setTop (mkF m 8 #[.val (.ref p0)] [(.ref p0), (.int ((31 : Int32) * w1))])) _
    refine st2 _ ?_
    show Steps p.tables e below (T2.setTop (mkF m 11 #[.val (.ref p0)] [(.int w2), (.int ((31 : Int32) * w1))])) _
    refine XS.iadd X2.here hx rfl (hb hby d8_11) rfl ?_
    show Steps p.tables e below (T2.setTop (mkF m 12 #[.val (.ref p0)] [(.int (((31 : Int32) * w1) + w2))])) _
    refine XS.iconst X2.here hx rfl (hb hby d8_12) ?_
    show Steps p.tables e below (T2.setTop (mkF m 13 #[.val (.ref p0)] [(.int (2 : Int32)), (.int (((31 : Int32) * w1) + w2))])) _
    refine XS.imul X2.here hx rfl (hb hby d8_13) rfl ?_
    show Steps p.tables e below (T2.setTop (mkF m 14 #[.val (.ref p0)] [(.int ((((31 : Int32) * w1) + w2) * (2 : Int32)))])) _
    refine XS.aloadN X2.here hx rfl (hb hby d8_14) rfl rfl ?_
    show Steps p.tables e below (T2.setTop (mkF m 15 #[.val (.ref p0)] [(.ref p0), (.int ((((31 : Int32) * w1) + w2) * (2 : Int32)))])) _
    refine st3 _ ?_
    exact Steps.refl _
  have s6 : Steps p.tables e below (s₁.setTop (entryFrame m #[(.ref p0)] 1)) (T3.setTop (mkF m 26 #[.val (.ref p0)] [(.int (if w3 = (0 : Int32) then (0 : Int32) else (1 : Int32))), (.int ((((31 : Int32) * w1) + w2) * (2 : Int32)))])) := by
    by_cases hm5 : w3 = (0 : Int32)
    · simp only [if_pos hm5]
      refine s4.trans ?_
      show Steps p.tables e below (T3.setTop (mkF m 18 #[.val (.ref p0)] [(.int w3), (.int ((((31 : Int32) * w1) + w2) * (2 : Int32)))])) _
      refine XS.ifYes X3.here hx rfl (pc0 := 18) (pc' := 25) rfl (hb hby d8_18) rfl ((if0 _ _).trans (teq hm5).1) (by decide) (by decide) ?_
      show Steps p.tables e below (T3.setTop (mkF m 25 #[.val (.ref p0)] [(.int ((((31 : Int32) * w1) + w2) * (2 : Int32)))])) _
      refine XS.iconst X3.here hx rfl (hb hby d8_25) ?_
      exact Steps.refl _
    · simp only [if_neg hm5]
      refine s4.trans ?_
      show Steps p.tables e below (T3.setTop (mkF m 18 #[.val (.ref p0)] [(.int w3), (.int ((((31 : Int32) * w1) + w2) * (2 : Int32)))])) _
      refine XS.ifNo X3.here hx rfl (hb hby d8_18) rfl ((if0 _ _).trans (feq hm5).1) ?_
      show Steps p.tables e below (T3.setTop (mkF m 21 #[.val (.ref p0)] [(.int ((((31 : Int32) * w1) + w2) * (2 : Int32)))])) _
      refine XS.iconst X3.here hx rfl (hb hby d8_21) ?_
      show Steps p.tables e below (T3.setTop (mkF m 22 #[.val (.ref p0)] [(.int (1 : Int32)), (.int ((((31 : Int32) * w1) + w2) * (2 : Int32)))])) _
      refine XS.goto X3.here hx rfl (pc0 := 22) (pc' := 26) rfl (hb hby d8_22) (by decide) (by decide) ?_
      exact Steps.refl _
  obtain ⟨zz, hzz⟩ : ∃ z, z = (if w3 = (0 : Int32) then (0 : Int32) else (1 : Int32)) := ⟨_, rfl⟩
  rw [← hzz] at s6
  have s7 : Steps p.tables e below (s₁.setTop (entryFrame m #[(.ref p0)] 1)) (T3.setTop (mkF m 27 #[.val (.ref p0)] [(.int (((((31 : Int32) * w1) + w2) * (2 : Int32)) + zz))])) := by
    refine s6.trans ?_
    show Steps p.tables e below (T3.setTop (mkF m 26 #[.val (.ref p0)] [(.int zz), (.int ((((31 : Int32) * w1) + w2) * (2 : Int32)))])) _
    refine XS.iadd X3.here hx rfl (hb hby d8_26) rfl ?_
    exact Steps.refl _
  obtain ⟨fs, hr, hrun, hended, hW, hsame⟩ := X3.leave (v := some (.int (((((31 : Int32) * w1) + w2) * (2 : Int32)) + zz))) (fun h => by rw [Bd.returns] at h; cases h)
  refine ⟨_, _, s7.trans ?_, hrun, hended, _, _, rfl, ?_, ⟨_, rfl⟩, hW, hsame.mono (by decide) (by decide)⟩
  · show Steps p.tables e below (T3.setTop (mkF m 27 #[.val (.ref p0)] [(.int (((((31 : Int32) * w1) + w2) * (2 : Int32)) + zz))])) _
    exact retI X3 hx Bd.returns (hb hby d8_27) hr
  · show Q8 Z p0 w1 w2 w3 h0 n0 _ T3.heap _
    rw [e3]
    exact ⟨(by rw [hzz]; rfl), N0, rfl⟩
theorem d5_0 : decode jdk_33_method_22_code 0 = .ok (.iload_n 0, 1) := by decide +kernel
theorem d5_1 : decode jdk_33_method_22_code 1 = .ok (.bipush (-128), 2) := by decide +kernel
theorem d5_3 : decode jdk_33_method_22_code 3 = .ok (.if_icmp .lt 20, 3) := by decide +kernel
theorem d5_6 : decode jdk_33_method_22_code 6 = .ok (.iload_n 0, 1) := by decide +kernel
theorem d5_7 : decode jdk_33_method_22_code 7 = .ok (.getstatic 191, 3) := by decide +kernel
theorem d5_10 : decode jdk_33_method_22_code 10 = .ok (.if_icmp .gt 13, 3) := by decide +kernel
theorem d5_13 : decode jdk_33_method_22_code 13 = .ok (.getstatic 195, 3) := by decide +kernel
theorem d5_16 : decode jdk_33_method_22_code 16 = .ok (.iload_n 0, 1) := by decide +kernel
theorem d5_17 : decode jdk_33_method_22_code 17 = .ok (.sipush 128, 3) := by decide +kernel
theorem d5_20 : decode jdk_33_method_22_code 20 = .ok (.iadd, 1) := by decide +kernel
theorem d5_21 : decode jdk_33_method_22_code 21 = .ok (.aaload, 1) := by decide +kernel
theorem d5_22 : decode jdk_33_method_22_code 22 = .ok (.areturn, 1) := by decide +kernel
theorem d5_23 : decode jdk_33_method_22_code 23 = .ok (.new 1, 3) := by decide +kernel
theorem d5_26 : decode jdk_33_method_22_code 26 = .ok (.dup, 1) := by decide +kernel
theorem d5_27 : decode jdk_33_method_22_code 27 = .ok (.iload_n 0, 1) := by decide +kernel
theorem d5_28 : decode jdk_33_method_22_code 28 = .ok (.invokespecial 199, 3) := by decide +kernel
theorem d5_31 : decode jdk_33_method_22_code 31 = .ok (.areturn, 1) := by decide +kernel
theorem pd_rm5_0 : parseMethodDescriptor "(I)V" = some ⟨[.int], none⟩ := by decide +kernel
theorem ef_rm5 (m : MethodId) (p0 : Int32) : entryFrame m #[(.int p0)] 1 = mkF m 0 #[.val (.int p0)] [] := by first | (simp [entryFrame, mkF, argsToLocals, Value.category]; done) | rfl
def Q5 (Z : State) (p0 : Int32) (bc : Addr) (h0 : Heap) (n0 : Nat) (v : Option Value) (h : Heap) (L : List Loc) : Prop := ∃ u : Addr, v = some (.ref u) ∧ Fr n0 L ∧ Keep h0 h [] ∧ (Exa Z h u "java/lang/Integer")
set_option maxRecDepth 65536 in
set_option maxHeartbeats 40000000 in
theorem rm5 (l : Launch) (Z : State) (a0 : Array Value) (hw : ∀ d ∈ tables_1, d.before a0 Z = true) (ws : List Jvm.Cond) (p0 : Int32) (bc : Addr) (h0 : Heap) (n0 : Nat) (O0 : Old Z n0 h0) (F0_ : Sta Z Z.heap "java/lang/Integer$IntegerCache" "high" "I" (.int (127 : Int32))) (F1_ : Sta Z Z.heap "java/lang/Integer$IntegerCache" "cache" "[Ljava/lang/Integer;" (.ref bc)) (F2_ : own_cache Z bc) :
    MetFree l (⟨"java/lang/Integer", "valueOf", "(I)Ljava/lang/Integer;"⟩ : MethodName) (head1 (Jvm.Cond.code (⟨"java/lang/Integer", "valueOf", "(I)Ljava/lang/Integer;"⟩ : MethodName) jdk_33_method_22_code 1 (some (.object "java/lang/Integer")) :: ws) ({ frames := 3, cells := 1, slots := 1, locals := 38 } : Room)) (fun a U => a = #[(.int p0)] ∧ Z.Warmed39 U.vm ∧ U.heap = h0) (fun _ _ _ _ _ => True) (fun _ U o U' => ∃ v L, o = .returned v ∧ Q5 Z p0 bc h0 n0 v U'.heap L ∧ FrameEnd U o U' L ({ frames := 3, cells := 1, slots := 1, locals := 38 } : Room).cells ({ frames := 3, cells := 1, slots := 1, locals := 38 } : Room).slots) := by
  refine MetFree.of_bodySF (plainFor_of_name pn_6) hisR ?_
  intro p e s m args below meth c s₁ Bd hml0 hP hK
  obtain ⟨rfl, hZ, hh⟩ := hP
  have hx := Bd.exec
  have hby := Bd.bytes
  have hml : c.maxLocals = 1 := hml0
  have hown : s.vm.findClass "java/lang/Integer" = some m.cls := findClass_of_methodNamed Bd.named
  have hnm := (name_of_methodNamed Bd.named Bd.method).1
  have X0 : Stand p l e ({ frames := 3, cells := 1, slots := 1, locals := 38 } : Room) s m #[(.int p0)] below meth c s₁ [] 0 0 := Stand.of_body Bd
  have e0 : s₁.heap = h0 := by rw [← hh, Bd.state]; rfl
  have N0 := Fr.nil n0
  have s0 : Steps p.tables e below (s₁.setTop (entryFrame m #[(.int p0)] 1)) (s₁.setTop (mkF m 0 #[.val (.int p0)] [])) := castTop (ef_rm5 m p0) (Steps.refl _)
  have s1 : Steps p.tables e below (s₁.setTop (entryFrame m #[(.int p0)] 1)) (s₁.setTop (mkF m 3 #[.val (.int p0)] [(.int (-128 : Int32)), (.int p0)])) := by
    refine s0.trans ?_
    show Steps p.tables e below (s₁.setTop (mkF m 0 #[.val (.int p0)] [])) _
    refine XS.iloadN X0.here hx rfl (hb hby d5_0) rfl ?_
    show Steps p.tables e below (s₁.setTop (mkF m 1 #[.val (.int p0)] [(.int p0)])) _
    refine XS.bipush X0.here hx rfl (hb hby d5_1) ?_
    exact Steps.refl _
  by_cases hc2 : p0 < (-128 : Int32)
  · obtain ⟨T3, h3, X3, e3, E3, A3, D3, -, st3⟩ := newO X0 hx hZ hown (hw _ (List.mem_of_getElem? (i := 37) rfl)) (hw _ (List.mem_of_getElem? (i := 38) rfl)) (hw _ (List.mem_of_getElem? (i := 29) rfl)) e0 (g := (mkF m 23 #[.val (.int p0)] [])) rfl (hb hby d5_23) (by decide) (by decide)
    obtain ⟨b3, g3⟩ : ∃ z, z = h0.size := ⟨_, rfl⟩
    rw [← g3] at A3 D3 st3
    have g_b3 : n0 ≤ b3 := Nat.le_trans (Nat.le_of_eq O0.1.symm) (Nat.le_trans O0.2.1 (Nat.le_of_eq g3.symm))
    have sz_b3 : h0.size ≤ b3 := Nat.le_trans (Keep.refl h0 []).1 (Nat.le_of_eq g3.symm)
    have O3 := O0.ext E3
    have K3 : Keep h0 h3 [] := (Keep.refl h0 []).ext E3
    have F3_value : Fld Z h3 b3 "java/lang/Integer" "value" "I" (.int (0 : Int32)) := D3 (Or.inr (hw _ (List.mem_of_getElem? (i := 51) rfl))) (ty := .int) (by decide)
    obtain ⟨_, _, ⟨T4, L4, k4, n4⟩, -, X4, ⟨Lc4, hQ4, l4, y4, z4⟩, st4⟩ := X3.specialBack hx (y := (⟨"java/lang/Integer", "<init>", "(I)V"⟩ : MethodName)) rfl hown (mvT hZ (hw _ (List.mem_of_getElem? (i := 39) rfl))) (mvT hZ (hw _ (List.mem_of_getElem? (i := 40) rfl))) (mvT hZ (hw _ (List.mem_of_getElem? (i := 42) rfl))) (by decide) (backOf (W := 1) (rm6 l Z a0 hw [] b3 p0 h3 n0 O3 A3 F3_value g_b3) hZ (hw _ (List.mem_of_getElem? (i := 42) rfl)) (hw _ (List.mem_of_getElem? (i := 29) rfl)) (by decide) (by decide)) (g := (mkF m 28 #[.val (.int p0)] [(.int p0), (.ref b3), (.ref b3)])) rfl (by rw [hml]; rfl) (Steps.refl _) (a := b3) (argsL := [(.int p0)]) (rest := [(.ref b3)]) (lenOf pd_rm5_0 rfl) rfl (by show 2 * 0 + _ ≤ _; exact Nat.le_of_eq rfl) (hb hby d5_28) (fun _ _ => ⟨rfl, e3, (by decide : 1 + 0 ≤ _), (by decide : 1 + 0 ≤ _)⟩)
    dsimp only [Pt.U, Pt.locs, Pt.cells, Pt.slots] at X4 l4 y4 z4 st4 hQ4
    subst l4 y4 z4
    obtain ⟨rfl, Nq4, Kc4, f4_0, f4_1⟩ := hQ4
    have N4 := Fr.app N0 Nq4
    have K4 : Keep h0 T4.heap [] := K3.trans Kc4 (allS (Or.inr sz_b3) all0)
    have O4 := O3.keep Kc4 (allS g_b3 all0)
    have s5 : Steps p.tables e below (s₁.setTop (entryFrame m #[(.int p0)] 1)) (T4.setTop (mkF m 31 #[.val (.int p0)] [(.ref b3)])) := by
      refine s1.trans ?_
      show Steps p.tables e below (s₁.setTop (mkF m 3 #[.val (.int p0)] [(.int (-128 : Int32)), (.int p0)])) _
      refine XS.icmpYes X0.here hx rfl (pc0 := 3) (pc' := 23) rfl (hb hby d5_3) rfl (tlt hc2).1 (by decide) (by decide) ?_
      show Steps p.tables e below (s₁.setTop (mkF m 23 #[.val (.int p0)] [])) _
      refine st3 _ ?_
      show Steps p.tables e below (T3.setTop (mkF m 26 #[.val (.int p0)] [(.ref b3)])) _
      refine XS.dup X3.here hx rfl (hb hby d5_26) rfl rfl ?_
      show Steps p.tables e below (T3.setTop (mkF m 27 #[.val (.int p0)] [(.ref b3), (.ref b3)])) _
      refine XS.iloadN X3.here hx rfl (hb hby d5_27) rfl ?_
      show Steps p.tables e below (T3.setTop (mkF m 28 #[.val (.int p0)] [(.int p0), (.ref b3), (.ref b3)])) _
      refine st4.trans ?_
      exact Steps.refl _
    obtain ⟨fs, hr, hrun, hended, hW, hsame⟩ := X4.leave (v := some (.ref b3)) (fun h => by rw [Bd.returns] at h; cases h)
    refine ⟨_, _, s5.trans ?_, hrun, hended, _, _, rfl, ?_, ⟨_, rfl⟩, hW, hsame.mono (by decide) (by decide)⟩
    · show Steps p.tables e below (T4.setTop (mkF m 31 #[.val (.int p0)] [(.ref b3)])) _
      jvm_step X4.here [X4.here.top, hx, (hb hby d5_31), X4.method', Bd.returns, Value.isRef, FieldType.isReference]
      first | (intro acts; rw [hr _ acts rfl rfl rfl]) | rw [hr _ _ rfl rfl rfl]
      exact Steps.refl _
    · show Q5 Z p0 bc h0 n0 _ T4.heap _
      exact ⟨b3, rfl, N4, K4, f4_0⟩
  · obtain ⟨T6, X6, e6, st6⟩ := getS2 X0 hx hZ hown (host := "") (Or.inl (hw _ (List.mem_of_getElem? (i := 31) rfl))) Via.refl e0 (F0_.ext O0.2) (g := (mkF m 7 #[.val (.int p0)] [(.int p0)])) rfl (hb hby d5_7)
    have s7 : Steps p.tables e below (s₁.setTop (entryFrame m #[(.int p0)] 1)) (T6.setTop (mkF m 10 #[.val (.int p0)] [(.int (127 : Int32)), (.int p0)])) := by
      refine s1.trans ?_
      show Steps p.tables e below (s₁.setTop (mkF m 3 #[.val (.int p0)] [(.int (-128 : Int32)), (.int p0)])) _
      refine XS.icmpNo X0.here hx rfl (hb hby d5_3) rfl (flt hc2).1 ?_
      show Steps p.tables e below (s₁.setTop (mkF m 6 #[.val (.int p0)] [])) _
      refine XS.iloadN X0.here hx rfl (hb hby d5_6) rfl ?_
      show Steps p.tables e below (s₁.setTop (mkF m 7 #[.val (.int p0)] [(.int p0)])) _
      refine st6 _ ?_
      exact Steps.refl _
    by_cases hc8 : (127 : Int32) < p0
    · obtain ⟨T9, h9, X9, e9, E9, A9, D9, -, st9⟩ := newO X6 hx hZ hown (hw _ (List.mem_of_getElem? (i := 37) rfl)) (hw _ (List.mem_of_getElem? (i := 38) rfl)) (hw _ (List.mem_of_getElem? (i := 29) rfl)) e6 (g := (mkF m 23 #[.val (.int p0)] [])) rfl (hb hby d5_23) (by decide) (by decide)
      obtain ⟨b9, g9⟩ : ∃ z, z = h0.size := ⟨_, rfl⟩
      rw [← g9] at A9 D9 st9
      have g_b9 : n0 ≤ b9 := Nat.le_trans (Nat.le_of_eq O0.1.symm) (Nat.le_trans O0.2.1 (Nat.le_of_eq g9.symm))
      have sz_b9 : h0.size ≤ b9 := Nat.le_trans (Keep.refl h0 []).1 (Nat.le_of_eq g9.symm)
      have O9 := O0.ext E9
      have K9 : Keep h0 h9 [] := (Keep.refl h0 []).ext E9
      have F9_value : Fld Z h9 b9 "java/lang/Integer" "value" "I" (.int (0 : Int32)) := D9 (Or.inr (hw _ (List.mem_of_getElem? (i := 51) rfl))) (ty := .int) (by decide)
      obtain ⟨_, _, ⟨T10, L10, k10, n10⟩, -, X10, ⟨Lc10, hQ10, l10, y10, z10⟩, st10⟩ := X9.specialBack hx (y := (⟨"java/lang/Integer", "<init>", "(I)V"⟩ : MethodName)) rfl hown (mvT hZ (hw _ (List.mem_of_getElem? (i := 39) rfl))) (mvT hZ (hw _ (List.mem_of_getElem? (i := 40) rfl))) (mvT hZ (hw _ (List.mem_of_getElem? (i := 42) rfl))) (by decide) (backOf (W := 1) (rm6 l Z a0 hw [] b9 p0 h9 n0 O9 A9 F9_value g_b9) hZ (hw _ (List.mem_of_getElem? (i := 42) rfl)) (hw _ (List.mem_of_getElem? (i := 29) rfl)) (by decide) (by decide)) (g := (mkF m 28 #[.val (.int p0)] [(.int p0), (.ref b9), (.ref b9)])) rfl (by rw [hml]; rfl) (Steps.refl _) (a := b9) (argsL := [(.int p0)]) (rest := [(.ref b9)]) (lenOf pd_rm5_0 rfl) rfl (by show 2 * 0 + _ ≤ _; exact Nat.le_of_eq rfl) (hb hby d5_28) (fun _ _ => ⟨rfl, e9, (by decide : 1 + 0 ≤ _), (by decide : 1 + 0 ≤ _)⟩)
      dsimp only [Pt.U, Pt.locs, Pt.cells, Pt.slots] at X10 l10 y10 z10 st10 hQ10
      subst l10 y10 z10
      obtain ⟨rfl, Nq10, Kc10, f10_0, f10_1⟩ := hQ10
      have N10 := Fr.app N0 Nq10
      have K10 : Keep h0 T10.heap [] := K9.trans Kc10 (allS (Or.inr sz_b9) all0)
      have O10 := O9.keep Kc10 (allS g_b9 all0)
      have s11 : Steps p.tables e below (s₁.setTop (entryFrame m #[(.int p0)] 1)) (T10.setTop (mkF m 31 #[.val (.int p0)] [(.ref b9)])) := by
        refine s7.trans ?_
        show Steps p.tables e below (T6.setTop (mkF m 10 #[.val (.int p0)] [(.int (127 : Int32)), (.int p0)])) _
        refine XS.icmpYes X6.here hx rfl (pc0 := 10) (pc' := 23) rfl (hb hby d5_10) rfl (tlt hc8).2.2.1 (by decide) (by decide) ?_
        show Steps p.tables e below (T6.setTop (mkF m 23 #[.val (.int p0)] [])) _
        refine st9 _ ?_
        show Steps p.tables e below (T9.setTop (mkF m 26 #[.val (.int p0)] [(.ref b9)])) _
        refine XS.dup X9.here hx rfl (hb hby d5_26) rfl rfl ?_
        show Steps p.tables e below (T9.setTop (mkF m 27 #[.val (.int p0)] [(.ref b9), (.ref b9)])) _
        refine XS.iloadN X9.here hx rfl (hb hby d5_27) rfl ?_
        show Steps p.tables e below (T9.setTop (mkF m 28 #[.val (.int p0)] [(.int p0), (.ref b9), (.ref b9)])) _
        refine st10.trans ?_
        exact Steps.refl _
      obtain ⟨fs, hr, hrun, hended, hW, hsame⟩ := X10.leave (v := some (.ref b9)) (fun h => by rw [Bd.returns] at h; cases h)
      refine ⟨_, _, s11.trans ?_, hrun, hended, _, _, rfl, ?_, ⟨_, rfl⟩, hW, hsame.mono (by decide) (by decide)⟩
      · show Steps p.tables e below (T10.setTop (mkF m 31 #[.val (.int p0)] [(.ref b9)])) _
        jvm_step X10.here [X10.here.top, hx, (hb hby d5_31), X10.method', Bd.returns, Value.isRef, FieldType.isReference]
        first | (intro acts; rw [hr _ acts rfl rfl rfl]) | rw [hr _ _ rfl rfl rfl]
        exact Steps.refl _
      · show Q5 Z p0 bc h0 n0 _ T10.heap _
        exact ⟨b9, rfl, N10, K10, f10_0⟩
    · obtain ⟨T12, X12, e12, st12⟩ := getS2 X6 hx hZ hown (host := "") (Or.inl (hw _ (List.mem_of_getElem? (i := 33) rfl))) Via.refl e6 (F1_.ext O0.2) (g := (mkF m 13 #[.val (.int p0)] [])) rfl (hb hby d5_13)
      have s13 : Steps p.tables e below (s₁.setTop (entryFrame m #[(.int p0)] 1)) (T12.setTop (mkF m 21 #[.val (.int p0)] [(.int (p0 + (128 : Int32))), (.ref bc)])) := by
        refine s7.trans ?_
        show Steps p.tables e below (T6.setTop (mkF m 10 #[.val (.int p0)] [(.int (127 : Int32)), (.int p0)])) _
        refine XS.icmpNo X6.here hx rfl (hb hby d5_10) rfl (flt hc8).2.2.1 ?_
        show Steps p.tables e below (T6.setTop (mkF m 13 #[.val (.int p0)] [])) _
        refine st12 _ ?_
        show Steps p.tables e below (T12.setTop (mkF m 16 #[.val (.int p0)] [(.ref bc)])) _
        refine XS.iloadN X12.here hx rfl (hb hby d5_16) rfl ?_
        show Steps p.tables e below (T12.setTop (mkF m 17 #[.val (.int p0)] [(.int p0), (.ref bc)])) _
        refine XS.sipush X12.here hx rfl (hb hby d5_17) ?_
        show Steps p.tables e below (T12.setTop (mkF m 20 #[.val (.int p0)] [(.int (128 : Int32)), (.int p0), (.ref bc)])) _
        refine XS.iadd X12.here hx rfl (hb hby d5_20) rfl ?_
        exact Steps.refl _
      obtain ⟨cl, Ac, hsz, hall⟩ := F2_
      have hix := own_idx hc2 hc8
      obtain ⟨ua, hua, hEa⟩ := hall _ hix.2
      have Ach := Ac.ext O0.2
      have hin : ¬ ((p0 + (128 : Int32)) < 0 ∨ cl.slots.size ≤ ((p0 + (128 : Int32))).toNatClampNeg) := by rw [hsz]; exact fun q => q.elim hix.1 (fun z => absurd hix.2 (Nat.not_lt.mpr z))
      have s14 : Steps p.tables e below (s₁.setTop (entryFrame m #[(.int p0)] 1)) (T12.setTop (mkF m 22 #[.val (.int p0)] [(.ref ua)])) := by
        refine s13.trans ?_
        show Steps p.tables e below (T12.setTop (mkF m 21 #[.val (.int p0)] [(.int (p0 + (128 : Int32))), (.ref bc)])) _
        refine X12.aaload hx (j := (p0 + (128 : Int32))) (v := (.ref ua)) (by rw [e12]; exact Ach.1) (State.isArrayOf_alike hZ.alike Ach.2.1) rfl Ach.2.2 hin hua (g := (mkF m 21 #[.val (.int p0)] [(.int (p0 + (128 : Int32))), (.ref bc)])) rfl rfl (hb hby d5_21) _ ?_
        exact Steps.refl _
      obtain ⟨fs, hr, hrun, hended, hW, hsame⟩ := X12.leave (v := some (.ref ua)) (fun h => by rw [Bd.returns] at h; cases h)
      refine ⟨_, _, s14.trans ?_, hrun, hended, _, _, rfl, ?_, ⟨_, rfl⟩, hW, hsame.mono (by decide) (by decide)⟩
      · show Steps p.tables e below (T12.setTop (mkF m 22 #[.val (.int p0)] [(.ref ua)])) _
        jvm_step X12.here [X12.here.top, hx, (hb hby d5_22), X12.method', Bd.returns, Value.isRef, FieldType.isReference]
        first | (intro acts; rw [hr _ acts rfl rfl rfl]) | rw [hr _ _ rfl rfl rfl]
        exact Steps.refl _
      · show Q5 Z p0 bc h0 n0 _ T12.heap _
        rw [e12]
        exact ⟨ua, rfl, N0, (Keep.refl h0 []), (hEa.ext O0.2)⟩
theorem d4_0 : decode prog_32_method_2_code 0 = .ok (.aload_n 1, 1) := by decide +kernel
theorem d4_1 : decode prog_32_method_2_code 1 = .ok (.instanceof 8, 3) := by decide +kernel
theorem d4_4 : decode prog_32_method_2_code 4 = .ok (.ifCond .eq 45, 3) := by decide +kernel
theorem d4_7 : decode prog_32_method_2_code 7 = .ok (.aload_n 1, 1) := by decide +kernel
theorem d4_8 : decode prog_32_method_2_code 8 = .ok (.checkcast 8, 3) := by decide +kernel
theorem d4_11 : decode prog_32_method_2_code 11 = .ok (.astore_n 2, 1) := by decide +kernel
theorem d4_12 : decode prog_32_method_2_code 12 = .ok (.aload_n 0, 1) := by decide +kernel
theorem d4_13 : decode prog_32_method_2_code 13 = .ok (.getfield 7, 3) := by decide +kernel
theorem d4_16 : decode prog_32_method_2_code 16 = .ok (.aload_n 2, 1) := by decide +kernel
theorem d4_17 : decode prog_32_method_2_code 17 = .ok (.getfield 7, 3) := by decide +kernel
theorem d4_20 : decode prog_32_method_2_code 20 = .ok (.if_icmp .ne 29, 3) := by decide +kernel
theorem d4_23 : decode prog_32_method_2_code 23 = .ok (.aload_n 0, 1) := by decide +kernel
theorem d4_24 : decode prog_32_method_2_code 24 = .ok (.getfield 13, 3) := by decide +kernel
theorem d4_27 : decode prog_32_method_2_code 27 = .ok (.aload_n 2, 1) := by decide +kernel
theorem d4_28 : decode prog_32_method_2_code 28 = .ok (.getfield 13, 3) := by decide +kernel
theorem d4_31 : decode prog_32_method_2_code 31 = .ok (.if_icmp .ne 18, 3) := by decide +kernel
theorem d4_34 : decode prog_32_method_2_code 34 = .ok (.aload_n 0, 1) := by decide +kernel
theorem d4_35 : decode prog_32_method_2_code 35 = .ok (.getfield 16, 3) := by decide +kernel
theorem d4_38 : decode prog_32_method_2_code 38 = .ok (.aload_n 2, 1) := by decide +kernel
theorem d4_39 : decode prog_32_method_2_code 39 = .ok (.getfield 16, 3) := by decide +kernel
theorem d4_42 : decode prog_32_method_2_code 42 = .ok (.if_icmp .ne 7, 3) := by decide +kernel
theorem d4_45 : decode prog_32_method_2_code 45 = .ok (.iconst 1, 1) := by decide +kernel
theorem d4_46 : decode prog_32_method_2_code 46 = .ok (.goto 4, 3) := by decide +kernel
theorem d4_49 : decode prog_32_method_2_code 49 = .ok (.iconst 0, 1) := by decide +kernel
theorem d4_50 : decode prog_32_method_2_code 50 = .ok (.ireturn, 1) := by decide +kernel
theorem ef_rme (m : MethodId) (p0 : Addr) (p1 : Addr) : entryFrame m #[(.ref p0), (.ref p1)] 3 = mkF m 0 #[.val (.ref p0), .val (.ref p1), .unset] [] := by first | (simp [entryFrame, mkF, argsToLocals, Value.category]; done) | rfl
def Qe (Z : State) (p0 : Addr) (p1 : Addr) (w1 : Int32) (w2 : Int32) (w3 : Int32) (w4 : Int32) (w5 : Int32) (w6 : Int32) (h0 : Heap) (n0 : Nat) (v : Option Value) (h : Heap) (L : List Loc) : Prop := v = some (.int (own_eq w1 w2 w3 w4 w5 w6)) ∧ Fr n0 L ∧ h = h0
set_option maxRecDepth 65536 in
set_option maxHeartbeats 40000000 in
theorem rme (l : Launch) (Z : State) (a0 : Array Value) (hw : ∀ d ∈ tables_1, d.before a0 Z = true) (ws : List Jvm.Cond) (p0 : Addr) (p1 : Addr) (w1 : Int32) (w2 : Int32) (w3 : Int32) (w4 : Int32) (w5 : Int32) (w6 : Int32) (h0 : Heap) (n0 : Nat) (O0 : Old Z n0 h0) (F0_ : Fld Z h0 p0 "com/example/schemactl/schemactl/Unfinished" "applied" "I" (.int w1)) (F1_ : Fld Z h0 p0 "com/example/schemactl/schemactl/Unfinished" "uncertain" "I" (.int w2)) (F2_ : Fld Z h0 p0 "com/example/schemactl/schemactl/Unfinished" "resumable" "Z" (.int w3)) (F3_ : Fld Z h0 p1 "com/example/schemactl/schemactl/Unfinished" "applied" "I" (.int w4)) (F4_ : Fld Z h0 p1 "com/example/schemactl/schemactl/Unfinished" "uncertain" "I" (.int w5)) (F5_ : Fld Z h0 p1 "com/example/schemactl/schemactl/Unfinished" "resumable" "Z" (.int w6)) (F6_ : Exa Z h0 p1 "com/example/schemactl/schemactl/Unfinished") :
    MetFree l (⟨"com/example/schemactl/schemactl/Unfinished", "equals", "(Ljava/lang/Object;)Z"⟩ : MethodName) (head1 (Jvm.Cond.code (⟨"com/example/schemactl/schemactl/Unfinished", "equals", "(Ljava/lang/Object;)Z"⟩ : MethodName) prog_32_method_2_code 3 (some .boolean) :: ws) ({ frames := 0, cells := 0, slots := 0, locals := 0 } : Room)) (fun a U => a = #[(.ref p0), (.ref p1)] ∧ Z.Warmed39 U.vm ∧ U.heap = h0) (fun _ _ _ _ _ => True) (fun _ U o U' => ∃ v L, o = .returned v ∧ Qe Z p0 p1 w1 w2 w3 w4 w5 w6 h0 n0 v U'.heap L ∧ FrameEnd U o U' L ({ frames := 0, cells := 0, slots := 0, locals := 0 } : Room).cells ({ frames := 0, cells := 0, slots := 0, locals := 0 } : Room).slots) := by
  refine MetFree.of_bodySF (plainFor_of_name pn_1) hisR ?_
  intro p e s m args below meth c s₁ Bd hml0 hP hK
  obtain ⟨rfl, hZ, hh⟩ := hP
  have hx := Bd.exec
  have hby := Bd.bytes
  have hml : c.maxLocals = 3 := hml0
  have hown : s.vm.findClass "com/example/schemactl/schemactl/Unfinished" = some m.cls := findClass_of_methodNamed Bd.named
  have hnm := (name_of_methodNamed Bd.named Bd.method).1
  have X0 : Stand p l e ({ frames := 0, cells := 0, slots := 0, locals := 0 } : Room) s m #[(.ref p0), (.ref p1)] below meth c s₁ [] 0 0 := Stand.of_body Bd
  have e0 : s₁.heap = h0 := by rw [← hh, Bd.state]; rfl
  have N0 := Fr.nil n0
  have s0 : Steps p.tables e below (s₁.setTop (entryFrame m #[(.ref p0), (.ref p1)] 3)) (s₁.setTop (mkF m 0 #[.val (.ref p0), .val (.ref p1), .unset] [])) := castTop (ef_rme m p0 p1) (Steps.refl _)
  obtain ⟨T1, X1, e1, st1⟩ := instY X0 hx hZ hown (hw _ (List.mem_of_getElem? (i := 25) rfl)) e0 (Ins.self F6_) (g := (mkF m 1 #[.val (.ref p0), .val (.ref p1), .unset] [(.ref p1)])) rfl rfl (hb hby d4_1)
  obtain ⟨T2, X2, e2, st2⟩ := castY X1 hx hZ hown (hw _ (List.mem_of_getElem? (i := 25) rfl)) e1 (Ins.self F6_) (g := (mkF m 8 #[.val (.ref p0), .val (.ref p1), .unset] [(.ref p1)])) rfl rfl (hb hby d4_8)
  obtain ⟨T3, X3, e3, st3⟩ := getF X2 hx hZ hown (host := "") (Or.inl (hw _ (List.mem_of_getElem? (i := 14) rfl))) Via.refl e2 F0_ (g := (mkF m 13 #[.val (.ref p0), .val (.ref p1), .val (.ref p1)] [(.ref p0)])) rfl rfl (hb hby d4_13)
  obtain ⟨T4, X4, e4, st4⟩ := getF X3 hx hZ hown (host := "") (Or.inl (hw _ (List.mem_of_getElem? (i := 14) rfl))) Via.refl e3 F3_ (g := (mkF m 17 #[.val (.ref p0), .val (.ref p1), .val (.ref p1)] [(.ref p1), (.int w1)])) rfl rfl (hb hby d4_17)
  have s5 : Steps p.tables e below (s₁.setTop (entryFrame m #[(.ref p0), (.ref p1)] 3)) (T4.setTop (mkF m 20 #[.val (.ref p0), .val (.ref p1), .val (.ref p1)] [(.int w4), (.int w1)])) := by
    refine s0.trans ?_
    show Steps p.tables e below (s₁.setTop (mkF m 0 #[.val (.ref p0), .val (.ref p1), .unset] [])) _
    refine XS.aloadN X0.here hx rfl (hb hby d4_0) rfl rfl ?_
    show Steps p.tables e below (s₁.setTop (mkF m 1 #[.val (.ref p0), .val (.ref p1), .unset] [(.ref p1)])) _
    refine st1 _ ?_
    show Steps p.tables e below (T1.setTop (mkF m 4 #[.val (.ref p0), .val (.ref p1), .unset] [(.int (1 : Int32))])) _
    refine XS.ifNo X1.here hx rfl (hb hby d4_4) rfl ((if0 _ _).trans (feq (by decide)).1) ?_
    show Steps p.tables e below (T1.setTop (mkF m 7 #[.val (.ref p0), .val (.ref p1), .unset] [])) _
    refine XS.aloadN X1.here hx rfl (hb hby d4_7) rfl rfl ?_
    show Steps p.tables e below (T1.setTop (mkF m 8 #[.val (.ref p0), .val (.ref p1), .unset] [(.ref p1)])) _
    refine st2 _ ?_
    show Steps p.tables e below (T2.setTop (mkF m 11 #[.val (.ref p0), .val (.ref p1), .unset] [(.ref p1)])) _
    refine XS.astoreN X2.here hx rfl (hb hby d4_11) rfl rfl (l' := #[.val (.ref p0), .val (.ref p1), .val (.ref p1)]) rfl ?_
    show Steps p.tables e below (T2.setTop (mkF m 12 #[.val (.ref p0), .val (.ref p1), .val (.ref p1)] [])) _
    refine XS.aloadN X2.here hx rfl (hb hby d4_12) rfl rfl ?_
    show Steps p.tables e below (T2.setTop (mkF m 13 #[.val (.ref p0), .val (.ref p1), .val (.ref p1)] [(.ref p0)])) _
    refine st3 _ ?_
    show Steps p.tables e below (T3.setTop (mkF m 16 #[.val (.ref p0), .val (.ref p1), .val (.ref p1)] [(.int w1)])) _
    refine XS.aloadN X3.here hx rfl (hb hby d4_16) rfl rfl ?_
    show Steps p.tables e below (T3.setTop (mkF m 17 #[.val (.ref p0), .val (.ref p1), .val (.ref p1)] [(.ref p1), (.int w1)])) _
    refine st4 _ ?_
    exact Steps.refl _
  by_cases hc6 : w1 = w4
  · obtain ⟨T7, X7, e7, st7⟩ := getF X4 hx hZ hown (host := "") (Or.inl (hw _ (List.mem_of_getElem? (i := 16) rfl))) Via.refl e4 F1_ (g := (mkF m 24 #[.val (.ref p0), .val (.ref p1), .val (.ref p1)] [(.ref p0)])) rfl rfl (hb hby d4_24)
    obtain ⟨T8, X8, e8, st8⟩ := getF X7 hx hZ hown (host := "") (Or.inl (hw _ (List.mem_of_getElem? (i := 16) rfl))) Via.refl e7 F4_ (g := (mkF m 28 #[.val (.ref p0), .val (.ref p1), .val (.ref p1)] [(.ref p1), (.int w2)])) rfl rfl (hb hby d4_28)
    have s9 : Steps p.tables e below (s₁.setTop (entryFrame m #[(.ref p0), (.ref p1)] 3)) (T8.setTop (mkF m 31 #[.val (.ref p0), .val (.ref p1), .val (.ref p1)] [(.int w5), (.int w2)])) := by
      refine s5.trans ?_
      show Steps p.tables e below (T4.setTop (mkF m 20 #[.val (.ref p0), .val (.ref p1), .val (.ref p1)] [(.int w4), (.int w1)])) _
      refine XS.icmpNo X4.here hx rfl (hb hby d4_20) rfl (teq hc6).2 ?_
      show Steps p.tables e below (T4.setTop (mkF m 23 #[.val (.ref p0), .val (.ref p1), .val (.ref p1)] [])) _
      refine XS.aloadN X4.here hx rfl (hb hby d4_23) rfl rfl ?_
      show Steps p.tables e below (T4.setTop (mkF m 24 #[.val (.ref p0), .val (.ref p1), .val (.ref p1)] [(.ref p0)])) _
      refine st7 _ ?_
      show Steps p.tables e below (T7.setTop (mkF m 27 #[.val (.ref p0), .val (.ref p1), .val (.ref p1)] [(.int w2)])) _
      refine XS.aloadN X7.here hx rfl (hb hby d4_27) rfl rfl ?_
      show Steps p.tables e below (T7.setTop (mkF m 28 #[.val (.ref p0), .val (.ref p1), .val (.ref p1)] [(.ref p1), (.int w2)])) _
      refine st8 _ ?_
      exact Steps.refl _
    by_cases hc10 : w2 = w5
    · obtain ⟨T11, X11, e11, st11⟩ := getF X8 hx hZ hown (host := "") (Or.inl (hw _ (List.mem_of_getElem? (i := 18) rfl))) Via.refl e8 F2_ (g := (mkF m 35 #[.val (.ref p0), .val (.ref p1), .val (.ref p1)] [(.ref p0)])) rfl rfl (hb hby d4_35)
      obtain ⟨T12, X12, e12, st12⟩ := getF X11 hx hZ hown (host := "") (Or.inl (hw _ (List.mem_of_getElem? (i := 18) rfl))) Via.refl e11 F5_ (g := (mkF m 39 #[.val (.ref p0), .val (.ref p1), .val (.ref p1)] [(.ref p1), (.int w3)])) rfl rfl (hb hby d4_39)
      have s13 : Steps p.tables e below (s₁.setTop (entryFrame m #[(.ref p0), (.ref p1)] 3)) (T12.setTop (mkF m 42 #[.val (.ref p0), .val (.ref p1), .val (.ref p1)] [(.int w6), (.int w3)])) := by
        refine s9.trans ?_
        show Steps p.tables e below (T8.setTop (mkF m 31 #[.val (.ref p0), .val (.ref p1), .val (.ref p1)] [(.int w5), (.int w2)])) _
        refine XS.icmpNo X8.here hx rfl (hb hby d4_31) rfl (teq hc10).2 ?_
        show Steps p.tables e below (T8.setTop (mkF m 34 #[.val (.ref p0), .val (.ref p1), .val (.ref p1)] [])) _
        refine XS.aloadN X8.here hx rfl (hb hby d4_34) rfl rfl ?_
        show Steps p.tables e below (T8.setTop (mkF m 35 #[.val (.ref p0), .val (.ref p1), .val (.ref p1)] [(.ref p0)])) _
        refine st11 _ ?_
        show Steps p.tables e below (T11.setTop (mkF m 38 #[.val (.ref p0), .val (.ref p1), .val (.ref p1)] [(.int w3)])) _
        refine XS.aloadN X11.here hx rfl (hb hby d4_38) rfl rfl ?_
        show Steps p.tables e below (T11.setTop (mkF m 39 #[.val (.ref p0), .val (.ref p1), .val (.ref p1)] [(.ref p1), (.int w3)])) _
        refine st12 _ ?_
        exact Steps.refl _
      by_cases hc14 : w3 = w6
      · have s15 : Steps p.tables e below (s₁.setTop (entryFrame m #[(.ref p0), (.ref p1)] 3)) (T12.setTop (mkF m 50 #[.val (.ref p0), .val (.ref p1), .val (.ref p1)] [(.int (1 : Int32))])) := by
          refine s13.trans ?_
          show Steps p.tables e below (T12.setTop (mkF m 42 #[.val (.ref p0), .val (.ref p1), .val (.ref p1)] [(.int w6), (.int w3)])) _
          refine XS.icmpNo X12.here hx rfl (hb hby d4_42) rfl (teq hc14).2 ?_
          show Steps p.tables e below (T12.setTop (mkF m 45 #[.val (.ref p0), .val (.ref p1), .val (.ref p1)] [])) _
          refine XS.iconst X12.here hx rfl (hb hby d4_45) ?_
          show Steps p.tables e below (T12.setTop (mkF m 46 #[.val (.ref p0), .val (.ref p1), .val (.ref p1)] [(.int (1 : Int32))])) _
          refine XS.goto X12.here hx rfl (pc0 := 46) (pc' := 50) rfl (hb hby d4_46) (by decide) (by decide) ?_
          exact Steps.refl _
        obtain ⟨fs, hr, hrun, hended, hW, hsame⟩ := X12.leave (v := some (.int (1 : Int32))) (fun h => by rw [Bd.returns] at h; cases h)
        refine ⟨_, _, s15.trans ?_, hrun, hended, _, _, rfl, ?_, ⟨_, rfl⟩, hW, hsame.mono (by decide) (by decide)⟩
        · show Steps p.tables e below (T12.setTop (mkF m 50 #[.val (.ref p0), .val (.ref p1), .val (.ref p1)] [(.int (1 : Int32))])) _
          exact retN X12 hx (t := .boolean) Bd.returns (by simp) (hb hby d4_50) hr
        · show Qe Z p0 p1 w1 w2 w3 w4 w5 w6 h0 n0 _ T12.heap _
          rw [e12]
          exact ⟨(by show _ = some (Value.int (if w1 = w4 then (if w2 = w5 then (if w3 = w6 then (1 : Int32) else (0 : Int32)) else (0 : Int32)) else (0 : Int32))); rw [if_pos hc6, if_pos hc10, if_pos hc14]), N0, rfl⟩
      · have s16 : Steps p.tables e below (s₁.setTop (entryFrame m #[(.ref p0), (.ref p1)] 3)) (T12.setTop (mkF m 50 #[.val (.ref p0), .val (.ref p1), .val (.ref p1)] [(.int (0 : Int32))])) := by
          refine s13.trans ?_
          show Steps p.tables e below (T12.setTop (mkF m 42 #[.val (.ref p0), .val (.ref p1), .val (.ref p1)] [(.int w6), (.int w3)])) _
          refine XS.icmpYes X12.here hx rfl (pc0 := 42) (pc' := 49) rfl (hb hby d4_42) rfl (feq hc14).2 (by decide) (by decide) ?_
          show Steps p.tables e below (T12.setTop (mkF m 49 #[.val (.ref p0), .val (.ref p1), .val (.ref p1)] [])) _
          refine XS.iconst X12.here hx rfl (hb hby d4_49) ?_
          exact Steps.refl _
        obtain ⟨fs, hr, hrun, hended, hW, hsame⟩ := X12.leave (v := some (.int (0 : Int32))) (fun h => by rw [Bd.returns] at h; cases h)
        refine ⟨_, _, s16.trans ?_, hrun, hended, _, _, rfl, ?_, ⟨_, rfl⟩, hW, hsame.mono (by decide) (by decide)⟩
        · show Steps p.tables e below (T12.setTop (mkF m 50 #[.val (.ref p0), .val (.ref p1), .val (.ref p1)] [(.int (0 : Int32))])) _
          exact retN X12 hx (t := .boolean) Bd.returns (by simp) (hb hby d4_50) hr
        · show Qe Z p0 p1 w1 w2 w3 w4 w5 w6 h0 n0 _ T12.heap _
          rw [e12]
          exact ⟨(by show _ = some (Value.int (if w1 = w4 then (if w2 = w5 then (if w3 = w6 then (1 : Int32) else (0 : Int32)) else (0 : Int32)) else (0 : Int32))); rw [if_pos hc6, if_pos hc10, if_neg hc14]), N0, rfl⟩
    · have s17 : Steps p.tables e below (s₁.setTop (entryFrame m #[(.ref p0), (.ref p1)] 3)) (T8.setTop (mkF m 50 #[.val (.ref p0), .val (.ref p1), .val (.ref p1)] [(.int (0 : Int32))])) := by
        refine s9.trans ?_
        show Steps p.tables e below (T8.setTop (mkF m 31 #[.val (.ref p0), .val (.ref p1), .val (.ref p1)] [(.int w5), (.int w2)])) _
        refine XS.icmpYes X8.here hx rfl (pc0 := 31) (pc' := 49) rfl (hb hby d4_31) rfl (feq hc10).2 (by decide) (by decide) ?_
        show Steps p.tables e below (T8.setTop (mkF m 49 #[.val (.ref p0), .val (.ref p1), .val (.ref p1)] [])) _
        refine XS.iconst X8.here hx rfl (hb hby d4_49) ?_
        exact Steps.refl _
      obtain ⟨fs, hr, hrun, hended, hW, hsame⟩ := X8.leave (v := some (.int (0 : Int32))) (fun h => by rw [Bd.returns] at h; cases h)
      refine ⟨_, _, s17.trans ?_, hrun, hended, _, _, rfl, ?_, ⟨_, rfl⟩, hW, hsame.mono (by decide) (by decide)⟩
      · show Steps p.tables e below (T8.setTop (mkF m 50 #[.val (.ref p0), .val (.ref p1), .val (.ref p1)] [(.int (0 : Int32))])) _
        exact retN X8 hx (t := .boolean) Bd.returns (by simp) (hb hby d4_50) hr
      · show Qe Z p0 p1 w1 w2 w3 w4 w5 w6 h0 n0 _ T8.heap _
        rw [e8]
        exact ⟨(by show _ = some (Value.int (if w1 = w4 then (if w2 = w5 then (if w3 = w6 then (1 : Int32) else (0 : Int32)) else (0 : Int32)) else (0 : Int32))); rw [if_pos hc6, if_neg hc10]), N0, rfl⟩
  · have s18 : Steps p.tables e below (s₁.setTop (entryFrame m #[(.ref p0), (.ref p1)] 3)) (T4.setTop (mkF m 50 #[.val (.ref p0), .val (.ref p1), .val (.ref p1)] [(.int (0 : Int32))])) := by
      refine s5.trans ?_
      show Steps p.tables e below (T4.setTop (mkF m 20 #[.val (.ref p0), .val (.ref p1), .val (.ref p1)] [(.int w4), (.int w1)])) _
      refine XS.icmpYes X4.here hx rfl (pc0 := 20) (pc' := 49) rfl (hb hby d4_20) rfl (feq hc6).2 (by decide) (by decide) ?_
      show Steps p.tables e below (T4.setTop (mkF m 49 #[.val (.ref p0), .val (.ref p1), .val (.ref p1)] [])) _
      refine XS.iconst X4.here hx rfl (hb hby d4_49) ?_
      exact Steps.refl _
    obtain ⟨fs, hr, hrun, hended, hW, hsame⟩ := X4.leave (v := some (.int (0 : Int32))) (fun h => by rw [Bd.returns] at h; cases h)
    refine ⟨_, _, s18.trans ?_, hrun, hended, _, _, rfl, ?_, ⟨_, rfl⟩, hW, hsame.mono (by decide) (by decide)⟩
    · show Steps p.tables e below (T4.setTop (mkF m 50 #[.val (.ref p0), .val (.ref p1), .val (.ref p1)] [(.int (0 : Int32))])) _
      exact retN X4 hx (t := .boolean) Bd.returns (by simp) (hb hby d4_50) hr
    · show Qe Z p0 p1 w1 w2 w3 w4 w5 w6 h0 n0 _ T4.heap _
      rw [e4]
      exact ⟨(by show _ = some (Value.int (if w1 = w4 then (if w2 = w5 then (if w3 = w6 then (1 : Int32) else (0 : Int32)) else (0 : Int32)) else (0 : Int32))); rw [if_neg hc6]), N0, rfl⟩
theorem ef_rmen (m : MethodId) (p0 : Addr) : entryFrame m #[(.ref p0), .null] 3 = mkF m 0 #[.val (.ref p0), .val .null, .unset] [] := by first | (simp [entryFrame, mkF, argsToLocals, Value.category]; done) | rfl
def Qen (Z : State) (p0 : Addr) (h0 : Heap) (n0 : Nat) (v : Option Value) (h : Heap) (L : List Loc) : Prop := v = some (.int (0 : Int32)) ∧ Fr n0 L ∧ h = h0
set_option maxRecDepth 65536 in
set_option maxHeartbeats 40000000 in
theorem rmen (l : Launch) (Z : State) (a0 : Array Value) (hw : ∀ d ∈ tables_1, d.before a0 Z = true) (ws : List Jvm.Cond) (p0 : Addr) (h0 : Heap) (n0 : Nat) (O0 : Old Z n0 h0) :
    MetFree l (⟨"com/example/schemactl/schemactl/Unfinished", "equals", "(Ljava/lang/Object;)Z"⟩ : MethodName) (head1 (Jvm.Cond.code (⟨"com/example/schemactl/schemactl/Unfinished", "equals", "(Ljava/lang/Object;)Z"⟩ : MethodName) prog_32_method_2_code 3 (some .boolean) :: ws) ({ frames := 0, cells := 0, slots := 0, locals := 0 } : Room)) (fun a U => a = #[(.ref p0), .null] ∧ Z.Warmed39 U.vm ∧ U.heap = h0) (fun _ _ _ _ _ => True) (fun _ U o U' => ∃ v L, o = .returned v ∧ Qen Z p0 h0 n0 v U'.heap L ∧ FrameEnd U o U' L ({ frames := 0, cells := 0, slots := 0, locals := 0 } : Room).cells ({ frames := 0, cells := 0, slots := 0, locals := 0 } : Room).slots) := by
  refine MetFree.of_bodySF (plainFor_of_name pn_1) hisR ?_
  intro p e s m args below meth c s₁ Bd hml0 hP hK
  obtain ⟨rfl, hZ, hh⟩ := hP
  have hx := Bd.exec
  have hby := Bd.bytes
  have hml : c.maxLocals = 3 := hml0
  have hown : s.vm.findClass "com/example/schemactl/schemactl/Unfinished" = some m.cls := findClass_of_methodNamed Bd.named
  have hnm := (name_of_methodNamed Bd.named Bd.method).1
  have X0 : Stand p l e ({ frames := 0, cells := 0, slots := 0, locals := 0 } : Room) s m #[(.ref p0), .null] below meth c s₁ [] 0 0 := Stand.of_body Bd
  have e0 : s₁.heap = h0 := by rw [← hh, Bd.state]; rfl
  have N0 := Fr.nil n0
  have s0 : Steps p.tables e below (s₁.setTop (entryFrame m #[(.ref p0), .null] 3)) (s₁.setTop (mkF m 0 #[.val (.ref p0), .val .null, .unset] [])) := castTop (ef_rmen m p0) (Steps.refl _)
  have s1 : Steps p.tables e below (s₁.setTop (entryFrame m #[(.ref p0), .null] 3)) (s₁.setTop (mkF m 50 #[.val (.ref p0), .val .null, .unset] [(.int (0 : Int32))])) := by
    refine s0.trans ?_
    show Steps p.tables e below (s₁.setTop (mkF m 0 #[.val (.ref p0), .val .null, .unset] [])) _
    refine XS.aloadN X0.here hx rfl (hb hby d4_0) rfl rfl ?_
    show Steps p.tables e below (s₁.setTop (mkF m 1 #[.val (.ref p0), .val .null, .unset] [.null])) _
    refine X0.instanceofNull hx (g := (mkF m 1 #[.val (.ref p0), .val .null, .unset] [.null])) rfl rfl (hb hby d4_1) _ ?_
    show Steps p.tables e below (s₁.setTop (mkF m 4 #[.val (.ref p0), .val .null, .unset] [(.int (0 : Int32))])) _
    refine XS.ifYes X0.here hx rfl (pc0 := 4) (pc' := 49) rfl (hb hby d4_4) rfl ((if0 _ _).trans (teq (by decide)).1) (by decide) (by decide) ?_
    show Steps p.tables e below (s₁.setTop (mkF m 49 #[.val (.ref p0), .val .null, .unset] [])) _
    refine XS.iconst X0.here hx rfl (hb hby d4_49) ?_
    exact Steps.refl _
  obtain ⟨fs, hr, hrun, hended, hW, hsame⟩ := X0.leave (v := some (.int (0 : Int32))) (fun h => by rw [Bd.returns] at h; cases h)
  refine ⟨_, _, s1.trans ?_, hrun, hended, _, _, rfl, ?_, ⟨_, rfl⟩, hW, hsame.mono (by decide) (by decide)⟩
  · show Steps p.tables e below (s₁.setTop (mkF m 50 #[.val (.ref p0), .val .null, .unset] [(.int (0 : Int32))])) _
    exact retN X0 hx (t := .boolean) Bd.returns (by simp) (hb hby d4_50) hr
  · show Qen Z p0 h0 n0 _ s₁.heap _
    rw [e0]
    exact ⟨rfl, N0, rfl⟩
theorem ef_rmei (m : MethodId) (p0 : Addr) (p1 : Addr) : entryFrame m #[(.ref p0), (.ref p1)] 3 = mkF m 0 #[.val (.ref p0), .val (.ref p1), .unset] [] := by first | (simp [entryFrame, mkF, argsToLocals, Value.category]; done) | rfl
def Qei (Z : State) (p0 : Addr) (p1 : Addr) (h0 : Heap) (n0 : Nat) (v : Option Value) (h : Heap) (L : List Loc) : Prop := v = some (.int (0 : Int32)) ∧ Fr n0 L ∧ h = h0
set_option maxRecDepth 65536 in
set_option maxHeartbeats 40000000 in
theorem rmei (l : Launch) (Z : State) (a0 : Array Value) (hw : ∀ d ∈ tables_1, d.before a0 Z = true) (ws : List Jvm.Cond) (p0 : Addr) (p1 : Addr) (h0 : Heap) (n0 : Nat) (O0 : Old Z n0 h0) (F0_ : Exa Z h0 p1 "java/lang/Integer") :
    MetFree l (⟨"com/example/schemactl/schemactl/Unfinished", "equals", "(Ljava/lang/Object;)Z"⟩ : MethodName) (head1 (Jvm.Cond.code (⟨"com/example/schemactl/schemactl/Unfinished", "equals", "(Ljava/lang/Object;)Z"⟩ : MethodName) prog_32_method_2_code 3 (some .boolean) :: ws) ({ frames := 0, cells := 0, slots := 0, locals := 0 } : Room)) (fun a U => a = #[(.ref p0), (.ref p1)] ∧ Z.Warmed39 U.vm ∧ U.heap = h0) (fun _ _ _ _ _ => True) (fun _ U o U' => ∃ v L, o = .returned v ∧ Qei Z p0 p1 h0 n0 v U'.heap L ∧ FrameEnd U o U' L ({ frames := 0, cells := 0, slots := 0, locals := 0 } : Room).cells ({ frames := 0, cells := 0, slots := 0, locals := 0 } : Room).slots) := by
  refine MetFree.of_bodySF (plainFor_of_name pn_1) hisR ?_
  intro p e s m args below meth c s₁ Bd hml0 hP hK
  obtain ⟨rfl, hZ, hh⟩ := hP
  have hx := Bd.exec
  have hby := Bd.bytes
  have hml : c.maxLocals = 3 := hml0
  have hown : s.vm.findClass "com/example/schemactl/schemactl/Unfinished" = some m.cls := findClass_of_methodNamed Bd.named
  have hnm := (name_of_methodNamed Bd.named Bd.method).1
  have X0 : Stand p l e ({ frames := 0, cells := 0, slots := 0, locals := 0 } : Room) s m #[(.ref p0), (.ref p1)] below meth c s₁ [] 0 0 := Stand.of_body Bd
  have e0 : s₁.heap = h0 := by rw [← hh, Bd.state]; rfl
  have N0 := Fr.nil n0
  have s0 : Steps p.tables e below (s₁.setTop (entryFrame m #[(.ref p0), (.ref p1)] 3)) (s₁.setTop (mkF m 0 #[.val (.ref p0), .val (.ref p1), .unset] [])) := castTop (ef_rmei m p0 p1) (Steps.refl _)
  obtain ⟨T1, X1, e1, st1⟩ := instNo X0 hx hZ hown (hw _ (List.mem_of_getElem? (i := 25) rfl)) e0 F0_ (own_assign (hw _ (List.mem_of_getElem? (i := 34) rfl)) (hw _ (List.mem_of_getElem? (i := 35) rfl)) (hw _ (List.mem_of_getElem? (i := 36) rfl)) (hw _ (List.mem_of_getElem? (i := 1) rfl))) (g := (mkF m 1 #[.val (.ref p0), .val (.ref p1), .unset] [(.ref p1)])) rfl rfl (hb hby d4_1)
  have s2 : Steps p.tables e below (s₁.setTop (entryFrame m #[(.ref p0), (.ref p1)] 3)) (T1.setTop (mkF m 50 #[.val (.ref p0), .val (.ref p1), .unset] [(.int (0 : Int32))])) := by
    refine s0.trans ?_
    show Steps p.tables e below (s₁.setTop (mkF m 0 #[.val (.ref p0), .val (.ref p1), .unset] [])) _
    refine XS.aloadN X0.here hx rfl (hb hby d4_0) rfl rfl ?_
    show Steps p.tables e below (s₁.setTop (mkF m 1 #[.val (.ref p0), .val (.ref p1), .unset] [(.ref p1)])) _
    refine st1 _ ?_
    show Steps p.tables e below (T1.setTop (mkF m 4 #[.val (.ref p0), .val (.ref p1), .unset] [(.int (0 : Int32))])) _
    refine XS.ifYes X1.here hx rfl (pc0 := 4) (pc' := 49) rfl (hb hby d4_4) rfl ((if0 _ _).trans (teq (by decide)).1) (by decide) (by decide) ?_
    show Steps p.tables e below (T1.setTop (mkF m 49 #[.val (.ref p0), .val (.ref p1), .unset] [])) _
    refine XS.iconst X1.here hx rfl (hb hby d4_49) ?_
    exact Steps.refl _
  obtain ⟨fs, hr, hrun, hended, hW, hsame⟩ := X1.leave (v := some (.int (0 : Int32))) (fun h => by rw [Bd.returns] at h; cases h)
  refine ⟨_, _, s2.trans ?_, hrun, hended, _, _, rfl, ?_, ⟨_, rfl⟩, hW, hsame.mono (by decide) (by decide)⟩
  · show Steps p.tables e below (T1.setTop (mkF m 50 #[.val (.ref p0), .val (.ref p1), .unset] [(.int (0 : Int32))])) _
    exact retN X1 hx (t := .boolean) Bd.returns (by simp) (hb hby d4_50) hr
  · show Qei Z p0 p1 h0 n0 _ T1.heap _
    rw [e1]
    exact ⟨rfl, N0, rfl⟩
theorem own_rm0_1 (p0 : Int32) (p1 : Int32) (p4 : Int32) (z1 : Int32) (z2 : Int32) (z3 : Int32) (z4 : Int32) (z5 : Int32) (hz1 : z1 = (if (p4 &&& (1 : Int32)) = (0 : Int32) then (0 : Int32) else (1 : Int32))) (hz2 : z2 = (if (p4 &&& (16 : Int32)) = (0 : Int32) then (if (p4 &&& (2 : Int32)) = (0 : Int32) then (0 : Int32) else (1 : Int32)) else z1)) (hz5 : z5 = (if p0 = z3 then (if p1 = z4 then (if z1 = z2 then (1 : Int32) else (0 : Int32)) else (0 : Int32)) else (0 : Int32))) : (own_eq p0 p1 (nar .boolean z1) z3 z4 (nar .boolean z2)) = z5 := by
  have b1 : z1 = 0 ∨ z1 = 1 := by
    rw [hz1]; split
    · exact Or.inl rfl
    · exact Or.inr rfl
  have b2 : z2 = 0 ∨ z2 = 1 := by
    rw [hz2]
    repeat' split
    all_goals first | exact b1 | exact Or.inl rfl | exact Or.inr rfl
  clear hz1 hz2
  subst hz5
  rcases b1 with rfl | rfl <;> rcases b2 with rfl | rfl
  all_goals simp only [own_eq, own_nar0, own_nar1]
  all_goals (repeat' split)
  all_goals first | rfl | (exfalso; simp_all; done) | simp_all
theorem own_rm0_2 (p0 : Int32) (p1 : Int32) (p4 : Int32) (z1 : Int32) (z2 : Int32) (z3 : Int32) (z4 : Int32) (z5 : Int32) (hz1 : z1 = (if (p4 &&& (1 : Int32)) = (0 : Int32) then (0 : Int32) else (1 : Int32))) (hz2 : z2 = (if (p4 &&& (16 : Int32)) = (0 : Int32) then (if (p4 &&& (2 : Int32)) = (0 : Int32) then (0 : Int32) else (1 : Int32)) else z1)) (hz5 : z5 = (if p0 = z3 then (if p1 = z4 then (if z1 = z2 then (1 : Int32) else (0 : Int32)) else (0 : Int32)) else (0 : Int32))) : (own_eq z3 z4 (nar .boolean z2) p0 p1 (nar .boolean z1)) = z5 := by
  have b1 : z1 = 0 ∨ z1 = 1 := by
    rw [hz1]; split
    · exact Or.inl rfl
    · exact Or.inr rfl
  have b2 : z2 = 0 ∨ z2 = 1 := by
    rw [hz2]
    repeat' split
    all_goals first | exact b1 | exact Or.inl rfl | exact Or.inr rfl
  clear hz1 hz2
  subst hz5
  rcases b1 with rfl | rfl <;> rcases b2 with rfl | rfl
  all_goals simp only [own_eq, own_nar0, own_nar1]
  all_goals (repeat' split)
  all_goals first | rfl | (exfalso; simp_all; done) | simp_all
theorem own_rm0_3 (p0 : Int32) (p1 : Int32) (z1 : Int32) : ¬ ((own_eq p0 p1 (nar .boolean z1) p0 p1 (nar .boolean z1)) = (0 : Int32)) := by
  simp [own_eq]
theorem own_rm0_4 (p0 : Int32) (p1 : Int32) (p4 : Int32) (z1 : Int32) (z2 : Int32) (z3 : Int32) (z4 : Int32) (z5 : Int32) (hz1 : z1 = (if (p4 &&& (1 : Int32)) = (0 : Int32) then (0 : Int32) else (1 : Int32))) (hz2 : z2 = (if (p4 &&& (16 : Int32)) = (0 : Int32) then (if (p4 &&& (2 : Int32)) = (0 : Int32) then (0 : Int32) else (1 : Int32)) else z1)) (hz5 : z5 = (if p0 = z3 then (if p1 = z4 then (if z1 = z2 then (1 : Int32) else (0 : Int32)) else (0 : Int32)) else (0 : Int32))) (H : ¬ (z5 = (0 : Int32))) : (own_hash p0 p1 (nar .boolean z1)) = (own_hash z3 z4 (nar .boolean z2)) := by
  have b1 : z1 = 0 ∨ z1 = 1 := by
    rw [hz1]; split
    · exact Or.inl rfl
    · exact Or.inr rfl
  have b2 : z2 = 0 ∨ z2 = 1 := by
    rw [hz2]
    repeat' split
    all_goals first | exact b1 | exact Or.inl rfl | exact Or.inr rfl
  clear hz1 hz2
  subst hz5
  rcases b1 with rfl | rfl <;> rcases b2 with rfl | rfl
  all_goals simp only [own_nar0, own_nar1]
  all_goals simp at H
  all_goals first | (obtain ⟨rfl, rfl⟩ := H; rfl) | skip
theorem own_rm0_5 (p0 : Int32) (p1 : Int32) (p4 : Int32) (z1 : Int32) (z2 : Int32) (z3 : Int32) (z4 : Int32) (z5 : Int32) (hz1 : z1 = (if (p4 &&& (1 : Int32)) = (0 : Int32) then (0 : Int32) else (1 : Int32))) (hz2 : z2 = (if (p4 &&& (16 : Int32)) = (0 : Int32) then (if (p4 &&& (2 : Int32)) = (0 : Int32) then (0 : Int32) else (1 : Int32)) else z1)) (hz5 : z5 = (if p0 = z3 then (if p1 = z4 then (if z1 = z2 then (1 : Int32) else (0 : Int32)) else (0 : Int32)) else (0 : Int32))) : (own_eq p0 p1 (nar .boolean z1) z3 z4 (nar .boolean z2)) = z5 := by
  have b1 : z1 = 0 ∨ z1 = 1 := by
    rw [hz1]; split
    · exact Or.inl rfl
    · exact Or.inr rfl
  have b2 : z2 = 0 ∨ z2 = 1 := by
    rw [hz2]
    repeat' split
    all_goals first | exact b1 | exact Or.inl rfl | exact Or.inr rfl
  clear hz1 hz2
  subst hz5
  rcases b1 with rfl | rfl <;> rcases b2 with rfl | rfl
  all_goals simp only [own_eq, own_nar0, own_nar1]
  all_goals (repeat' split)
  all_goals first | rfl | (exfalso; simp_all; done) | simp_all
theorem own_rm0_6 (p0 : Int32) (p1 : Int32) (p4 : Int32) (z1 : Int32) (z2 : Int32) (z3 : Int32) (z4 : Int32) (z5 : Int32) (hz1 : z1 = (if (p4 &&& (1 : Int32)) = (0 : Int32) then (0 : Int32) else (1 : Int32))) (hz2 : z2 = (if (p4 &&& (16 : Int32)) = (0 : Int32) then (if (p4 &&& (2 : Int32)) = (0 : Int32) then (0 : Int32) else (1 : Int32)) else z1)) (hz5 : z5 = (if p0 = z3 then (if p1 = z4 then (if z1 = z2 then (1 : Int32) else (0 : Int32)) else (0 : Int32)) else (0 : Int32))) : (own_eq z3 z4 (nar .boolean z2) p0 p1 (nar .boolean z1)) = z5 := by
  have b1 : z1 = 0 ∨ z1 = 1 := by
    rw [hz1]; split
    · exact Or.inl rfl
    · exact Or.inr rfl
  have b2 : z2 = 0 ∨ z2 = 1 := by
    rw [hz2]
    repeat' split
    all_goals first | exact b1 | exact Or.inl rfl | exact Or.inr rfl
  clear hz1 hz2
  subst hz5
  rcases b1 with rfl | rfl <;> rcases b2 with rfl | rfl
  all_goals simp only [own_eq, own_nar0, own_nar1]
  all_goals (repeat' split)
  all_goals first | rfl | (exfalso; simp_all; done) | simp_all
theorem own_rm0_7 (p0 : Int32) (p1 : Int32) (z1 : Int32) : ¬ ((own_eq p0 p1 (nar .boolean z1) p0 p1 (nar .boolean z1)) = (0 : Int32)) := by
  simp [own_eq]
theorem pn_0 : plainName "com/example/schemactl/schemactl/UnfinishedEqualsPinLaw" = true := by first | (simp [plainName, overriddenIn]; done) | decide +kernel
theorem pd_rm0_0 : parseMethodDescriptor "(IIZ)V" = some ⟨[.int, .int, .boolean], none⟩ := by decide +kernel
theorem pd_rm0_1 : parseMethodDescriptor "(Ljava/lang/Object;)Z" = some ⟨[(.object "java/lang/Object")], some .boolean⟩ := by decide +kernel
theorem pd_rm0_2 : parseMethodDescriptor "(I)Ljava/lang/Integer;" = some ⟨[.int], some (.object "java/lang/Integer")⟩ := by decide +kernel
theorem pd_rm0_3 : parseMethodDescriptor "()I" = some ⟨[], some .int⟩ := by decide +kernel
theorem ef_rm0 (m : MethodId) (p0 : Int32) (p1 : Int32) (p2 : Int32) (p3 : Int32) (p4 : Int32) : entryFrame m #[(.int p0), (.int p1), (.int p2), (.int p3), (.int p4)] maxLocals = mkF m 0 #[.val (.int p0), .val (.int p1), .val (.int p2), .val (.int p3), .val (.int p4), .unset, .unset, .unset, .unset, .unset, .unset, .unset, .unset, .unset, .unset, .unset, .unset, .unset] [] := by first | (simp [entryFrame, mkF, argsToLocals, Value.category, maxLocals]; done) | rfl
def Q0 (Z : State) (p0 : Int32) (p1 : Int32) (p2 : Int32) (p3 : Int32) (p4 : Int32) (bc : Addr) (h0 : Heap) (n0 : Nat) (v : Option Value) (h : Heap) (L : List Loc) : Prop := v = some (.int (1 : Int32)) ∧ Fr n0 L
set_option maxRecDepth 65536 in
set_option maxHeartbeats 40000000 in
theorem rm0 (l : Launch) (Z : State) (a0 : Array Value) (hw : ∀ d ∈ tables_1, d.before a0 Z = true) (ws : List Jvm.Cond) (p0 : Int32) (p1 : Int32) (p2 : Int32) (p3 : Int32) (p4 : Int32) (bc : Addr) (h0 : Heap) (n0 : Nat) (O0 : Old Z n0 h0) (F0_ : Sta Z Z.heap "java/lang/Integer$IntegerCache" "high" "I" (.int (127 : Int32))) (F1_ : Sta Z Z.heap "java/lang/Integer$IntegerCache" "cache" "[Ljava/lang/Integer;" (.ref bc)) (F2_ : own_cache Z bc) :
    MetFree l x (head1 (Jvm.Cond.code x code maxLocals ret :: ws) room_1) (fun a U => a = #[(.int p0), (.int p1), (.int p2), (.int p3), (.int p4)] ∧ Z.Warmed39 U.vm ∧ U.heap = h0) (fun _ _ _ _ _ => True) (fun _ U o U' => ∃ v L, o = .returned v ∧ Q0 Z p0 p1 p2 p3 p4 bc h0 n0 v U'.heap L ∧ FrameEnd U o U' L room_1.cells room_1.slots) := by
  refine MetFree.of_bodySF (plainFor_of_name pn_0) hisR ?_
  intro p e s m args below meth c s₁ Bd hml0 hP hK
  obtain ⟨rfl, hZ, hh⟩ := hP
  have hx := Bd.exec
  have hby := Bd.bytes
  have hml : c.maxLocals = 18 := hml0
  have hown : s.vm.findClass "com/example/schemactl/schemactl/UnfinishedEqualsPinLaw" = some m.cls := findClass_of_methodNamed Bd.named
  have hnm := (name_of_methodNamed Bd.named Bd.method).1
  have X0 : Stand p l e room_1 s m #[(.int p0), (.int p1), (.int p2), (.int p3), (.int p4)] below meth c s₁ [] 0 0 := Stand.of_body Bd
  have e0 : s₁.heap = h0 := by rw [← hh, Bd.state]; rfl
  have N0 := Fr.nil n0
  have s0 : Steps p.tables e below (s₁.setTop (entryFrame m #[(.int p0), (.int p1), (.int p2), (.int p3), (.int p4)] maxLocals)) (s₁.setTop (mkF m 0 #[.val (.int p0), .val (.int p1), .val (.int p2), .val (.int p3), .val (.int p4), .unset, .unset, .unset, .unset, .unset, .unset, .unset, .unset, .unset, .unset, .unset, .unset, .unset] [])) := castTop (ef_rm0 m p0 p1 p2 p3 p4) (Steps.refl _)
  have s1 : Steps p.tables e below (s₁.setTop (entryFrame m #[(.int p0), (.int p1), (.int p2), (.int p3), (.int p4)] maxLocals)) (s₁.setTop (mkF m 4 #[.val (.int p0), .val (.int p1), .val (.int p2), .val (.int p3), .val (.int p4), .unset, .unset, .unset, .unset, .unset, .unset, .unset, .unset, .unset, .unset, .unset, .unset, .unset] [(.int (p4 &&& (1 : Int32)))])) := by
    refine s0.trans ?_
    show Steps p.tables e below (s₁.setTop (mkF m 0 #[.val (.int p0), .val (.int p1), .val (.int p2), .val (.int p3), .val (.int p4), .unset, .unset, .unset, .unset, .unset, .unset, .unset, .unset, .unset, .unset, .unset, .unset, .unset] [])) _
    refine XS.iload X0.here hx rfl (hb hby at_0) rfl ?_
    show Steps p.tables e below (s₁.setTop (mkF m 2 #[.val (.int p0), .val (.int p1), .val (.int p2), .val (.int p3), .val (.int p4), .unset, .unset, .unset, .unset, .unset, .unset, .unset, .unset, .unset, .unset, .unset, .unset, .unset] [(.int p4)])) _
    refine XS.iconst X0.here hx rfl (hb hby at_2) ?_
    show Steps p.tables e below (s₁.setTop (mkF m 3 #[.val (.int p0), .val (.int p1), .val (.int p2), .val (.int p3), .val (.int p4), .unset, .unset, .unset, .unset, .unset, .unset, .unset, .unset, .unset, .unset, .unset, .unset, .unset] [(.int (1 : Int32)), (.int p4)])) _
    refine XS.iand X0.here hx rfl (hb hby at_3) rfl ?_
    exact Steps.refl _
  have s3 : Steps p.tables e below (s₁.setTop (entryFrame m #[(.int p0), (.int p1), (.int p2), (.int p3), (.int p4)] maxLocals)) (s₁.setTop (mkF m 12 #[.val (.int p0), .val (.int p1), .val (.int p2), .val (.int p3), .val (.int p4), .unset, .unset, .unset, .unset, .unset, .unset, .unset, .unset, .unset, .unset, .unset, .unset, .unset] [(.int (if (p4 &&& (1 : Int32)) = (0 : Int32) then (0 : Int32) else (1 : Int32)))])) := by
    by_cases hm2 : (p4 &&& (1 : Int32)) = (0 : Int32)
    · simp only [if_pos hm2]
      refine s1.trans ?_
      show Steps p.tables e below (s₁.setTop (mkF m 4 #[.val (.int p0), .val (.int p1), .val (.int p2), .val (.int p3), .val (.int p4), .unset, .unset, .unset, .unset, .unset, .unset, .unset, .unset, .unset, .unset, .unset, .unset, .unset] [(.int (p4 &&& (1 : Int32)))])) _
      refine XS.ifYes X0.here hx rfl (pc0 := 4) (pc' := 11) rfl (hb hby at_4) rfl ((if0 _ _).trans (teq hm2).1) (by decide) (by decide) ?_
      show Steps p.tables e below (s₁.setTop (mkF m 11 #[.val (.int p0), .val (.int p1), .val (.int p2), .val (.int p3), .val (.int p4), .unset, .unset, .unset, .unset, .unset, .unset, .unset, .unset, .unset, .unset, .unset, .unset, .unset] [])) _
      refine XS.iconst X0.here hx rfl (hb hby at_11) ?_
      exact Steps.refl _
    · simp only [if_neg hm2]
      refine s1.trans ?_
      show Steps p.tables e below (s₁.setTop (mkF m 4 #[.val (.int p0), .val (.int p1), .val (.int p2), .val (.int p3), .val (.int p4), .unset, .unset, .unset, .unset, .unset, .unset, .unset, .unset, .unset, .unset, .unset, .unset, .unset] [(.int (p4 &&& (1 : Int32)))])) _
      refine XS.ifNo X0.here hx rfl (hb hby at_4) rfl ((if0 _ _).trans (feq hm2).1) ?_
      show Steps p.tables e below (s₁.setTop (mkF m 7 #[.val (.int p0), .val (.int p1), .val (.int p2), .val (.int p3), .val (.int p4), .unset, .unset, .unset, .unset, .unset, .unset, .unset, .unset, .unset, .unset, .unset, .unset, .unset] [])) _
      refine XS.iconst X0.here hx rfl (hb hby at_7) ?_
      show Steps p.tables e below (s₁.setTop (mkF m 8 #[.val (.int p0), .val (.int p1), .val (.int p2), .val (.int p3), .val (.int p4), .unset, .unset, .unset, .unset, .unset, .unset, .unset, .unset, .unset, .unset, .unset, .unset, .unset] [(.int (1 : Int32))])) _
      refine XS.goto X0.here hx rfl (pc0 := 8) (pc' := 12) rfl (hb hby at_8) (by decide) (by decide) ?_
      exact Steps.refl _
  obtain ⟨z1, hz1⟩ : ∃ z, z = (if (p4 &&& (1 : Int32)) = (0 : Int32) then (0 : Int32) else (1 : Int32)) := ⟨_, rfl⟩
  rw [← hz1] at s3
  have s4 : Steps p.tables e below (s₁.setTop (entryFrame m #[(.int p0), (.int p1), (.int p2), (.int p3), (.int p4)] maxLocals)) (s₁.setTop (mkF m 19 #[.val (.int p0), .val (.int p1), .val (.int p2), .val (.int p3), .val (.int p4), .val (.int z1), .unset, .unset, .unset, .unset, .unset, .unset, .unset, .unset, .unset, .unset, .unset, .unset] [(.int (p4 &&& (16 : Int32)))])) := by
    refine s3.trans ?_
    show Steps p.tables e below (s₁.setTop (mkF m 12 #[.val (.int p0), .val (.int p1), .val (.int p2), .val (.int p3), .val (.int p4), .unset, .unset, .unset, .unset, .unset, .unset, .unset, .unset, .unset, .unset, .unset, .unset, .unset] [(.int z1)])) _
    refine XS.istore X0.here hx rfl (hb hby at_12) rfl (l' := #[.val (.int p0), .val (.int p1), .val (.int p2), .val (.int p3), .val (.int p4), .val (.int z1), .unset, .unset, .unset, .unset, .unset, .unset, .unset, .unset, .unset, .unset, .unset, .unset]) rfl ?_
    show Steps p.tables e below (s₁.setTop (mkF m 14 #[.val (.int p0), .val (.int p1), .val (.int p2), .val (.int p3), .val (.int p4), .val (.int z1), .unset, .unset, .unset, .unset, .unset, .unset, .unset, .unset, .unset, .unset, .unset, .unset] [])) _
    refine XS.iload X0.here hx rfl (hb hby at_14) rfl ?_
    show Steps p.tables e below (s₁.setTop (mkF m 16 #[.val (.int p0), .val (.int p1), .val (.int p2), .val (.int p3), .val (.int p4), .val (.int z1), .unset, .unset, .unset, .unset, .unset, .unset, .unset, .unset, .unset, .unset, .unset, .unset] [(.int p4)])) _
    refine XS.bipush X0.here hx rfl (hb hby at_16) ?_
    show Steps p.tables e below (s₁.setTop (mkF m 18 #[.val (.int p0), .val (.int p1), .val (.int p2), .val (.int p3), .val (.int p4), .val (.int z1), .unset, .unset, .unset, .unset, .unset, .unset, .unset, .unset, .unset, .unset, .unset, .unset] [(.int (16 : Int32)), (.int p4)])) _
    refine XS.iand X0.here hx rfl (hb hby at_18) rfl ?_
    exact Steps.refl _
  have s7 : Steps p.tables e below (s₁.setTop (entryFrame m #[(.int p0), (.int p1), (.int p2), (.int p3), (.int p4)] maxLocals)) (s₁.setTop (mkF m 39 #[.val (.int p0), .val (.int p1), .val (.int p2), .val (.int p3), .val (.int p4), .val (.int z1), .unset, .unset, .unset, .unset, .unset, .unset, .unset, .unset, .unset, .unset, .unset, .unset] [(.int (if (p4 &&& (16 : Int32)) = (0 : Int32) then (if (p4 &&& (2 : Int32)) = (0 : Int32) then (0 : Int32) else (1 : Int32)) else z1))])) := by
    by_cases hm5 : (p4 &&& (16 : Int32)) = (0 : Int32)
    · simp only [if_pos hm5]
      by_cases hm6 : (p4 &&& (2 : Int32)) = (0 : Int32)
      · simp only [if_pos hm6]
        refine s4.trans ?_
        show Steps p.tables e below (s₁.setTop (mkF m 19 #[.val (.int p0), .val (.int p1), .val (.int p2), .val (.int p3), .val (.int p4), .val (.int z1), .unset, .unset, .unset, .unset, .unset, .unset, .unset, .unset, .unset, .unset, .unset, .unset] [(.int (p4 &&& (16 : Int32)))])) _
        refine XS.ifYes X0.here hx rfl (pc0 := 19) (pc' := 27) rfl (hb hby at_19) rfl ((if0 _ _).trans (teq hm5).1) (by decide) (by decide) ?_
        show Steps p.tables e below (s₁.setTop (mkF m 27 #[.val (.int p0), .val (.int p1), .val (.int p2), .val (.int p3), .val (.int p4), .val (.int z1), .unset, .unset, .unset, .unset, .unset, .unset, .unset, .unset, .unset, .unset, .unset, .unset] [])) _
        refine XS.iload X0.here hx rfl (hb hby at_27) rfl ?_
        show Steps p.tables e below (s₁.setTop (mkF m 29 #[.val (.int p0), .val (.int p1), .val (.int p2), .val (.int p3), .val (.int p4), .val (.int z1), .unset, .unset, .unset, .unset, .unset, .unset, .unset, .unset, .unset, .unset, .unset, .unset] [(.int p4)])) _
        refine XS.iconst X0.here hx rfl (hb hby at_29) ?_
        show Steps p.tables e below (s₁.setTop (mkF m 30 #[.val (.int p0), .val (.int p1), .val (.int p2), .val (.int p3), .val (.int p4), .val (.int z1), .unset, .unset, .unset, .unset, .unset, .unset, .unset, .unset, .unset, .unset, .unset, .unset] [(.int (2 : Int32)), (.int p4)])) _
        refine XS.iand X0.here hx rfl (hb hby at_30) rfl ?_
        show Steps p.tables e below (s₁.setTop (mkF m 31 #[.val (.int p0), .val (.int p1), .val (.int p2), .val (.int p3), .val (.int p4), .val (.int z1), .unset, .unset, .unset, .unset, .unset, .unset, .unset, .unset, .unset, .unset, .unset, .unset] [(.int (p4 &&& (2 : Int32)))])) _
        refine XS.ifYes X0.here hx rfl (pc0 := 31) (pc' := 38) rfl (hb hby at_31) rfl ((if0 _ _).trans (teq hm6).1) (by decide) (by decide) ?_
        show Steps p.tables e below (s₁.setTop (mkF m 38 #[.val (.int p0), .val (.int p1), .val (.int p2), .val (.int p3), .val (.int p4), .val (.int z1), .unset, .unset, .unset, .unset, .unset, .unset, .unset, .unset, .unset, .unset, .unset, .unset] [])) _
        refine XS.iconst X0.here hx rfl (hb hby at_38) ?_
        exact Steps.refl _
      · simp only [if_neg hm6]
        refine s4.trans ?_
        show Steps p.tables e below (s₁.setTop (mkF m 19 #[.val (.int p0), .val (.int p1), .val (.int p2), .val (.int p3), .val (.int p4), .val (.int z1), .unset, .unset, .unset, .unset, .unset, .unset, .unset, .unset, .unset, .unset, .unset, .unset] [(.int (p4 &&& (16 : Int32)))])) _
        refine XS.ifYes X0.here hx rfl (pc0 := 19) (pc' := 27) rfl (hb hby at_19) rfl ((if0 _ _).trans (teq hm5).1) (by decide) (by decide) ?_
        show Steps p.tables e below (s₁.setTop (mkF m 27 #[.val (.int p0), .val (.int p1), .val (.int p2), .val (.int p3), .val (.int p4), .val (.int z1), .unset, .unset, .unset, .unset, .unset, .unset, .unset, .unset, .unset, .unset, .unset, .unset] [])) _
        refine XS.iload X0.here hx rfl (hb hby at_27) rfl ?_
        show Steps p.tables e below (s₁.setTop (mkF m 29 #[.val (.int p0), .val (.int p1), .val (.int p2), .val (.int p3), .val (.int p4), .val (.int z1), .unset, .unset, .unset, .unset, .unset, .unset, .unset, .unset, .unset, .unset, .unset, .unset] [(.int p4)])) _
        refine XS.iconst X0.here hx rfl (hb hby at_29) ?_
        show Steps p.tables e below (s₁.setTop (mkF m 30 #[.val (.int p0), .val (.int p1), .val (.int p2), .val (.int p3), .val (.int p4), .val (.int z1), .unset, .unset, .unset, .unset, .unset, .unset, .unset, .unset, .unset, .unset, .unset, .unset] [(.int (2 : Int32)), (.int p4)])) _
        refine XS.iand X0.here hx rfl (hb hby at_30) rfl ?_
        show Steps p.tables e below (s₁.setTop (mkF m 31 #[.val (.int p0), .val (.int p1), .val (.int p2), .val (.int p3), .val (.int p4), .val (.int z1), .unset, .unset, .unset, .unset, .unset, .unset, .unset, .unset, .unset, .unset, .unset, .unset] [(.int (p4 &&& (2 : Int32)))])) _
        refine XS.ifNo X0.here hx rfl (hb hby at_31) rfl ((if0 _ _).trans (feq hm6).1) ?_
        show Steps p.tables e below (s₁.setTop (mkF m 34 #[.val (.int p0), .val (.int p1), .val (.int p2), .val (.int p3), .val (.int p4), .val (.int z1), .unset, .unset, .unset, .unset, .unset, .unset, .unset, .unset, .unset, .unset, .unset, .unset] [])) _
        refine XS.iconst X0.here hx rfl (hb hby at_34) ?_
        show Steps p.tables e below (s₁.setTop (mkF m 35 #[.val (.int p0), .val (.int p1), .val (.int p2), .val (.int p3), .val (.int p4), .val (.int z1), .unset, .unset, .unset, .unset, .unset, .unset, .unset, .unset, .unset, .unset, .unset, .unset] [(.int (1 : Int32))])) _
        refine XS.goto X0.here hx rfl (pc0 := 35) (pc' := 39) rfl (hb hby at_35) (by decide) (by decide) ?_
        exact Steps.refl _
    · simp only [if_neg hm5]
      refine s4.trans ?_
      show Steps p.tables e below (s₁.setTop (mkF m 19 #[.val (.int p0), .val (.int p1), .val (.int p2), .val (.int p3), .val (.int p4), .val (.int z1), .unset, .unset, .unset, .unset, .unset, .unset, .unset, .unset, .unset, .unset, .unset, .unset] [(.int (p4 &&& (16 : Int32)))])) _
      refine XS.ifNo X0.here hx rfl (hb hby at_19) rfl ((if0 _ _).trans (feq hm5).1) ?_
      show Steps p.tables e below (s₁.setTop (mkF m 22 #[.val (.int p0), .val (.int p1), .val (.int p2), .val (.int p3), .val (.int p4), .val (.int z1), .unset, .unset, .unset, .unset, .unset, .unset, .unset, .unset, .unset, .unset, .unset, .unset] [])) _
      refine XS.iload X0.here hx rfl (hb hby at_22) rfl ?_
      show Steps p.tables e below (s₁.setTop (mkF m 24 #[.val (.int p0), .val (.int p1), .val (.int p2), .val (.int p3), .val (.int p4), .val (.int z1), .unset, .unset, .unset, .unset, .unset, .unset, .unset, .unset, .unset, .unset, .unset, .unset] [(.int z1)])) _
      refine XS.goto X0.here hx rfl (pc0 := 24) (pc' := 39) rfl (hb hby at_24) (by decide) (by decide) ?_
      exact Steps.refl _
  obtain ⟨z2, hz2⟩ : ∃ z, z = (if (p4 &&& (16 : Int32)) = (0 : Int32) then (if (p4 &&& (2 : Int32)) = (0 : Int32) then (0 : Int32) else (1 : Int32)) else z1) := ⟨_, rfl⟩
  rw [← hz2] at s7
  have s8 : Steps p.tables e below (s₁.setTop (entryFrame m #[(.int p0), (.int p1), (.int p2), (.int p3), (.int p4)] maxLocals)) (s₁.setTop (mkF m 45 #[.val (.int p0), .val (.int p1), .val (.int p2), .val (.int p3), .val (.int p4), .val (.int z1), .val (.int z2), .unset, .unset, .unset, .unset, .unset, .unset, .unset, .unset, .unset, .unset, .unset] [(.int (p4 &&& (4 : Int32)))])) := by
    refine s7.trans ?_
    show Steps p.tables e below (s₁.setTop (mkF m 39 #[.val (.int p0), .val (.int p1), .val (.int p2), .val (.int p3), .val (.int p4), .val (.int z1), .unset, .unset, .unset, .unset, .unset, .unset, .unset, .unset, .unset, .unset, .unset, .unset] [(.int z2)])) _
    refine XS.istore X0.here hx rfl (hb hby at_39) rfl (l' := #[.val (.int p0), .val (.int p1), .val (.int p2), .val (.int p3), .val (.int p4), .val (.int z1), .val (.int z2), .unset, .unset, .unset, .unset, .unset, .unset, .unset, .unset, .unset, .unset, .unset]) rfl ?_
    show Steps p.tables e below (s₁.setTop (mkF m 41 #[.val (.int p0), .val (.int p1), .val (.int p2), .val (.int p3), .val (.int p4), .val (.int z1), .val (.int z2), .unset, .unset, .unset, .unset, .unset, .unset, .unset, .unset, .unset, .unset, .unset] [])) _
    refine XS.iload X0.here hx rfl (hb hby at_41) rfl ?_
    show Steps p.tables e below (s₁.setTop (mkF m 43 #[.val (.int p0), .val (.int p1), .val (.int p2), .val (.int p3), .val (.int p4), .val (.int z1), .val (.int z2), .unset, .unset, .unset, .unset, .unset, .unset, .unset, .unset, .unset, .unset, .unset] [(.int p4)])) _
    refine XS.iconst X0.here hx rfl (hb hby at_43) ?_
    show Steps p.tables e below (s₁.setTop (mkF m 44 #[.val (.int p0), .val (.int p1), .val (.int p2), .val (.int p3), .val (.int p4), .val (.int z1), .val (.int z2), .unset, .unset, .unset, .unset, .unset, .unset, .unset, .unset, .unset, .unset, .unset] [(.int (4 : Int32)), (.int p4)])) _
    refine XS.iand X0.here hx rfl (hb hby at_44) rfl ?_
    exact Steps.refl _
  have s10 : Steps p.tables e below (s₁.setTop (entryFrame m #[(.int p0), (.int p1), (.int p2), (.int p3), (.int p4)] maxLocals)) (s₁.setTop (mkF m 53 #[.val (.int p0), .val (.int p1), .val (.int p2), .val (.int p3), .val (.int p4), .val (.int z1), .val (.int z2), .unset, .unset, .unset, .unset, .unset, .unset, .unset, .unset, .unset, .unset, .unset] [(.int (if (p4 &&& (4 : Int32)) = (0 : Int32) then p2 else p0))])) := by
    by_cases hm9 : (p4 &&& (4 : Int32)) = (0 : Int32)
    · simp only [if_pos hm9]
      refine s8.trans ?_
      show Steps p.tables e below (s₁.setTop (mkF m 45 #[.val (.int p0), .val (.int p1), .val (.int p2), .val (.int p3), .val (.int p4), .val (.int z1), .val (.int z2), .unset, .unset, .unset, .unset, .unset, .unset, .unset, .unset, .unset, .unset, .unset] [(.int (p4 &&& (4 : Int32)))])) _
      refine XS.ifYes X0.here hx rfl (pc0 := 45) (pc' := 52) rfl (hb hby at_45) rfl ((if0 _ _).trans (teq hm9).1) (by decide) (by decide) ?_
      show Steps p.tables e below (s₁.setTop (mkF m 52 #[.val (.int p0), .val (.int p1), .val (.int p2), .val (.int p3), .val (.int p4), .val (.int z1), .val (.int z2), .unset, .unset, .unset, .unset, .unset, .unset, .unset, .unset, .unset, .unset, .unset] [])) _
      refine XS.iloadN X0.here hx rfl (hb hby at_52) rfl ?_
      exact Steps.refl _
    · simp only [if_neg hm9]
      refine s8.trans ?_
      show Steps p.tables e below (s₁.setTop (mkF m 45 #[.val (.int p0), .val (.int p1), .val (.int p2), .val (.int p3), .val (.int p4), .val (.int z1), .val (.int z2), .unset, .unset, .unset, .unset, .unset, .unset, .unset, .unset, .unset, .unset, .unset] [(.int (p4 &&& (4 : Int32)))])) _
      refine XS.ifNo X0.here hx rfl (hb hby at_45) rfl ((if0 _ _).trans (feq hm9).1) ?_
      show Steps p.tables e below (s₁.setTop (mkF m 48 #[.val (.int p0), .val (.int p1), .val (.int p2), .val (.int p3), .val (.int p4), .val (.int z1), .val (.int z2), .unset, .unset, .unset, .unset, .unset, .unset, .unset, .unset, .unset, .unset, .unset] [])) _
      refine XS.iloadN X0.here hx rfl (hb hby at_48) rfl ?_
      show Steps p.tables e below (s₁.setTop (mkF m 49 #[.val (.int p0), .val (.int p1), .val (.int p2), .val (.int p3), .val (.int p4), .val (.int z1), .val (.int z2), .unset, .unset, .unset, .unset, .unset, .unset, .unset, .unset, .unset, .unset, .unset] [(.int p0)])) _
      refine XS.goto X0.here hx rfl (pc0 := 49) (pc' := 53) rfl (hb hby at_49) (by decide) (by decide) ?_
      exact Steps.refl _
  obtain ⟨z3, hz3⟩ : ∃ z, z = (if (p4 &&& (4 : Int32)) = (0 : Int32) then p2 else p0) := ⟨_, rfl⟩
  rw [← hz3] at s10
  have s11 : Steps p.tables e below (s₁.setTop (entryFrame m #[(.int p0), (.int p1), (.int p2), (.int p3), (.int p4)] maxLocals)) (s₁.setTop (mkF m 60 #[.val (.int p0), .val (.int p1), .val (.int p2), .val (.int p3), .val (.int p4), .val (.int z1), .val (.int z2), .val (.int z3), .unset, .unset, .unset, .unset, .unset, .unset, .unset, .unset, .unset, .unset] [(.int (p4 &&& (8 : Int32)))])) := by
    refine s10.trans ?_
    show Steps p.tables e below (s₁.setTop (mkF m 53 #[.val (.int p0), .val (.int p1), .val (.int p2), .val (.int p3), .val (.int p4), .val (.int z1), .val (.int z2), .unset, .unset, .unset, .unset, .unset, .unset, .unset, .unset, .unset, .unset, .unset] [(.int z3)])) _
    refine XS.istore X0.here hx rfl (hb hby at_53) rfl (l' := #[.val (.int p0), .val (.int p1), .val (.int p2), .val (.int p3), .val (.int p4), .val (.int z1), .val (.int z2), .val (.int z3), .unset, .unset, .unset, .unset, .unset, .unset, .unset, .unset, .unset, .unset]) rfl ?_
    show Steps p.tables e below (s₁.setTop (mkF m 55 #[.val (.int p0), .val (.int p1), .val (.int p2), .val (.int p3), .val (.int p4), .val (.int z1), .val (.int z2), .val (.int z3), .unset, .unset, .unset, .unset, .unset, .unset, .unset, .unset, .unset, .unset] [])) _
    refine XS.iload X0.here hx rfl (hb hby at_55) rfl ?_
    show Steps p.tables e below (s₁.setTop (mkF m 57 #[.val (.int p0), .val (.int p1), .val (.int p2), .val (.int p3), .val (.int p4), .val (.int z1), .val (.int z2), .val (.int z3), .unset, .unset, .unset, .unset, .unset, .unset, .unset, .unset, .unset, .unset] [(.int p4)])) _
    refine XS.bipush X0.here hx rfl (hb hby at_57) ?_
    show Steps p.tables e below (s₁.setTop (mkF m 59 #[.val (.int p0), .val (.int p1), .val (.int p2), .val (.int p3), .val (.int p4), .val (.int z1), .val (.int z2), .val (.int z3), .unset, .unset, .unset, .unset, .unset, .unset, .unset, .unset, .unset, .unset] [(.int (8 : Int32)), (.int p4)])) _
    refine XS.iand X0.here hx rfl (hb hby at_59) rfl ?_
    exact Steps.refl _
  have s13 : Steps p.tables e below (s₁.setTop (entryFrame m #[(.int p0), (.int p1), (.int p2), (.int p3), (.int p4)] maxLocals)) (s₁.setTop (mkF m 68 #[.val (.int p0), .val (.int p1), .val (.int p2), .val (.int p3), .val (.int p4), .val (.int z1), .val (.int z2), .val (.int z3), .unset, .unset, .unset, .unset, .unset, .unset, .unset, .unset, .unset, .unset] [(.int (if (p4 &&& (8 : Int32)) = (0 : Int32) then p3 else p1))])) := by
    by_cases hm12 : (p4 &&& (8 : Int32)) = (0 : Int32)
    · simp only [if_pos hm12]
      refine s11.trans ?_
      show Steps p.tables e below (s₁.setTop (mkF m 60 #[.val (.int p0), .val (.int p1), .val (.int p2), .val (.int p3), .val (.int p4), .val (.int z1), .val (.int z2), .val (.int z3), .unset, .unset, .unset, .unset, .unset, .unset, .unset, .unset, .unset, .unset] [(.int (p4 &&& (8 : Int32)))])) _
      refine XS.ifYes X0.here hx rfl (pc0 := 60) (pc' := 67) rfl (hb hby at_60) rfl ((if0 _ _).trans (teq hm12).1) (by decide) (by decide) ?_
      show Steps p.tables e below (s₁.setTop (mkF m 67 #[.val (.int p0), .val (.int p1), .val (.int p2), .val (.int p3), .val (.int p4), .val (.int z1), .val (.int z2), .val (.int z3), .unset, .unset, .unset, .unset, .unset, .unset, .unset, .unset, .unset, .unset] [])) _
      refine XS.iloadN X0.here hx rfl (hb hby at_67) rfl ?_
      exact Steps.refl _
    · simp only [if_neg hm12]
      refine s11.trans ?_
      show Steps p.tables e below (s₁.setTop (mkF m 60 #[.val (.int p0), .val (.int p1), .val (.int p2), .val (.int p3), .val (.int p4), .val (.int z1), .val (.int z2), .val (.int z3), .unset, .unset, .unset, .unset, .unset, .unset, .unset, .unset, .unset, .unset] [(.int (p4 &&& (8 : Int32)))])) _
      refine XS.ifNo X0.here hx rfl (hb hby at_60) rfl ((if0 _ _).trans (feq hm12).1) ?_
      show Steps p.tables e below (s₁.setTop (mkF m 63 #[.val (.int p0), .val (.int p1), .val (.int p2), .val (.int p3), .val (.int p4), .val (.int z1), .val (.int z2), .val (.int z3), .unset, .unset, .unset, .unset, .unset, .unset, .unset, .unset, .unset, .unset] [])) _
      refine XS.iloadN X0.here hx rfl (hb hby at_63) rfl ?_
      show Steps p.tables e below (s₁.setTop (mkF m 64 #[.val (.int p0), .val (.int p1), .val (.int p2), .val (.int p3), .val (.int p4), .val (.int z1), .val (.int z2), .val (.int z3), .unset, .unset, .unset, .unset, .unset, .unset, .unset, .unset, .unset, .unset] [(.int p1)])) _
      refine XS.goto X0.here hx rfl (pc0 := 64) (pc' := 68) rfl (hb hby at_64) (by decide) (by decide) ?_
      exact Steps.refl _
  obtain ⟨z4, hz4⟩ : ∃ z, z = (if (p4 &&& (8 : Int32)) = (0 : Int32) then p3 else p1) := ⟨_, rfl⟩
  rw [← hz4] at s13
  obtain ⟨T14, h14, X14, e14, E14, A14, D14, -, st14⟩ := newO X0 hx hZ hown (hw _ (List.mem_of_getElem? (i := 0) rfl)) (hw _ (List.mem_of_getElem? (i := 1) rfl)) (hw _ (List.mem_of_getElem? (i := 2) rfl)) e0 (g := (mkF m 70 #[.val (.int p0), .val (.int p1), .val (.int p2), .val (.int p3), .val (.int p4), .val (.int z1), .val (.int z2), .val (.int z3), .val (.int z4), .unset, .unset, .unset, .unset, .unset, .unset, .unset, .unset, .unset] [])) rfl (hb hby at_70) (by decide) (by decide)
  obtain ⟨b14, g14⟩ : ∃ z, z = h0.size := ⟨_, rfl⟩
  rw [← g14] at A14 D14 st14
  have g_b14 : n0 ≤ b14 := Nat.le_trans (Nat.le_of_eq O0.1.symm) (Nat.le_trans O0.2.1 (Nat.le_of_eq g14.symm))
  have O14 := O0.ext E14
  have F14_applied : Fld Z h14 b14 "com/example/schemactl/schemactl/Unfinished" "applied" "I" (.int (0 : Int32)) := D14 (Or.inr (hw _ (List.mem_of_getElem? (i := 15) rfl))) (ty := .int) (by decide)
  have F14_uncertain : Fld Z h14 b14 "com/example/schemactl/schemactl/Unfinished" "uncertain" "I" (.int (0 : Int32)) := D14 (Or.inr (hw _ (List.mem_of_getElem? (i := 17) rfl))) (ty := .int) (by decide)
  have F14_resumable : Fld Z h14 b14 "com/example/schemactl/schemactl/Unfinished" "resumable" "Z" (.int (0 : Int32)) := D14 (Or.inr (hw _ (List.mem_of_getElem? (i := 19) rfl))) (ty := .boolean) (by decide)
  obtain ⟨_, _, ⟨T15, L15, k15, n15⟩, -, X15, ⟨Lc15, hQ15, l15, y15, z15⟩, st15⟩ := X14.specialBack hx (y := (⟨"com/example/schemactl/schemactl/Unfinished", "<init>", "(IIZ)V"⟩ : MethodName)) rfl hown (mvT hZ (hw _ (List.mem_of_getElem? (i := 3) rfl))) (mvT hZ (hw _ (List.mem_of_getElem? (i := 4) rfl))) (mvT hZ (hw _ (List.mem_of_getElem? (i := 5) rfl))) (by decide) (backOf (W := 1) (rm1 l Z a0 hw [] b14 p0 p1 z1 h14 n0 O14 A14 F14_applied F14_uncertain F14_resumable g_b14) hZ (hw _ (List.mem_of_getElem? (i := 5) rfl)) (hw _ (List.mem_of_getElem? (i := 2) rfl)) (by decide) (by decide)) (g := (mkF m 78 #[.val (.int p0), .val (.int p1), .val (.int p2), .val (.int p3), .val (.int p4), .val (.int z1), .val (.int z2), .val (.int z3), .val (.int z4), .unset, .unset, .unset, .unset, .unset, .unset, .unset, .unset, .unset] [(.int z1), (.int p1), (.int p0), (.ref b14), (.ref b14)])) rfl (by rw [hml]; rfl) (Steps.refl _) (a := b14) (argsL := [(.int p0), (.int p1), (.int z1)]) (rest := [(.ref b14)]) (lenOf pd_rm0_0 rfl) rfl (by show 2 * 0 + _ ≤ _; exact Nat.le_of_eq rfl) (hb hby at_78) (fun _ _ => ⟨rfl, e14, (by decide : 1 + 0 ≤ _), (by decide : 3 + 0 ≤ _)⟩)
  dsimp only [Pt.U, Pt.locs, Pt.cells, Pt.slots] at X15 l15 y15 z15 st15 hQ15
  subst l15 y15 z15
  obtain ⟨rfl, Nq15, Kc15, f15_0, f15_1, f15_2, f15_3⟩ := hQ15
  have N15 := Fr.app N0 Nq15
  have O15 := O14.keep Kc15 (allS g_b14 all0)
  obtain ⟨T16, h16, X16, e16, E16, A16, D16, -, st16⟩ := newO X15 hx hZ hown (hw _ (List.mem_of_getElem? (i := 0) rfl)) (hw _ (List.mem_of_getElem? (i := 1) rfl)) (hw _ (List.mem_of_getElem? (i := 2) rfl)) (rfl : T15.heap = T15.heap) (g := (mkF m 83 #[.val (.int p0), .val (.int p1), .val (.int p2), .val (.int p3), .val (.int p4), .val (.int z1), .val (.int z2), .val (.int z3), .val (.int z4), .val (.ref b14), .unset, .unset, .unset, .unset, .unset, .unset, .unset, .unset] [])) rfl (hb hby at_83) (by decide) (by decide)
  obtain ⟨b16, g16⟩ : ∃ z, z = T15.heap.size := ⟨_, rfl⟩
  rw [← g16] at A16 D16 st16
  have ne_b14_b16 : b14 ≠ b16 := Nat.ne_of_lt (Nat.lt_of_lt_of_le f15_0.lt (Nat.le_of_eq g16.symm))
  have g_b16 : n0 ≤ b16 := Nat.le_trans (Nat.le_of_eq O15.1.symm) (Nat.le_trans O15.2.1 (Nat.le_of_eq g16.symm))
  have O16 := O15.ext E16
  have F16_applied : Fld Z h16 b16 "com/example/schemactl/schemactl/Unfinished" "applied" "I" (.int (0 : Int32)) := D16 (Or.inr (hw _ (List.mem_of_getElem? (i := 15) rfl))) (ty := .int) (by decide)
  have F16_uncertain : Fld Z h16 b16 "com/example/schemactl/schemactl/Unfinished" "uncertain" "I" (.int (0 : Int32)) := D16 (Or.inr (hw _ (List.mem_of_getElem? (i := 17) rfl))) (ty := .int) (by decide)
  have F16_resumable : Fld Z h16 b16 "com/example/schemactl/schemactl/Unfinished" "resumable" "Z" (.int (0 : Int32)) := D16 (Or.inr (hw _ (List.mem_of_getElem? (i := 19) rfl))) (ty := .boolean) (by decide)
  obtain ⟨_, _, ⟨T17, L17, k17, n17⟩, -, X17, ⟨Lc17, hQ17, l17, y17, z17⟩, st17⟩ := X16.specialBack hx (y := (⟨"com/example/schemactl/schemactl/Unfinished", "<init>", "(IIZ)V"⟩ : MethodName)) rfl hown (mvT hZ (hw _ (List.mem_of_getElem? (i := 3) rfl))) (mvT hZ (hw _ (List.mem_of_getElem? (i := 4) rfl))) (mvT hZ (hw _ (List.mem_of_getElem? (i := 5) rfl))) (by decide) (backOf (W := 1) (rm1 l Z a0 hw [] b16 z3 z4 z2 h16 n0 O16 A16 F16_applied F16_uncertain F16_resumable g_b16) hZ (hw _ (List.mem_of_getElem? (i := 5) rfl)) (hw _ (List.mem_of_getElem? (i := 2) rfl)) (by decide) (by decide)) (g := (mkF m 93 #[.val (.int p0), .val (.int p1), .val (.int p2), .val (.int p3), .val (.int p4), .val (.int z1), .val (.int z2), .val (.int z3), .val (.int z4), .val (.ref b14), .unset, .unset, .unset, .unset, .unset, .unset, .unset, .unset] [(.int z2), (.int z4), (.int z3), (.ref b16), (.ref b16)])) rfl (by rw [hml]; rfl) (Steps.refl _) (a := b16) (argsL := [(.int z3), (.int z4), (.int z2)]) (rest := [(.ref b16)]) (lenOf pd_rm0_0 rfl) rfl (by show 2 * 0 + _ ≤ _; exact Nat.le_of_eq rfl) (hb hby at_93) (fun _ _ => ⟨rfl, e16, (by decide : 2 + 0 ≤ _), (by decide : 6 + 0 ≤ _)⟩)
  dsimp only [Pt.U, Pt.locs, Pt.cells, Pt.slots] at X17 l17 y17 z17 st17 hQ17
  subst l17 y17 z17
  obtain ⟨rfl, Nq17, Kc17, f17_0, f17_1, f17_2, f17_3⟩ := hQ17
  have N17 := Fr.app N15 Nq17
  have O17 := O16.keep Kc17 (allS g_b16 all0)
  have s18 : Steps p.tables e below (s₁.setTop (entryFrame m #[(.int p0), (.int p1), (.int p2), (.int p3), (.int p4)] maxLocals)) (T17.setTop (mkF m 101 #[.val (.int p0), .val (.int p1), .val (.int p2), .val (.int p3), .val (.int p4), .val (.int z1), .val (.int z2), .val (.int z3), .val (.int z4), .val (.ref b14), .val (.ref b16), .unset, .unset, .unset, .unset, .unset, .unset, .unset] [(.int z3), (.int p0)])) := by
    refine s13.trans ?_
    show Steps p.tables e below (s₁.setTop (mkF m 68 #[.val (.int p0), .val (.int p1), .val (.int p2), .val (.int p3), .val (.int p4), .val (.int z1), .val (.int z2), .val (.int z3), .unset, .unset, .unset, .unset, .unset, .unset, .unset, .unset, .unset, .unset] [(.int z4)])) _
    refine XS.istore X0.here hx rfl (hb hby at_68) rfl (l' := #[.val (.int p0), .val (.int p1), .val (.int p2), .val (.int p3), .val (.int p4), .val (.int z1), .val (.int z2), .val (.int z3), .val (.int z4), .unset, .unset, .unset, .unset, .unset, .unset, .unset, .unset, .unset]) rfl ?_
    show Steps p.tables e below (s₁.setTop (mkF m 70 #[.val (.int p0), .val (.int p1), .val (.int p2), .val (.int p3), .val (.int p4), .val (.int z1), .val (.int z2), .val (.int z3), .val (.int z4), .unset, .unset, .unset, .unset, .unset, .unset, .unset, .unset, .unset] [])) _
    refine st14 _ ?_
    show Steps p.tables e below (T14.setTop (mkF m 73 #[.val (.int p0), .val (.int p1), .val (.int p2), .val (.int p3), .val (.int p4), .val (.int z1), .val (.int z2), .val (.int z3), .val (.int z4), .unset, .unset, .unset, .unset, .unset, .unset, .unset, .unset, .unset] [(.ref b14)])) _
    refine XS.dup X14.here hx rfl (hb hby at_73) rfl rfl ?_
    show Steps p.tables e below (T14.setTop (mkF m 74 #[.val (.int p0), .val (.int p1), .val (.int p2), .val (.int p3), .val (.int p4), .val (.int z1), .val (.int z2), .val (.int z3), .val (.int z4), .unset, .unset, .unset, .unset, .unset, .unset, .unset, .unset, .unset] [(.ref b14), (.ref b14)])) _
    refine XS.iloadN X14.here hx rfl (hb hby at_74) rfl ?_
    show Steps p.tables e below (T14.setTop (mkF m 75 #[.val (.int p0), .val (.int p1), .val (.int p2), .val (.int p3), .val (.int p4), .val (.int z1), .val (.int z2), .val (.int z3), .val (.int z4), .unset, .unset, .unset, .unset, .unset, .unset, .unset, .unset, .unset] [(.int p0), (.ref b14), (.ref b14)])) _
    refine XS.iloadN X14.here hx rfl (hb hby at_75) rfl ?_
    show Steps p.tables e below (T14.setTop (mkF m 76 #[.val (.int p0), .val (.int p1), .val (.int p2), .val (.int p3), .val (.int p4), .val (.int z1), .val (.int z2), .val (.int z3), .val (.int z4), .unset, .unset, .unset, .unset, .unset, .unset, .unset, .unset, .unset] [(.int p1), (.int p0), (.ref b14), (.ref b14)])) _
    refine XS.iload X14.here hx rfl (hb hby at_76) rfl ?_
    show Steps p.tables e below (T14.setTop (mkF m 78 #[.val (.int p0), .val (.int p1), .val (.int p2), .val (.int p3), .val (.int p4), .val (.int z1), .val (.int z2), .val (.int z3), .val (.int z4), .unset, .unset, .unset, .unset, .unset, .unset, .unset, .unset, .unset] [(.int z1), (.int p1), (.int p0), (.ref b14), (.ref b14)])) _
    refine st15.trans ?_
    show Steps p.tables e below (T15.setTop (mkF m 81 #[.val (.int p0), .val (.int p1), .val (.int p2), .val (.int p3), .val (.int p4), .val (.int z1), .val (.int z2), .val (.int z3), .val (.int z4), .unset, .unset, .unset, .unset, .unset, .unset, .unset, .unset, .unset] [(.ref b14)])) _
    refine XS.astore X15.here hx rfl (hb hby at_81) rfl rfl (l' := #[.val (.int p0), .val (.int p1), .val (.int p2), .val (.int p3), .val (.int p4), .val (.int z1), .val (.int z2), .val (.int z3), .val (.int z4), .val (.ref b14), .unset, .unset, .unset, .unset, .unset, .unset, .unset, .unset]) rfl ?_
    show Steps p.tables e below (T15.setTop (mkF m 83 #[.val (.int p0), .val (.int p1), .val (.int p2), .val (.int p3), .val (.int p4), .val (.int z1), .val (.int z2), .val (.int z3), .val (.int z4), .val (.ref b14), .unset, .unset, .unset, .unset, .unset, .unset, .unset, .unset] [])) _
    refine st16 _ ?_
    show Steps p.tables e below (T16.setTop (mkF m 86 #[.val (.int p0), .val (.int p1), .val (.int p2), .val (.int p3), .val (.int p4), .val (.int z1), .val (.int z2), .val (.int z3), .val (.int z4), .val (.ref b14), .unset, .unset, .unset, .unset, .unset, .unset, .unset, .unset] [(.ref b16)])) _
    refine XS.dup X16.here hx rfl (hb hby at_86) rfl rfl ?_
    show Steps p.tables e below (T16.setTop (mkF m 87 #[.val (.int p0), .val (.int p1), .val (.int p2), .val (.int p3), .val (.int p4), .val (.int z1), .val (.int z2), .val (.int z3), .val (.int z4), .val (.ref b14), .unset, .unset, .unset, .unset, .unset, .unset, .unset, .unset] [(.ref b16), (.ref b16)])) _
    refine XS.iload X16.here hx rfl (hb hby at_87) rfl ?_
    show Steps p.tables e below (T16.setTop (mkF m 89 #[.val (.int p0), .val (.int p1), .val (.int p2), .val (.int p3), .val (.int p4), .val (.int z1), .val (.int z2), .val (.int z3), .val (.int z4), .val (.ref b14), .unset, .unset, .unset, .unset, .unset, .unset, .unset, .unset] [(.int z3), (.ref b16), (.ref b16)])) _
    refine XS.iload X16.here hx rfl (hb hby at_89) rfl ?_
    show Steps p.tables e below (T16.setTop (mkF m 91 #[.val (.int p0), .val (.int p1), .val (.int p2), .val (.int p3), .val (.int p4), .val (.int z1), .val (.int z2), .val (.int z3), .val (.int z4), .val (.ref b14), .unset, .unset, .unset, .unset, .unset, .unset, .unset, .unset] [(.int z4), (.int z3), (.ref b16), (.ref b16)])) _
    refine XS.iload X16.here hx rfl (hb hby at_91) rfl ?_
    show Steps p.tables e below (T16.setTop (mkF m 93 #[.val (.int p0), .val (.int p1), .val (.int p2), .val (.int p3), .val (.int p4), .val (.int z1), .val (.int z2), .val (.int z3), .val (.int z4), .val (.ref b14), .unset, .unset, .unset, .unset, .unset, .unset, .unset, .unset] [(.int z2), (.int z4), (.int z3), (.ref b16), (.ref b16)])) _
    refine st17.trans ?_
    show Steps p.tables e below (T17.setTop (mkF m 96 #[.val (.int p0), .val (.int p1), .val (.int p2), .val (.int p3), .val (.int p4), .val (.int z1), .val (.int z2), .val (.int z3), .val (.int z4), .val (.ref b14), .unset, .unset, .unset, .unset, .unset, .unset, .unset, .unset] [(.ref b16)])) _
    refine XS.astore X17.here hx rfl (hb hby at_96) rfl rfl (l' := #[.val (.int p0), .val (.int p1), .val (.int p2), .val (.int p3), .val (.int p4), .val (.int z1), .val (.int z2), .val (.int z3), .val (.int z4), .val (.ref b14), .val (.ref b16), .unset, .unset, .unset, .unset, .unset, .unset, .unset]) rfl ?_
    show Steps p.tables e below (T17.setTop (mkF m 98 #[.val (.int p0), .val (.int p1), .val (.int p2), .val (.int p3), .val (.int p4), .val (.int z1), .val (.int z2), .val (.int z3), .val (.int z4), .val (.ref b14), .val (.ref b16), .unset, .unset, .unset, .unset, .unset, .unset, .unset] [])) _
    refine XS.iloadN X17.here hx rfl (hb hby at_98) rfl ?_
    show Steps p.tables e below (T17.setTop (mkF m 99 #[.val (.int p0), .val (.int p1), .val (.int p2), .val (.int p3), .val (.int p4), .val (.int z1), .val (.int z2), .val (.int z3), .val (.int z4), .val (.ref b14), .val (.ref b16), .unset, .unset, .unset, .unset, .unset, .unset, .unset] [(.int p0)])) _
    refine XS.iload X17.here hx rfl (hb hby at_99) rfl ?_
    exact Steps.refl _
  have s22 : Steps p.tables e below (s₁.setTop (entryFrame m #[(.int p0), (.int p1), (.int p2), (.int p3), (.int p4)] maxLocals)) (T17.setTop (mkF m 122 #[.val (.int p0), .val (.int p1), .val (.int p2), .val (.int p3), .val (.int p4), .val (.int z1), .val (.int z2), .val (.int z3), .val (.int z4), .val (.ref b14), .val (.ref b16), .unset, .unset, .unset, .unset, .unset, .unset, .unset] [(.int (if p0 = z3 then (if p1 = z4 then (if z1 = z2 then (1 : Int32) else (0 : Int32)) else (0 : Int32)) else (0 : Int32)))])) := by
    by_cases hm19 : p0 = z3
    · simp only [if_pos hm19]
      by_cases hm20 : p1 = z4
      · simp only [if_pos hm20]
        by_cases hm21 : z1 = z2
        · simp only [if_pos hm21]
          refine s18.trans ?_
          show Steps p.tables e below (T17.setTop (mkF m 101 #[.val (.int p0), .val (.int p1), .val (.int p2), .val (.int p3), .val (.int p4), .val (.int z1), .val (.int z2), .val (.int z3), .val (.int z4), .val (.ref b14), .val (.ref b16), .unset, .unset, .unset, .unset, .unset, .unset, .unset] [(.int z3), (.int p0)])) _
          refine XS.icmpNo X17.here hx rfl (hb hby at_101) rfl (teq hm19).2 ?_
          show Steps p.tables e below (T17.setTop (mkF m 104 #[.val (.int p0), .val (.int p1), .val (.int p2), .val (.int p3), .val (.int p4), .val (.int z1), .val (.int z2), .val (.int z3), .val (.int z4), .val (.ref b14), .val (.ref b16), .unset, .unset, .unset, .unset, .unset, .unset, .unset] [])) _
          refine XS.iloadN X17.here hx rfl (hb hby at_104) rfl ?_
          show Steps p.tables e below (T17.setTop (mkF m 105 #[.val (.int p0), .val (.int p1), .val (.int p2), .val (.int p3), .val (.int p4), .val (.int z1), .val (.int z2), .val (.int z3), .val (.int z4), .val (.ref b14), .val (.ref b16), .unset, .unset, .unset, .unset, .unset, .unset, .unset] [(.int p1)])) _
          refine XS.iload X17.here hx rfl (hb hby at_105) rfl ?_
          show Steps p.tables e below (T17.setTop (mkF m 107 #[.val (.int p0), .val (.int p1), .val (.int p2), .val (.int p3), .val (.int p4), .val (.int z1), .val (.int z2), .val (.int z3), .val (.int z4), .val (.ref b14), .val (.ref b16), .unset, .unset, .unset, .unset, .unset, .unset, .unset] [(.int z4), (.int p1)])) _
          refine XS.icmpNo X17.here hx rfl (hb hby at_107) rfl (teq hm20).2 ?_
          show Steps p.tables e below (T17.setTop (mkF m 110 #[.val (.int p0), .val (.int p1), .val (.int p2), .val (.int p3), .val (.int p4), .val (.int z1), .val (.int z2), .val (.int z3), .val (.int z4), .val (.ref b14), .val (.ref b16), .unset, .unset, .unset, .unset, .unset, .unset, .unset] [])) _
          refine XS.iload X17.here hx rfl (hb hby at_110) rfl ?_
          show Steps p.tables e below (T17.setTop (mkF m 112 #[.val (.int p0), .val (.int p1), .val (.int p2), .val (.int p3), .val (.int p4), .val (.int z1), .val (.int z2), .val (.int z3), .val (.int z4), .val (.ref b14), .val (.ref b16), .unset, .unset, .unset, .unset, .unset, .unset, .unset] [(.int z1)])) _
          refine XS.iload X17.here hx rfl (hb hby at_112) rfl ?_
          show Steps p.tables e below (T17.setTop (mkF m 114 #[.val (.int p0), .val (.int p1), .val (.int p2), .val (.int p3), .val (.int p4), .val (.int z1), .val (.int z2), .val (.int z3), .val (.int z4), .val (.ref b14), .val (.ref b16), .unset, .unset, .unset, .unset, .unset, .unset, .unset] [(.int z2), (.int z1)])) _
          refine XS.icmpNo X17.here hx rfl (hb hby at_114) rfl (teq hm21).2 ?_
          show Steps p.tables e below (T17.setTop (mkF m 117 #[.val (.int p0), .val (.int p1), .val (.int p2), .val (.int p3), .val (.int p4), .val (.int z1), .val (.int z2), .val (.int z3), .val (.int z4), .val (.ref b14), .val (.ref b16), .unset, .unset, .unset, .unset, .unset, .unset, .unset] [])) _
          refine XS.iconst X17.here hx rfl (hb hby at_117) ?_
          show Steps p.tables e below (T17.setTop (mkF m 118 #[.val (.int p0), .val (.int p1), .val (.int p2), .val (.int p3), .val (.int p4), .val (.int z1), .val (.int z2), .val (.int z3), .val (.int z4), .val (.ref b14), .val (.ref b16), .unset, .unset, .unset, .unset, .unset, .unset, .unset] [(.int (1 : Int32))])) _
          refine XS.goto X17.here hx rfl (pc0 := 118) (pc' := 122) rfl (hb hby at_118) (by decide) (by decide) ?_
          exact Steps.refl _
        · simp only [if_neg hm21]
          refine s18.trans ?_
          show Steps p.tables e below (T17.setTop (mkF m 101 #[.val (.int p0), .val (.int p1), .val (.int p2), .val (.int p3), .val (.int p4), .val (.int z1), .val (.int z2), .val (.int z3), .val (.int z4), .val (.ref b14), .val (.ref b16), .unset, .unset, .unset, .unset, .unset, .unset, .unset] [(.int z3), (.int p0)])) _
          refine XS.icmpNo X17.here hx rfl (hb hby at_101) rfl (teq hm19).2 ?_
          show Steps p.tables e below (T17.setTop (mkF m 104 #[.val (.int p0), .val (.int p1), .val (.int p2), .val (.int p3), .val (.int p4), .val (.int z1), .val (.int z2), .val (.int z3), .val (.int z4), .val (.ref b14), .val (.ref b16), .unset, .unset, .unset, .unset, .unset, .unset, .unset] [])) _
          refine XS.iloadN X17.here hx rfl (hb hby at_104) rfl ?_
          show Steps p.tables e below (T17.setTop (mkF m 105 #[.val (.int p0), .val (.int p1), .val (.int p2), .val (.int p3), .val (.int p4), .val (.int z1), .val (.int z2), .val (.int z3), .val (.int z4), .val (.ref b14), .val (.ref b16), .unset, .unset, .unset, .unset, .unset, .unset, .unset] [(.int p1)])) _
          refine XS.iload X17.here hx rfl (hb hby at_105) rfl ?_
          show Steps p.tables e below (T17.setTop (mkF m 107 #[.val (.int p0), .val (.int p1), .val (.int p2), .val (.int p3), .val (.int p4), .val (.int z1), .val (.int z2), .val (.int z3), .val (.int z4), .val (.ref b14), .val (.ref b16), .unset, .unset, .unset, .unset, .unset, .unset, .unset] [(.int z4), (.int p1)])) _
          refine XS.icmpNo X17.here hx rfl (hb hby at_107) rfl (teq hm20).2 ?_
          show Steps p.tables e below (T17.setTop (mkF m 110 #[.val (.int p0), .val (.int p1), .val (.int p2), .val (.int p3), .val (.int p4), .val (.int z1), .val (.int z2), .val (.int z3), .val (.int z4), .val (.ref b14), .val (.ref b16), .unset, .unset, .unset, .unset, .unset, .unset, .unset] [])) _
          refine XS.iload X17.here hx rfl (hb hby at_110) rfl ?_
          show Steps p.tables e below (T17.setTop (mkF m 112 #[.val (.int p0), .val (.int p1), .val (.int p2), .val (.int p3), .val (.int p4), .val (.int z1), .val (.int z2), .val (.int z3), .val (.int z4), .val (.ref b14), .val (.ref b16), .unset, .unset, .unset, .unset, .unset, .unset, .unset] [(.int z1)])) _
          refine XS.iload X17.here hx rfl (hb hby at_112) rfl ?_
          show Steps p.tables e below (T17.setTop (mkF m 114 #[.val (.int p0), .val (.int p1), .val (.int p2), .val (.int p3), .val (.int p4), .val (.int z1), .val (.int z2), .val (.int z3), .val (.int z4), .val (.ref b14), .val (.ref b16), .unset, .unset, .unset, .unset, .unset, .unset, .unset] [(.int z2), (.int z1)])) _
          refine XS.icmpYes X17.here hx rfl (pc0 := 114) (pc' := 121) rfl (hb hby at_114) rfl (feq hm21).2 (by decide) (by decide) ?_
          show Steps p.tables e below (T17.setTop (mkF m 121 #[.val (.int p0), .val (.int p1), .val (.int p2), .val (.int p3), .val (.int p4), .val (.int z1), .val (.int z2), .val (.int z3), .val (.int z4), .val (.ref b14), .val (.ref b16), .unset, .unset, .unset, .unset, .unset, .unset, .unset] [])) _
          refine XS.iconst X17.here hx rfl (hb hby at_121) ?_
          exact Steps.refl _
      · simp only [if_neg hm20]
        refine s18.trans ?_
        show Steps p.tables e below (T17.setTop (mkF m 101 #[.val (.int p0), .val (.int p1), .val (.int p2), .val (.int p3), .val (.int p4), .val (.int z1), .val (.int z2), .val (.int z3), .val (.int z4), .val (.ref b14), .val (.ref b16), .unset, .unset, .unset, .unset, .unset, .unset, .unset] [(.int z3), (.int p0)])) _
        refine XS.icmpNo X17.here hx rfl (hb hby at_101) rfl (teq hm19).2 ?_
        show Steps p.tables e below (T17.setTop (mkF m 104 #[.val (.int p0), .val (.int p1), .val (.int p2), .val (.int p3), .val (.int p4), .val (.int z1), .val (.int z2), .val (.int z3), .val (.int z4), .val (.ref b14), .val (.ref b16), .unset, .unset, .unset, .unset, .unset, .unset, .unset] [])) _
        refine XS.iloadN X17.here hx rfl (hb hby at_104) rfl ?_
        show Steps p.tables e below (T17.setTop (mkF m 105 #[.val (.int p0), .val (.int p1), .val (.int p2), .val (.int p3), .val (.int p4), .val (.int z1), .val (.int z2), .val (.int z3), .val (.int z4), .val (.ref b14), .val (.ref b16), .unset, .unset, .unset, .unset, .unset, .unset, .unset] [(.int p1)])) _
        refine XS.iload X17.here hx rfl (hb hby at_105) rfl ?_
        show Steps p.tables e below (T17.setTop (mkF m 107 #[.val (.int p0), .val (.int p1), .val (.int p2), .val (.int p3), .val (.int p4), .val (.int z1), .val (.int z2), .val (.int z3), .val (.int z4), .val (.ref b14), .val (.ref b16), .unset, .unset, .unset, .unset, .unset, .unset, .unset] [(.int z4), (.int p1)])) _
        refine XS.icmpYes X17.here hx rfl (pc0 := 107) (pc' := 121) rfl (hb hby at_107) rfl (feq hm20).2 (by decide) (by decide) ?_
        show Steps p.tables e below (T17.setTop (mkF m 121 #[.val (.int p0), .val (.int p1), .val (.int p2), .val (.int p3), .val (.int p4), .val (.int z1), .val (.int z2), .val (.int z3), .val (.int z4), .val (.ref b14), .val (.ref b16), .unset, .unset, .unset, .unset, .unset, .unset, .unset] [])) _
        refine XS.iconst X17.here hx rfl (hb hby at_121) ?_
        exact Steps.refl _
    · simp only [if_neg hm19]
      refine s18.trans ?_
      show Steps p.tables e below (T17.setTop (mkF m 101 #[.val (.int p0), .val (.int p1), .val (.int p2), .val (.int p3), .val (.int p4), .val (.int z1), .val (.int z2), .val (.int z3), .val (.int z4), .val (.ref b14), .val (.ref b16), .unset, .unset, .unset, .unset, .unset, .unset, .unset] [(.int z3), (.int p0)])) _
      refine XS.icmpYes X17.here hx rfl (pc0 := 101) (pc' := 121) rfl (hb hby at_101) rfl (feq hm19).2 (by decide) (by decide) ?_
      show Steps p.tables e below (T17.setTop (mkF m 121 #[.val (.int p0), .val (.int p1), .val (.int p2), .val (.int p3), .val (.int p4), .val (.int z1), .val (.int z2), .val (.int z3), .val (.int z4), .val (.ref b14), .val (.ref b16), .unset, .unset, .unset, .unset, .unset, .unset, .unset] [])) _
      refine XS.iconst X17.here hx rfl (hb hby at_121) ?_
      exact Steps.refl _
  obtain ⟨z5, hz5⟩ : ∃ z, z = (if p0 = z3 then (if p1 = z4 then (if z1 = z2 then (1 : Int32) else (0 : Int32)) else (0 : Int32)) else (0 : Int32)) := ⟨_, rfl⟩
  rw [← hz5] at s22
  have c23 : Fld Z T17.heap b14 "com/example/schemactl/schemactl/Unfinished" "applied" "I" (.int p0) := ((f15_1.ext E16).keep Kc17 (ninS ne_b14_b16 nin0))
  have c24 : Fld Z T17.heap b14 "com/example/schemactl/schemactl/Unfinished" "uncertain" "I" (.int p1) := ((f15_2.ext E16).keep Kc17 (ninS ne_b14_b16 nin0))
  have c25 : Fld Z T17.heap b14 "com/example/schemactl/schemactl/Unfinished" "resumable" "Z" (.int (nar .boolean z1)) := ((f15_3.ext E16).keep Kc17 (ninS ne_b14_b16 nin0))
  have c27 : Exa Z T17.heap b14 "com/example/schemactl/schemactl/Unfinished" := ((f15_0.ext E16).keep Kc17)
  obtain ⟨cq26, kq26, q26a, q26b, q26c⟩ := isOf hZ (rfl : T17.heap = T17.heap) c27
  obtain ⟨_, _, ⟨T26, L26, k26, n26⟩, -, X26, ⟨Lc26, hQ26, l26, y26, z26⟩, st26⟩ := X17.virtualBack hx (y := (⟨"com/example/schemactl/schemactl/Unfinished", "equals", "(Ljava/lang/Object;)Z"⟩ : MethodName)) (z := (⟨"com/example/schemactl/schemactl/Unfinished", "equals", "(Ljava/lang/Object;)Z"⟩ : MethodName)) hown (mvT hZ (hw _ (List.mem_of_getElem? (i := 20) rfl))) (mvT hZ (hw _ (List.mem_of_getElem? (i := 21) rfl))) (notFace_of_selects (args := #[]) (mvT hZ (hw _ (List.mem_of_getElem? (i := 23) rfl)))) (mvT hZ (hw _ (List.mem_of_getElem? (i := 23) rfl))) (mvT hZ (hw _ (List.mem_of_getElem? (i := 22) rfl))) (by decide) (backOf (W := 0) (rme l Z a0 hw [] b14 b16 p0 p1 (nar .boolean z1) z3 z4 (nar .boolean z2) T17.heap n0 O17 c23 c24 c25 f17_1 f17_2 f17_3 f17_0) hZ (hw _ (List.mem_of_getElem? (i := 24) rfl)) (hw _ (List.mem_of_getElem? (i := 2) rfl)) (by decide) (by decide)) q26a q26c (g := (mkF m 128 #[.val (.int p0), .val (.int p1), .val (.int p2), .val (.int p3), .val (.int p4), .val (.int z1), .val (.int z2), .val (.int z3), .val (.int z4), .val (.ref b14), .val (.ref b16), .val (.int z5), .unset, .unset, .unset, .unset, .unset, .unset] [(.ref b16), (.ref b14)])) rfl (by rw [hml]; rfl) (Steps.refl _) (argsL := [(.ref b16)]) (rest := []) (lenOf pd_rm0_1 rfl) rfl (by show 2 * 0 + _ ≤ _; exact Nat.le_of_eq rfl) (hb hby at_128) (fun _ _ => ⟨rfl, (rfl : T17.heap = T17.heap), (by decide : 2 + 0 ≤ _), (by decide : 6 + 0 ≤ _)⟩)
  dsimp only [Pt.U, Pt.locs, Pt.cells, Pt.slots] at X26 l26 y26 z26 st26 hQ26
  subst l26 y26 z26
  obtain ⟨rfl, Nq26, e26⟩ := hQ26
  have N26 := Fr.app N17 Nq26
  obtain ⟨cq28, kq28, q28a, q28b, q28c⟩ := isOf hZ e26 f17_0
  obtain ⟨_, _, ⟨T28, L28, k28, n28⟩, -, X28, ⟨Lc28, hQ28, l28, y28, z28⟩, st28⟩ := X26.virtualBack hx (y := (⟨"com/example/schemactl/schemactl/Unfinished", "equals", "(Ljava/lang/Object;)Z"⟩ : MethodName)) (z := (⟨"com/example/schemactl/schemactl/Unfinished", "equals", "(Ljava/lang/Object;)Z"⟩ : MethodName)) hown (mvT hZ (hw _ (List.mem_of_getElem? (i := 20) rfl))) (mvT hZ (hw _ (List.mem_of_getElem? (i := 21) rfl))) (notFace_of_selects (args := #[]) (mvT hZ (hw _ (List.mem_of_getElem? (i := 23) rfl)))) (mvT hZ (hw _ (List.mem_of_getElem? (i := 23) rfl))) (mvT hZ (hw _ (List.mem_of_getElem? (i := 22) rfl))) (by decide) (backOf (W := 0) (rme l Z a0 hw [] b16 b14 z3 z4 (nar .boolean z2) p0 p1 (nar .boolean z1) T17.heap n0 O17 f17_1 f17_2 f17_3 c23 c24 c25 c27) hZ (hw _ (List.mem_of_getElem? (i := 24) rfl)) (hw _ (List.mem_of_getElem? (i := 2) rfl)) (by decide) (by decide)) q28a q28c (g := (mkF m 137 #[.val (.int p0), .val (.int p1), .val (.int p2), .val (.int p3), .val (.int p4), .val (.int z1), .val (.int z2), .val (.int z3), .val (.int z4), .val (.ref b14), .val (.ref b16), .val (.int z5), .val (.int (own_eq p0 p1 (nar .boolean z1) z3 z4 (nar .boolean z2))), .unset, .unset, .unset, .unset, .unset] [(.ref b14), (.ref b16)])) rfl (by rw [hml]; rfl) (Steps.refl _) (argsL := [(.ref b14)]) (rest := []) (lenOf pd_rm0_1 rfl) rfl (by show 2 * 0 + _ ≤ _; exact Nat.le_of_eq rfl) (hb hby at_137) (fun _ _ => ⟨rfl, e26, (by decide : 2 + 0 ≤ _), (by decide : 6 + 0 ≤ _)⟩)
  dsimp only [Pt.U, Pt.locs, Pt.cells, Pt.slots] at X28 l28 y28 z28 st28 hQ28
  subst l28 y28 z28
  obtain ⟨rfl, Nq28, e28⟩ := hQ28
  have N28 := Fr.app N26 Nq28
  obtain ⟨cq29, kq29, q29a, q29b, q29c⟩ := isOf hZ e28 c27
  obtain ⟨_, _, ⟨T29, L29, k29, n29⟩, -, X29, ⟨Lc29, hQ29, l29, y29, z29⟩, st29⟩ := X28.virtualBack hx (y := (⟨"com/example/schemactl/schemactl/Unfinished", "equals", "(Ljava/lang/Object;)Z"⟩ : MethodName)) (z := (⟨"com/example/schemactl/schemactl/Unfinished", "equals", "(Ljava/lang/Object;)Z"⟩ : MethodName)) hown (mvT hZ (hw _ (List.mem_of_getElem? (i := 20) rfl))) (mvT hZ (hw _ (List.mem_of_getElem? (i := 21) rfl))) (notFace_of_selects (args := #[]) (mvT hZ (hw _ (List.mem_of_getElem? (i := 23) rfl)))) (mvT hZ (hw _ (List.mem_of_getElem? (i := 23) rfl))) (mvT hZ (hw _ (List.mem_of_getElem? (i := 22) rfl))) (by decide) (backOf (W := 0) (rme l Z a0 hw [] b14 b14 p0 p1 (nar .boolean z1) p0 p1 (nar .boolean z1) T17.heap n0 O17 c23 c24 c25 c23 c24 c25 c27) hZ (hw _ (List.mem_of_getElem? (i := 24) rfl)) (hw _ (List.mem_of_getElem? (i := 2) rfl)) (by decide) (by decide)) q29a q29c (g := (mkF m 146 #[.val (.int p0), .val (.int p1), .val (.int p2), .val (.int p3), .val (.int p4), .val (.int z1), .val (.int z2), .val (.int z3), .val (.int z4), .val (.ref b14), .val (.ref b16), .val (.int z5), .val (.int (own_eq p0 p1 (nar .boolean z1) z3 z4 (nar .boolean z2))), .val (.int (own_eq z3 z4 (nar .boolean z2) p0 p1 (nar .boolean z1))), .unset, .unset, .unset, .unset] [(.ref b14), (.ref b14)])) rfl (by rw [hml]; rfl) (Steps.refl _) (argsL := [(.ref b14)]) (rest := []) (lenOf pd_rm0_1 rfl) rfl (by show 2 * 0 + _ ≤ _; exact Nat.le_of_eq rfl) (hb hby at_146) (fun _ _ => ⟨rfl, e28, (by decide : 2 + 0 ≤ _), (by decide : 6 + 0 ≤ _)⟩)
  dsimp only [Pt.U, Pt.locs, Pt.cells, Pt.slots] at X29 l29 y29 z29 st29 hQ29
  subst l29 y29 z29
  obtain ⟨rfl, Nq29, e29⟩ := hQ29
  have N29 := Fr.app N28 Nq29
  obtain ⟨cq30, kq30, q30a, q30b, q30c⟩ := isOf hZ e29 c27
  obtain ⟨_, _, ⟨T30, L30, k30, n30⟩, -, X30, ⟨Lc30, hQ30, l30, y30, z30⟩, st30⟩ := X29.virtualBack hx (y := (⟨"com/example/schemactl/schemactl/Unfinished", "equals", "(Ljava/lang/Object;)Z"⟩ : MethodName)) (z := (⟨"com/example/schemactl/schemactl/Unfinished", "equals", "(Ljava/lang/Object;)Z"⟩ : MethodName)) hown (mvT hZ (hw _ (List.mem_of_getElem? (i := 20) rfl))) (mvT hZ (hw _ (List.mem_of_getElem? (i := 21) rfl))) (notFace_of_selects (args := #[]) (mvT hZ (hw _ (List.mem_of_getElem? (i := 23) rfl)))) (mvT hZ (hw _ (List.mem_of_getElem? (i := 23) rfl))) (mvT hZ (hw _ (List.mem_of_getElem? (i := 22) rfl))) (by decide) (backOf (W := 0) (rmen l Z a0 hw [] b14 T17.heap n0 O17 ) hZ (hw _ (List.mem_of_getElem? (i := 24) rfl)) (hw _ (List.mem_of_getElem? (i := 2) rfl)) (by decide) (by decide)) q30a q30c (g := (mkF m 154 #[.val (.int p0), .val (.int p1), .val (.int p2), .val (.int p3), .val (.int p4), .val (.int z1), .val (.int z2), .val (.int z3), .val (.int z4), .val (.ref b14), .val (.ref b16), .val (.int z5), .val (.int (own_eq p0 p1 (nar .boolean z1) z3 z4 (nar .boolean z2))), .val (.int (own_eq z3 z4 (nar .boolean z2) p0 p1 (nar .boolean z1))), .val (.int (own_eq p0 p1 (nar .boolean z1) p0 p1 (nar .boolean z1))), .unset, .unset, .unset] [.null, (.ref b14)])) rfl (by rw [hml]; rfl) (Steps.refl _) (argsL := [.null]) (rest := []) (lenOf pd_rm0_1 rfl) rfl (by show 2 * 0 + _ ≤ _; exact Nat.le_of_eq rfl) (hb hby at_154) (fun _ _ => ⟨rfl, e29, (by decide : 2 + 0 ≤ _), (by decide : 6 + 0 ≤ _)⟩)
  dsimp only [Pt.U, Pt.locs, Pt.cells, Pt.slots] at X30 l30 y30 z30 st30 hQ30
  subst l30 y30 z30
  obtain ⟨rfl, Nq30, e30⟩ := hQ30
  have N30 := Fr.app N29 Nq30
  obtain ⟨_, _, ⟨T31, L31, k31, n31⟩, -, X31, ⟨Lc31, hQ31, l31, y31, z31⟩, st31⟩ := Jvm.LawKit.callS X30 hx (y := (⟨"java/lang/Integer", "valueOf", "(I)Ljava/lang/Integer;"⟩ : MethodName)) hown (mvT hZ (hw _ (List.mem_of_getElem? (i := 27) rfl))) (mvT hZ (hw _ (List.mem_of_getElem? (i := 28) rfl))) (mvT hZ (hw _ (List.mem_of_getElem? (i := 29) rfl))) (mvT hZ (hw _ (List.mem_of_getElem? (i := 30) rfl))) (by decide) (backOf (W := 1) (rm5 l Z a0 hw [] p0 bc T17.heap n0 O17 F0_ F1_ F2_) hZ (hw _ (List.mem_of_getElem? (i := 30) rfl)) (hw _ (List.mem_of_getElem? (i := 29) rfl)) (by decide) (by decide)) (g := (mkF m 162 #[.val (.int p0), .val (.int p1), .val (.int p2), .val (.int p3), .val (.int p4), .val (.int z1), .val (.int z2), .val (.int z3), .val (.int z4), .val (.ref b14), .val (.ref b16), .val (.int z5), .val (.int (own_eq p0 p1 (nar .boolean z1) z3 z4 (nar .boolean z2))), .val (.int (own_eq z3 z4 (nar .boolean z2) p0 p1 (nar .boolean z1))), .val (.int (own_eq p0 p1 (nar .boolean z1) p0 p1 (nar .boolean z1))), .val (.int (0 : Int32)), .unset, .unset] [(.int p0), (.ref b14)])) rfl (by rw [hml]; rfl) (argsL := [(.int p0)]) (rest := [(.ref b14)]) (lenOf pd_rm0_2 rfl) rfl (by show 2 * 0 + _ ≤ _; exact Nat.le_of_eq rfl) (hb hby at_162) (fun _ _ => ⟨rfl, e30, (by decide : 2 + 1 ≤ _), (by decide : 6 + 1 ≤ _)⟩)
  dsimp only [Pt.U, Pt.locs, Pt.cells, Pt.slots] at X31 l31 y31 z31 st31 hQ31
  subst l31 y31 z31
  obtain ⟨u32, rfl, Nq31, Kc31, f31_0⟩ := hQ31
  have N31 := Fr.app N30 Nq31
  have O31 := O17.keep Kc31 all0
  have c34 : Exa Z T31.heap b14 "com/example/schemactl/schemactl/Unfinished" := (c27.keep Kc31)
  obtain ⟨cq33, kq33, q33a, q33b, q33c⟩ := isOf hZ (rfl : T31.heap = T31.heap) c34
  obtain ⟨_, _, ⟨T33, L33, k33, n33⟩, -, X33, ⟨Lc33, hQ33, l33, y33, z33⟩, st33⟩ := X31.virtualBack hx (y := (⟨"com/example/schemactl/schemactl/Unfinished", "equals", "(Ljava/lang/Object;)Z"⟩ : MethodName)) (z := (⟨"com/example/schemactl/schemactl/Unfinished", "equals", "(Ljava/lang/Object;)Z"⟩ : MethodName)) hown (mvT hZ (hw _ (List.mem_of_getElem? (i := 20) rfl))) (mvT hZ (hw _ (List.mem_of_getElem? (i := 21) rfl))) (notFace_of_selects (args := #[]) (mvT hZ (hw _ (List.mem_of_getElem? (i := 23) rfl)))) (mvT hZ (hw _ (List.mem_of_getElem? (i := 23) rfl))) (mvT hZ (hw _ (List.mem_of_getElem? (i := 22) rfl))) (by decide) (backOf (W := 0) (rmei l Z a0 hw [] b14 u32 T31.heap n0 O31 f31_0) hZ (hw _ (List.mem_of_getElem? (i := 24) rfl)) (hw _ (List.mem_of_getElem? (i := 2) rfl)) (by decide) (by decide)) q33a q33c (g := (mkF m 165 #[.val (.int p0), .val (.int p1), .val (.int p2), .val (.int p3), .val (.int p4), .val (.int z1), .val (.int z2), .val (.int z3), .val (.int z4), .val (.ref b14), .val (.ref b16), .val (.int z5), .val (.int (own_eq p0 p1 (nar .boolean z1) z3 z4 (nar .boolean z2))), .val (.int (own_eq z3 z4 (nar .boolean z2) p0 p1 (nar .boolean z1))), .val (.int (own_eq p0 p1 (nar .boolean z1) p0 p1 (nar .boolean z1))), .val (.int (0 : Int32)), .unset, .unset] [(.ref u32), (.ref b14)])) rfl (by rw [hml]; rfl) (Steps.refl _) (argsL := [(.ref u32)]) (rest := []) (lenOf pd_rm0_1 rfl) rfl (by show 2 * 0 + _ ≤ _; exact Nat.le_of_eq rfl) (hb hby at_165) (fun _ _ => ⟨rfl, (rfl : T31.heap = T31.heap), (by decide : 3 + 0 ≤ _), (by decide : 7 + 0 ≤ _)⟩)
  dsimp only [Pt.U, Pt.locs, Pt.cells, Pt.slots] at X33 l33 y33 z33 st33 hQ33
  subst l33 y33 z33
  obtain ⟨rfl, Nq33, e33⟩ := hQ33
  have N33 := Fr.app N31 Nq33
  have s35 : Steps p.tables e below (s₁.setTop (entryFrame m #[(.int p0), (.int p1), (.int p2), (.int p3), (.int p4)] maxLocals)) (T33.setTop (mkF m 175 #[.val (.int p0), .val (.int p1), .val (.int p2), .val (.int p3), .val (.int p4), .val (.int z1), .val (.int z2), .val (.int z3), .val (.int z4), .val (.ref b14), .val (.ref b16), .val (.int z5), .val (.int (own_eq p0 p1 (nar .boolean z1) z3 z4 (nar .boolean z2))), .val (.int (own_eq z3 z4 (nar .boolean z2) p0 p1 (nar .boolean z1))), .val (.int (own_eq p0 p1 (nar .boolean z1) p0 p1 (nar .boolean z1))), .val (.int (0 : Int32)), .val (.int (0 : Int32)), .val (.int (1 : Int32))] [(.int z5)])) := by
    refine s22.trans ?_
    show Steps p.tables e below (T17.setTop (mkF m 122 #[.val (.int p0), .val (.int p1), .val (.int p2), .val (.int p3), .val (.int p4), .val (.int z1), .val (.int z2), .val (.int z3), .val (.int z4), .val (.ref b14), .val (.ref b16), .unset, .unset, .unset, .unset, .unset, .unset, .unset] [(.int z5)])) _
    refine XS.istore X17.here hx rfl (hb hby at_122) rfl (l' := #[.val (.int p0), .val (.int p1), .val (.int p2), .val (.int p3), .val (.int p4), .val (.int z1), .val (.int z2), .val (.int z3), .val (.int z4), .val (.ref b14), .val (.ref b16), .val (.int z5), .unset, .unset, .unset, .unset, .unset, .unset]) rfl ?_
    show Steps p.tables e below (T17.setTop (mkF m 124 #[.val (.int p0), .val (.int p1), .val (.int p2), .val (.int p3), .val (.int p4), .val (.int z1), .val (.int z2), .val (.int z3), .val (.int z4), .val (.ref b14), .val (.ref b16), .val (.int z5), .unset, .unset, .unset, .unset, .unset, .unset] [])) _
    refine XS.aload X17.here hx rfl (hb hby at_124) rfl rfl ?_
    show Steps p.tables e below (T17.setTop (mkF m 126 #[.val (.int p0), .val (.int p1), .val (.int p2), .val (.int p3), .val (.int p4), .val (.int z1), .val (.int z2), .val (.int z3), .val (.int z4), .val (.ref b14), .val (.ref b16), .val (.int z5), .unset, .unset, .unset, .unset, .unset, .unset] [(.ref b14)])) _
    refine XS.aload X17.here hx rfl (hb hby at_126) rfl rfl ?_
    show Steps p.tables e below (T17.setTop (mkF m 128 #[.val (.int p0), .val (.int p1), .val (.int p2), .val (.int p3), .val (.int p4), .val (.int z1), .val (.int z2), .val (.int z3), .val (.int z4), .val (.ref b14), .val (.ref b16), .val (.int z5), .unset, .unset, .unset, .unset, .unset, .unset] [(.ref b16), (.ref b14)])) _
    refine st26.trans ?_
    show Steps p.tables e below (T26.setTop (mkF m 131 #[.val (.int p0), .val (.int p1), .val (.int p2), .val (.int p3), .val (.int p4), .val (.int z1), .val (.int z2), .val (.int z3), .val (.int z4), .val (.ref b14), .val (.ref b16), .val (.int z5), .unset, .unset, .unset, .unset, .unset, .unset] [(.int (own_eq p0 p1 (nar .boolean z1) z3 z4 (nar .boolean z2)))])) _
    refine XS.istore X26.here hx rfl (hb hby at_131) rfl (l' := #[.val (.int p0), .val (.int p1), .val (.int p2), .val (.int p3), .val (.int p4), .val (.int z1), .val (.int z2), .val (.int z3), .val (.int z4), .val (.ref b14), .val (.ref b16), .val (.int z5), .val (.int (own_eq p0 p1 (nar .boolean z1) z3 z4 (nar .boolean z2))), .unset, .unset, .unset, .unset, .unset]) rfl ?_
    show Steps p.tables e below (T26.setTop (mkF m 133 #[.val (.int p0), .val (.int p1), .val (.int p2), .val (.int p3), .val (.int p4), .val (.int z1), .val (.int z2), .val (.int z3), .val (.int z4), .val (.ref b14), .val (.ref b16), .val (.int z5), .val (.int (own_eq p0 p1 (nar .boolean z1) z3 z4 (nar .boolean z2))), .unset, .unset, .unset, .unset, .unset] [])) _
    refine XS.aload X26.here hx rfl (hb hby at_133) rfl rfl ?_
    show Steps p.tables e below (T26.setTop (mkF m 135 #[.val (.int p0), .val (.int p1), .val (.int p2), .val (.int p3), .val (.int p4), .val (.int z1), .val (.int z2), .val (.int z3), .val (.int z4), .val (.ref b14), .val (.ref b16), .val (.int z5), .val (.int (own_eq p0 p1 (nar .boolean z1) z3 z4 (nar .boolean z2))), .unset, .unset, .unset, .unset, .unset] [(.ref b16)])) _
    refine XS.aload X26.here hx rfl (hb hby at_135) rfl rfl ?_
    show Steps p.tables e below (T26.setTop (mkF m 137 #[.val (.int p0), .val (.int p1), .val (.int p2), .val (.int p3), .val (.int p4), .val (.int z1), .val (.int z2), .val (.int z3), .val (.int z4), .val (.ref b14), .val (.ref b16), .val (.int z5), .val (.int (own_eq p0 p1 (nar .boolean z1) z3 z4 (nar .boolean z2))), .unset, .unset, .unset, .unset, .unset] [(.ref b14), (.ref b16)])) _
    refine st28.trans ?_
    show Steps p.tables e below (T28.setTop (mkF m 140 #[.val (.int p0), .val (.int p1), .val (.int p2), .val (.int p3), .val (.int p4), .val (.int z1), .val (.int z2), .val (.int z3), .val (.int z4), .val (.ref b14), .val (.ref b16), .val (.int z5), .val (.int (own_eq p0 p1 (nar .boolean z1) z3 z4 (nar .boolean z2))), .unset, .unset, .unset, .unset, .unset] [(.int (own_eq z3 z4 (nar .boolean z2) p0 p1 (nar .boolean z1)))])) _
    refine XS.istore X28.here hx rfl (hb hby at_140) rfl (l' := #[.val (.int p0), .val (.int p1), .val (.int p2), .val (.int p3), .val (.int p4), .val (.int z1), .val (.int z2), .val (.int z3), .val (.int z4), .val (.ref b14), .val (.ref b16), .val (.int z5), .val (.int (own_eq p0 p1 (nar .boolean z1) z3 z4 (nar .boolean z2))), .val (.int (own_eq z3 z4 (nar .boolean z2) p0 p1 (nar .boolean z1))), .unset, .unset, .unset, .unset]) rfl ?_
    show Steps p.tables e below (T28.setTop (mkF m 142 #[.val (.int p0), .val (.int p1), .val (.int p2), .val (.int p3), .val (.int p4), .val (.int z1), .val (.int z2), .val (.int z3), .val (.int z4), .val (.ref b14), .val (.ref b16), .val (.int z5), .val (.int (own_eq p0 p1 (nar .boolean z1) z3 z4 (nar .boolean z2))), .val (.int (own_eq z3 z4 (nar .boolean z2) p0 p1 (nar .boolean z1))), .unset, .unset, .unset, .unset] [])) _
    refine XS.aload X28.here hx rfl (hb hby at_142) rfl rfl ?_
    show Steps p.tables e below (T28.setTop (mkF m 144 #[.val (.int p0), .val (.int p1), .val (.int p2), .val (.int p3), .val (.int p4), .val (.int z1), .val (.int z2), .val (.int z3), .val (.int z4), .val (.ref b14), .val (.ref b16), .val (.int z5), .val (.int (own_eq p0 p1 (nar .boolean z1) z3 z4 (nar .boolean z2))), .val (.int (own_eq z3 z4 (nar .boolean z2) p0 p1 (nar .boolean z1))), .unset, .unset, .unset, .unset] [(.ref b14)])) _
    refine XS.aload X28.here hx rfl (hb hby at_144) rfl rfl ?_
    show Steps p.tables e below (T28.setTop (mkF m 146 #[.val (.int p0), .val (.int p1), .val (.int p2), .val (.int p3), .val (.int p4), .val (.int z1), .val (.int z2), .val (.int z3), .val (.int z4), .val (.ref b14), .val (.ref b16), .val (.int z5), .val (.int (own_eq p0 p1 (nar .boolean z1) z3 z4 (nar .boolean z2))), .val (.int (own_eq z3 z4 (nar .boolean z2) p0 p1 (nar .boolean z1))), .unset, .unset, .unset, .unset] [(.ref b14), (.ref b14)])) _
    refine st29.trans ?_
    show Steps p.tables e below (T29.setTop (mkF m 149 #[.val (.int p0), .val (.int p1), .val (.int p2), .val (.int p3), .val (.int p4), .val (.int z1), .val (.int z2), .val (.int z3), .val (.int z4), .val (.ref b14), .val (.ref b16), .val (.int z5), .val (.int (own_eq p0 p1 (nar .boolean z1) z3 z4 (nar .boolean z2))), .val (.int (own_eq z3 z4 (nar .boolean z2) p0 p1 (nar .boolean z1))), .unset, .unset, .unset, .unset] [(.int (own_eq p0 p1 (nar .boolean z1) p0 p1 (nar .boolean z1)))])) _
    refine XS.istore X29.here hx rfl (hb hby at_149) rfl (l' := #[.val (.int p0), .val (.int p1), .val (.int p2), .val (.int p3), .val (.int p4), .val (.int z1), .val (.int z2), .val (.int z3), .val (.int z4), .val (.ref b14), .val (.ref b16), .val (.int z5), .val (.int (own_eq p0 p1 (nar .boolean z1) z3 z4 (nar .boolean z2))), .val (.int (own_eq z3 z4 (nar .boolean z2) p0 p1 (nar .boolean z1))), .val (.int (own_eq p0 p1 (nar .boolean z1) p0 p1 (nar .boolean z1))), .unset, .unset, .unset]) rfl ?_
    show Steps p.tables e below (T29.setTop (mkF m 151 #[.val (.int p0), .val (.int p1), .val (.int p2), .val (.int p3), .val (.int p4), .val (.int z1), .val (.int z2), .val (.int z3), .val (.int z4), .val (.ref b14), .val (.ref b16), .val (.int z5), .val (.int (own_eq p0 p1 (nar .boolean z1) z3 z4 (nar .boolean z2))), .val (.int (own_eq z3 z4 (nar .boolean z2) p0 p1 (nar .boolean z1))), .val (.int (own_eq p0 p1 (nar .boolean z1) p0 p1 (nar .boolean z1))), .unset, .unset, .unset] [])) _
    refine XS.aload X29.here hx rfl (hb hby at_151) rfl rfl ?_
    show Steps p.tables e below (T29.setTop (mkF m 153 #[.val (.int p0), .val (.int p1), .val (.int p2), .val (.int p3), .val (.int p4), .val (.int z1), .val (.int z2), .val (.int z3), .val (.int z4), .val (.ref b14), .val (.ref b16), .val (.int z5), .val (.int (own_eq p0 p1 (nar .boolean z1) z3 z4 (nar .boolean z2))), .val (.int (own_eq z3 z4 (nar .boolean z2) p0 p1 (nar .boolean z1))), .val (.int (own_eq p0 p1 (nar .boolean z1) p0 p1 (nar .boolean z1))), .unset, .unset, .unset] [(.ref b14)])) _
    refine XS.aconstNull X29.here hx rfl (hb hby at_153) ?_
    show Steps p.tables e below (T29.setTop (mkF m 154 #[.val (.int p0), .val (.int p1), .val (.int p2), .val (.int p3), .val (.int p4), .val (.int z1), .val (.int z2), .val (.int z3), .val (.int z4), .val (.ref b14), .val (.ref b16), .val (.int z5), .val (.int (own_eq p0 p1 (nar .boolean z1) z3 z4 (nar .boolean z2))), .val (.int (own_eq z3 z4 (nar .boolean z2) p0 p1 (nar .boolean z1))), .val (.int (own_eq p0 p1 (nar .boolean z1) p0 p1 (nar .boolean z1))), .unset, .unset, .unset] [.null, (.ref b14)])) _
    refine st30.trans ?_
    show Steps p.tables e below (T30.setTop (mkF m 157 #[.val (.int p0), .val (.int p1), .val (.int p2), .val (.int p3), .val (.int p4), .val (.int z1), .val (.int z2), .val (.int z3), .val (.int z4), .val (.ref b14), .val (.ref b16), .val (.int z5), .val (.int (own_eq p0 p1 (nar .boolean z1) z3 z4 (nar .boolean z2))), .val (.int (own_eq z3 z4 (nar .boolean z2) p0 p1 (nar .boolean z1))), .val (.int (own_eq p0 p1 (nar .boolean z1) p0 p1 (nar .boolean z1))), .unset, .unset, .unset] [(.int (0 : Int32))])) _
    refine XS.istore X30.here hx rfl (hb hby at_157) rfl (l' := #[.val (.int p0), .val (.int p1), .val (.int p2), .val (.int p3), .val (.int p4), .val (.int z1), .val (.int z2), .val (.int z3), .val (.int z4), .val (.ref b14), .val (.ref b16), .val (.int z5), .val (.int (own_eq p0 p1 (nar .boolean z1) z3 z4 (nar .boolean z2))), .val (.int (own_eq z3 z4 (nar .boolean z2) p0 p1 (nar .boolean z1))), .val (.int (own_eq p0 p1 (nar .boolean z1) p0 p1 (nar .boolean z1))), .val (.int (0 : Int32)), .unset, .unset]) rfl ?_
    show Steps p.tables e below (T30.setTop (mkF m 159 #[.val (.int p0), .val (.int p1), .val (.int p2), .val (.int p3), .val (.int p4), .val (.int z1), .val (.int z2), .val (.int z3), .val (.int z4), .val (.ref b14), .val (.ref b16), .val (.int z5), .val (.int (own_eq p0 p1 (nar .boolean z1) z3 z4 (nar .boolean z2))), .val (.int (own_eq z3 z4 (nar .boolean z2) p0 p1 (nar .boolean z1))), .val (.int (own_eq p0 p1 (nar .boolean z1) p0 p1 (nar .boolean z1))), .val (.int (0 : Int32)), .unset, .unset] [])) _
    refine XS.aload X30.here hx rfl (hb hby at_159) rfl rfl ?_
    show Steps p.tables e below (T30.setTop (mkF m 161 #[.val (.int p0), .val (.int p1), .val (.int p2), .val (.int p3), .val (.int p4), .val (.int z1), .val (.int z2), .val (.int z3), .val (.int z4), .val (.ref b14), .val (.ref b16), .val (.int z5), .val (.int (own_eq p0 p1 (nar .boolean z1) z3 z4 (nar .boolean z2))), .val (.int (own_eq z3 z4 (nar .boolean z2) p0 p1 (nar .boolean z1))), .val (.int (own_eq p0 p1 (nar .boolean z1) p0 p1 (nar .boolean z1))), .val (.int (0 : Int32)), .unset, .unset] [(.ref b14)])) _
    refine XS.iloadN X30.here hx rfl (hb hby at_161) rfl ?_
    show Steps p.tables e below (T30.setTop (mkF m 162 #[.val (.int p0), .val (.int p1), .val (.int p2), .val (.int p3), .val (.int p4), .val (.int z1), .val (.int z2), .val (.int z3), .val (.int z4), .val (.ref b14), .val (.ref b16), .val (.int z5), .val (.int (own_eq p0 p1 (nar .boolean z1) z3 z4 (nar .boolean z2))), .val (.int (own_eq z3 z4 (nar .boolean z2) p0 p1 (nar .boolean z1))), .val (.int (own_eq p0 p1 (nar .boolean z1) p0 p1 (nar .boolean z1))), .val (.int (0 : Int32)), .unset, .unset] [(.int p0), (.ref b14)])) _
    refine st31 _ ?_
    show Steps p.tables e below (T31.setTop (mkF m 165 #[.val (.int p0), .val (.int p1), .val (.int p2), .val (.int p3), .val (.int p4), .val (.int z1), .val (.int z2), .val (.int z3), .val (.int z4), .val (.ref b14), .val (.ref b16), .val (.int z5), .val (.int (own_eq p0 p1 (nar .boolean z1) z3 z4 (nar .boolean z2))), .val (.int (own_eq z3 z4 (nar .boolean z2) p0 p1 (nar .boolean z1))), .val (.int (own_eq p0 p1 (nar .boolean z1) p0 p1 (nar .boolean z1))), .val (.int (0 : Int32)), .unset, .unset] [(.ref u32), (.ref b14)])) _
    refine st33.trans ?_
    show Steps p.tables e below (T33.setTop (mkF m 168 #[.val (.int p0), .val (.int p1), .val (.int p2), .val (.int p3), .val (.int p4), .val (.int z1), .val (.int z2), .val (.int z3), .val (.int z4), .val (.ref b14), .val (.ref b16), .val (.int z5), .val (.int (own_eq p0 p1 (nar .boolean z1) z3 z4 (nar .boolean z2))), .val (.int (own_eq z3 z4 (nar .boolean z2) p0 p1 (nar .boolean z1))), .val (.int (own_eq p0 p1 (nar .boolean z1) p0 p1 (nar .boolean z1))), .val (.int (0 : Int32)), .unset, .unset] [(.int (0 : Int32))])) _
    refine XS.istore X33.here hx rfl (hb hby at_168) rfl (l' := #[.val (.int p0), .val (.int p1), .val (.int p2), .val (.int p3), .val (.int p4), .val (.int z1), .val (.int z2), .val (.int z3), .val (.int z4), .val (.ref b14), .val (.ref b16), .val (.int z5), .val (.int (own_eq p0 p1 (nar .boolean z1) z3 z4 (nar .boolean z2))), .val (.int (own_eq z3 z4 (nar .boolean z2) p0 p1 (nar .boolean z1))), .val (.int (own_eq p0 p1 (nar .boolean z1) p0 p1 (nar .boolean z1))), .val (.int (0 : Int32)), .val (.int (0 : Int32)), .unset]) rfl ?_
    show Steps p.tables e below (T33.setTop (mkF m 170 #[.val (.int p0), .val (.int p1), .val (.int p2), .val (.int p3), .val (.int p4), .val (.int z1), .val (.int z2), .val (.int z3), .val (.int z4), .val (.ref b14), .val (.ref b16), .val (.int z5), .val (.int (own_eq p0 p1 (nar .boolean z1) z3 z4 (nar .boolean z2))), .val (.int (own_eq z3 z4 (nar .boolean z2) p0 p1 (nar .boolean z1))), .val (.int (own_eq p0 p1 (nar .boolean z1) p0 p1 (nar .boolean z1))), .val (.int (0 : Int32)), .val (.int (0 : Int32)), .unset] [])) _
    refine XS.iconst X33.here hx rfl (hb hby at_170) ?_
    show Steps p.tables e below (T33.setTop (mkF m 171 #[.val (.int p0), .val (.int p1), .val (.int p2), .val (.int p3), .val (.int p4), .val (.int z1), .val (.int z2), .val (.int z3), .val (.int z4), .val (.ref b14), .val (.ref b16), .val (.int z5), .val (.int (own_eq p0 p1 (nar .boolean z1) z3 z4 (nar .boolean z2))), .val (.int (own_eq z3 z4 (nar .boolean z2) p0 p1 (nar .boolean z1))), .val (.int (own_eq p0 p1 (nar .boolean z1) p0 p1 (nar .boolean z1))), .val (.int (0 : Int32)), .val (.int (0 : Int32)), .unset] [(.int (1 : Int32))])) _
    refine XS.istore X33.here hx rfl (hb hby at_171) rfl (l' := #[.val (.int p0), .val (.int p1), .val (.int p2), .val (.int p3), .val (.int p4), .val (.int z1), .val (.int z2), .val (.int z3), .val (.int z4), .val (.ref b14), .val (.ref b16), .val (.int z5), .val (.int (own_eq p0 p1 (nar .boolean z1) z3 z4 (nar .boolean z2))), .val (.int (own_eq z3 z4 (nar .boolean z2) p0 p1 (nar .boolean z1))), .val (.int (own_eq p0 p1 (nar .boolean z1) p0 p1 (nar .boolean z1))), .val (.int (0 : Int32)), .val (.int (0 : Int32)), .val (.int (1 : Int32))]) rfl ?_
    show Steps p.tables e below (T33.setTop (mkF m 173 #[.val (.int p0), .val (.int p1), .val (.int p2), .val (.int p3), .val (.int p4), .val (.int z1), .val (.int z2), .val (.int z3), .val (.int z4), .val (.ref b14), .val (.ref b16), .val (.int z5), .val (.int (own_eq p0 p1 (nar .boolean z1) z3 z4 (nar .boolean z2))), .val (.int (own_eq z3 z4 (nar .boolean z2) p0 p1 (nar .boolean z1))), .val (.int (own_eq p0 p1 (nar .boolean z1) p0 p1 (nar .boolean z1))), .val (.int (0 : Int32)), .val (.int (0 : Int32)), .val (.int (1 : Int32))] [])) _
    refine XS.iload X33.here hx rfl (hb hby at_173) rfl ?_
    exact Steps.refl _
  by_cases hc36 : z5 = (0 : Int32)
  · have s37 : Steps p.tables e below (s₁.setTop (entryFrame m #[(.int p0), (.int p1), (.int p2), (.int p3), (.int p4)] maxLocals)) (T33.setTop (mkF m 237 #[.val (.int p0), .val (.int p1), .val (.int p2), .val (.int p3), .val (.int p4), .val (.int z1), .val (.int z2), .val (.int z3), .val (.int z4), .val (.ref b14), .val (.ref b16), .val (.int z5), .val (.int (own_eq p0 p1 (nar .boolean z1) z3 z4 (nar .boolean z2))), .val (.int (own_eq z3 z4 (nar .boolean z2) p0 p1 (nar .boolean z1))), .val (.int (own_eq p0 p1 (nar .boolean z1) p0 p1 (nar .boolean z1))), .val (.int (0 : Int32)), .val (.int (0 : Int32)), .val (.int (1 : Int32))] [(.int (1 : Int32))])) := by
      refine s35.trans ?_
      show Steps p.tables e below (T33.setTop (mkF m 175 #[.val (.int p0), .val (.int p1), .val (.int p2), .val (.int p3), .val (.int p4), .val (.int z1), .val (.int z2), .val (.int z3), .val (.int z4), .val (.ref b14), .val (.ref b16), .val (.int z5), .val (.int (own_eq p0 p1 (nar .boolean z1) z3 z4 (nar .boolean z2))), .val (.int (own_eq z3 z4 (nar .boolean z2) p0 p1 (nar .boolean z1))), .val (.int (own_eq p0 p1 (nar .boolean z1) p0 p1 (nar .boolean z1))), .val (.int (0 : Int32)), .val (.int (0 : Int32)), .val (.int (1 : Int32))] [(.int z5)])) _
      refine XS.ifYes X33.here hx rfl (pc0 := 175) (pc' := 198) rfl (hb hby at_175) rfl ((if0 _ _).trans (teq hc36).1) (by decide) (by decide) ?_
      show Steps p.tables e below (T33.setTop (mkF m 198 #[.val (.int p0), .val (.int p1), .val (.int p2), .val (.int p3), .val (.int p4), .val (.int z1), .val (.int z2), .val (.int z3), .val (.int z4), .val (.ref b14), .val (.ref b16), .val (.int z5), .val (.int (own_eq p0 p1 (nar .boolean z1) z3 z4 (nar .boolean z2))), .val (.int (own_eq z3 z4 (nar .boolean z2) p0 p1 (nar .boolean z1))), .val (.int (own_eq p0 p1 (nar .boolean z1) p0 p1 (nar .boolean z1))), .val (.int (0 : Int32)), .val (.int (0 : Int32)), .val (.int (1 : Int32))] [])) _
      refine XS.iload X33.here hx rfl (hb hby at_198) rfl ?_
      show Steps p.tables e below (T33.setTop (mkF m 200 #[.val (.int p0), .val (.int p1), .val (.int p2), .val (.int p3), .val (.int p4), .val (.int z1), .val (.int z2), .val (.int z3), .val (.int z4), .val (.ref b14), .val (.ref b16), .val (.int z5), .val (.int (own_eq p0 p1 (nar .boolean z1) z3 z4 (nar .boolean z2))), .val (.int (own_eq z3 z4 (nar .boolean z2) p0 p1 (nar .boolean z1))), .val (.int (own_eq p0 p1 (nar .boolean z1) p0 p1 (nar .boolean z1))), .val (.int (0 : Int32)), .val (.int (0 : Int32)), .val (.int (1 : Int32))] [(.int (own_eq p0 p1 (nar .boolean z1) z3 z4 (nar .boolean z2)))])) _
      refine XS.iload X33.here hx rfl (hb hby at_200) rfl ?_
      show Steps p.tables e below (T33.setTop (mkF m 202 #[.val (.int p0), .val (.int p1), .val (.int p2), .val (.int p3), .val (.int p4), .val (.int z1), .val (.int z2), .val (.int z3), .val (.int z4), .val (.ref b14), .val (.ref b16), .val (.int z5), .val (.int (own_eq p0 p1 (nar .boolean z1) z3 z4 (nar .boolean z2))), .val (.int (own_eq z3 z4 (nar .boolean z2) p0 p1 (nar .boolean z1))), .val (.int (own_eq p0 p1 (nar .boolean z1) p0 p1 (nar .boolean z1))), .val (.int (0 : Int32)), .val (.int (0 : Int32)), .val (.int (1 : Int32))] [(.int z5), (.int (own_eq p0 p1 (nar .boolean z1) z3 z4 (nar .boolean z2)))])) _
      refine XS.icmpNo X33.here hx rfl (hb hby at_202) rfl (teq (own_rm0_1 p0 p1 p4 z1 z2 z3 z4 z5 hz1 hz2 hz5)).2 ?_
      show Steps p.tables e below (T33.setTop (mkF m 205 #[.val (.int p0), .val (.int p1), .val (.int p2), .val (.int p3), .val (.int p4), .val (.int z1), .val (.int z2), .val (.int z3), .val (.int z4), .val (.ref b14), .val (.ref b16), .val (.int z5), .val (.int (own_eq p0 p1 (nar .boolean z1) z3 z4 (nar .boolean z2))), .val (.int (own_eq z3 z4 (nar .boolean z2) p0 p1 (nar .boolean z1))), .val (.int (own_eq p0 p1 (nar .boolean z1) p0 p1 (nar .boolean z1))), .val (.int (0 : Int32)), .val (.int (0 : Int32)), .val (.int (1 : Int32))] [])) _
      refine XS.iload X33.here hx rfl (hb hby at_205) rfl ?_
      show Steps p.tables e below (T33.setTop (mkF m 207 #[.val (.int p0), .val (.int p1), .val (.int p2), .val (.int p3), .val (.int p4), .val (.int z1), .val (.int z2), .val (.int z3), .val (.int z4), .val (.ref b14), .val (.ref b16), .val (.int z5), .val (.int (own_eq p0 p1 (nar .boolean z1) z3 z4 (nar .boolean z2))), .val (.int (own_eq z3 z4 (nar .boolean z2) p0 p1 (nar .boolean z1))), .val (.int (own_eq p0 p1 (nar .boolean z1) p0 p1 (nar .boolean z1))), .val (.int (0 : Int32)), .val (.int (0 : Int32)), .val (.int (1 : Int32))] [(.int (own_eq z3 z4 (nar .boolean z2) p0 p1 (nar .boolean z1)))])) _
      refine XS.iload X33.here hx rfl (hb hby at_207) rfl ?_
      show Steps p.tables e below (T33.setTop (mkF m 209 #[.val (.int p0), .val (.int p1), .val (.int p2), .val (.int p3), .val (.int p4), .val (.int z1), .val (.int z2), .val (.int z3), .val (.int z4), .val (.ref b14), .val (.ref b16), .val (.int z5), .val (.int (own_eq p0 p1 (nar .boolean z1) z3 z4 (nar .boolean z2))), .val (.int (own_eq z3 z4 (nar .boolean z2) p0 p1 (nar .boolean z1))), .val (.int (own_eq p0 p1 (nar .boolean z1) p0 p1 (nar .boolean z1))), .val (.int (0 : Int32)), .val (.int (0 : Int32)), .val (.int (1 : Int32))] [(.int z5), (.int (own_eq z3 z4 (nar .boolean z2) p0 p1 (nar .boolean z1)))])) _
      refine XS.icmpNo X33.here hx rfl (hb hby at_209) rfl (teq (own_rm0_2 p0 p1 p4 z1 z2 z3 z4 z5 hz1 hz2 hz5)).2 ?_
      show Steps p.tables e below (T33.setTop (mkF m 212 #[.val (.int p0), .val (.int p1), .val (.int p2), .val (.int p3), .val (.int p4), .val (.int z1), .val (.int z2), .val (.int z3), .val (.int z4), .val (.ref b14), .val (.ref b16), .val (.int z5), .val (.int (own_eq p0 p1 (nar .boolean z1) z3 z4 (nar .boolean z2))), .val (.int (own_eq z3 z4 (nar .boolean z2) p0 p1 (nar .boolean z1))), .val (.int (own_eq p0 p1 (nar .boolean z1) p0 p1 (nar .boolean z1))), .val (.int (0 : Int32)), .val (.int (0 : Int32)), .val (.int (1 : Int32))] [])) _
      refine XS.iload X33.here hx rfl (hb hby at_212) rfl ?_
      show Steps p.tables e below (T33.setTop (mkF m 214 #[.val (.int p0), .val (.int p1), .val (.int p2), .val (.int p3), .val (.int p4), .val (.int z1), .val (.int z2), .val (.int z3), .val (.int z4), .val (.ref b14), .val (.ref b16), .val (.int z5), .val (.int (own_eq p0 p1 (nar .boolean z1) z3 z4 (nar .boolean z2))), .val (.int (own_eq z3 z4 (nar .boolean z2) p0 p1 (nar .boolean z1))), .val (.int (own_eq p0 p1 (nar .boolean z1) p0 p1 (nar .boolean z1))), .val (.int (0 : Int32)), .val (.int (0 : Int32)), .val (.int (1 : Int32))] [(.int (own_eq p0 p1 (nar .boolean z1) p0 p1 (nar .boolean z1)))])) _
      refine XS.ifNo X33.here hx rfl (hb hby at_214) rfl ((if0 _ _).trans (feq (own_rm0_3 p0 p1 z1)).1) ?_
      show Steps p.tables e below (T33.setTop (mkF m 217 #[.val (.int p0), .val (.int p1), .val (.int p2), .val (.int p3), .val (.int p4), .val (.int z1), .val (.int z2), .val (.int z3), .val (.int z4), .val (.ref b14), .val (.ref b16), .val (.int z5), .val (.int (own_eq p0 p1 (nar .boolean z1) z3 z4 (nar .boolean z2))), .val (.int (own_eq z3 z4 (nar .boolean z2) p0 p1 (nar .boolean z1))), .val (.int (own_eq p0 p1 (nar .boolean z1) p0 p1 (nar .boolean z1))), .val (.int (0 : Int32)), .val (.int (0 : Int32)), .val (.int (1 : Int32))] [])) _
      refine XS.iload X33.here hx rfl (hb hby at_217) rfl ?_
      show Steps p.tables e below (T33.setTop (mkF m 219 #[.val (.int p0), .val (.int p1), .val (.int p2), .val (.int p3), .val (.int p4), .val (.int z1), .val (.int z2), .val (.int z3), .val (.int z4), .val (.ref b14), .val (.ref b16), .val (.int z5), .val (.int (own_eq p0 p1 (nar .boolean z1) z3 z4 (nar .boolean z2))), .val (.int (own_eq z3 z4 (nar .boolean z2) p0 p1 (nar .boolean z1))), .val (.int (own_eq p0 p1 (nar .boolean z1) p0 p1 (nar .boolean z1))), .val (.int (0 : Int32)), .val (.int (0 : Int32)), .val (.int (1 : Int32))] [(.int (0 : Int32))])) _
      refine XS.ifNo X33.here hx rfl (hb hby at_219) rfl ((if0 _ _).trans (teq (by decide)).2) ?_
      show Steps p.tables e below (T33.setTop (mkF m 222 #[.val (.int p0), .val (.int p1), .val (.int p2), .val (.int p3), .val (.int p4), .val (.int z1), .val (.int z2), .val (.int z3), .val (.int z4), .val (.ref b14), .val (.ref b16), .val (.int z5), .val (.int (own_eq p0 p1 (nar .boolean z1) z3 z4 (nar .boolean z2))), .val (.int (own_eq z3 z4 (nar .boolean z2) p0 p1 (nar .boolean z1))), .val (.int (own_eq p0 p1 (nar .boolean z1) p0 p1 (nar .boolean z1))), .val (.int (0 : Int32)), .val (.int (0 : Int32)), .val (.int (1 : Int32))] [])) _
      refine XS.iload X33.here hx rfl (hb hby at_222) rfl ?_
      show Steps p.tables e below (T33.setTop (mkF m 224 #[.val (.int p0), .val (.int p1), .val (.int p2), .val (.int p3), .val (.int p4), .val (.int z1), .val (.int z2), .val (.int z3), .val (.int z4), .val (.ref b14), .val (.ref b16), .val (.int z5), .val (.int (own_eq p0 p1 (nar .boolean z1) z3 z4 (nar .boolean z2))), .val (.int (own_eq z3 z4 (nar .boolean z2) p0 p1 (nar .boolean z1))), .val (.int (own_eq p0 p1 (nar .boolean z1) p0 p1 (nar .boolean z1))), .val (.int (0 : Int32)), .val (.int (0 : Int32)), .val (.int (1 : Int32))] [(.int (0 : Int32))])) _
      refine XS.ifNo X33.here hx rfl (hb hby at_224) rfl ((if0 _ _).trans (teq (by decide)).2) ?_
      show Steps p.tables e below (T33.setTop (mkF m 227 #[.val (.int p0), .val (.int p1), .val (.int p2), .val (.int p3), .val (.int p4), .val (.int z1), .val (.int z2), .val (.int z3), .val (.int z4), .val (.ref b14), .val (.ref b16), .val (.int z5), .val (.int (own_eq p0 p1 (nar .boolean z1) z3 z4 (nar .boolean z2))), .val (.int (own_eq z3 z4 (nar .boolean z2) p0 p1 (nar .boolean z1))), .val (.int (own_eq p0 p1 (nar .boolean z1) p0 p1 (nar .boolean z1))), .val (.int (0 : Int32)), .val (.int (0 : Int32)), .val (.int (1 : Int32))] [])) _
      refine XS.iload X33.here hx rfl (hb hby at_227) rfl ?_
      show Steps p.tables e below (T33.setTop (mkF m 229 #[.val (.int p0), .val (.int p1), .val (.int p2), .val (.int p3), .val (.int p4), .val (.int z1), .val (.int z2), .val (.int z3), .val (.int z4), .val (.ref b14), .val (.ref b16), .val (.int z5), .val (.int (own_eq p0 p1 (nar .boolean z1) z3 z4 (nar .boolean z2))), .val (.int (own_eq z3 z4 (nar .boolean z2) p0 p1 (nar .boolean z1))), .val (.int (own_eq p0 p1 (nar .boolean z1) p0 p1 (nar .boolean z1))), .val (.int (0 : Int32)), .val (.int (0 : Int32)), .val (.int (1 : Int32))] [(.int (1 : Int32))])) _
      refine XS.ifNo X33.here hx rfl (hb hby at_229) rfl ((if0 _ _).trans (feq (by decide)).1) ?_
      show Steps p.tables e below (T33.setTop (mkF m 232 #[.val (.int p0), .val (.int p1), .val (.int p2), .val (.int p3), .val (.int p4), .val (.int z1), .val (.int z2), .val (.int z3), .val (.int z4), .val (.ref b14), .val (.ref b16), .val (.int z5), .val (.int (own_eq p0 p1 (nar .boolean z1) z3 z4 (nar .boolean z2))), .val (.int (own_eq z3 z4 (nar .boolean z2) p0 p1 (nar .boolean z1))), .val (.int (own_eq p0 p1 (nar .boolean z1) p0 p1 (nar .boolean z1))), .val (.int (0 : Int32)), .val (.int (0 : Int32)), .val (.int (1 : Int32))] [])) _
      refine XS.iconst X33.here hx rfl (hb hby at_232) ?_
      show Steps p.tables e below (T33.setTop (mkF m 233 #[.val (.int p0), .val (.int p1), .val (.int p2), .val (.int p3), .val (.int p4), .val (.int z1), .val (.int z2), .val (.int z3), .val (.int z4), .val (.ref b14), .val (.ref b16), .val (.int z5), .val (.int (own_eq p0 p1 (nar .boolean z1) z3 z4 (nar .boolean z2))), .val (.int (own_eq z3 z4 (nar .boolean z2) p0 p1 (nar .boolean z1))), .val (.int (own_eq p0 p1 (nar .boolean z1) p0 p1 (nar .boolean z1))), .val (.int (0 : Int32)), .val (.int (0 : Int32)), .val (.int (1 : Int32))] [(.int (1 : Int32))])) _
      refine XS.goto X33.here hx rfl (pc0 := 233) (pc' := 237) rfl (hb hby at_233) (by decide) (by decide) ?_
      exact Steps.refl _
    obtain ⟨fs, hr, hrun, hended, hW, hsame⟩ := X33.leave (v := some (.int (1 : Int32))) (fun h => by rw [Bd.returns] at h; cases h)
    refine ⟨_, _, s37.trans ?_, hrun, hended, _, _, rfl, ?_, ⟨_, rfl⟩, hW, hsame.mono (by decide) (by decide)⟩
    · show Steps p.tables e below (T33.setTop (mkF m 237 #[.val (.int p0), .val (.int p1), .val (.int p2), .val (.int p3), .val (.int p4), .val (.int z1), .val (.int z2), .val (.int z3), .val (.int z4), .val (.ref b14), .val (.ref b16), .val (.int z5), .val (.int (own_eq p0 p1 (nar .boolean z1) z3 z4 (nar .boolean z2))), .val (.int (own_eq z3 z4 (nar .boolean z2) p0 p1 (nar .boolean z1))), .val (.int (own_eq p0 p1 (nar .boolean z1) p0 p1 (nar .boolean z1))), .val (.int (0 : Int32)), .val (.int (0 : Int32)), .val (.int (1 : Int32))] [(.int (1 : Int32))])) _
      exact retN X33 hx (t := .boolean) Bd.returns (by simp) (hb hby at_237) hr
    · show Q0 Z p0 p1 p2 p3 p4 bc h0 n0 _ T33.heap _
      rw [e33]
      exact ⟨rfl, N33⟩
  · have c38 : Fld Z T31.heap b14 "com/example/schemactl/schemactl/Unfinished" "applied" "I" (.int p0) := (c23.keep Kc31 nin0)
    have c39 : Fld Z T31.heap b14 "com/example/schemactl/schemactl/Unfinished" "uncertain" "I" (.int p1) := (c24.keep Kc31 nin0)
    have c40 : Fld Z T31.heap b14 "com/example/schemactl/schemactl/Unfinished" "resumable" "Z" (.int (nar .boolean z1)) := (c25.keep Kc31 nin0)
    obtain ⟨cq41, kq41, q41a, q41b, q41c⟩ := isOf hZ e33 c34
    obtain ⟨_, _, ⟨T41, L41, k41, n41⟩, -, X41, ⟨Lc41, hQ41, l41, y41, z41⟩, st41⟩ := X33.virtualBack hx (y := (⟨"com/example/schemactl/schemactl/Unfinished", "hashCode", "()I"⟩ : MethodName)) (z := (⟨"com/example/schemactl/schemactl/Unfinished", "hashCode", "()I"⟩ : MethodName)) hown (mvT hZ (hw _ (List.mem_of_getElem? (i := 52) rfl))) (mvT hZ (hw _ (List.mem_of_getElem? (i := 53) rfl))) (notFace_of_selects (args := #[]) (mvT hZ (hw _ (List.mem_of_getElem? (i := 55) rfl)))) (mvT hZ (hw _ (List.mem_of_getElem? (i := 55) rfl))) (mvT hZ (hw _ (List.mem_of_getElem? (i := 54) rfl))) (by decide) (backOf (W := 0) (rm8 l Z a0 hw [] b14 p0 p1 (nar .boolean z1) T31.heap n0 O31 c38 c39 c40) hZ (hw _ (List.mem_of_getElem? (i := 56) rfl)) (hw _ (List.mem_of_getElem? (i := 2) rfl)) (by decide) (by decide)) q41a q41c (g := (mkF m 180 #[.val (.int p0), .val (.int p1), .val (.int p2), .val (.int p3), .val (.int p4), .val (.int z1), .val (.int z2), .val (.int z3), .val (.int z4), .val (.ref b14), .val (.ref b16), .val (.int z5), .val (.int (own_eq p0 p1 (nar .boolean z1) z3 z4 (nar .boolean z2))), .val (.int (own_eq z3 z4 (nar .boolean z2) p0 p1 (nar .boolean z1))), .val (.int (own_eq p0 p1 (nar .boolean z1) p0 p1 (nar .boolean z1))), .val (.int (0 : Int32)), .val (.int (0 : Int32)), .val (.int (1 : Int32))] [(.ref b14)])) rfl (by rw [hml]; rfl) (Steps.refl _) (argsL := []) (rest := []) (lenOf pd_rm0_3 rfl) rfl (by show 2 * 0 + _ ≤ _; exact Nat.le_of_eq rfl) (hb hby at_180) (fun _ _ => ⟨rfl, e33, (by decide : 3 + 0 ≤ _), (by decide : 7 + 0 ≤ _)⟩)
    dsimp only [Pt.U, Pt.locs, Pt.cells, Pt.slots] at X41 l41 y41 z41 st41 hQ41
    subst l41 y41 z41
    obtain ⟨rfl, Nq41, e41⟩ := hQ41
    have N41 := Fr.app N33 Nq41
    have c42 : Fld Z T31.heap b16 "com/example/schemactl/schemactl/Unfinished" "applied" "I" (.int z3) := (f17_1.keep Kc31 nin0)
    have c43 : Fld Z T31.heap b16 "com/example/schemactl/schemactl/Unfinished" "uncertain" "I" (.int z4) := (f17_2.keep Kc31 nin0)
    have c44 : Fld Z T31.heap b16 "com/example/schemactl/schemactl/Unfinished" "resumable" "Z" (.int (nar .boolean z2)) := (f17_3.keep Kc31 nin0)
    have c46 : Exa Z T31.heap b16 "com/example/schemactl/schemactl/Unfinished" := (f17_0.keep Kc31)
    obtain ⟨cq45, kq45, q45a, q45b, q45c⟩ := isOf hZ e41 c46
    obtain ⟨_, _, ⟨T45, L45, k45, n45⟩, -, X45, ⟨Lc45, hQ45, l45, y45, z45⟩, st45⟩ := X41.virtualBack hx (y := (⟨"com/example/schemactl/schemactl/Unfinished", "hashCode", "()I"⟩ : MethodName)) (z := (⟨"com/example/schemactl/schemactl/Unfinished", "hashCode", "()I"⟩ : MethodName)) hown (mvT hZ (hw _ (List.mem_of_getElem? (i := 52) rfl))) (mvT hZ (hw _ (List.mem_of_getElem? (i := 53) rfl))) (notFace_of_selects (args := #[]) (mvT hZ (hw _ (List.mem_of_getElem? (i := 55) rfl)))) (mvT hZ (hw _ (List.mem_of_getElem? (i := 55) rfl))) (mvT hZ (hw _ (List.mem_of_getElem? (i := 54) rfl))) (by decide) (backOf (W := 1) (rm8 l Z a0 hw [] b16 z3 z4 (nar .boolean z2) T31.heap n0 O31 c42 c43 c44) hZ (hw _ (List.mem_of_getElem? (i := 56) rfl)) (hw _ (List.mem_of_getElem? (i := 2) rfl)) (by decide) (by decide)) q45a q45c (g := (mkF m 185 #[.val (.int p0), .val (.int p1), .val (.int p2), .val (.int p3), .val (.int p4), .val (.int z1), .val (.int z2), .val (.int z3), .val (.int z4), .val (.ref b14), .val (.ref b16), .val (.int z5), .val (.int (own_eq p0 p1 (nar .boolean z1) z3 z4 (nar .boolean z2))), .val (.int (own_eq z3 z4 (nar .boolean z2) p0 p1 (nar .boolean z1))), .val (.int (own_eq p0 p1 (nar .boolean z1) p0 p1 (nar .boolean z1))), .val (.int (0 : Int32)), .val (.int (0 : Int32)), .val (.int (1 : Int32))] [(.ref b16), (.int (own_hash p0 p1 (nar .boolean z1)))])) rfl (by rw [hml]; rfl) (Steps.refl _) (argsL := []) (rest := [(.int (own_hash p0 p1 (nar .boolean z1)))]) (lenOf pd_rm0_3 rfl) rfl (by show 2 * 0 + _ ≤ _; exact Nat.le_of_eq rfl) (hb hby at_185) (fun _ _ => ⟨rfl, e41, (by decide : 3 + 0 ≤ _), (by decide : 7 + 0 ≤ _)⟩)
    dsimp only [Pt.U, Pt.locs, Pt.cells, Pt.slots] at X45 l45 y45 z45 st45 hQ45
    subst l45 y45 z45
    obtain ⟨rfl, Nq45, e45⟩ := hQ45
    have N45 := Fr.app N41 Nq45
    have s47 : Steps p.tables e below (s₁.setTop (entryFrame m #[(.int p0), (.int p1), (.int p2), (.int p3), (.int p4)] maxLocals)) (T45.setTop (mkF m 237 #[.val (.int p0), .val (.int p1), .val (.int p2), .val (.int p3), .val (.int p4), .val (.int z1), .val (.int z2), .val (.int z3), .val (.int z4), .val (.ref b14), .val (.ref b16), .val (.int z5), .val (.int (own_eq p0 p1 (nar .boolean z1) z3 z4 (nar .boolean z2))), .val (.int (own_eq z3 z4 (nar .boolean z2) p0 p1 (nar .boolean z1))), .val (.int (own_eq p0 p1 (nar .boolean z1) p0 p1 (nar .boolean z1))), .val (.int (0 : Int32)), .val (.int (0 : Int32)), .val (.int (1 : Int32))] [(.int (1 : Int32))])) := by
      refine s35.trans ?_
      show Steps p.tables e below (T33.setTop (mkF m 175 #[.val (.int p0), .val (.int p1), .val (.int p2), .val (.int p3), .val (.int p4), .val (.int z1), .val (.int z2), .val (.int z3), .val (.int z4), .val (.ref b14), .val (.ref b16), .val (.int z5), .val (.int (own_eq p0 p1 (nar .boolean z1) z3 z4 (nar .boolean z2))), .val (.int (own_eq z3 z4 (nar .boolean z2) p0 p1 (nar .boolean z1))), .val (.int (own_eq p0 p1 (nar .boolean z1) p0 p1 (nar .boolean z1))), .val (.int (0 : Int32)), .val (.int (0 : Int32)), .val (.int (1 : Int32))] [(.int z5)])) _
      refine XS.ifNo X33.here hx rfl (hb hby at_175) rfl ((if0 _ _).trans (feq hc36).1) ?_
      show Steps p.tables e below (T33.setTop (mkF m 178 #[.val (.int p0), .val (.int p1), .val (.int p2), .val (.int p3), .val (.int p4), .val (.int z1), .val (.int z2), .val (.int z3), .val (.int z4), .val (.ref b14), .val (.ref b16), .val (.int z5), .val (.int (own_eq p0 p1 (nar .boolean z1) z3 z4 (nar .boolean z2))), .val (.int (own_eq z3 z4 (nar .boolean z2) p0 p1 (nar .boolean z1))), .val (.int (own_eq p0 p1 (nar .boolean z1) p0 p1 (nar .boolean z1))), .val (.int (0 : Int32)), .val (.int (0 : Int32)), .val (.int (1 : Int32))] [])) _
      refine XS.aload X33.here hx rfl (hb hby at_178) rfl rfl ?_
      show Steps p.tables e below (T33.setTop (mkF m 180 #[.val (.int p0), .val (.int p1), .val (.int p2), .val (.int p3), .val (.int p4), .val (.int z1), .val (.int z2), .val (.int z3), .val (.int z4), .val (.ref b14), .val (.ref b16), .val (.int z5), .val (.int (own_eq p0 p1 (nar .boolean z1) z3 z4 (nar .boolean z2))), .val (.int (own_eq z3 z4 (nar .boolean z2) p0 p1 (nar .boolean z1))), .val (.int (own_eq p0 p1 (nar .boolean z1) p0 p1 (nar .boolean z1))), .val (.int (0 : Int32)), .val (.int (0 : Int32)), .val (.int (1 : Int32))] [(.ref b14)])) _
      refine st41.trans ?_
      show Steps p.tables e below (T41.setTop (mkF m 183 #[.val (.int p0), .val (.int p1), .val (.int p2), .val (.int p3), .val (.int p4), .val (.int z1), .val (.int z2), .val (.int z3), .val (.int z4), .val (.ref b14), .val (.ref b16), .val (.int z5), .val (.int (own_eq p0 p1 (nar .boolean z1) z3 z4 (nar .boolean z2))), .val (.int (own_eq z3 z4 (nar .boolean z2) p0 p1 (nar .boolean z1))), .val (.int (own_eq p0 p1 (nar .boolean z1) p0 p1 (nar .boolean z1))), .val (.int (0 : Int32)), .val (.int (0 : Int32)), .val (.int (1 : Int32))] [(.int (own_hash p0 p1 (nar .boolean z1)))])) _
      refine XS.aload X41.here hx rfl (hb hby at_183) rfl rfl ?_
      show Steps p.tables e below (T41.setTop (mkF m 185 #[.val (.int p0), .val (.int p1), .val (.int p2), .val (.int p3), .val (.int p4), .val (.int z1), .val (.int z2), .val (.int z3), .val (.int z4), .val (.ref b14), .val (.ref b16), .val (.int z5), .val (.int (own_eq p0 p1 (nar .boolean z1) z3 z4 (nar .boolean z2))), .val (.int (own_eq z3 z4 (nar .boolean z2) p0 p1 (nar .boolean z1))), .val (.int (own_eq p0 p1 (nar .boolean z1) p0 p1 (nar .boolean z1))), .val (.int (0 : Int32)), .val (.int (0 : Int32)), .val (.int (1 : Int32))] [(.ref b16), (.int (own_hash p0 p1 (nar .boolean z1)))])) _
      refine st45.trans ?_
      show Steps p.tables e below (T45.setTop (mkF m 188 #[.val (.int p0), .val (.int p1), .val (.int p2), .val (.int p3), .val (.int p4), .val (.int z1), .val (.int z2), .val (.int z3), .val (.int z4), .val (.ref b14), .val (.ref b16), .val (.int z5), .val (.int (own_eq p0 p1 (nar .boolean z1) z3 z4 (nar .boolean z2))), .val (.int (own_eq z3 z4 (nar .boolean z2) p0 p1 (nar .boolean z1))), .val (.int (own_eq p0 p1 (nar .boolean z1) p0 p1 (nar .boolean z1))), .val (.int (0 : Int32)), .val (.int (0 : Int32)), .val (.int (1 : Int32))] [(.int (own_hash z3 z4 (nar .boolean z2))), (.int (own_hash p0 p1 (nar .boolean z1)))])) _
      refine XS.icmpNo X45.here hx rfl (hb hby at_188) rfl (teq (own_rm0_4 p0 p1 p4 z1 z2 z3 z4 z5 hz1 hz2 hz5 hc36)).2 ?_
      show Steps p.tables e below (T45.setTop (mkF m 191 #[.val (.int p0), .val (.int p1), .val (.int p2), .val (.int p3), .val (.int p4), .val (.int z1), .val (.int z2), .val (.int z3), .val (.int z4), .val (.ref b14), .val (.ref b16), .val (.int z5), .val (.int (own_eq p0 p1 (nar .boolean z1) z3 z4 (nar .boolean z2))), .val (.int (own_eq z3 z4 (nar .boolean z2) p0 p1 (nar .boolean z1))), .val (.int (own_eq p0 p1 (nar .boolean z1) p0 p1 (nar .boolean z1))), .val (.int (0 : Int32)), .val (.int (0 : Int32)), .val (.int (1 : Int32))] [])) _
      refine XS.iconst X45.here hx rfl (hb hby at_191) ?_
      show Steps p.tables e below (T45.setTop (mkF m 192 #[.val (.int p0), .val (.int p1), .val (.int p2), .val (.int p3), .val (.int p4), .val (.int z1), .val (.int z2), .val (.int z3), .val (.int z4), .val (.ref b14), .val (.ref b16), .val (.int z5), .val (.int (own_eq p0 p1 (nar .boolean z1) z3 z4 (nar .boolean z2))), .val (.int (own_eq z3 z4 (nar .boolean z2) p0 p1 (nar .boolean z1))), .val (.int (own_eq p0 p1 (nar .boolean z1) p0 p1 (nar .boolean z1))), .val (.int (0 : Int32)), .val (.int (0 : Int32)), .val (.int (1 : Int32))] [(.int (1 : Int32))])) _
      refine XS.goto X45.here hx rfl (pc0 := 192) (pc' := 196) rfl (hb hby at_192) (by decide) (by decide) ?_
      show Steps p.tables e below (T45.setTop (mkF m 196 #[.val (.int p0), .val (.int p1), .val (.int p2), .val (.int p3), .val (.int p4), .val (.int z1), .val (.int z2), .val (.int z3), .val (.int z4), .val (.ref b14), .val (.ref b16), .val (.int z5), .val (.int (own_eq p0 p1 (nar .boolean z1) z3 z4 (nar .boolean z2))), .val (.int (own_eq z3 z4 (nar .boolean z2) p0 p1 (nar .boolean z1))), .val (.int (own_eq p0 p1 (nar .boolean z1) p0 p1 (nar .boolean z1))), .val (.int (0 : Int32)), .val (.int (0 : Int32)), .val (.int (1 : Int32))] [(.int (1 : Int32))])) _
      refine XS.istore X45.here hx rfl (hb hby at_196) rfl (l' := #[.val (.int p0), .val (.int p1), .val (.int p2), .val (.int p3), .val (.int p4), .val (.int z1), .val (.int z2), .val (.int z3), .val (.int z4), .val (.ref b14), .val (.ref b16), .val (.int z5), .val (.int (own_eq p0 p1 (nar .boolean z1) z3 z4 (nar .boolean z2))), .val (.int (own_eq z3 z4 (nar .boolean z2) p0 p1 (nar .boolean z1))), .val (.int (own_eq p0 p1 (nar .boolean z1) p0 p1 (nar .boolean z1))), .val (.int (0 : Int32)), .val (.int (0 : Int32)), .val (.int (1 : Int32))]) rfl ?_
      show Steps p.tables e below (T45.setTop (mkF m 198 #[.val (.int p0), .val (.int p1), .val (.int p2), .val (.int p3), .val (.int p4), .val (.int z1), .val (.int z2), .val (.int z3), .val (.int z4), .val (.ref b14), .val (.ref b16), .val (.int z5), .val (.int (own_eq p0 p1 (nar .boolean z1) z3 z4 (nar .boolean z2))), .val (.int (own_eq z3 z4 (nar .boolean z2) p0 p1 (nar .boolean z1))), .val (.int (own_eq p0 p1 (nar .boolean z1) p0 p1 (nar .boolean z1))), .val (.int (0 : Int32)), .val (.int (0 : Int32)), .val (.int (1 : Int32))] [])) _
      refine XS.iload X45.here hx rfl (hb hby at_198) rfl ?_
      show Steps p.tables e below (T45.setTop (mkF m 200 #[.val (.int p0), .val (.int p1), .val (.int p2), .val (.int p3), .val (.int p4), .val (.int z1), .val (.int z2), .val (.int z3), .val (.int z4), .val (.ref b14), .val (.ref b16), .val (.int z5), .val (.int (own_eq p0 p1 (nar .boolean z1) z3 z4 (nar .boolean z2))), .val (.int (own_eq z3 z4 (nar .boolean z2) p0 p1 (nar .boolean z1))), .val (.int (own_eq p0 p1 (nar .boolean z1) p0 p1 (nar .boolean z1))), .val (.int (0 : Int32)), .val (.int (0 : Int32)), .val (.int (1 : Int32))] [(.int (own_eq p0 p1 (nar .boolean z1) z3 z4 (nar .boolean z2)))])) _
      refine XS.iload X45.here hx rfl (hb hby at_200) rfl ?_
      show Steps p.tables e below (T45.setTop (mkF m 202 #[.val (.int p0), .val (.int p1), .val (.int p2), .val (.int p3), .val (.int p4), .val (.int z1), .val (.int z2), .val (.int z3), .val (.int z4), .val (.ref b14), .val (.ref b16), .val (.int z5), .val (.int (own_eq p0 p1 (nar .boolean z1) z3 z4 (nar .boolean z2))), .val (.int (own_eq z3 z4 (nar .boolean z2) p0 p1 (nar .boolean z1))), .val (.int (own_eq p0 p1 (nar .boolean z1) p0 p1 (nar .boolean z1))), .val (.int (0 : Int32)), .val (.int (0 : Int32)), .val (.int (1 : Int32))] [(.int z5), (.int (own_eq p0 p1 (nar .boolean z1) z3 z4 (nar .boolean z2)))])) _
      refine XS.icmpNo X45.here hx rfl (hb hby at_202) rfl (teq (own_rm0_5 p0 p1 p4 z1 z2 z3 z4 z5 hz1 hz2 hz5)).2 ?_
      show Steps p.tables e below (T45.setTop (mkF m 205 #[.val (.int p0), .val (.int p1), .val (.int p2), .val (.int p3), .val (.int p4), .val (.int z1), .val (.int z2), .val (.int z3), .val (.int z4), .val (.ref b14), .val (.ref b16), .val (.int z5), .val (.int (own_eq p0 p1 (nar .boolean z1) z3 z4 (nar .boolean z2))), .val (.int (own_eq z3 z4 (nar .boolean z2) p0 p1 (nar .boolean z1))), .val (.int (own_eq p0 p1 (nar .boolean z1) p0 p1 (nar .boolean z1))), .val (.int (0 : Int32)), .val (.int (0 : Int32)), .val (.int (1 : Int32))] [])) _
      refine XS.iload X45.here hx rfl (hb hby at_205) rfl ?_
      show Steps p.tables e below (T45.setTop (mkF m 207 #[.val (.int p0), .val (.int p1), .val (.int p2), .val (.int p3), .val (.int p4), .val (.int z1), .val (.int z2), .val (.int z3), .val (.int z4), .val (.ref b14), .val (.ref b16), .val (.int z5), .val (.int (own_eq p0 p1 (nar .boolean z1) z3 z4 (nar .boolean z2))), .val (.int (own_eq z3 z4 (nar .boolean z2) p0 p1 (nar .boolean z1))), .val (.int (own_eq p0 p1 (nar .boolean z1) p0 p1 (nar .boolean z1))), .val (.int (0 : Int32)), .val (.int (0 : Int32)), .val (.int (1 : Int32))] [(.int (own_eq z3 z4 (nar .boolean z2) p0 p1 (nar .boolean z1)))])) _
      refine XS.iload X45.here hx rfl (hb hby at_207) rfl ?_
      show Steps p.tables e below (T45.setTop (mkF m 209 #[.val (.int p0), .val (.int p1), .val (.int p2), .val (.int p3), .val (.int p4), .val (.int z1), .val (.int z2), .val (.int z3), .val (.int z4), .val (.ref b14), .val (.ref b16), .val (.int z5), .val (.int (own_eq p0 p1 (nar .boolean z1) z3 z4 (nar .boolean z2))), .val (.int (own_eq z3 z4 (nar .boolean z2) p0 p1 (nar .boolean z1))), .val (.int (own_eq p0 p1 (nar .boolean z1) p0 p1 (nar .boolean z1))), .val (.int (0 : Int32)), .val (.int (0 : Int32)), .val (.int (1 : Int32))] [(.int z5), (.int (own_eq z3 z4 (nar .boolean z2) p0 p1 (nar .boolean z1)))])) _
      refine XS.icmpNo X45.here hx rfl (hb hby at_209) rfl (teq (own_rm0_6 p0 p1 p4 z1 z2 z3 z4 z5 hz1 hz2 hz5)).2 ?_
      show Steps p.tables e below (T45.setTop (mkF m 212 #[.val (.int p0), .val (.int p1), .val (.int p2), .val (.int p3), .val (.int p4), .val (.int z1), .val (.int z2), .val (.int z3), .val (.int z4), .val (.ref b14), .val (.ref b16), .val (.int z5), .val (.int (own_eq p0 p1 (nar .boolean z1) z3 z4 (nar .boolean z2))), .val (.int (own_eq z3 z4 (nar .boolean z2) p0 p1 (nar .boolean z1))), .val (.int (own_eq p0 p1 (nar .boolean z1) p0 p1 (nar .boolean z1))), .val (.int (0 : Int32)), .val (.int (0 : Int32)), .val (.int (1 : Int32))] [])) _
      refine XS.iload X45.here hx rfl (hb hby at_212) rfl ?_
      show Steps p.tables e below (T45.setTop (mkF m 214 #[.val (.int p0), .val (.int p1), .val (.int p2), .val (.int p3), .val (.int p4), .val (.int z1), .val (.int z2), .val (.int z3), .val (.int z4), .val (.ref b14), .val (.ref b16), .val (.int z5), .val (.int (own_eq p0 p1 (nar .boolean z1) z3 z4 (nar .boolean z2))), .val (.int (own_eq z3 z4 (nar .boolean z2) p0 p1 (nar .boolean z1))), .val (.int (own_eq p0 p1 (nar .boolean z1) p0 p1 (nar .boolean z1))), .val (.int (0 : Int32)), .val (.int (0 : Int32)), .val (.int (1 : Int32))] [(.int (own_eq p0 p1 (nar .boolean z1) p0 p1 (nar .boolean z1)))])) _
      refine XS.ifNo X45.here hx rfl (hb hby at_214) rfl ((if0 _ _).trans (feq (own_rm0_7 p0 p1 z1)).1) ?_
      show Steps p.tables e below (T45.setTop (mkF m 217 #[.val (.int p0), .val (.int p1), .val (.int p2), .val (.int p3), .val (.int p4), .val (.int z1), .val (.int z2), .val (.int z3), .val (.int z4), .val (.ref b14), .val (.ref b16), .val (.int z5), .val (.int (own_eq p0 p1 (nar .boolean z1) z3 z4 (nar .boolean z2))), .val (.int (own_eq z3 z4 (nar .boolean z2) p0 p1 (nar .boolean z1))), .val (.int (own_eq p0 p1 (nar .boolean z1) p0 p1 (nar .boolean z1))), .val (.int (0 : Int32)), .val (.int (0 : Int32)), .val (.int (1 : Int32))] [])) _
      refine XS.iload X45.here hx rfl (hb hby at_217) rfl ?_
      show Steps p.tables e below (T45.setTop (mkF m 219 #[.val (.int p0), .val (.int p1), .val (.int p2), .val (.int p3), .val (.int p4), .val (.int z1), .val (.int z2), .val (.int z3), .val (.int z4), .val (.ref b14), .val (.ref b16), .val (.int z5), .val (.int (own_eq p0 p1 (nar .boolean z1) z3 z4 (nar .boolean z2))), .val (.int (own_eq z3 z4 (nar .boolean z2) p0 p1 (nar .boolean z1))), .val (.int (own_eq p0 p1 (nar .boolean z1) p0 p1 (nar .boolean z1))), .val (.int (0 : Int32)), .val (.int (0 : Int32)), .val (.int (1 : Int32))] [(.int (0 : Int32))])) _
      refine XS.ifNo X45.here hx rfl (hb hby at_219) rfl ((if0 _ _).trans (teq (by decide)).2) ?_
      show Steps p.tables e below (T45.setTop (mkF m 222 #[.val (.int p0), .val (.int p1), .val (.int p2), .val (.int p3), .val (.int p4), .val (.int z1), .val (.int z2), .val (.int z3), .val (.int z4), .val (.ref b14), .val (.ref b16), .val (.int z5), .val (.int (own_eq p0 p1 (nar .boolean z1) z3 z4 (nar .boolean z2))), .val (.int (own_eq z3 z4 (nar .boolean z2) p0 p1 (nar .boolean z1))), .val (.int (own_eq p0 p1 (nar .boolean z1) p0 p1 (nar .boolean z1))), .val (.int (0 : Int32)), .val (.int (0 : Int32)), .val (.int (1 : Int32))] [])) _
      refine XS.iload X45.here hx rfl (hb hby at_222) rfl ?_
      show Steps p.tables e below (T45.setTop (mkF m 224 #[.val (.int p0), .val (.int p1), .val (.int p2), .val (.int p3), .val (.int p4), .val (.int z1), .val (.int z2), .val (.int z3), .val (.int z4), .val (.ref b14), .val (.ref b16), .val (.int z5), .val (.int (own_eq p0 p1 (nar .boolean z1) z3 z4 (nar .boolean z2))), .val (.int (own_eq z3 z4 (nar .boolean z2) p0 p1 (nar .boolean z1))), .val (.int (own_eq p0 p1 (nar .boolean z1) p0 p1 (nar .boolean z1))), .val (.int (0 : Int32)), .val (.int (0 : Int32)), .val (.int (1 : Int32))] [(.int (0 : Int32))])) _
      refine XS.ifNo X45.here hx rfl (hb hby at_224) rfl ((if0 _ _).trans (teq (by decide)).2) ?_
      show Steps p.tables e below (T45.setTop (mkF m 227 #[.val (.int p0), .val (.int p1), .val (.int p2), .val (.int p3), .val (.int p4), .val (.int z1), .val (.int z2), .val (.int z3), .val (.int z4), .val (.ref b14), .val (.ref b16), .val (.int z5), .val (.int (own_eq p0 p1 (nar .boolean z1) z3 z4 (nar .boolean z2))), .val (.int (own_eq z3 z4 (nar .boolean z2) p0 p1 (nar .boolean z1))), .val (.int (own_eq p0 p1 (nar .boolean z1) p0 p1 (nar .boolean z1))), .val (.int (0 : Int32)), .val (.int (0 : Int32)), .val (.int (1 : Int32))] [])) _
      refine XS.iload X45.here hx rfl (hb hby at_227) rfl ?_
      show Steps p.tables e below (T45.setTop (mkF m 229 #[.val (.int p0), .val (.int p1), .val (.int p2), .val (.int p3), .val (.int p4), .val (.int z1), .val (.int z2), .val (.int z3), .val (.int z4), .val (.ref b14), .val (.ref b16), .val (.int z5), .val (.int (own_eq p0 p1 (nar .boolean z1) z3 z4 (nar .boolean z2))), .val (.int (own_eq z3 z4 (nar .boolean z2) p0 p1 (nar .boolean z1))), .val (.int (own_eq p0 p1 (nar .boolean z1) p0 p1 (nar .boolean z1))), .val (.int (0 : Int32)), .val (.int (0 : Int32)), .val (.int (1 : Int32))] [(.int (1 : Int32))])) _
      refine XS.ifNo X45.here hx rfl (hb hby at_229) rfl ((if0 _ _).trans (feq (by decide)).1) ?_
      show Steps p.tables e below (T45.setTop (mkF m 232 #[.val (.int p0), .val (.int p1), .val (.int p2), .val (.int p3), .val (.int p4), .val (.int z1), .val (.int z2), .val (.int z3), .val (.int z4), .val (.ref b14), .val (.ref b16), .val (.int z5), .val (.int (own_eq p0 p1 (nar .boolean z1) z3 z4 (nar .boolean z2))), .val (.int (own_eq z3 z4 (nar .boolean z2) p0 p1 (nar .boolean z1))), .val (.int (own_eq p0 p1 (nar .boolean z1) p0 p1 (nar .boolean z1))), .val (.int (0 : Int32)), .val (.int (0 : Int32)), .val (.int (1 : Int32))] [])) _
      refine XS.iconst X45.here hx rfl (hb hby at_232) ?_
      show Steps p.tables e below (T45.setTop (mkF m 233 #[.val (.int p0), .val (.int p1), .val (.int p2), .val (.int p3), .val (.int p4), .val (.int z1), .val (.int z2), .val (.int z3), .val (.int z4), .val (.ref b14), .val (.ref b16), .val (.int z5), .val (.int (own_eq p0 p1 (nar .boolean z1) z3 z4 (nar .boolean z2))), .val (.int (own_eq z3 z4 (nar .boolean z2) p0 p1 (nar .boolean z1))), .val (.int (own_eq p0 p1 (nar .boolean z1) p0 p1 (nar .boolean z1))), .val (.int (0 : Int32)), .val (.int (0 : Int32)), .val (.int (1 : Int32))] [(.int (1 : Int32))])) _
      refine XS.goto X45.here hx rfl (pc0 := 233) (pc' := 237) rfl (hb hby at_233) (by decide) (by decide) ?_
      exact Steps.refl _
    obtain ⟨fs, hr, hrun, hended, hW, hsame⟩ := X45.leave (v := some (.int (1 : Int32))) (fun h => by rw [Bd.returns] at h; cases h)
    refine ⟨_, _, s47.trans ?_, hrun, hended, _, _, rfl, ?_, ⟨_, rfl⟩, hW, hsame.mono (by decide) (by decide)⟩
    · show Steps p.tables e below (T45.setTop (mkF m 237 #[.val (.int p0), .val (.int p1), .val (.int p2), .val (.int p3), .val (.int p4), .val (.int z1), .val (.int z2), .val (.int z3), .val (.int z4), .val (.ref b14), .val (.ref b16), .val (.int z5), .val (.int (own_eq p0 p1 (nar .boolean z1) z3 z4 (nar .boolean z2))), .val (.int (own_eq z3 z4 (nar .boolean z2) p0 p1 (nar .boolean z1))), .val (.int (own_eq p0 p1 (nar .boolean z1) p0 p1 (nar .boolean z1))), .val (.int (0 : Int32)), .val (.int (0 : Int32)), .val (.int (1 : Int32))] [(.int (1 : Int32))])) _
      exact retN X45 hx (t := .boolean) Bd.returns (by simp) (hb hby at_237) hr
    · show Q0 Z p0 p1 p2 p3 p4 bc h0 n0 _ T45.heap _
      rw [e45]
      exact ⟨rfl, N45⟩
set_option maxRecDepth 65536 in
set_option maxHeartbeats 40000000 in
theorem comes_1 {Post : Tables → Env → Array Value → State → Outcome → State → Prop} (hpost : ∀ tb e args s v u, (limb_1_1.after args s (.returned v) u = true ∧ limb_1_2.after args s (.returned v) u = true ∧ True) → FrameEnd s (.returned v) u (Jvm.fieldLocs frame_1_writes args s ++ Jvm.arrayLocs frame_1_arrays args s ++ Jvm.staticLocs frame_1_statics s) 16 128 → Post tb e args s (.returned v) u) :
    ArmFor flags0 classFile x code maxLocals ret World_1 tables_1 room_1 Calls_1 rest_1 Pre_1 Post := by
  intro l hfl _ _ p e ha hc hk s m args below hf hA hF happ hP
  obtain ⟨hcalls, hrest, hpre⟩ := hP
  obtain ⟨-, -, -, hnamed, -, -, -, hat⟩ := (Spec.applies_iff hf).mp happ
  obtain ⟨hg, hn⟩ := and_e (Cond.before_iff.mp (show (Jvm.Cond.and given_1 narrow_1).before args s = true from hpre))
  obtain ⟨gc, gk0⟩ := and_e hg
  obtain ⟨ga0, gk1⟩ := and_e gk0
  obtain ⟨ga1, gk2⟩ := and_e gk1
  obtain ⟨ga2, gk3⟩ := and_e gk2
  obtain ⟨ga3, gk4⟩ := and_e gk3
  obtain ⟨w0, w1, w2, w3, w4, rfl⟩ : ∃ w0 w1 w2 w3 w4 : Value, args = #[w0, w1, w2, w3, w4] := by
    have hs : args.size = 5 := by simpa [Cond.value, given_1] using gc
    obtain ⟨L⟩ := args
    match L, hs with
    | [w0, w1, w2, w3, w4], _ => exact ⟨w0, w1, w2, w3, w4, rfl⟩
  have hw := fun d (hd : d ∈ tables_1) => atoms_spec (ws := Jvm.Cond.code x code maxLocals ret :: tables_1) hat d (List.mem_cons_of_mem _ hd)
  have hfit : Fit s := fun {y c} hc i hi => by
    obtain ⟨ha, rfl⟩ := Array.getElem?_eq_some_iff.mp hc
    have q := List.all_eq_true.mp ((Array.all_eq_true_iff_forall_mem.mp hF) _ (Array.getElem_mem ha)) i (List.mem_range.mpr hi)
    simpa [Array.getElem?_eq_getElem hi] using q
  obtain ⟨hsets, hown0⟩ := atoms_of _ (rest_1_c_eq ▸ (show rest_1_c.before _ s = true from hrest))
  have hr0 := Cond.before_iff.mp hown0
  obtain ⟨i0, ei0⟩ := is_v ga0
  obtain rfl : w0 = (.int i0) := Option.some.inj ei0
  obtain ⟨i1, ei1⟩ := is_v ga1
  obtain rfl : w1 = (.int i1) := Option.some.inj ei1
  obtain ⟨i2, ei2⟩ := is_v ga2
  obtain rfl : w2 = (.int i2) := Option.some.inj ei2
  obtain ⟨i3, ei3⟩ := is_v ga3
  obtain rfl : w3 = (.int i3) := Option.some.inj ei3
  obtain ⟨i4, ei4⟩ := is_v gk4
  obtain rfl : w4 = (.int i4) := Option.some.inj ei4
  have Sh := Sta.start (own_eq_int (Cond.before_iff.mp (hsets _ (List.mem_of_getElem? (i := 3) rfl)))) (Or.inl (hsets _ (List.mem_of_getElem? (i := 1) rfl)))
  have q4 := Cond.before_iff.mp (hsets _ (List.mem_of_getElem? (i := 4) rfl))
  obtain ⟨bc, ebc⟩ := arr_v q4
  have Sc := Sta.start ebc (Or.inr ⟨(hw _ (List.mem_of_getElem? (i := 32) rfl)), hsets _ (List.mem_of_getElem? (i := 2) rfl)⟩)
  obtain ⟨ccl, Acl⟩ := Arr.start ebc q4
  have ln := own_len ebc Acl (own_eq_int (Cond.before_iff.mp (hsets _ (List.mem_of_getElem? (i := 6) rfl))))
  have hsz : ccl.slots.size = 256 := own_256 ln.1 ln.2
  have hcache : own_cache s bc := ⟨ccl, Acl, hsz, own_all (fun _ => ebc) Acl hsz (Cond.before_iff.mp (hsets _ (List.mem_of_getElem? (i := 7) rfl)))⟩
  obtain ⟨n, o, h1, h2, h3, _, L, rfl, ⟨rfl, N⟩, hq⟩ := rm0 l s _ hw tables_1 i0 i1 i2 i3 i4 bc s.heap s.heap.size (Old.start s) Sh Sc hcache p e ha hc hk s m _ below hf ((Spec.applies_iff_loose hf).mp happ).1 ⟨rfl, State.Warmed39.refl s, rfl⟩ trivial
  refine ⟨n, _, h1, h2, h3, hpost _ _ _ _ _ _ ⟨Cond.after_iff.mpr rfl, Cond.after_iff.mpr (eq_i res_at (Term.int_eval (1)) rfl), trivial⟩ ⟨hq.1, hq.2.1, (hq.2.2.sift fun y hy => Or.inr (N y hy)).mono (by decide) (by decide)⟩⟩
theorem main_1_1 : Claimed_1_1 := comes_1 fun _ _ _ _ _ _ h hF => ⟨h.1, hF⟩
theorem main_1_2 : Claimed_1_2 := comes_1 fun _ _ _ _ _ _ h hF => ⟨h.2.1, hF⟩
end Jvm.Pilot.@@N@@
namespace Jvm.Pilot.@@N@@
open Jvm Jvm.ClassFile Sem Op Lib Jvm.Free Jvm.Stand Jvm.Pilot.@@N@@.Jvm.D
/-! MADE BY PROGRAM (witnessworld.py) out of the Statement's table words and the real class files: 17 classes; the members and pool entries that the words name. The judged class is class 1, her method 1. -/
namespace start1
open Jvm.ClassFile
def u (s : String) : CpInfo := .utf8 (stringToUtf16 s)
/-- a pool by its gaps: so many unusable entries, then the entry; so many at the end -/
def gap : Nat → List CpInfo → List CpInfo
  | 0, r => r
  | n + 1, r => .unusable :: gap n r
def poolList (es : List (Nat × CpInfo)) (last : Nat) : List CpInfo := es.foldr (fun e r => gap e.1 (e.2 :: r)) (gap last [])
def pool (es : List (Nat × CpInfo)) (last : Nat) : Array CpInfo := ⟨poolList es last⟩
def fileOf (pool : Array CpInfo) (this : Nat) (attrs : Array Attribute := #[]) (ms : Array MethodInfo := #[]) (fl : Nat := 33) (sup : Nat := 0) (ifs : Array Nat := #[]) (fds : Array FieldInfo := #[]) : ClassFile where
  minorVersion := 0
  majorVersion := 65
  constantPool := pool
  accessFlags := fl
  thisClass := this
  superClass := sup
  interfaces := ifs
  fields := fds
  methods := ms
  attributes := attrs
def plain (name : String) (sup : Option ClassId) : Class where
  name := name
  kind := .ordinary
  loader := none
  accessFlags := 33
  super := sup
  interfaces := #[]
  cf := none
  fields := #[]
  methods := #[]
  instanceTypes := #[]
  staticTypes := #[]
  resolved := #[]
  callSites := []
  init := .initialized
  statics := none
  mirror := none

def pool0 : Array CpInfo := pool [(5, u "<init>"), (0, u "()V"), (1, .class_ 10), (1, u "java/lang/Object")] 113

def k0c0 : Code := { maxStack := 0, maxLocals := 1, code := object_method_1_code, exceptionTable := #[], attributes := #[] }
def k0m0 : Method := { name := "<init>", desc := "()V", sig := { parameters := [], returnType := none }, accessFlags := 1, code := some k0c0 }
/-- java/lang/Object -/
def k0 : Class := { plain "java/lang/Object" none with
  accessFlags := 33
  interfaces := #[]
  cf := some (fileOf pool0 8 #[] #[{ accessFlags := 1, nameIndex := 5, descriptorIndex := 6, attributes := #[] }] 33 0 #[] #[])
  fields := #[]
  methods := #[k0m0]
  instanceTypes := #[]
  staticTypes := #[]
  resolved := Array.replicate 124 none
  statics := none }

def pool1 : Array CpInfo := pool [(2, .class_ 4), (1, u "java/lang/Object"), (0, u "<init>"), (0, u "()V"), (0, .class_ 8), (0, u "com/example/schemactl/schemactl/Unfinished"), (0, .methodref 7 10), (0, .nameAndType 5 11), (0, u "(IIZ)V"), (0, .methodref 7 13), (0, .nameAndType 14 15), (0, u "equals"), (0, u "(Ljava/lang/Object;)Z"), (0, .methodref 17 18), (0, .class_ 19), (0, .nameAndType 20 21), (0, u "java/lang/Integer"), (0, u "valueOf"), (0, u "(I)Ljava/lang/Integer;"), (0, .methodref 7 23), (0, .nameAndType 24 25), (0, u "hashCode"), (0, u "()I"), (0, .class_ 27), (0, u "com/example/schemactl/schemactl/UnfinishedEqualsPinLaw"), (2, u "law"), (0, u "(IIIII)Z")] 3

def k1m0 : Method := { name := "<init>", desc := "()V", sig := { parameters := [], returnType := none }, accessFlags := 1, code := none }
def k1c1 : Code := { maxStack := 5, maxLocals := 18, code := code, exceptionTable := #[], attributes := #[] }
def k1m1 : Method := { name := "law", desc := "(IIIII)Z", sig := { parameters := [.int, .int, .int, .int, .int], returnType := some .boolean }, accessFlags := 9, code := some k1c1 }
/-- com/example/schemactl/schemactl/UnfinishedEqualsPinLaw -/
def k1 : Class := { plain "com/example/schemactl/schemactl/UnfinishedEqualsPinLaw" (some 0) with
  accessFlags := 49
  interfaces := #[]
  cf := some (fileOf pool1 26 #[] #[{ accessFlags := 1, nameIndex := 5, descriptorIndex := 6, attributes := #[] }, { accessFlags := 9, nameIndex := 30, descriptorIndex := 31, attributes := #[] }] 49 2 #[] #[])
  fields := #[]
  methods := #[k1m0, k1m1]
  instanceTypes := #[]
  staticTypes := #[]
  resolved := Array.replicate 35 none
  statics := none }

def pool2 : Array CpInfo := pool [(1, .methodref 2 3), (0, .class_ 4), (0, .nameAndType 5 6), (0, u "java/lang/Object"), (0, u "<init>"), (0, u "()V"), (0, .class_ 8), (0, u "java/lang/Record")] 13

def k2c0 : Code := { maxStack := 1, maxLocals := 1, code := jdk_30_method_1_code, exceptionTable := #[], attributes := #[] }
def k2m0 : Method := { name := "<init>", desc := "()V", sig := { parameters := [], returnType := none }, accessFlags := 4, code := some k2c0 }
/-- java/lang/Record -/
def k2 : Class := { plain "java/lang/Record" (some 0) with
  accessFlags := 1057
  interfaces := #[]
  cf := some (fileOf pool2 7 #[] #[{ accessFlags := 4, nameIndex := 5, descriptorIndex := 6, attributes := #[] }] 1057 2 #[] #[])
  fields := #[]
  methods := #[k2m0]
  instanceTypes := #[]
  staticTypes := #[]
  resolved := Array.replicate 22 none
  statics := none }

def pool3 : Array CpInfo := pool [(1, .methodref 2 3), (0, .class_ 4), (0, .nameAndType 5 6), (0, u "java/lang/Record"), (0, u "<init>"), (0, u "()V"), (0, .fieldref 8 9), (0, .class_ 10), (0, .nameAndType 11 12), (0, u "com/example/schemactl/schemactl/Unfinished"), (0, u "applied"), (0, u "I"), (0, .fieldref 8 14), (0, .nameAndType 15 12), (0, u "uncertain"), (0, .fieldref 8 17), (0, .nameAndType 18 19), (0, u "resumable"), (0, u "Z"), (4, u "(IIZ)V"), (3, u "equals"), (0, u "(Ljava/lang/Object;)Z"), (1, u "hashCode"), (0, u "()I")] 24

def k3c0 : Code := { maxStack := 2, maxLocals := 4, code := prog_32_method_1_code, exceptionTable := #[], attributes := #[] }
def k3m0 : Method := { name := "<init>", desc := "(IIZ)V", sig := { parameters := [.int, .int, .boolean], returnType := none }, accessFlags := 0, code := some k3c0 }
def k3c1 : Code := { maxStack := 2, maxLocals := 3, code := prog_32_method_2_code, exceptionTable := #[], attributes := #[] }
def k3m1 : Method := { name := "equals", desc := "(Ljava/lang/Object;)Z", sig := { parameters := [(.object "java/lang/Object")], returnType := some .boolean }, accessFlags := 1, code := some k3c1 }
def k3c2 : Code := { maxStack := 2, maxLocals := 1, code := prog_32_method_3_code, exceptionTable := #[], attributes := #[] }
def k3m2 : Method := { name := "hashCode", desc := "()I", sig := { parameters := [], returnType := some .int }, accessFlags := 1, code := some k3c2 }
/-- com/example/schemactl/schemactl/Unfinished -/
def k3 : Class := { plain "com/example/schemactl/schemactl/Unfinished" (some 2) with
  accessFlags := 48
  interfaces := #[]
  cf := some (fileOf pool3 8 #[] #[{ accessFlags := 0, nameIndex := 5, descriptorIndex := 24, attributes := #[] }, { accessFlags := 1, nameIndex := 28, descriptorIndex := 29, attributes := #[] }, { accessFlags := 1, nameIndex := 31, descriptorIndex := 32, attributes := #[] }] 48 2 #[] #[{ accessFlags := 18, nameIndex := 11, descriptorIndex := 12, attributes := #[] }, { accessFlags := 18, nameIndex := 15, descriptorIndex := 12, attributes := #[] }, { accessFlags := 18, nameIndex := 18, descriptorIndex := 19, attributes := #[] }])
  fields := #[{ name := "applied", type := .int, accessFlags := 18, slot := 0, constantValue := 0 }, { name := "uncertain", type := .int, accessFlags := 18, slot := 1, constantValue := 0 }, { name := "resumable", type := .boolean, accessFlags := 18, slot := 2, constantValue := 0 }]
  methods := #[k3m0, k3m1, k3m2]
  instanceTypes := #[.int, .int, .boolean]
  staticTypes := #[]
  resolved := Array.replicate 57 none
  statics := none }

def pool4 : Array CpInfo := pool [(1, .class_ 2), (0, u "java/io/Serializable"), (0, .class_ 4), (0, u "java/lang/Object")] 2

/-- java/io/Serializable -/
def k4 : Class := { plain "java/io/Serializable" (some 0) with
  accessFlags := 1537
  interfaces := #[]
  cf := some (fileOf pool4 1 #[] #[] 1537 3 #[] #[])
  fields := #[]
  methods := #[]
  instanceTypes := #[]
  staticTypes := #[]
  resolved := Array.replicate 7 none
  statics := none }

def pool5 : Array CpInfo := pool [(1, .methodref 2 3), (0, .class_ 4), (0, .nameAndType 5 6), (0, u "java/lang/Object"), (0, u "<init>"), (0, u "()V"), (1, .class_ 10), (1, u "java/lang/Number"), (2, .class_ 14), (0, u "java/io/Serializable"), (0, u "serialVersionUID"), (0, u "J")] 20

def k5c0 : Code := { maxStack := 1, maxLocals := 1, code := jdk_18_method_1_code, exceptionTable := #[], attributes := #[] }
def k5m0 : Method := { name := "<init>", desc := "()V", sig := { parameters := [], returnType := none }, accessFlags := 1, code := some k5c0 }
/-- java/lang/Number -/
def k5 : Class := { plain "java/lang/Number" (some 0) with
  accessFlags := 1057
  interfaces := #[4]
  cf := some (fileOf pool5 8 #[] #[{ accessFlags := 1, nameIndex := 5, descriptorIndex := 6, attributes := #[] }] 1057 2 #[13] #[{ accessFlags := 26, nameIndex := 15, descriptorIndex := 16, attributes := #[] }])
  fields := #[{ name := "serialVersionUID", type := .long, accessFlags := 26, slot := 0, constantValue := 0 }]
  methods := #[k5m0]
  instanceTypes := #[]
  staticTypes := #[.long]
  resolved := Array.replicate 37 none
  statics := none }

def pool6 : Array CpInfo := pool [(1, .class_ 2), (0, u "java/lang/Comparable"), (0, .class_ 4), (0, u "java/lang/Object")] 7

/-- java/lang/Comparable -/
def k6 : Class := { plain "java/lang/Comparable" (some 0) with
  accessFlags := 1537
  interfaces := #[]
  cf := some (fileOf pool6 1 #[] #[] 1537 3 #[] #[])
  fields := #[]
  methods := #[]
  instanceTypes := #[]
  staticTypes := #[]
  resolved := Array.replicate 12 none
  statics := none }

def pool7 : Array CpInfo := pool [(1, .class_ 2), (0, u "java/lang/constant/Constable"), (0, .class_ 4), (0, u "java/lang/Object")] 6

/-- java/lang/constant/Constable -/
def k7 : Class := { plain "java/lang/constant/Constable" (some 0) with
  accessFlags := 1537
  interfaces := #[]
  cf := some (fileOf pool7 1 #[] #[] 1537 3 #[] #[])
  fields := #[]
  methods := #[]
  instanceTypes := #[]
  staticTypes := #[]
  resolved := Array.replicate 11 none
  statics := none }

def pool8 : Array CpInfo := pool [(1, .class_ 2), (0, u "java/lang/constant/ConstantDesc"), (0, .class_ 4), (0, u "java/lang/Object")] 32

/-- java/lang/constant/ConstantDesc -/
def k8 : Class := { plain "java/lang/constant/ConstantDesc" (some 0) with
  accessFlags := 1537
  interfaces := #[]
  cf := some (fileOf pool8 1 #[] #[] 1537 3 #[] #[])
  fields := #[]
  methods := #[]
  instanceTypes := #[]
  staticTypes := #[]
  resolved := Array.replicate 37 none
  statics := none }

def pool9 : Array CpInfo := pool [(1, .class_ 2), (0, u "java/lang/Integer"), (16, u "digits"), (0, u "[C"), (46, u "<init>"), (17, u "DigitOnes"), (0, u "[B"), (2, u "DigitTens"), (10, .nameAndType 67 101), (0, u "()V"), (85, u "valueOf"), (0, u "(I)Ljava/lang/Integer;"), (0, .class_ 190), (0, u "java/lang/Integer$IntegerCache"), (0, .fieldref 189 192), (0, .nameAndType 193 194), (0, u "high"), (0, u "I"), (0, .fieldref 189 196), (0, .nameAndType 197 198), (0, u "cache"), (0, u "[Ljava/lang/Integer;"), (0, .methodref 1 200), (0, .nameAndType 67 201), (0, u "(I)V"), (0, .methodref 203 100), (0, .class_ 204), (0, u "java/lang/Number"), (0, .fieldref 1 206), (0, .nameAndType 207 194), (0, u "value"), (94, u "TYPE"), (0, u "Ljava/lang/Class;"), (0, .class_ 305), (0, u "java/lang/Comparable"), (0, .class_ 307), (0, u "java/lang/constant/Constable"), (0, .class_ 309), (0, u "java/lang/constant/ConstantDesc"), (0, u "MIN_VALUE"), (1, u "MAX_VALUE"), (3, u "SIZE"), (1, u "BYTES"), (1, u "serialVersionUID"), (0, u "J")] 131

def k9c0 : Code := { maxStack := 3, maxLocals := 1, code := jdk_33_method_22_code, exceptionTable := #[], attributes := #[] }
def k9m0 : Method := { name := "valueOf", desc := "(I)Ljava/lang/Integer;", sig := { parameters := [.int], returnType := some (.object "java/lang/Integer") }, accessFlags := 9, code := some k9c0 }
def k9c1 : Code := { maxStack := 2, maxLocals := 2, code := jdk_33_method_23_code, exceptionTable := #[], attributes := #[] }
def k9m1 : Method := { name := "<init>", desc := "(I)V", sig := { parameters := [.int], returnType := none }, accessFlags := 1, code := some k9c1 }
/-- java/lang/Integer -/
def k9 : Class := { plain "java/lang/Integer" (some 5) with
  accessFlags := 49
  interfaces := #[6, 7, 8]
  cf := some (fileOf pool9 1 #[.nestMembers #[189]] #[{ accessFlags := 9, nameIndex := 187, descriptorIndex := 188, attributes := #[] }, { accessFlags := 1, nameIndex := 67, descriptorIndex := 201, attributes := #[] }] 49 203 #[304, 306, 308] #[{ accessFlags := 25, nameIndex := 310, descriptorIndex := 194, attributes := #[] }, { accessFlags := 25, nameIndex := 312, descriptorIndex := 194, attributes := #[] }, { accessFlags := 25, nameIndex := 302, descriptorIndex := 303, attributes := #[] }, { accessFlags := 24, nameIndex := 19, descriptorIndex := 20, attributes := #[] }, { accessFlags := 24, nameIndex := 89, descriptorIndex := 86, attributes := #[] }, { accessFlags := 24, nameIndex := 85, descriptorIndex := 86, attributes := #[] }, { accessFlags := 18, nameIndex := 207, descriptorIndex := 194, attributes := #[] }, { accessFlags := 25, nameIndex := 316, descriptorIndex := 194, attributes := #[] }, { accessFlags := 25, nameIndex := 318, descriptorIndex := 194, attributes := #[] }, { accessFlags := 26, nameIndex := 320, descriptorIndex := 321, attributes := #[] }])
  fields := #[{ name := "MIN_VALUE", type := .int, accessFlags := 25, slot := 0, constantValue := 0 }, { name := "MAX_VALUE", type := .int, accessFlags := 25, slot := 1, constantValue := 0 }, { name := "TYPE", type := (.object "java/lang/Class"), accessFlags := 25, slot := 2, constantValue := 0 }, { name := "digits", type := (.array .char), accessFlags := 24, slot := 3, constantValue := 0 }, { name := "DigitTens", type := (.array .byte), accessFlags := 24, slot := 4, constantValue := 0 }, { name := "DigitOnes", type := (.array .byte), accessFlags := 24, slot := 5, constantValue := 0 }, { name := "value", type := .int, accessFlags := 18, slot := 0, constantValue := 0 }, { name := "SIZE", type := .int, accessFlags := 25, slot := 6, constantValue := 0 }, { name := "BYTES", type := .int, accessFlags := 25, slot := 7, constantValue := 0 }, { name := "serialVersionUID", type := .long, accessFlags := 26, slot := 8, constantValue := 0 }]
  methods := #[k9m0, k9m1]
  instanceTypes := #[.int]
  staticTypes := #[.int, .int, (.object "java/lang/Class"), (.array .char), (.array .byte), (.array .byte), .int, .int, .long]
  resolved := Array.replicate 453 none
  statics := none }

def pool10 : Array CpInfo := pool [(2, .class_ 4), (1, u "java/lang/Object"), (0, u "<init>"), (0, u "()V"), (0, .class_ 8), (0, u "java/lang/Integer"), (7, .class_ 18), (1, u "java/lang/Integer$IntegerCache"), (0, u "$assertionsDisabled"), (0, u "Z"), (26, u "high"), (0, u "I"), (8, u "archivedCache"), (0, u "[Ljava/lang/Integer;"), (12, u "cache"), (0, u "low")] 27

def k10m0 : Method := { name := "<init>", desc := "()V", sig := { parameters := [], returnType := none }, accessFlags := 2, code := none }
/-- java/lang/Integer$IntegerCache -/
def k10 : Class := { plain "java/lang/Integer$IntegerCache" (some 0) with
  accessFlags := 48
  interfaces := #[]
  cf := some (fileOf pool10 16 #[.nestHost 7] #[{ accessFlags := 2, nameIndex := 5, descriptorIndex := 6, attributes := #[] }] 48 2 #[] #[{ accessFlags := 24, nameIndex := 72, descriptorIndex := 48, attributes := #[] }, { accessFlags := 24, nameIndex := 47, descriptorIndex := 48, attributes := #[] }, { accessFlags := 24, nameIndex := 71, descriptorIndex := 58, attributes := #[] }, { accessFlags := 8, nameIndex := 57, descriptorIndex := 58, attributes := #[] }, { accessFlags := 4120, nameIndex := 19, descriptorIndex := 20, attributes := #[] }])
  fields := #[{ name := "low", type := .int, accessFlags := 24, slot := 0, constantValue := 0 }, { name := "high", type := .int, accessFlags := 24, slot := 1, constantValue := 0 }, { name := "cache", type := (.array (.object "java/lang/Integer")), accessFlags := 24, slot := 2, constantValue := 0 }, { name := "archivedCache", type := (.array (.object "java/lang/Integer")), accessFlags := 8, slot := 3, constantValue := 0 }, { name := "$assertionsDisabled", type := .boolean, accessFlags := 4120, slot := 4, constantValue := 0 }]
  methods := #[k10m0]
  instanceTypes := #[]
  staticTypes := #[.int, .int, (.array (.object "java/lang/Integer")), (.array (.object "java/lang/Integer")), .boolean]
  resolved := Array.replicate 100 none
  statics := some 0 }

def pool11 : Array CpInfo := pool [(1, u "java/lang/Cloneable"), (0, .class_ 1), (0, u "java/lang/Object"), (0, .class_ 3)] 3

/-- java/lang/Cloneable -/
def k11 : Class := { plain "java/lang/Cloneable" (some 0) with
  accessFlags := 1537
  interfaces := #[]
  cf := some (fileOf pool11 2 #[] #[] 1537 4 #[] #[])
  fields := #[]
  methods := #[]
  instanceTypes := #[]
  staticTypes := #[]
  resolved := Array.replicate 8 none
  statics := none }

/-- the primitive byte -/
def k12 : Class := { plain "byte" none with kind := .primitive 'B', accessFlags := 0x411 }
/-- [B -/
def k13 : Class := { plain "[B" (some 0) with kind := .array 12 .byte, interfaces := #[11, 4], accessFlags := 1041 }

/-- the primitive int -/
def k14 : Class := { plain "int" none with kind := .primitive 'I', accessFlags := 0x411 }
/-- [I -/
def k15 : Class := { plain "[I" (some 0) with kind := .array 14 .int, interfaces := #[11, 4], accessFlags := 1041 }

/-- [Ljava/lang/Integer; -/
def k16 : Class := { plain "[Ljava/lang/Integer;" (some 0) with kind := .array 9 (.object "java/lang/Integer"), interfaces := #[11, 4], accessFlags := 1041 }

def heap : Heap := #[{ cls := 10, slots := #[.int 0, .int 127, .ref 1, .null, .int 0], vm := .statics 10 },
  { cls := 16, slots := #[.ref 2, .ref 3, .ref 4, .ref 5, .ref 6, .ref 7, .ref 8, .ref 9, .ref 10, .ref 11, .ref 12, .ref 13, .ref 14, .ref 15, .ref 16, .ref 17, .ref 18, .ref 19, .ref 20, .ref 21, .ref 22, .ref 23, .ref 24, .ref 25, .ref 26, .ref 27, .ref 28, .ref 29, .ref 30, .ref 31, .ref 32, .ref 33, .ref 34, .ref 35, .ref 36, .ref 37, .ref 38, .ref 39, .ref 40, .ref 41, .ref 42, .ref 43, .ref 44, .ref 45, .ref 46, .ref 47, .ref 48, .ref 49, .ref 50, .ref 51, .ref 52, .ref 53, .ref 54, .ref 55, .ref 56, .ref 57, .ref 58, .ref 59, .ref 60, .ref 61, .ref 62, .ref 63, .ref 64, .ref 65, .ref 66, .ref 67, .ref 68, .ref 69, .ref 70, .ref 71, .ref 72, .ref 73, .ref 74, .ref 75, .ref 76, .ref 77, .ref 78, .ref 79, .ref 80, .ref 81, .ref 82, .ref 83, .ref 84, .ref 85, .ref 86, .ref 87, .ref 88, .ref 89, .ref 90, .ref 91, .ref 92, .ref 93, .ref 94, .ref 95, .ref 96, .ref 97, .ref 98, .ref 99, .ref 100, .ref 101, .ref 102, .ref 103, .ref 104, .ref 105, .ref 106, .ref 107, .ref 108, .ref 109, .ref 110, .ref 111, .ref 112, .ref 113, .ref 114, .ref 115, .ref 116, .ref 117, .ref 118, .ref 119, .ref 120, .ref 121, .ref 122, .ref 123, .ref 124, .ref 125, .ref 126, .ref 127, .ref 128, .ref 129, .ref 130, .ref 131, .ref 132, .ref 133, .ref 134, .ref 135, .ref 136, .ref 137, .ref 138, .ref 139, .ref 140, .ref 141, .ref 142, .ref 143, .ref 144, .ref 145, .ref 146, .ref 147, .ref 148, .ref 149, .ref 150, .ref 151, .ref 152, .ref 153, .ref 154, .ref 155, .ref 156, .ref 157, .ref 158, .ref 159, .ref 160, .ref 161, .ref 162, .ref 163, .ref 164, .ref 165, .ref 166, .ref 167, .ref 168, .ref 169, .ref 170, .ref 171, .ref 172, .ref 173, .ref 174, .ref 175, .ref 176, .ref 177, .ref 178, .ref 179, .ref 180, .ref 181, .ref 182, .ref 183, .ref 184, .ref 185, .ref 186, .ref 187, .ref 188, .ref 189, .ref 190, .ref 191, .ref 192, .ref 193, .ref 194, .ref 195, .ref 196, .ref 197, .ref 198, .ref 199, .ref 200, .ref 201, .ref 202, .ref 203, .ref 204, .ref 205, .ref 206, .ref 207, .ref 208, .ref 209, .ref 210, .ref 211, .ref 212, .ref 213, .ref 214, .ref 215, .ref 216, .ref 217, .ref 218, .ref 219, .ref 220, .ref 221, .ref 222, .ref 223, .ref 224, .ref 225, .ref 226, .ref 227, .ref 228, .ref 229, .ref 230, .ref 231, .ref 232, .ref 233, .ref 234, .ref 235, .ref 236, .ref 237, .ref 238, .ref 239, .ref 240, .ref 241, .ref 242, .ref 243, .ref 244, .ref 245, .ref 246, .ref 247, .ref 248, .ref 249, .ref 250, .ref 251, .ref 252, .ref 253, .ref 254, .ref 255, .ref 256, .ref 257], vm := .none },
  { cls := 9, slots := #[.int (-128)], vm := .none },
  { cls := 9, slots := #[.int (-127)], vm := .none },
  { cls := 9, slots := #[.int (-126)], vm := .none },
  { cls := 9, slots := #[.int (-125)], vm := .none },
  { cls := 9, slots := #[.int (-124)], vm := .none },
  { cls := 9, slots := #[.int (-123)], vm := .none },
  { cls := 9, slots := #[.int (-122)], vm := .none },
  { cls := 9, slots := #[.int (-121)], vm := .none },
  { cls := 9, slots := #[.int (-120)], vm := .none },
  { cls := 9, slots := #[.int (-119)], vm := .none },
  { cls := 9, slots := #[.int (-118)], vm := .none },
  { cls := 9, slots := #[.int (-117)], vm := .none },
  { cls := 9, slots := #[.int (-116)], vm := .none },
  { cls := 9, slots := #[.int (-115)], vm := .none },
  { cls := 9, slots := #[.int (-114)], vm := .none },
  { cls := 9, slots := #[.int (-113)], vm := .none },
  { cls := 9, slots := #[.int (-112)], vm := .none },
  { cls := 9, slots := #[.int (-111)], vm := .none },
  { cls := 9, slots := #[.int (-110)], vm := .none },
  { cls := 9, slots := #[.int (-109)], vm := .none },
  { cls := 9, slots := #[.int (-108)], vm := .none },
  { cls := 9, slots := #[.int (-107)], vm := .none },
  { cls := 9, slots := #[.int (-106)], vm := .none },
  { cls := 9, slots := #[.int (-105)], vm := .none },
  { cls := 9, slots := #[.int (-104)], vm := .none },
  { cls := 9, slots := #[.int (-103)], vm := .none },
  { cls := 9, slots := #[.int (-102)], vm := .none },
  { cls := 9, slots := #[.int (-101)], vm := .none },
  { cls := 9, slots := #[.int (-100)], vm := .none },
  { cls := 9, slots := #[.int (-99)], vm := .none },
  { cls := 9, slots := #[.int (-98)], vm := .none },
  { cls := 9, slots := #[.int (-97)], vm := .none },
  { cls := 9, slots := #[.int (-96)], vm := .none },
  { cls := 9, slots := #[.int (-95)], vm := .none },
  { cls := 9, slots := #[.int (-94)], vm := .none },
  { cls := 9, slots := #[.int (-93)], vm := .none },
  { cls := 9, slots := #[.int (-92)], vm := .none },
  { cls := 9, slots := #[.int (-91)], vm := .none },
  { cls := 9, slots := #[.int (-90)], vm := .none },
  { cls := 9, slots := #[.int (-89)], vm := .none },
  { cls := 9, slots := #[.int (-88)], vm := .none },
  { cls := 9, slots := #[.int (-87)], vm := .none },
  { cls := 9, slots := #[.int (-86)], vm := .none },
  { cls := 9, slots := #[.int (-85)], vm := .none },
  { cls := 9, slots := #[.int (-84)], vm := .none },
  { cls := 9, slots := #[.int (-83)], vm := .none },
  { cls := 9, slots := #[.int (-82)], vm := .none },
  { cls := 9, slots := #[.int (-81)], vm := .none },
  { cls := 9, slots := #[.int (-80)], vm := .none },
  { cls := 9, slots := #[.int (-79)], vm := .none },
  { cls := 9, slots := #[.int (-78)], vm := .none },
  { cls := 9, slots := #[.int (-77)], vm := .none },
  { cls := 9, slots := #[.int (-76)], vm := .none },
  { cls := 9, slots := #[.int (-75)], vm := .none },
  { cls := 9, slots := #[.int (-74)], vm := .none },
  { cls := 9, slots := #[.int (-73)], vm := .none },
  { cls := 9, slots := #[.int (-72)], vm := .none },
  { cls := 9, slots := #[.int (-71)], vm := .none },
  { cls := 9, slots := #[.int (-70)], vm := .none },
  { cls := 9, slots := #[.int (-69)], vm := .none },
  { cls := 9, slots := #[.int (-68)], vm := .none },
  { cls := 9, slots := #[.int (-67)], vm := .none },
  { cls := 9, slots := #[.int (-66)], vm := .none },
  { cls := 9, slots := #[.int (-65)], vm := .none },
  { cls := 9, slots := #[.int (-64)], vm := .none },
  { cls := 9, slots := #[.int (-63)], vm := .none },
  { cls := 9, slots := #[.int (-62)], vm := .none },
  { cls := 9, slots := #[.int (-61)], vm := .none },
  { cls := 9, slots := #[.int (-60)], vm := .none },
  { cls := 9, slots := #[.int (-59)], vm := .none },
  { cls := 9, slots := #[.int (-58)], vm := .none },
  { cls := 9, slots := #[.int (-57)], vm := .none },
  { cls := 9, slots := #[.int (-56)], vm := .none },
  { cls := 9, slots := #[.int (-55)], vm := .none },
  { cls := 9, slots := #[.int (-54)], vm := .none },
  { cls := 9, slots := #[.int (-53)], vm := .none },
  { cls := 9, slots := #[.int (-52)], vm := .none },
  { cls := 9, slots := #[.int (-51)], vm := .none },
  { cls := 9, slots := #[.int (-50)], vm := .none },
  { cls := 9, slots := #[.int (-49)], vm := .none },
  { cls := 9, slots := #[.int (-48)], vm := .none },
  { cls := 9, slots := #[.int (-47)], vm := .none },
  { cls := 9, slots := #[.int (-46)], vm := .none },
  { cls := 9, slots := #[.int (-45)], vm := .none },
  { cls := 9, slots := #[.int (-44)], vm := .none },
  { cls := 9, slots := #[.int (-43)], vm := .none },
  { cls := 9, slots := #[.int (-42)], vm := .none },
  { cls := 9, slots := #[.int (-41)], vm := .none },
  { cls := 9, slots := #[.int (-40)], vm := .none },
  { cls := 9, slots := #[.int (-39)], vm := .none },
  { cls := 9, slots := #[.int (-38)], vm := .none },
  { cls := 9, slots := #[.int (-37)], vm := .none },
  { cls := 9, slots := #[.int (-36)], vm := .none },
  { cls := 9, slots := #[.int (-35)], vm := .none },
  { cls := 9, slots := #[.int (-34)], vm := .none },
  { cls := 9, slots := #[.int (-33)], vm := .none },
  { cls := 9, slots := #[.int (-32)], vm := .none },
  { cls := 9, slots := #[.int (-31)], vm := .none },
  { cls := 9, slots := #[.int (-30)], vm := .none },
  { cls := 9, slots := #[.int (-29)], vm := .none },
  { cls := 9, slots := #[.int (-28)], vm := .none },
  { cls := 9, slots := #[.int (-27)], vm := .none },
  { cls := 9, slots := #[.int (-26)], vm := .none },
  { cls := 9, slots := #[.int (-25)], vm := .none },
  { cls := 9, slots := #[.int (-24)], vm := .none },
  { cls := 9, slots := #[.int (-23)], vm := .none },
  { cls := 9, slots := #[.int (-22)], vm := .none },
  { cls := 9, slots := #[.int (-21)], vm := .none },
  { cls := 9, slots := #[.int (-20)], vm := .none },
  { cls := 9, slots := #[.int (-19)], vm := .none },
  { cls := 9, slots := #[.int (-18)], vm := .none },
  { cls := 9, slots := #[.int (-17)], vm := .none },
  { cls := 9, slots := #[.int (-16)], vm := .none },
  { cls := 9, slots := #[.int (-15)], vm := .none },
  { cls := 9, slots := #[.int (-14)], vm := .none },
  { cls := 9, slots := #[.int (-13)], vm := .none },
  { cls := 9, slots := #[.int (-12)], vm := .none },
  { cls := 9, slots := #[.int (-11)], vm := .none },
  { cls := 9, slots := #[.int (-10)], vm := .none },
  { cls := 9, slots := #[.int (-9)], vm := .none },
  { cls := 9, slots := #[.int (-8)], vm := .none },
  { cls := 9, slots := #[.int (-7)], vm := .none },
  { cls := 9, slots := #[.int (-6)], vm := .none },
  { cls := 9, slots := #[.int (-5)], vm := .none },
  { cls := 9, slots := #[.int (-4)], vm := .none },
  { cls := 9, slots := #[.int (-3)], vm := .none },
  { cls := 9, slots := #[.int (-2)], vm := .none },
  { cls := 9, slots := #[.int (-1)], vm := .none },
  { cls := 9, slots := #[.int 0], vm := .none },
  { cls := 9, slots := #[.int 1], vm := .none },
  { cls := 9, slots := #[.int 2], vm := .none },
  { cls := 9, slots := #[.int 3], vm := .none },
  { cls := 9, slots := #[.int 4], vm := .none },
  { cls := 9, slots := #[.int 5], vm := .none },
  { cls := 9, slots := #[.int 6], vm := .none },
  { cls := 9, slots := #[.int 7], vm := .none },
  { cls := 9, slots := #[.int 8], vm := .none },
  { cls := 9, slots := #[.int 9], vm := .none },
  { cls := 9, slots := #[.int 10], vm := .none },
  { cls := 9, slots := #[.int 11], vm := .none },
  { cls := 9, slots := #[.int 12], vm := .none },
  { cls := 9, slots := #[.int 13], vm := .none },
  { cls := 9, slots := #[.int 14], vm := .none },
  { cls := 9, slots := #[.int 15], vm := .none },
  { cls := 9, slots := #[.int 16], vm := .none },
  { cls := 9, slots := #[.int 17], vm := .none },
  { cls := 9, slots := #[.int 18], vm := .none },
  { cls := 9, slots := #[.int 19], vm := .none },
  { cls := 9, slots := #[.int 20], vm := .none },
  { cls := 9, slots := #[.int 21], vm := .none },
  { cls := 9, slots := #[.int 22], vm := .none },
  { cls := 9, slots := #[.int 23], vm := .none },
  { cls := 9, slots := #[.int 24], vm := .none },
  { cls := 9, slots := #[.int 25], vm := .none },
  { cls := 9, slots := #[.int 26], vm := .none },
  { cls := 9, slots := #[.int 27], vm := .none },
  { cls := 9, slots := #[.int 28], vm := .none },
  { cls := 9, slots := #[.int 29], vm := .none },
  { cls := 9, slots := #[.int 30], vm := .none },
  { cls := 9, slots := #[.int 31], vm := .none },
  { cls := 9, slots := #[.int 32], vm := .none },
  { cls := 9, slots := #[.int 33], vm := .none },
  { cls := 9, slots := #[.int 34], vm := .none },
  { cls := 9, slots := #[.int 35], vm := .none },
  { cls := 9, slots := #[.int 36], vm := .none },
  { cls := 9, slots := #[.int 37], vm := .none },
  { cls := 9, slots := #[.int 38], vm := .none },
  { cls := 9, slots := #[.int 39], vm := .none },
  { cls := 9, slots := #[.int 40], vm := .none },
  { cls := 9, slots := #[.int 41], vm := .none },
  { cls := 9, slots := #[.int 42], vm := .none },
  { cls := 9, slots := #[.int 43], vm := .none },
  { cls := 9, slots := #[.int 44], vm := .none },
  { cls := 9, slots := #[.int 45], vm := .none },
  { cls := 9, slots := #[.int 46], vm := .none },
  { cls := 9, slots := #[.int 47], vm := .none },
  { cls := 9, slots := #[.int 48], vm := .none },
  { cls := 9, slots := #[.int 49], vm := .none },
  { cls := 9, slots := #[.int 50], vm := .none },
  { cls := 9, slots := #[.int 51], vm := .none },
  { cls := 9, slots := #[.int 52], vm := .none },
  { cls := 9, slots := #[.int 53], vm := .none },
  { cls := 9, slots := #[.int 54], vm := .none },
  { cls := 9, slots := #[.int 55], vm := .none },
  { cls := 9, slots := #[.int 56], vm := .none },
  { cls := 9, slots := #[.int 57], vm := .none },
  { cls := 9, slots := #[.int 58], vm := .none },
  { cls := 9, slots := #[.int 59], vm := .none },
  { cls := 9, slots := #[.int 60], vm := .none },
  { cls := 9, slots := #[.int 61], vm := .none },
  { cls := 9, slots := #[.int 62], vm := .none },
  { cls := 9, slots := #[.int 63], vm := .none },
  { cls := 9, slots := #[.int 64], vm := .none },
  { cls := 9, slots := #[.int 65], vm := .none },
  { cls := 9, slots := #[.int 66], vm := .none },
  { cls := 9, slots := #[.int 67], vm := .none },
  { cls := 9, slots := #[.int 68], vm := .none },
  { cls := 9, slots := #[.int 69], vm := .none },
  { cls := 9, slots := #[.int 70], vm := .none },
  { cls := 9, slots := #[.int 71], vm := .none },
  { cls := 9, slots := #[.int 72], vm := .none },
  { cls := 9, slots := #[.int 73], vm := .none },
  { cls := 9, slots := #[.int 74], vm := .none },
  { cls := 9, slots := #[.int 75], vm := .none },
  { cls := 9, slots := #[.int 76], vm := .none },
  { cls := 9, slots := #[.int 77], vm := .none },
  { cls := 9, slots := #[.int 78], vm := .none },
  { cls := 9, slots := #[.int 79], vm := .none },
  { cls := 9, slots := #[.int 80], vm := .none },
  { cls := 9, slots := #[.int 81], vm := .none },
  { cls := 9, slots := #[.int 82], vm := .none },
  { cls := 9, slots := #[.int 83], vm := .none },
  { cls := 9, slots := #[.int 84], vm := .none },
  { cls := 9, slots := #[.int 85], vm := .none },
  { cls := 9, slots := #[.int 86], vm := .none },
  { cls := 9, slots := #[.int 87], vm := .none },
  { cls := 9, slots := #[.int 88], vm := .none },
  { cls := 9, slots := #[.int 89], vm := .none },
  { cls := 9, slots := #[.int 90], vm := .none },
  { cls := 9, slots := #[.int 91], vm := .none },
  { cls := 9, slots := #[.int 92], vm := .none },
  { cls := 9, slots := #[.int 93], vm := .none },
  { cls := 9, slots := #[.int 94], vm := .none },
  { cls := 9, slots := #[.int 95], vm := .none },
  { cls := 9, slots := #[.int 96], vm := .none },
  { cls := 9, slots := #[.int 97], vm := .none },
  { cls := 9, slots := #[.int 98], vm := .none },
  { cls := 9, slots := #[.int 99], vm := .none },
  { cls := 9, slots := #[.int 100], vm := .none },
  { cls := 9, slots := #[.int 101], vm := .none },
  { cls := 9, slots := #[.int 102], vm := .none },
  { cls := 9, slots := #[.int 103], vm := .none },
  { cls := 9, slots := #[.int 104], vm := .none },
  { cls := 9, slots := #[.int 105], vm := .none },
  { cls := 9, slots := #[.int 106], vm := .none },
  { cls := 9, slots := #[.int 107], vm := .none },
  { cls := 9, slots := #[.int 108], vm := .none },
  { cls := 9, slots := #[.int 109], vm := .none },
  { cls := 9, slots := #[.int 110], vm := .none },
  { cls := 9, slots := #[.int 111], vm := .none },
  { cls := 9, slots := #[.int 112], vm := .none },
  { cls := 9, slots := #[.int 113], vm := .none },
  { cls := 9, slots := #[.int 114], vm := .none },
  { cls := 9, slots := #[.int 115], vm := .none },
  { cls := 9, slots := #[.int 116], vm := .none },
  { cls := 9, slots := #[.int 117], vm := .none },
  { cls := 9, slots := #[.int 118], vm := .none },
  { cls := 9, slots := #[.int 119], vm := .none },
  { cls := 9, slots := #[.int 120], vm := .none },
  { cls := 9, slots := #[.int 121], vm := .none },
  { cls := 9, slots := #[.int 122], vm := .none },
  { cls := 9, slots := #[.int 123], vm := .none },
  { cls := 9, slots := #[.int 124], vm := .none },
  { cls := 9, slots := #[.int 125], vm := .none },
  { cls := 9, slots := #[.int 126], vm := .none },
  { cls := 9, slots := #[.int 127], vm := .none }]
def classes : Array Class := #[k0, k1, k2, k3, k4, k5, k6, k7, k8, k9, k10, k11, k12, k13, k14, k15, k16]
def interned : List (Array UInt16 × Addr) := []
def slotsUsed : Nat := 517
def theMethod : MethodId := ⟨1, 1⟩
def args0 : Array Value := #[.int 5, .int 3, .int 5, .int 3, .int 31]
def aboutOver (below : List Frame) : State where
  vm := { classes := classes, interned := interned.toArray }
  heap := heap
  slotsUsed := slotsUsed
  threads := #[{ frames := .invoking theMethod args0 :: below }]
def below0 : List Frame := [.native { method := ⟨0, 0⟩, args := #[] }]
def about1 : State := aboutOver below0
def p0 : Program := .bare "" "" ""
def e0 : Env := launch0.env 0 0 0
theorem w_frames : about1.frames = Frame.invoking theMethod args0 :: below0 := rfl
set_option maxRecDepth 65536 in
theorem w_args : argsFit about1.vm theMethod args0 = true := by decide +kernel
set_option maxRecDepth 65536 in
theorem w_heap : heapFits about1 = true := by decide +kernel
set_option maxRecDepth 65536 in
theorem w_runnable : about1.curStatus? = some .runnable := by decide +kernel
set_option maxRecDepth 65536 in
theorem w_alone : about1.alone = true := by decide +kernel
set_option maxRecDepth 65536 in
theorem w_named : about1.methodNamed? x = some theMethod := by decide +kernel
set_option maxRecDepth 65536 in
theorem w_hears : about1.hears theMethod below0 = true := by decide +kernel
set_option maxRecDepth 65536 in
theorem w_ripe : about1.ripe theMethod args0 below0 = true := by decide +kernel
theorem w_running : about1.status = .running := rfl
set_option maxRecDepth 65536 in
theorem w_room : about1.hasRoom e0.platform room_1 = true :=
  launch0.hasRoom_least _ room_1 (by decide +kernel) (by decide +kernel) (by decide +kernel) (by decide +kernel) (by decide +kernel) (by decide +kernel)
theorem allAtoms_all (ts : List Jvm.Cond) (a : Array Jvm.Value) (st : Jvm.State) : (allAtoms ts).before a st = ts.all (fun c => c.before a st) := by
  induction ts with
  | nil => rfl
  | cons c t ih =>
    show (Jvm.Cond.and c (allAtoms t)).before a st = _
    rw [Jvm.Cond.before_and, ih, List.all_cons]
def words1 : List Jvm.Cond := Jvm.Cond.code x code maxLocals ret :: tables_1
/-- a 'code' word, met by the world's own term for the bytes: nothing is compared byte by byte -/
theorem code_word {y : MethodName} {bytes : ByteArray} {mx : Nat} {rt : Option FieldType} {a : Array Value} {s : State} {m : MethodId} {meth : Method} {c : Code} (h1 : s.methodNamed? y = some m) (h2 : s.vm.method? m = some meth) (h3 : meth.code = some c) (h4 : c.code = bytes)
    (h5 : (c.maxLocals == mx && c.exceptionTable.isEmpty && decide (c.maxStack ≤ mostOperands) && decide (meth.sig.returnType = rt) && !meth.locks && decide (parseMethodDescriptor y.desc = some meth.sig)) = true) : (Jvm.Cond.code y bytes mx rt).before a s = true := by
  simp only [Bool.and_eq_true, beq_iff_eq, Bool.not_eq_true', decide_eq_true_eq] at h5
  obtain ⟨⟨⟨⟨⟨g1, g2⟩, g3⟩, g4⟩, g5⟩, g6⟩ := h5
  simp [Cond.before, Cond.holds, Cond.value, h1, h2, h3, h4, g1, g2, g3, g4, g5, g6]
def isCode : Jvm.Cond → Bool
  | .code _ _ _ _ => true
  | _ => false
theorem all_split {L : List Jvm.Cond} {P : Jvm.Cond → Bool} (h1 : L.all (fun c => isCode c || P c) = true) (h2 : ∀ c ∈ L.filter isCode, P c = true) : L.all P = true := by
  refine List.all_eq_true.mpr fun c hc => ?_
  have h := List.all_eq_true.mp h1 c hc
  rcases Bool.eq_false_or_eq_true (isCode c) with hi | hi
  · exact h2 c (List.mem_filter.mpr ⟨hc, hi⟩)
  · simpa [hi] using h
set_option maxRecDepth 65536 in
theorem w_c0 : (Jvm.Cond.code x code maxLocals ret).before args0 about1 = true := code_word (m := ⟨1, 1⟩) (meth := k1m1) (c := k1c1) (by decide +kernel) rfl rfl rfl (by decide +kernel)
set_option maxRecDepth 65536 in
theorem w_c1 : (Jvm.Cond.code ({ cls := "com/example/schemactl/schemactl/Unfinished", name := "<init>", desc := "(IIZ)V" } : Jvm.MethodName) prog_32_method_1_code (4 : Nat) (Option.none : Option Jvm.ClassFile.FieldType)).before args0 about1 = true := code_word (m := ⟨3, 0⟩) (meth := k3m0) (c := k3c0) (by decide +kernel) rfl rfl rfl (by decide +kernel)
set_option maxRecDepth 65536 in
theorem w_c2 : (Jvm.Cond.code ({ cls := "java/lang/Record", name := "<init>", desc := "()V" } : Jvm.MethodName) jdk_30_method_1_code (1 : Nat) (Option.none : Option Jvm.ClassFile.FieldType)).before args0 about1 = true := code_word (m := ⟨2, 0⟩) (meth := k2m0) (c := k2c0) (by decide +kernel) rfl rfl rfl (by decide +kernel)
set_option maxRecDepth 65536 in
theorem w_c3 : (Jvm.Cond.code ({ cls := "java/lang/Object", name := "<init>", desc := "()V" } : Jvm.MethodName) object_method_1_code (1 : Nat) (Option.none : Option Jvm.ClassFile.FieldType)).before args0 about1 = true := code_word (m := ⟨0, 0⟩) (meth := k0m0) (c := k0c0) (by decide +kernel) rfl rfl rfl (by decide +kernel)
set_option maxRecDepth 65536 in
theorem w_c4 : (Jvm.Cond.code ({ cls := "com/example/schemactl/schemactl/Unfinished", name := "equals", desc := "(Ljava/lang/Object;)Z" } : Jvm.MethodName) prog_32_method_2_code (3 : Nat) (Option.some Jvm.ClassFile.FieldType.boolean)).before args0 about1 = true := code_word (m := ⟨3, 1⟩) (meth := k3m1) (c := k3c1) (by decide +kernel) rfl rfl rfl (by decide +kernel)
set_option maxRecDepth 65536 in
theorem w_c5 : (Jvm.Cond.code ({ cls := "java/lang/Integer", name := "valueOf", desc := "(I)Ljava/lang/Integer;" } : Jvm.MethodName) jdk_33_method_22_code (1 : Nat) (Option.some (Jvm.ClassFile.FieldType.object "java/lang/Integer"))).before args0 about1 = true := code_word (m := ⟨9, 0⟩) (meth := k9m0) (c := k9c0) (by decide +kernel) rfl rfl rfl (by decide +kernel)
set_option maxRecDepth 65536 in
theorem w_c6 : (Jvm.Cond.code ({ cls := "java/lang/Integer", name := "<init>", desc := "(I)V" } : Jvm.MethodName) jdk_33_method_23_code (2 : Nat) (Option.none : Option Jvm.ClassFile.FieldType)).before args0 about1 = true := code_word (m := ⟨9, 1⟩) (meth := k9m1) (c := k9c1) (by decide +kernel) rfl rfl rfl (by decide +kernel)
set_option maxRecDepth 65536 in
theorem w_c7 : (Jvm.Cond.code ({ cls := "java/lang/Number", name := "<init>", desc := "()V" } : Jvm.MethodName) jdk_18_method_1_code (1 : Nat) (Option.none : Option Jvm.ClassFile.FieldType)).before args0 about1 = true := code_word (m := ⟨5, 0⟩) (meth := k5m0) (c := k5c0) (by decide +kernel) rfl rfl rfl (by decide +kernel)
set_option maxRecDepth 65536 in
theorem w_c8 : (Jvm.Cond.code ({ cls := "com/example/schemactl/schemactl/Unfinished", name := "hashCode", desc := "()I" } : Jvm.MethodName) prog_32_method_3_code (1 : Nat) (Option.some Jvm.ClassFile.FieldType.int)).before args0 about1 = true := code_word (m := ⟨3, 2⟩) (meth := k3m2) (c := k3c2) (by decide +kernel) rfl rfl rfl (by decide +kernel)
def codes1 : List Jvm.Cond := [Jvm.Cond.code x code maxLocals ret, Jvm.Cond.code ({ cls := "com/example/schemactl/schemactl/Unfinished", name := "<init>", desc := "(IIZ)V" } : Jvm.MethodName) prog_32_method_1_code (4 : Nat) (Option.none : Option Jvm.ClassFile.FieldType), Jvm.Cond.code ({ cls := "java/lang/Record", name := "<init>", desc := "()V" } : Jvm.MethodName) jdk_30_method_1_code (1 : Nat) (Option.none : Option Jvm.ClassFile.FieldType), Jvm.Cond.code ({ cls := "java/lang/Object", name := "<init>", desc := "()V" } : Jvm.MethodName) object_method_1_code (1 : Nat) (Option.none : Option Jvm.ClassFile.FieldType), Jvm.Cond.code ({ cls := "com/example/schemactl/schemactl/Unfinished", name := "equals", desc := "(Ljava/lang/Object;)Z" } : Jvm.MethodName) prog_32_method_2_code (3 : Nat) (Option.some Jvm.ClassFile.FieldType.boolean), Jvm.Cond.code ({ cls := "java/lang/Integer", name := "valueOf", desc := "(I)Ljava/lang/Integer;" } : Jvm.MethodName) jdk_33_method_22_code (1 : Nat) (Option.some (Jvm.ClassFile.FieldType.object "java/lang/Integer")), Jvm.Cond.code ({ cls := "java/lang/Integer", name := "<init>", desc := "(I)V" } : Jvm.MethodName) jdk_33_method_23_code (2 : Nat) (Option.none : Option Jvm.ClassFile.FieldType), Jvm.Cond.code ({ cls := "java/lang/Number", name := "<init>", desc := "()V" } : Jvm.MethodName) jdk_18_method_1_code (1 : Nat) (Option.none : Option Jvm.ClassFile.FieldType), Jvm.Cond.code ({ cls := "com/example/schemactl/schemactl/Unfinished", name := "hashCode", desc := "()I" } : Jvm.MethodName) prog_32_method_3_code (1 : Nat) (Option.some Jvm.ClassFile.FieldType.int)]
set_option maxRecDepth 65536 in
theorem codes_eq : words1.filter isCode = codes1 := rfl
theorem w_codes : ∀ c ∈ words1.filter isCode, c.before args0 about1 = true := by
  rw [codes_eq]
  intro c hc
  simp only [codes1, List.mem_cons, List.not_mem_nil, or_false] at hc
  rcases hc with rfl | rfl | rfl | rfl | rfl | rfl | rfl | rfl | rfl
  · exact w_c0
  · exact w_c1
  · exact w_c2
  · exact w_c3
  · exact w_c4
  · exact w_c5
  · exact w_c6
  · exact w_c7
  · exact w_c8
set_option maxRecDepth 65536 in
theorem w_t1 : (words1.take 24).all (fun c => isCode c || c.before args0 about1) = true := by decide +kernel
set_option maxRecDepth 65536 in
theorem w_t2 : ((words1.drop 24).take 24).all (fun c => isCode c || c.before args0 about1) = true := by decide +kernel
set_option maxRecDepth 65536 in
theorem w_t3 : ((words1.drop 24).drop 24).all (fun c => isCode c || c.before args0 about1) = true := by decide +kernel
theorem w_tables : (allAtoms (Jvm.Cond.code x code maxLocals ret :: tables_1)).before args0 about1 = true := by
  rw [allAtoms_all]
  show words1.all (fun c => c.before args0 about1) = true
  refine all_split ?_ w_codes
  rw [← List.take_append_drop 24 words1, List.all_append, w_t1, ← List.take_append_drop 24 (words1.drop 24), List.all_append, w_t2, w_t3]
  rfl
set_option maxRecDepth 65536 in
theorem w_rest : rest_1_c.before args0 about1 = true := by decide +kernel
set_option maxRecDepth 65536 in
theorem w_case : (Jvm.Cond.and given_1 narrow_1).before args0 about1 = true := by decide +kernel
theorem w_applies : (headSpec (Jvm.Cond.code x code maxLocals ret :: tables_1) room_1).applies x e0.platform about1 = true :=
  (Spec.applies_iff w_frames).mpr ⟨w_running, w_runnable, w_alone, w_named, w_hears, w_ripe, w_room, w_tables⟩
theorem atStart : AtStart classFile x code maxLocals ret World_1 tables_1 room_1 Calls_1 rest_1 Pre_1 launch0 p0 e0 about1 theMethod args0 below0 :=
  ⟨lists_1, trivial, launch0.admits_env _ _ _, launch0.least_env, fairChoices_fair.cas, fairChoices_fair.clock, w_frames, w_args, w_heap, w_applies, trivial, w_rest, w_case⟩
end start1
theorem witness_1 : WitnessClaimed_1 := ⟨start1.p0, start1.e0, start1.about1, start1.theMethod, start1.args0, start1.below0, start1.atStart⟩
end Jvm.Pilot.@@N@@
