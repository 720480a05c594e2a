import JvmDerived
import JvmDerived.Pilot.@@N@@Statement
import JvmDerived.Pilot.@@N@@Code
set_option linter.unusedVariables false
set_option linter.unusedSimpArgs false
namespace Jvm.RoadKit
open Sem ClassFile Op Lib Jvm.Stand Jvm.Free Jvm.LawKit
section New
variable {p : Program} {l : Launch} {e : Env} {R : Room} {s : State} {m : MethodId} {args : Array Value} {below : List Frame} {meth : Method} {c : Code} {T : State} {locs : List Loc} {cells slots : Nat}
theorem retI (X : Stand p l e R s m args below meth c T locs cells slots) (hx : p.tables.exec = Jvm.exec) {pc : Nat} {Ls : Array Slot} {z : Int32} {rest : List Value} (hret : meth.sig.returnType = some .int) (hd : decode c.code pc = .ok (.ireturn, 1)) {fs : List Frame}
    (hl : ∀ (f : JFrame) (acts : List Action), f.method = m → f.locked = none → f.entered = [] → (doReturn e (T.setTop f) acts (some (.int z))).1 = T.setFrames fs) : Steps p.tables e below (T.setTop (mkF m pc Ls (.int z :: rest))) (T.setFrames fs) := by
  have hm' : T.vm.method? m = some meth := X.method'
  have hn : narrow .int (.int z) = .int z := rfl
  show Steps p.tables e below (T.setTop { method := m, pc := pc, locals := Ls, stack := _ :: rest, locked := none }) _
  jvm_step X.here [X.here.top, hx, hd, hm', hret, hn]
  first | (intro acts; rw [hl _ acts rfl rfl rfl]) | rw [hl _ _ rfl rfl rfl]
  exact Steps.refl _
end New
end Jvm.RoadKit
namespace Jvm.Pilot.@@N@@
open Jvm Jvm.ClassFile Sem Op Lib Jvm.Free Jvm.Stand Jvm.LawKit Jvm.RoadKit Bundle Jvm.Pilot.@@N@@.Jvm.D
abbrev nm0 : MethodName := ⟨"com/example/odds_on_axioms/oddsonaxioms/aleatoric/Distribution", "<init>", "([I[D)V"⟩
abbrev nm1 : MethodName := ⟨"com/example/odds_on_axioms/oddsonaxioms/aleatoric/Distribution", "certain", "(I)Lcom/example/odds_on_axioms/oddsonaxioms/aleatoric/Distribution;"⟩
abbrev nm2 : MethodName := ⟨"com/example/odds_on_axioms/oddsonaxioms/aleatoric/Distribution", "support", "()[I"⟩
abbrev nm3 : MethodName := ⟨"java/util/Arrays", "binarySearch0", "([IIII)I"⟩
abbrev nm4 : MethodName := ⟨"java/util/Arrays", "binarySearch", "([II)I"⟩
abbrev nm5 : MethodName := ⟨"com/example/odds_on_axioms/oddsonaxioms/aleatoric/Distribution", "probability", "(I)D"⟩
abbrev nm6 : MethodName := ⟨"com/example/odds_on_axioms/oddsonaxioms/aleatoric/Distribution", "expectation", "([D)D"⟩
theorem wk2 {a0 : Array Value} {Z : State} (hw : ∀ d ∈ tables_1, d.before a0 Z = true) : (Jvm.Cond.initialized "com/example/odds_on_axioms/oddsonaxioms/aleatoric/Distribution").before a0 Z = true := hw _ (List.mem_of_getElem? (i := 2) rfl)
theorem wk32 {a0 : Array Value} {Z : State} (hw : ∀ d ∈ tables_1, d.before a0 Z = true) : (Jvm.Cond.methodLink "com/example/odds_on_axioms/oddsonaxioms/aleatoric/DistributionCertainPinLaw" (17 : Nat) ({ cls := "com/example/odds_on_axioms/oddsonaxioms/aleatoric/Distribution", name := "probability", desc := "(I)D" } : Jvm.MethodName)).before a0 Z = true := hw _ (List.mem_of_getElem? (i := 32) rfl)
theorem wk33 {a0 : Array Value} {Z : State} (hw : ∀ d ∈ tables_1, d.before a0 Z = true) : (Jvm.Cond.declares ({ cls := "com/example/odds_on_axioms/oddsonaxioms/aleatoric/Distribution", name := "probability", desc := "(I)D" } : Jvm.MethodName)).before a0 Z = true := hw _ (List.mem_of_getElem? (i := 33) rfl)
theorem wk34 {a0 : Array Value} {Z : State} (hw : ∀ d ∈ tables_1, d.before a0 Z = true) : (Jvm.Cond.instanceMethod ({ cls := "com/example/odds_on_axioms/oddsonaxioms/aleatoric/Distribution", name := "probability", desc := "(I)D" } : Jvm.MethodName)).before a0 Z = true := hw _ (List.mem_of_getElem? (i := 34) rfl)
theorem wk35 {a0 : Array Value} {Z : State} (hw : ∀ d ∈ tables_1, d.before a0 Z = true) : (Jvm.Cond.selects "com/example/odds_on_axioms/oddsonaxioms/aleatoric/Distribution" ({ cls := "com/example/odds_on_axioms/oddsonaxioms/aleatoric/Distribution", name := "probability", desc := "(I)D" } : Jvm.MethodName) ({ cls := "com/example/odds_on_axioms/oddsonaxioms/aleatoric/Distribution", name := "probability", desc := "(I)D" } : Jvm.MethodName)).before a0 Z = true := hw _ (List.mem_of_getElem? (i := 35) rfl)
theorem wk36 {a0 : Array Value} {Z : State} (hw : ∀ d ∈ tables_1, d.before a0 Z = true) : (Jvm.Cond.code ({ cls := "com/example/odds_on_axioms/oddsonaxioms/aleatoric/Distribution", name := "probability", desc := "(I)D" } : Jvm.MethodName) prog_6_method_5_code (3 : Nat) (Option.some Jvm.ClassFile.FieldType.double)).before a0 Z = true := hw _ (List.mem_of_getElem? (i := 36) rfl)
theorem wk37 {a0 : Array Value} {Z : State} (hw : ∀ d ∈ tables_1, d.before a0 Z = true) : (Jvm.Cond.methodLink "com/example/odds_on_axioms/oddsonaxioms/aleatoric/Distribution" (51 : Nat) ({ cls := "java/util/Arrays", name := "binarySearch", desc := "([II)I" } : Jvm.MethodName)).before a0 Z = true := hw _ (List.mem_of_getElem? (i := 37) rfl)
theorem wk38 {a0 : Array Value} {Z : State} (hw : ∀ d ∈ tables_1, d.before a0 Z = true) : (Jvm.Cond.static ({ cls := "java/util/Arrays", name := "binarySearch", desc := "([II)I" } : Jvm.MethodName)).before a0 Z = true := hw _ (List.mem_of_getElem? (i := 38) rfl)
theorem wk39 {a0 : Array Value} {Z : State} (hw : ∀ d ∈ tables_1, d.before a0 Z = true) : (Jvm.Cond.initialized "java/util/Arrays").before a0 Z = true := hw _ (List.mem_of_getElem? (i := 39) rfl)
theorem wk40 {a0 : Array Value} {Z : State} (hw : ∀ d ∈ tables_1, d.before a0 Z = true) : (Jvm.Cond.code ({ cls := "java/util/Arrays", name := "binarySearch", desc := "([II)I" } : Jvm.MethodName) jdk_65_method_57_code (2 : Nat) (Option.some Jvm.ClassFile.FieldType.int)).before a0 Z = true := hw _ (List.mem_of_getElem? (i := 40) rfl)
theorem wk41 {a0 : Array Value} {Z : State} (hw : ∀ d ∈ tables_1, d.before a0 Z = true) : (Jvm.Cond.methodLink "java/util/Arrays" (209 : Nat) ({ cls := "java/util/Arrays", name := "binarySearch0", desc := "([IIII)I" } : Jvm.MethodName)).before a0 Z = true := hw _ (List.mem_of_getElem? (i := 41) rfl)
theorem wk42 {a0 : Array Value} {Z : State} (hw : ∀ d ∈ tables_1, d.before a0 Z = true) : (Jvm.Cond.static ({ cls := "java/util/Arrays", name := "binarySearch0", desc := "([IIII)I" } : Jvm.MethodName)).before a0 Z = true := hw _ (List.mem_of_getElem? (i := 42) rfl)
theorem wk43 {a0 : Array Value} {Z : State} (hw : ∀ d ∈ tables_1, d.before a0 Z = true) : (Jvm.Cond.code ({ cls := "java/util/Arrays", name := "binarySearch0", desc := "([IIII)I" } : Jvm.MethodName) jdk_65_method_59_code (8 : Nat) (Option.some Jvm.ClassFile.FieldType.int)).before a0 Z = true := hw _ (List.mem_of_getElem? (i := 43) rfl)
theorem wk45 {a0 : Array Value} {Z : State} (hw : ∀ d ∈ tables_1, d.before a0 Z = true) : (Jvm.Cond.methodLink "com/example/odds_on_axioms/oddsonaxioms/aleatoric/DistributionCertainPinLaw" (22 : Nat) ({ cls := "com/example/odds_on_axioms/oddsonaxioms/aleatoric/Distribution", name := "expectation", desc := "([D)D" } : Jvm.MethodName)).before a0 Z = true := hw _ (List.mem_of_getElem? (i := 45) rfl)
theorem wk46 {a0 : Array Value} {Z : State} (hw : ∀ d ∈ tables_1, d.before a0 Z = true) : (Jvm.Cond.declares ({ cls := "com/example/odds_on_axioms/oddsonaxioms/aleatoric/Distribution", name := "expectation", desc := "([D)D" } : Jvm.MethodName)).before a0 Z = true := hw _ (List.mem_of_getElem? (i := 46) rfl)
theorem wk47 {a0 : Array Value} {Z : State} (hw : ∀ d ∈ tables_1, d.before a0 Z = true) : (Jvm.Cond.instanceMethod ({ cls := "com/example/odds_on_axioms/oddsonaxioms/aleatoric/Distribution", name := "expectation", desc := "([D)D" } : Jvm.MethodName)).before a0 Z = true := hw _ (List.mem_of_getElem? (i := 47) rfl)
theorem wk48 {a0 : Array Value} {Z : State} (hw : ∀ d ∈ tables_1, d.before a0 Z = true) : (Jvm.Cond.selects "com/example/odds_on_axioms/oddsonaxioms/aleatoric/Distribution" ({ cls := "com/example/odds_on_axioms/oddsonaxioms/aleatoric/Distribution", name := "expectation", desc := "([D)D" } : Jvm.MethodName) ({ cls := "com/example/odds_on_axioms/oddsonaxioms/aleatoric/Distribution", name := "expectation", desc := "([D)D" } : Jvm.MethodName)).before a0 Z = true := hw _ (List.mem_of_getElem? (i := 48) rfl)
theorem wk49 {a0 : Array Value} {Z : State} (hw : ∀ d ∈ tables_1, d.before a0 Z = true) : (Jvm.Cond.code ({ cls := "com/example/odds_on_axioms/oddsonaxioms/aleatoric/Distribution", name := "expectation", desc := "([D)D" } : Jvm.MethodName) prog_6_method_4_code (5 : Nat) (Option.some Jvm.ClassFile.FieldType.double)).before a0 Z = true := hw _ (List.mem_of_getElem? (i := 49) rfl)
theorem own_callP {p : Program} {l : Launch} {e : Env} {R : Room} {s : State} {m : MethodId} {args : Array Value} {below : List Frame} {meth : Method} {c : Code} {T Z : State} {locs : List Loc} {cells slots : Nat} {a0 : Array Value} {h : Heap} {n0 : Nat} (X : Stand p l e R s m args below meth c T locs cells slots) (hx : p.tables.exec = Jvm.exec) (hZ : Z.Warmed39 s.vm) {own : String} {index : Nat} {y : MethodName} {bytes : ByteArray} {maxL : Nat} {ret : Option FieldType} {rm : Room} {rv : Value} {argsL rest : List Value} {W : Nat}
    (hown : s.vm.findClass own = some m.cls) (w1 : (Jvm.Cond.methodLink own index y).before a0 Z = true) (w2 : (Jvm.Cond.static y).before a0 Z = true) (w3 : (Jvm.Cond.initialized y.cls).before a0 Z = true) (w4 : (Jvm.Cond.code y bytes maxL ret).before a0 Z = true) (hy : y.cls ≠ "java/lang/invoke/MethodHandle" ∧ y.cls ≠ "java/lang/invoke/VarHandle")
    (hM : MetFree l y (head1 [Jvm.Cond.code y bytes maxL ret] rm) (fun a U => a = argsL.toArray ∧ Z.Warmed39 U.vm ∧ U.heap = h) (fun _ _ _ _ _ => True) (fun _ U o U' => ∃ v L, o = .returned v ∧ (v = some rv ∧ Fr n0 L ∧ U'.heap = h) ∧ FrameEnd U o U' L rm.cells rm.slots))
    (eT : T.heap = h) (N : Fr n0 locs) (hf : rm.frames + 1 ≤ R.frames) (hl : W + (maxL + 11) + rm.locals ≤ R.locals) (hc : cells + rm.cells ≤ R.cells) (hsl : slots + rm.slots ≤ R.slots)
    {g : JFrame} (hg : g.method = m) (hsize : g.locals.size = c.maxLocals) (hlen : ∀ sig, parseMethodDescriptor y.desc = some sig → argsL.length = sig.parameters.length) (hstack : g.stack = argsL.reverse ++ rest) (hW : 2 * g.monitorRoom + (rest.map fun v => v.category).sum ≤ W) (hdg : decode c.code g.pc = .ok (.invokestatic index, 3)) :
    ∃ T' L, Stand p l e R s m args below meth c T' L (cells + rm.cells) (slots + rm.slots) ∧ T'.heap = h ∧ Fr n0 L ∧ ∀ target, Steps p.tables e below (T'.setTop { g with pc := g.pc + 3, stack := rv :: rest }) target → Steps p.tables e below (T.setTop g) target := by
  obtain ⟨_, _, ⟨T', L', k', n'⟩, -, X', ⟨Lc, hQ, l1, y1, z1⟩, st⟩ := Jvm.LawKit.callS X hx (y := y) hown (mvT hZ w1) (mvT hZ w2) (mvT hZ w3) (mvT hZ w4) hy (backOf (W := W) (Q := fun v hh L => v = some rv ∧ Fr n0 L ∧ hh = h) hM hZ w4 w3 hf hl) hg hsize (argsL := argsL) (rest := rest) hlen hstack hW hdg (fun _ _ => ⟨rfl, eT, hc, hsl⟩)
  dsimp only [Pt.U, Pt.locs, Pt.cells, Pt.slots] at X' l1 y1 z1 st hQ
  subst l1 y1 z1
  obtain ⟨rfl, Nq, e'⟩ := hQ
  exact ⟨T', _, X', e', Fr.app N Nq, st⟩
theorem own_callVP {p : Program} {l : Launch} {e : Env} {R : Room} {s : State} {m : MethodId} {args : Array Value} {below : List Frame} {meth : Method} {c : Code} {T Z : State} {locs : List Loc} {cells slots : Nat} {a0 : Array Value} {h : Heap} {n0 : Nat} (X : Stand p l e R s m args below meth c T locs cells slots) (hx : p.tables.exec = Jvm.exec) (hZ : Z.Warmed39 s.vm) {own C : String} {index : Nat} {y : MethodName} {bytes : ByteArray} {maxL : Nat} {ret : Option FieldType} {rm : Room} {rv : Value} {argsL rest : List Value} {W : Nat} {a : Addr}
    (hown : s.vm.findClass own = some m.cls) (w1 : (Jvm.Cond.methodLink own index y).before a0 Z = true) (w2 : (Jvm.Cond.declares y).before a0 Z = true) (w5 : (Jvm.Cond.selects C y y).before a0 Z = true) (w6 : (Jvm.Cond.instanceMethod y).before a0 Z = true) (hy : y.cls ≠ "java/lang/invoke/MethodHandle" ∧ y.cls ≠ "java/lang/invoke/VarHandle") (w3 : (Jvm.Cond.initialized y.cls).before a0 Z = true) (w4 : (Jvm.Cond.code y bytes maxL ret).before a0 Z = true)
    (hM : MetFree l y (head1 [Jvm.Cond.code y bytes maxL ret] rm) (fun a' U => a' = (Value.ref a :: argsL).toArray ∧ Z.Warmed39 U.vm ∧ U.heap = h) (fun _ _ _ _ _ => True) (fun _ U o U' => ∃ v L, o = .returned v ∧ (v = some rv ∧ Fr n0 L ∧ U'.heap = h) ∧ FrameEnd U o U' L rm.cells rm.slots))
    (eT : T.heap = h) (N : Fr n0 locs) (hf : rm.frames + 1 ≤ R.frames) (hl : W + (maxL + 11) + rm.locals ≤ R.locals) (hc : cells + rm.cells ≤ R.cells) (hsl : slots + rm.slots ≤ R.slots) (E : Exa Z h a C)
    {g : JFrame} (hg : g.method = m) (hsize : g.locals.size = c.maxLocals) (hlen : ∀ sig, parseMethodDescriptor y.desc = some sig → argsL.length = sig.parameters.length) (hstack : g.stack = argsL.reverse ++ .ref a :: rest) (hW : 2 * g.monitorRoom + (rest.map fun v => v.category).sum ≤ W) (hdg : decode c.code g.pc = .ok (.invokevirtual index, 3)) :
    ∃ T' L, Stand p l e R s m args below meth c T' L (cells + rm.cells) (slots + rm.slots) ∧ T'.heap = h ∧ Fr n0 L ∧ ∀ target, Steps p.tables e below (T'.setTop { g with pc := g.pc + 3, stack := rv :: rest }) target → Steps p.tables e below (T.setTop g) target := by
  obtain ⟨cq, kq, qa, qb, qc⟩ := isOf hZ eT E
  obtain ⟨_, _, ⟨T', L', k', n'⟩, -, X', ⟨Lc, hQ, l1, y1, z1⟩, st⟩ := X.virtualBack hx (y := y) (z := y) hown (mvT hZ w1) (mvT hZ w2) (notFace_of_selects (args := #[]) (mvT hZ w5)) (mvT hZ w5) (mvT hZ w6) hy (backOf (W := W) (Q := fun v hh L => v = some rv ∧ Fr n0 L ∧ hh = h) hM hZ w4 w3 hf hl) qa qc hg hsize (Steps.refl _) (argsL := argsL) (rest := rest) hlen hstack hW hdg (fun _ _ => ⟨rfl, eT, hc, hsl⟩)
  dsimp only [Pt.U, Pt.locs, Pt.cells, Pt.slots] at X' l1 y1 z1 st hQ
  subst l1 y1 z1
  obtain ⟨rfl, Nq, e'⟩ := hQ
  exact ⟨T', _, X', e', Fr.app N Nq, fun target k => st.trans k⟩
theorem own_k0 : (0 : Int32).toInt = 0 := rfl
theorem own_k1 : (1 : Int32).toInt = 1 := rfl
theorem own_k2 : (2 : Int32).toInt = 2 := rfl
theorem own_k3 : (3 : Int32).toInt = 3 := rfl
theorem own_and3 (p : Int32) : (p &&& (3 : Int32)) = (0 : Int32) ∨ (p &&& (3 : Int32)) = (1 : Int32) ∨ (p &&& (3 : Int32)) = (2 : Int32) ∨ (p &&& (3 : Int32)) = (3 : Int32) := by
  have h1 := c_mask p 3 2 (by decide) (by decide)
  simp only [← Int32.toInt_inj, own_k0, own_k1, own_k2, own_k3]
  omega
theorem own_dc0 : FP.dconst0 = FP.l2d (0 : Int64) := by decide +kernel
theorem own_dc1 : FP.dconst1 = FP.l2d (1 : Int64) := by decide +kernel
theorem own_mul1 (y : Int64) (hy : 0 ≤ y.toInt ∧ y.toInt ≤ 70000) : FP.dmul (FP.l2d (1 : Int64)) (FP.l2d y) = FP.l2d y := by
  have k1 : (1 : Int64).toInt = 1 := rfl
  have q := dmul_k (a := (1 : Int64)) (b := y) (A := 1) (B := 70000) (by rw [k1]; decide) (by rw [k1]; decide) (by omega) (by omega) (by decide) (by decide) (by decide) (fun z => absurd z.1 (by decide)) (fun z => absurd z.2 (by decide))
  rw [q]; congr 1; exact Int64.one_mul y
theorem own_add0 (y : Int64) (hy : 0 ≤ y.toInt ∧ y.toInt ≤ 70000) : FP.dadd (FP.l2d (0 : Int64)) (FP.l2d y) = FP.l2d y := by
  have q := dadd_w (a := (0 : Int64)) (b := y) ⟨by decide, by decide⟩ ⟨by omega, by omega⟩
  rw [q]; congr 1; exact Int64.zero_add y
theorem own_tri (x y : Int32) (h1 : ¬ x < y) (h2 : ¬ y < x) : x = y := by
  rw [Int32.lt_iff_toInt_lt] at h1 h2
  exact Int32.toInt_inj.mp (by omega)
theorem own_ne1 (x : Int32) : ¬ (x = (x + (1 : Int32))) := by
  intro h
  have h1 := congrArg Int32.toInt h
  have h2 := c_iadd x 1
  have k1 : (1 : Int32).toInt = 1 := rfl
  omega
theorem own_ne2 (x : Int32) : ¬ (x = (x - (1 : Int32))) := by
  intro h
  have h1 := congrArg Int32.toInt h
  have h2 := c_isub x 1
  have k1 : (1 : Int32).toInt = 1 := rfl
  omega
theorem own_rng0 (p : Int32) : 0 ≤ ((p &&& (65535 : Int32)).toInt64).toInt ∧ ((p &&& (65535 : Int32)).toInt64).toInt ≤ 70000 := by
  rw [c_i2l]
  have h1 := c_mask p 65535 16 (by decide) (by decide)
  omega
theorem own_rng1 (p : Int32) : 0 ≤ (((p &&& (65535 : Int32)) + (1 : Int32)).toInt64).toInt ∧ (((p &&& (65535 : Int32)) + (1 : Int32)).toInt64).toInt ≤ 70000 := by
  rw [c_i2l]
  have h1 := c_mask p 65535 16 (by decide) (by decide)
  have h2 := c_iadd (p &&& (65535 : Int32)) (1 : Int32)
  have h3 := rng32 ((p &&& (65535 : Int32)) + (1 : Int32))
  have k1 : (1 : Int32).toInt = 1 := rfl
  omega
theorem own_rng2 (p : Int32) : 0 ≤ (((p &&& (65535 : Int32)) + (2 : Int32)).toInt64).toInt ∧ (((p &&& (65535 : Int32)) + (2 : Int32)).toInt64).toInt ≤ 70000 := by
  rw [c_i2l]
  have h1 := c_mask p 65535 16 (by decide) (by decide)
  have h2 := c_iadd (p &&& (65535 : Int32)) (2 : Int32)
  have h3 := rng32 ((p &&& (65535 : Int32)) + (2 : Int32))
  have k1 : (2 : Int32).toInt = 2 := rfl
  omega
theorem own_rng3 (p : Int32) : 0 ≤ (((p &&& (65535 : Int32)) + (3 : Int32)).toInt64).toInt ∧ (((p &&& (65535 : Int32)) + (3 : Int32)).toInt64).toInt ≤ 70000 := by
  rw [c_i2l]
  have h1 := c_mask p 65535 16 (by decide) (by decide)
  have h2 := c_iadd (p &&& (65535 : Int32)) (3 : Int32)
  have h3 := rng32 ((p &&& (65535 : Int32)) + (3 : Int32))
  have k1 : (3 : Int32).toInt = 3 := rfl
  omega
theorem d2_0 : decode prog_6_method_1_code 0 = .ok (.aload_n 0, 1) := by decide +kernel
theorem d2_1 : decode prog_6_method_1_code 1 = .ok (.invokespecial 1, 3) := by decide +kernel
theorem d2_4 : decode prog_6_method_1_code 4 = .ok (.aload_n 0, 1) := by decide +kernel
theorem d2_5 : decode prog_6_method_1_code 5 = .ok (.aload_n 1, 1) := by decide +kernel
theorem d2_6 : decode prog_6_method_1_code 6 = .ok (.putfield 7, 3) := by decide +kernel
theorem d2_9 : decode prog_6_method_1_code 9 = .ok (.aload_n 0, 1) := by decide +kernel
theorem d2_10 : decode prog_6_method_1_code 10 = .ok (.aload_n 2, 1) := by decide +kernel
theorem d2_11 : decode prog_6_method_1_code 11 = .ok (.putfield 13, 3) := by decide +kernel
theorem d2_14 : decode prog_6_method_1_code 14 = .ok (.return_, 1) := by decide +kernel
theorem pn_2 : plainName "com/example/odds_on_axioms/oddsonaxioms/aleatoric/Distribution" = true := by first | (simp [plainName, overriddenIn]; done) | decide +kernel
theorem ef_rm2 (m : MethodId) (p0 : Addr) (p1 : Addr) (p2 : Addr) : entryFrame m #[(.ref p0), (.ref p1), (.ref p2)] 3 = mkF m 0 #[.val (.ref p0), .val (.ref p1), .val (.ref p2)] [] := by first | (simp [entryFrame, mkF, argsToLocals, Value.category]; done) | rfl
def Q2 (Z : State) (p0 : Addr) (p1 : Addr) (p2 : Addr) (h0 : Heap) (n0 : Nat) (v : Option Value) (h : Heap) (L : List Loc) : Prop := v = none ∧ Fr n0 L ∧ Keep h0 h [p0] ∧ (Exa Z h p0 "com/example/odds_on_axioms/oddsonaxioms/aleatoric/Distribution") ∧ (Fld Z h p0 "com/example/odds_on_axioms/oddsonaxioms/aleatoric/Distribution" "individuals" "[I" (.ref p1)) ∧ (Fld Z h p0 "com/example/odds_on_axioms/oddsonaxioms/aleatoric/Distribution" "probabilities" "[D" (.ref p2))
set_option maxRecDepth 65536 in
set_option maxHeartbeats 40000000 in
theorem rm2 (l : Launch) (Z : State) (a0 : Array Value) (hw : ∀ d ∈ tables_1, d.before a0 Z = true) (ws : List Jvm.Cond) (p0 : Addr) (p1 : Addr) (p2 : Addr) (h0 : Heap) (n0 : Nat) (O0 : Old Z n0 h0) (F0_ : Exa Z h0 p0 "com/example/odds_on_axioms/oddsonaxioms/aleatoric/Distribution") (F1_ : Fld Z h0 p0 "com/example/odds_on_axioms/oddsonaxioms/aleatoric/Distribution" "individuals" "[I" .null) (F2_ : Fld Z h0 p0 "com/example/odds_on_axioms/oddsonaxioms/aleatoric/Distribution" "probabilities" "[D" .null) (F3_ : n0 ≤ p0) :
    MetFree l nm0 (head1 (Jvm.Cond.code nm0 prog_6_method_1_code 3 none :: ws) ({ frames := 1, cells := 0, slots := 0, locals := 12 } : Room)) (fun a U => a = #[(.ref p0), (.ref p1), (.ref p2)] ∧ Z.Warmed39 U.vm ∧ U.heap = h0) (fun _ _ _ _ _ => True) (fun _ U o U' => ∃ v L, o = .returned v ∧ Q2 Z p0 p1 p2 h0 n0 v U'.heap L ∧ FrameEnd U o U' L ({ frames := 1, cells := 0, slots := 0, locals := 12 } : Room).cells ({ frames := 1, cells := 0, slots := 0, locals := 12 } : Room).slots) := by
  refine MetFree.of_bodySF (plainFor_of_name pn_2) hisR ?_
  intro p e s m args below meth c s₁ Bd hml0 hP hK
  obtain ⟨rfl, hZ, hh⟩ := hP
  have hx := Bd.exec
  have hby := Bd.bytes
  have hml : c.maxLocals = 3 := hml0
  have hown : s.vm.findClass "com/example/odds_on_axioms/oddsonaxioms/aleatoric/Distribution" = some m.cls := findClass_of_methodNamed Bd.named
  have hnm := (name_of_methodNamed Bd.named Bd.method).1
  have X0 : Stand p l e ({ frames := 1, cells := 0, slots := 0, locals := 12 } : Room) s m #[(.ref p0), (.ref p1), (.ref p2)] below meth c s₁ [] 0 0 := Stand.of_body Bd
  have e0 : s₁.heap = h0 := by rw [← hh, Bd.state]; rfl
  have N0 := Fr.nil n0
  have s0 : Steps p.tables e below (s₁.setTop (entryFrame m #[(.ref p0), (.ref p1), (.ref p2)] 3)) (s₁.setTop (mkF m 0 #[.val (.ref p0), .val (.ref p1), .val (.ref p2)] [])) := castTop (ef_rm2 m p0 p1 p2) (Steps.refl _)
  obtain ⟨A₀, hA₀⟩ : ∃ z, z = (s₁.setTop (entryFrame m #[(.ref p0), (.ref p1), (.ref p2)] 3)) := ⟨_, rfl⟩
  rw [← hA₀] at s0
  obtain ⟨T1, X1, e1, st1⟩ := initO X0 hx hZ hown (hw _ (List.mem_of_getElem? (i := 11) rfl)) (hw _ (List.mem_of_getElem? (i := 12) rfl)) (hw _ (List.mem_of_getElem? (i := 13) rfl)) e0 (g := (mkF m 1 #[.val (.ref p0), .val (.ref p1), .val (.ref p2)] [(.ref p0)])) rfl (by rw [hml]; rfl) rfl (hb hby d2_1) (by decide) (W := 0) (by show 2 * 0 + _ ≤ _; exact Nat.le_of_eq rfl) (by decide)
  obtain ⟨T2, h2, X2, e2, W2, st2⟩ := putF X1 hx hZ hown (host := "") (Or.inl (hw _ (List.mem_of_getElem? (i := 14) rfl))) Via.refl e1 F1_ F0_ (Or.inr ⟨(hw _ (List.mem_of_getElem? (i := 15) rfl)), rfl, hnm⟩) (hw _ (List.mem_of_getElem? (i := 5) rfl)) (ty := (.array .int)) (by decide) rfl rfl (g := (mkF m 6 #[.val (.ref p0), .val (.ref p1), .val (.ref p2)] [(.ref p1), (.ref p0)])) rfl rfl (hb hby d2_6)
  have Fw2 := F1_.same W2
  have O2 := O0.wr W2 F3_
  have K2 : Keep h0 h2 [p0] := (Keep.refl h0 [p0]).wr W2 (Or.inl (List.mem_of_getElem? (i := 0) rfl))
  have N2 := Fr.snoc X2 N0 F3_
  have c3 : Exa Z h2 p0 "com/example/odds_on_axioms/oddsonaxioms/aleatoric/Distribution" := (F0_.wr W2)
  have c4 : Fld Z h2 p0 "com/example/odds_on_axioms/oddsonaxioms/aleatoric/Distribution" "probabilities" "[D" .null := (F2_.other W2 (Or.inr (slot_ne (Or.inr (hw _ (List.mem_of_getElem? (i := 17) rfl))) (Or.inr (hw _ (List.mem_of_getElem? (i := 15) rfl))) (by decide) (t := (.array .double)) (t' := (.array .int)) (by decide) (by decide))))
  obtain ⟨T5, h5, X5, e5, W5, st5⟩ := putF X2 hx hZ hown (host := "") (Or.inl (hw _ (List.mem_of_getElem? (i := 16) rfl))) Via.refl e2 c4 c3 (Or.inr ⟨(hw _ (List.mem_of_getElem? (i := 17) rfl)), rfl, hnm⟩) (hw _ (List.mem_of_getElem? (i := 5) rfl)) (ty := (.array .double)) (by decide) rfl rfl (g := (mkF m 11 #[.val (.ref p0), .val (.ref p1), .val (.ref p2)] [(.ref p2), (.ref p0)])) rfl rfl (hb hby d2_11)
  have Fw5 := c4.same W5
  have O5 := O2.wr W5 F3_
  have K5 : Keep h0 h5 [p0] := K2.wr W5 (Or.inl (List.mem_of_getElem? (i := 0) rfl))
  have N5 := Fr.snoc X5 N2 F3_
  have s6 : Steps p.tables e below A₀ (T5.setTop (mkF m 14 #[.val (.ref p0), .val (.ref p1), .val (.ref p2)] [])) := by
    refine s0.trans ?_
    refine XS.aloadN X0.here hx rfl (hb hby d2_0) rfl rfl ?_
    refine st1 _ ?_
    refine XS.aloadN X1.here hx rfl (hb hby d2_4) rfl rfl ?_
    refine XS.aloadN X1.here hx rfl (hb hby d2_5) rfl rfl ?_
    refine st2 _ ?_
    refine XS.aloadN X2.here hx rfl (hb hby d2_9) rfl rfl ?_
    refine XS.aloadN X2.here hx rfl (hb hby d2_10) rfl rfl ?_
    refine st5 _ ?_
    exact Steps.refl _
  subst hA₀
  have c7 : Exa Z h5 p0 "com/example/odds_on_axioms/oddsonaxioms/aleatoric/Distribution" := (c3.wr W5)
  have c8 : Fld Z h5 p0 "com/example/odds_on_axioms/oddsonaxioms/aleatoric/Distribution" "individuals" "[I" (.ref p1) := (Fw2.other W5 (Or.inr (slot_ne (Or.inr (hw _ (List.mem_of_getElem? (i := 15) rfl))) (Or.inr (hw _ (List.mem_of_getElem? (i := 17) rfl))) (by decide) (t := (.array .int)) (t' := (.array .double)) (by decide) (by decide))))
  obtain ⟨fs, hr, hrun, hended, hW, hsame⟩ := X5.leave (v := none) (fun _ => rfl)
  refine ⟨_, _, s6.trans ?_, hrun, hended, _, _, rfl, ?_, ⟨_, rfl⟩, hW, hsame.mono (by decide) (by decide)⟩
  · show Steps p.tables e below (T5.setTop (mkF m 14 #[.val (.ref p0), .val (.ref p1), .val (.ref p2)] [])) _
    exact X5.returnOut hx Bd.returns (hb hby d2_14) hr
  · show Q2 Z p0 p1 p2 h0 n0 _ T5.heap _
    rw [e5]
    exact ⟨rfl, N5, K5, c7, c8, Fw5⟩
theorem d1_0 : decode prog_6_method_3_code 0 = .ok (.new 8, 3) := by decide +kernel
theorem d1_3 : decode prog_6_method_3_code 3 = .ok (.dup, 1) := by decide +kernel
theorem d1_4 : decode prog_6_method_3_code 4 = .ok (.iconst 1, 1) := by decide +kernel
theorem d1_5 : decode prog_6_method_3_code 5 = .ok (.newarray .int, 2) := by decide +kernel
theorem d1_7 : decode prog_6_method_3_code 7 = .ok (.dup, 1) := by decide +kernel
theorem d1_8 : decode prog_6_method_3_code 8 = .ok (.iconst 0, 1) := by decide +kernel
theorem d1_9 : decode prog_6_method_3_code 9 = .ok (.iload_n 0, 1) := by decide +kernel
theorem d1_10 : decode prog_6_method_3_code 10 = .ok (.iastore, 1) := by decide +kernel
theorem d1_11 : decode prog_6_method_3_code 11 = .ok (.iconst 1, 1) := by decide +kernel
theorem d1_12 : decode prog_6_method_3_code 12 = .ok (.newarray .double, 2) := by decide +kernel
theorem d1_14 : decode prog_6_method_3_code 14 = .ok (.dup, 1) := by decide +kernel
theorem d1_15 : decode prog_6_method_3_code 15 = .ok (.iconst 0, 1) := by decide +kernel
theorem d1_16 : decode prog_6_method_3_code 16 = .ok (.dconst 1, 1) := by decide +kernel
theorem d1_17 : decode prog_6_method_3_code 17 = .ok (.dastore, 1) := by decide +kernel
theorem d1_18 : decode prog_6_method_3_code 18 = .ok (.invokespecial 48, 3) := by decide +kernel
theorem d1_21 : decode prog_6_method_3_code 21 = .ok (.areturn, 1) := by decide +kernel
theorem pd_rm1_0 : parseMethodDescriptor "([I[D)V" = some ⟨[(.array .int), (.array .double)], none⟩ := by decide +kernel
theorem ef_rm1 (m : MethodId) (p0 : Int32) : entryFrame m #[(.int p0)] 1 = mkF m 0 #[.val (.int p0)] [] := by first | (simp [entryFrame, mkF, argsToLocals, Value.category]; done) | rfl
def Q1 (Z : State) (p0 : Int32) (h0 : Heap) (n0 : Nat) (v : Option Value) (h : Heap) (L : List Loc) : Prop := ∃ u : Addr, ∃ a : Addr, ∃ b : Addr, ∃ ka : ClassId, ∃ kb : ClassId, v = some (.ref u) ∧ Fr n0 L ∧ Keep h0 h [] ∧ (Exa Z h u "com/example/odds_on_axioms/oddsonaxioms/aleatoric/Distribution") ∧ (Fld Z h u "com/example/odds_on_axioms/oddsonaxioms/aleatoric/Distribution" "individuals" "[I" (.ref a)) ∧ (Fld Z h u "com/example/odds_on_axioms/oddsonaxioms/aleatoric/Distribution" "probabilities" "[D" (.ref b)) ∧ (Arv Z h a ka .int (1 : Int32) [(.int p0)] (.int (0 : Int32))) ∧ (Exa Z h a "[I") ∧ (Arv Z h b kb .double (1 : Int32) [(.double (FP.l2d (1 : Int64)))] (.double (FP.l2d (0 : Int64)))) ∧ (h0.size ≤ u) ∧ (h0.size ≤ a) ∧ (h0.size ≤ b)
set_option maxRecDepth 65536 in
set_option maxHeartbeats 40000000 in
theorem rm1 (l : Launch) (Z : State) (a0 : Array Value) (hw : ∀ d ∈ tables_1, d.before a0 Z = true) (ws : List Jvm.Cond) (p0 : Int32) (h0 : Heap) (n0 : Nat) (O0 : Old Z n0 h0) :
    MetFree l nm1 (head1 (Jvm.Cond.code nm1 prog_6_method_3_code 1 (some (.object "com/example/odds_on_axioms/oddsonaxioms/aleatoric/Distribution")) :: ws) ({ frames := 2, cells := 3, slots := 4, locals := 27 } : Room)) (fun a U => a = #[(.int p0)] ∧ Z.Warmed39 U.vm ∧ U.heap = h0) (fun _ _ _ _ _ => True) (fun _ U o U' => ∃ v L, o = .returned v ∧ Q1 Z p0 h0 n0 v U'.heap L ∧ FrameEnd U o U' L ({ frames := 2, cells := 3, slots := 4, locals := 27 } : Room).cells ({ frames := 2, cells := 3, slots := 4, locals := 27 } : Room).slots) := by
  refine MetFree.of_bodySF (plainFor_of_name pn_2) hisR ?_
  intro p e s m args below meth c s₁ Bd hml0 hP hK
  obtain ⟨rfl, hZ, hh⟩ := hP
  have hx := Bd.exec
  have hby := Bd.bytes
  have hml : c.maxLocals = 1 := hml0
  have hown : s.vm.findClass "com/example/odds_on_axioms/oddsonaxioms/aleatoric/Distribution" = some m.cls := findClass_of_methodNamed Bd.named
  have X0 : Stand p l e ({ frames := 2, cells := 3, slots := 4, locals := 27 } : Room) s m #[(.int p0)] below meth c s₁ [] 0 0 := Stand.of_body Bd
  have e0 : s₁.heap = h0 := by rw [← hh, Bd.state]; rfl
  have N0 := Fr.nil n0
  have s0 : Steps p.tables e below (s₁.setTop (entryFrame m #[(.int p0)] 1)) (s₁.setTop (mkF m 0 #[.val (.int p0)] [])) := castTop (ef_rm1 m p0) (Steps.refl _)
  obtain ⟨A₀, hA₀⟩ : ∃ z, z = (s₁.setTop (entryFrame m #[(.int p0)] 1)) := ⟨_, rfl⟩
  rw [← hA₀] at s0
  obtain ⟨T1, h1, X1, e1, E1, A1, D1, -, st1⟩ := newO X0 hx hZ hown (hw _ (List.mem_of_getElem? (i := 4) rfl)) (hw _ (List.mem_of_getElem? (i := 5) rfl)) (hw _ (List.mem_of_getElem? (i := 2) rfl)) e0 (g := (mkF m 0 #[.val (.int p0)] [])) rfl (hb hby d1_0) (by decide) (by decide)
  obtain ⟨b1, g1⟩ : ∃ z, z = h0.size := ⟨_, rfl⟩
  rw [← g1] at A1 D1 st1
  have g_b1 : n0 ≤ b1 := Nat.le_trans (Nat.le_of_eq O0.1.symm) (Nat.le_trans O0.2.1 (Nat.le_of_eq g1.symm))
  have sz_b1 : h0.size ≤ b1 := Nat.le_trans (Keep.refl h0 []).1 (Nat.le_of_eq g1.symm)
  have O1 := O0.ext E1
  have K1 : Keep h0 h1 [] := (Keep.refl h0 []).ext E1
  have F1_individuals : Fld Z h1 b1 "com/example/odds_on_axioms/oddsonaxioms/aleatoric/Distribution" "individuals" "[I" .null := D1 (Or.inr (hw _ (List.mem_of_getElem? (i := 15) rfl))) (ty := (.array .int)) (by decide)
  have F1_probabilities : Fld Z h1 b1 "com/example/odds_on_axioms/oddsonaxioms/aleatoric/Distribution" "probabilities" "[D" .null := D1 (Or.inr (hw _ (List.mem_of_getElem? (i := 17) rfl))) (ty := (.array .double)) (by decide)
  obtain ⟨T2, h2, k2, X2, e2, E2, A2, Ex2, st2⟩ := newPE X1 hx hZ (hw _ (List.mem_of_getElem? (i := 6) rfl)) e1 (g := (mkF m 5 #[.val (.int p0)] [(.int (1 : Int32)), (.ref b1), (.ref b1)])) rfl (hb hby d1_5) rfl (by decide) (cap := 1) (by decide) (by decide) (by decide) (by decide) (ad := "[I") rfl
  obtain ⟨b2, g2⟩ : ∃ z, z = h1.size := ⟨_, rfl⟩
  rw [← g2] at A2 Ex2 st2
  have ne_b1_b2 : b1 ≠ b2 := Nat.ne_of_lt (Nat.lt_of_lt_of_le A1.lt (Nat.le_of_eq g2.symm))
  have g_b2 : n0 ≤ b2 := Nat.le_trans (Nat.le_of_eq O1.1.symm) (Nat.le_trans O1.2.1 (Nat.le_of_eq g2.symm))
  have sz_b2 : h0.size ≤ b2 := Nat.le_trans K1.1 (Nat.le_of_eq g2.symm)
  have O2 := O1.ext E2
  have K2 : Keep h0 h2 [] := K1.ext E2
  have V2 : Arv Z h2 b2 k2 .int (1 : Int32) [(.int (0 : Int32))] (.int (0 : Int32)) := (Arv.new A2 (by decide)).pad (pad_rep [] (.int (0 : Int32)) 1)
  obtain ⟨cla3, Ara3, qa3, Sa3, Za3, Ha3, Ga3⟩ := id V2
  have hin4 : ¬ ((0 : Int32) < 0 ∨ cla3.slots.size ≤ ((0 : Int32)).toNatClampNeg) := inb_of Sa3 ⟨by decide, by decide⟩
  obtain ⟨T5, h5, X5, e5, W5, st5⟩ := stI X2 hx hZ e2 Ara3 (j := (0 : Int32)) hin4 (g := (mkF m 10 #[.val (.int p0)] [(.int p0), (.int (0 : Int32)), (.ref b2), (.ref b2), (.ref b1), (.ref b1)])) rfl rfl (hb hby d1_10)
  have O5 := O2.wr W5 g_b2
  have K5 : Keep h0 h5 [] := K2.wr W5 (Or.inr sz_b2)
  have N5 := Fr.snoc X5 N0 g_b2
  have V5 : Arv Z h5 b2 k2 .int (1 : Int32) [(.int p0)] (.int (0 : Int32)) := Arv.set Ara3 qa3 Sa3 Za3 Ha3 Ga3 rfl W5 0 rfl (Nat.le_of_ble_eq_true rfl)
  obtain ⟨T6, h6, k6, X6, e6, E6, A6, Ex6, st6⟩ := newPE X5 hx hZ (hw _ (List.mem_of_getElem? (i := 7) rfl)) e5 (g := (mkF m 12 #[.val (.int p0)] [(.int (1 : Int32)), (.ref b2), (.ref b1), (.ref b1)])) rfl (hb hby d1_12) rfl (by decide) (cap := 1) (by decide) (by decide) (by decide) (by decide) (ad := "[D") rfl
  obtain ⟨b6, g6⟩ : ∃ z, z = h5.size := ⟨_, rfl⟩
  rw [← g6] at A6 Ex6 st6
  have c7 : Exa Z h5 b1 "com/example/odds_on_axioms/oddsonaxioms/aleatoric/Distribution" := ((A1.ext E2).wr W5)
  have ne_b1_b6 : b1 ≠ b6 := Nat.ne_of_lt (Nat.lt_of_lt_of_le c7.lt (Nat.le_of_eq g6.symm))
  have c8 : Exa Z h5 b2 "[I" := (Ex2.wr W5)
  have ne_b2_b6 : b2 ≠ b6 := Nat.ne_of_lt (Nat.lt_of_lt_of_le c8.lt (Nat.le_of_eq g6.symm))
  have g_b6 : n0 ≤ b6 := Nat.le_trans (Nat.le_of_eq O5.1.symm) (Nat.le_trans O5.2.1 (Nat.le_of_eq g6.symm))
  have sz_b6 : h0.size ≤ b6 := Nat.le_trans K5.1 (Nat.le_of_eq g6.symm)
  have O6 := O5.ext E6
  have K6 : Keep h0 h6 [] := K5.ext E6
  have V6 : Arv Z h6 b6 k6 .double (1 : Int32) [(.double (FP.l2d (0 : Int64)))] (.double (FP.l2d (0 : Int64))) := (Arv.newD A6 (by decide)).pad (pad_rep [] (.double (FP.l2d (0 : Int64))) 1)
  obtain ⟨cla9, Ara9, qa9, Sa9, Za9, Ha9, Ga9⟩ := id V6
  have hin10 : ¬ ((0 : Int32) < 0 ∨ cla9.slots.size ≤ ((0 : Int32)).toNatClampNeg) := inb_of Sa9 ⟨by decide, by decide⟩
  obtain ⟨T11, h11, X11, e11, W11, st11⟩ := stD X6 hx hZ e6 Ara9 (j := (0 : Int32)) hin10 (g := (mkF m 17 #[.val (.int p0)] [(.double (FP.l2d (1 : Int64))), (.int (0 : Int32)), (.ref b6), (.ref b6), (.ref b2), (.ref b1), (.ref b1)])) rfl rfl (hb hby d1_17)
  have O11 := O6.wr W11 g_b6
  have K11 : Keep h0 h11 [] := K6.wr W11 (Or.inr sz_b6)
  have N11 := Fr.snoc X11 N5 g_b6
  have V11 : Arv Z h11 b6 k6 .double (1 : Int32) [(.double (FP.l2d (1 : Int64)))] (.double (FP.l2d (0 : Int64))) := Arv.set Ara9 qa9 Sa9 Za9 Ha9 Ga9 rfl W11 0 rfl (Nat.le_of_ble_eq_true rfl)
  have c12 : Exa Z h11 b1 "com/example/odds_on_axioms/oddsonaxioms/aleatoric/Distribution" := ((c7.ext E6).wr W11)
  have c13 : Fld Z h11 b1 "com/example/odds_on_axioms/oddsonaxioms/aleatoric/Distribution" "individuals" "[I" .null := ((((F1_individuals.ext E2).other W5 (Or.inl ne_b1_b2)).ext E6).other W11 (Or.inl ne_b1_b6))
  have c14 : Fld Z h11 b1 "com/example/odds_on_axioms/oddsonaxioms/aleatoric/Distribution" "probabilities" "[D" .null := ((((F1_probabilities.ext E2).other W5 (Or.inl ne_b1_b2)).ext E6).other W11 (Or.inl ne_b1_b6))
  obtain ⟨_, _, ⟨T15, L15, k15, n15⟩, -, X15, ⟨Lc15, hQ15, l15, y15, z15⟩, st15⟩ := X11.specialBack hx (y := (⟨"com/example/odds_on_axioms/oddsonaxioms/aleatoric/Distribution", "<init>", "([I[D)V"⟩ : MethodName)) rfl hown (mvT hZ (hw _ (List.mem_of_getElem? (i := 8) rfl))) (mvT hZ (hw _ (List.mem_of_getElem? (i := 9) rfl))) (mvT hZ (hw _ (List.mem_of_getElem? (i := 10) rfl))) (by decide) (backOf (W := 1) (rm2 l Z a0 hw [] b1 b2 b6 h11 n0 O11 c12 c13 c14 g_b1) hZ (hw _ (List.mem_of_getElem? (i := 10) rfl)) (hw _ (List.mem_of_getElem? (i := 2) rfl)) (by decide) (by decide)) (g := (mkF m 18 #[.val (.int p0)] [(.ref b6), (.ref b2), (.ref b1), (.ref b1)])) rfl (by rw [hml]; rfl) (Steps.refl _) (a := b1) (argsL := [(.ref b2), (.ref b6)]) (rest := [(.ref b1)]) (lenOf pd_rm1_0 rfl) rfl (by show 2 * 0 + _ ≤ _; exact Nat.le_of_eq rfl) (hb hby d1_18) (fun _ _ => ⟨rfl, e11, (by decide : 3 + 0 ≤ _), (by decide : 4 + 0 ≤ _)⟩)
  dsimp only [Pt.U, Pt.locs, Pt.cells, Pt.slots] at X15 l15 y15 z15 st15 hQ15
  subst l15 y15 z15
  obtain ⟨rfl, Nq15, Kc15, f15_0, f15_1, f15_2⟩ := hQ15
  have N15 := Fr.app N11 Nq15
  have K15 : Keep h0 T15.heap [] := K11.trans Kc15 (allS (Or.inr sz_b1) all0)
  have O15 := O11.keep Kc15 (allS g_b1 all0)
  have s16 : Steps p.tables e below A₀ (T15.setTop (mkF m 21 #[.val (.int p0)] [(.ref b1)])) := by
    refine s0.trans ?_
    refine st1 _ ?_
    refine XS.dup X1.here hx rfl (hb hby d1_3) rfl rfl ?_
    refine XS.iconst X1.here hx rfl (hb hby d1_4) ?_
    refine st2 _ ?_
    refine XS.dup X2.here hx rfl (hb hby d1_7) rfl rfl ?_
    refine XS.iconst X2.here hx rfl (hb hby d1_8) ?_
    refine XS.iloadN X2.here hx rfl (hb hby d1_9) rfl ?_
    refine st5 _ ?_
    show Steps p.tables e below (T5.setTop (mkF m 11 #[.val (.int p0)] [(.ref b2), (.ref b1), (.ref b1)])) _
    refine XS.iconst X5.here hx rfl (hb hby d1_11) ?_
    refine st6 _ ?_
    refine XS.dup X6.here hx rfl (hb hby d1_14) rfl rfl ?_
    refine XS.iconst X6.here hx rfl (hb hby d1_15) ?_
    refine XS.dconst1 X6.here hx rfl (hb hby d1_16) (v := (FP.l2d (1 : Int64))) own_dc1 ?_
    refine st11 _ ?_
    refine st15.trans ?_
    exact Steps.refl _
  subst hA₀
  have c17 : Arv Z T15.heap b2 k2 .int (1 : Int32) [(.int p0)] (.int (0 : Int32)) := (((V5.ext E6).other W11 ne_b2_b6).keep Kc15 (ninS (Ne.symm ne_b1_b2) nin0))
  have c18 : Exa Z T15.heap b2 "[I" := (((c8.ext E6).wr W11).keep Kc15)
  have c19 : Arv Z T15.heap b6 k6 .double (1 : Int32) [(.double (FP.l2d (1 : Int64)))] (.double (FP.l2d (0 : Int64))) := (V11.keep Kc15 (ninS (Ne.symm ne_b1_b6) nin0))
  obtain ⟨fs, hr, hrun, hended, hW, hsame⟩ := X15.leave (v := some (.ref b1)) (fun h => by rw [Bd.returns] at h; cases h)
  refine ⟨_, _, s16.trans ?_, hrun, hended, _, _, rfl, ?_, ⟨_, rfl⟩, hW, hsame.mono (by decide) (by decide)⟩
  · show Steps p.tables e below (T15.setTop (mkF m 21 #[.val (.int p0)] [(.ref b1)])) _
    jvm_step X15.here [X15.here.top, hx, (hb hby d1_21), X15.method', Bd.returns, Value.isRef, FieldType.isReference]
    first | (intro acts; rw [hr _ acts rfl rfl rfl]) | rw [hr _ _ rfl rfl rfl]
    exact Steps.refl _
  · show Q1 Z p0 h0 n0 _ T15.heap _
    exact ⟨b1, b2, b6, k2, k6, rfl, N15, K15, f15_0, f15_1, f15_2, c17, c18, c19, sz_b1, sz_b2, sz_b6⟩
theorem d4_0 : decode prog_6_method_6_code 0 = .ok (.aload_n 0, 1) := by decide +kernel
theorem d4_1 : decode prog_6_method_6_code 1 = .ok (.getfield 7, 3) := by decide +kernel
theorem d4_4 : decode prog_6_method_6_code 4 = .ok (.invokevirtual 55, 3) := by decide +kernel
theorem d4_7 : decode prog_6_method_6_code 7 = .ok (.checkcast 56, 3) := by decide +kernel
theorem d4_10 : decode prog_6_method_6_code 10 = .ok (.areturn, 1) := by decide +kernel
theorem ef_rm4 (m : MethodId) (p0 : Addr) : entryFrame m #[(.ref p0)] 1 = mkF m 0 #[.val (.ref p0)] [] := by first | (simp [entryFrame, mkF, argsToLocals, Value.category]; done) | rfl
def Q4 (Z : State) (p0 : Addr) (a : Addr) (ka : ClassId) (x : Int32) (h0 : Heap) (n0 : Nat) (v : Option Value) (h : Heap) (L : List Loc) : Prop := ∃ b : Addr, ∃ kb : ClassId, v = some (.ref b) ∧ Fr n0 L ∧ Keep h0 h [] ∧ (Arv Z h b kb .int (1 : Int32) [(.int x)] (.int (0 : Int32))) ∧ (h0.size ≤ b)
set_option maxRecDepth 65536 in
set_option maxHeartbeats 40000000 in
theorem rm4 (l : Launch) (Z : State) (a0 : Array Value) (hw : ∀ d ∈ tables_1, d.before a0 Z = true) (ws : List Jvm.Cond) (p0 : Addr) (a : Addr) (ka : ClassId) (x : Int32) (h0 : Heap) (n0 : Nat) (O0 : Old Z n0 h0) (F0_ : Fld Z h0 p0 "com/example/odds_on_axioms/oddsonaxioms/aleatoric/Distribution" "individuals" "[I" (.ref a)) (F1_ : Arv Z h0 a ka .int (1 : Int32) [(.int x)] (.int (0 : Int32))) (F2_ : Exa Z h0 a "[I") :
    MetFree l nm2 (head1 (Jvm.Cond.code nm2 prog_6_method_6_code 1 (some (.array .int)) :: ws) ({ frames := 1, cells := 1, slots := 1, locals := 14 } : Room)) (fun a U => a = #[(.ref p0)] ∧ Z.Warmed39 U.vm ∧ U.heap = h0) (fun _ _ _ _ _ => True) (fun _ U o U' => ∃ v L, o = .returned v ∧ Q4 Z p0 a ka x h0 n0 v U'.heap L ∧ FrameEnd U o U' L ({ frames := 1, cells := 1, slots := 1, locals := 14 } : Room).cells ({ frames := 1, cells := 1, slots := 1, locals := 14 } : Room).slots) := by
  refine MetFree.of_bodySF (plainFor_of_name pn_2) hisR ?_
  intro p e s m args below meth c s₁ Bd hml0 hP hK
  obtain ⟨rfl, hZ, hh⟩ := hP
  have hx := Bd.exec
  have hby := Bd.bytes
  have hml : c.maxLocals = 1 := hml0
  have hown : s.vm.findClass "com/example/odds_on_axioms/oddsonaxioms/aleatoric/Distribution" = some m.cls := findClass_of_methodNamed Bd.named
  have X0 : Stand p l e ({ frames := 1, cells := 1, slots := 1, locals := 14 } : Room) s m #[(.ref p0)] below meth c s₁ [] 0 0 := Stand.of_body Bd
  have e0 : s₁.heap = h0 := by rw [← hh, Bd.state]; rfl
  have N0 := Fr.nil n0
  have s0 : Steps p.tables e below (s₁.setTop (entryFrame m #[(.ref p0)] 1)) (s₁.setTop (mkF m 0 #[.val (.ref p0)] [])) := castTop (ef_rm4 m p0) (Steps.refl _)
  obtain ⟨A₀, hA₀⟩ : ∃ z, z = (s₁.setTop (entryFrame m #[(.ref p0)] 1)) := ⟨_, rfl⟩
  rw [← hA₀] at s0
  obtain ⟨T1, X1, e1, st1⟩ := getF X0 hx hZ hown (host := "") (Or.inl (hw _ (List.mem_of_getElem? (i := 14) rfl))) Via.refl e0 F0_ (g := (mkF m 1 #[.val (.ref p0)] [(.ref p0)])) rfl rfl (hb hby d4_1)
  obtain ⟨T2, h2, X2, e2, E2, A2, Ex2, st2⟩ := cloneH X1 hx hZ hown (hw _ (List.mem_of_getElem? (i := 23) rfl)) (hw _ (List.mem_of_getElem? (i := 24) rfl)) (hw _ (List.mem_of_getElem? (i := 28) rfl)) (hw _ (List.mem_of_getElem? (i := 26) rfl)) (hw _ (List.mem_of_getElem? (i := 27) rfl)) (hw _ (List.mem_of_getElem? (i := 29) rfl)) e1 (Arv.arh F1_) F2_ (g := (mkF m 4 #[.val (.ref p0)] [(.ref a)])) rfl (by rw [hml]; rfl) rfl (hb hby d4_4) (by decide) (W := 0) (by show 2 * 0 + _ ≤ _; exact Nat.le_of_eq rfl) (by decide) (cap := 1) (by decide) (by decide) (by decide)
  obtain ⟨b2, g2⟩ : ∃ z, z = h0.size := ⟨_, rfl⟩
  rw [← g2] at A2 Ex2 st2
  have ne_p0_b2 : p0 ≠ b2 := Nat.ne_of_lt (Nat.lt_of_lt_of_le F0_.lt (Nat.le_of_eq g2.symm))
  have ne_a_b2 : a ≠ b2 := Nat.ne_of_lt (Nat.lt_of_lt_of_le F1_.lt (Nat.le_of_eq g2.symm))
  have g_b2 : n0 ≤ b2 := Nat.le_trans (Nat.le_of_eq O0.1.symm) (Nat.le_trans O0.2.1 (Nat.le_of_eq g2.symm))
  have sz_b2 : h0.size ≤ b2 := Nat.le_trans (Keep.refl h0 []).1 (Nat.le_of_eq g2.symm)
  have O2 := O0.ext E2
  have K2 : Keep h0 h2 [] := (Keep.refl h0 []).ext E2
  have V2 : Arv Z h2 b2 ka .int (1 : Int32) [(.int x)] (.int (0 : Int32)) := A2
  obtain ⟨T3, X3, e3, st3⟩ := castY X2 hx hZ hown (hw _ (List.mem_of_getElem? (i := 30) rfl)) e2 (Ins.self Ex2) (g := (mkF m 7 #[.val (.ref p0)] [(.ref b2)])) rfl rfl (hb hby d4_7)
  have s4 : Steps p.tables e below A₀ (T3.setTop (mkF m 10 #[.val (.ref p0)] [(.ref b2)])) := by
    refine s0.trans ?_
    refine XS.aloadN X0.here hx rfl (hb hby d4_0) rfl rfl ?_
    refine st1 _ ?_
    refine st2 _ ?_
    refine st3 _ ?_
    exact Steps.refl _
  subst hA₀
  obtain ⟨fs, hr, hrun, hended, hW, hsame⟩ := X3.leave (v := some (.ref b2)) (fun h => by rw [Bd.returns] at h; cases h)
  refine ⟨_, _, s4.trans ?_, hrun, hended, _, _, rfl, ?_, ⟨_, rfl⟩, hW, hsame.mono (by decide) (by decide)⟩
  · show Steps p.tables e below (T3.setTop (mkF m 10 #[.val (.ref p0)] [(.ref b2)])) _
    jvm_step X3.here [X3.here.top, hx, (hb hby d4_10), X3.method', Bd.returns, Value.isRef, FieldType.isReference]
    first | (intro acts; rw [hr _ acts rfl rfl rfl]) | rw [hr _ _ rfl rfl rfl]
    exact Steps.refl _
  · show Q4 Z p0 a ka x h0 n0 _ T3.heap _
    rw [e3]
    exact ⟨b2, ka, rfl, N0, K2, V2, sz_b2⟩
theorem d7_0 : decode jdk_65_method_59_code 0 = .ok (.iload_n 1, 1) := by decide +kernel
theorem d7_1 : decode jdk_65_method_59_code 1 = .ok (.istore 4, 2) := by decide +kernel
theorem d7_3 : decode jdk_65_method_59_code 3 = .ok (.iload_n 2, 1) := by decide +kernel
theorem d7_4 : decode jdk_65_method_59_code 4 = .ok (.iconst 1, 1) := by decide +kernel
theorem d7_5 : decode jdk_65_method_59_code 5 = .ok (.isub, 1) := by decide +kernel
theorem d7_6 : decode jdk_65_method_59_code 6 = .ok (.istore 5, 2) := by decide +kernel
theorem d7_8 : decode jdk_65_method_59_code 8 = .ok (.iload 4, 2) := by decide +kernel
theorem d7_10 : decode jdk_65_method_59_code 10 = .ok (.iload 5, 2) := by decide +kernel
theorem d7_12 : decode jdk_65_method_59_code 12 = .ok (.if_icmp .gt 54, 3) := by decide +kernel
theorem d7_15 : decode jdk_65_method_59_code 15 = .ok (.iload 4, 2) := by decide +kernel
theorem d7_17 : decode jdk_65_method_59_code 17 = .ok (.iload 5, 2) := by decide +kernel
theorem d7_19 : decode jdk_65_method_59_code 19 = .ok (.iadd, 1) := by decide +kernel
theorem d7_20 : decode jdk_65_method_59_code 20 = .ok (.iconst 1, 1) := by decide +kernel
theorem d7_21 : decode jdk_65_method_59_code 21 = .ok (.iushr, 1) := by decide +kernel
theorem d7_22 : decode jdk_65_method_59_code 22 = .ok (.istore 6, 2) := by decide +kernel
theorem d7_24 : decode jdk_65_method_59_code 24 = .ok (.aload_n 0, 1) := by decide +kernel
theorem d7_25 : decode jdk_65_method_59_code 25 = .ok (.iload 6, 2) := by decide +kernel
theorem d7_27 : decode jdk_65_method_59_code 27 = .ok (.iaload, 1) := by decide +kernel
theorem d7_28 : decode jdk_65_method_59_code 28 = .ok (.istore 7, 2) := by decide +kernel
theorem d7_30 : decode jdk_65_method_59_code 30 = .ok (.iload 7, 2) := by decide +kernel
theorem d7_32 : decode jdk_65_method_59_code 32 = .ok (.iload_n 3, 1) := by decide +kernel
theorem d7_33 : decode jdk_65_method_59_code 33 = .ok (.if_icmp .ge 12, 3) := by decide +kernel
theorem d7_45 : decode jdk_65_method_59_code 45 = .ok (.iload 7, 2) := by decide +kernel
theorem d7_47 : decode jdk_65_method_59_code 47 = .ok (.iload_n 3, 1) := by decide +kernel
theorem d7_48 : decode jdk_65_method_59_code 48 = .ok (.if_icmp .le 12, 3) := by decide +kernel
theorem d7_60 : decode jdk_65_method_59_code 60 = .ok (.iload 6, 2) := by decide +kernel
theorem d7_62 : decode jdk_65_method_59_code 62 = .ok (.ireturn, 1) := by decide +kernel
theorem pn_7 : plainName "java/util/Arrays" = true := by first | (simp [plainName, overriddenIn]; done) | decide +kernel
theorem ef_rmb01 (m : MethodId) (p0 : Addr) (p3 : Int32) : entryFrame m #[(.ref p0), (.int (0 : Int32)), (.int (1 : Int32)), (.int p3)] 8 = mkF m 0 #[.val (.ref p0), .val (.int (0 : Int32)), .val (.int (1 : Int32)), .val (.int p3), .unset, .unset, .unset, .unset] [] := by first | (simp [entryFrame, mkF, argsToLocals, Value.category]; done) | rfl
def Qb01 (Z : State) (p0 : Addr) (p3 : Int32) (ka : ClassId) (h0 : Heap) (n0 : Nat) (v : Option Value) (h : Heap) (L : List Loc) : Prop := v = some (.int (0 : Int32)) ∧ Fr n0 L ∧ h = h0
set_option maxRecDepth 65536 in
set_option maxHeartbeats 40000000 in
theorem rmb01 (l : Launch) (Z : State) (a0 : Array Value) (hw : ∀ d ∈ tables_1, d.before a0 Z = true) (ws : List Jvm.Cond) (p0 : Addr) (p3 : Int32) (ka : ClassId) (h0 : Heap) (n0 : Nat) (O0 : Old Z n0 h0) (F0_ : Arv Z h0 p0 ka .int (1 : Int32) [(.int p3)] (.int (0 : Int32))) :
    MetFree l nm3 (head1 (Jvm.Cond.code nm3 jdk_65_method_59_code 8 (some .int) :: ws) ({ frames := 0, cells := 0, slots := 0, locals := 0 } : Room)) (fun a U => a = #[(.ref p0), (.int (0 : Int32)), (.int (1 : Int32)), (.int p3)] ∧ Z.Warmed39 U.vm ∧ U.heap = h0) (fun _ _ _ _ _ => True) (fun _ U o U' => ∃ v L, o = .returned v ∧ Qb01 Z p0 p3 ka h0 n0 v U'.heap L ∧ FrameEnd U o U' L ({ frames := 0, cells := 0, slots := 0, locals := 0 } : Room).cells ({ frames := 0, cells := 0, slots := 0, locals := 0 } : Room).slots) := by
  refine MetFree.of_bodySF (plainFor_of_name pn_7) hisR ?_
  intro p e s m args below meth c s₁ Bd hml0 hP hK
  obtain ⟨rfl, hZ, hh⟩ := hP
  have hx := Bd.exec
  have hby := Bd.bytes
  have hml : c.maxLocals = 8 := hml0
  have hown : s.vm.findClass "java/util/Arrays" = some m.cls := findClass_of_methodNamed Bd.named
  have X0 : Stand p l e ({ frames := 0, cells := 0, slots := 0, locals := 0 } : Room) s m #[(.ref p0), (.int (0 : Int32)), (.int (1 : Int32)), (.int p3)] below meth c s₁ [] 0 0 := Stand.of_body Bd
  have e0 : s₁.heap = h0 := by rw [← hh, Bd.state]; rfl
  have N0 := Fr.nil n0
  have s0 : Steps p.tables e below (s₁.setTop (entryFrame m #[(.ref p0), (.int (0 : Int32)), (.int (1 : Int32)), (.int p3)] 8)) (s₁.setTop (mkF m 0 #[.val (.ref p0), .val (.int (0 : Int32)), .val (.int (1 : Int32)), .val (.int p3), .unset, .unset, .unset, .unset] [])) := castTop (ef_rmb01 m p0 p3) (Steps.refl _)
  obtain ⟨A₀, hA₀⟩ : ∃ z, z = (s₁.setTop (entryFrame m #[(.ref p0), (.int (0 : Int32)), (.int (1 : Int32)), (.int p3)] 8)) := ⟨_, rfl⟩
  rw [← hA₀] at s0
  obtain ⟨cla1, Ara1, qa1, Sa1, Za1, Ha1, Ga1⟩ := id F0_
  have hin2 : ¬ ((0 : Int32) < 0 ∨ cla1.slots.size ≤ ((0 : Int32)).toNatClampNeg) := inb_of Sa1 ⟨by decide, by decide⟩
  have hat3 : cla1.slots[((0 : Int32)).toNatClampNeg]? = some (.int p3) := Has.at Ha1 hin2 rfl
  have s4 : Steps p.tables e below A₀ (s₁.setTop (mkF m 62 #[.val (.ref p0), .val (.int (0 : Int32)), .val (.int (1 : Int32)), .val (.int p3), .val (.int (0 : Int32)), .val (.int (0 : Int32)), .val (.int (0 : Int32)), .val (.int p3)] [(.int (0 : Int32))])) := by
    refine s0.trans ?_
    refine XS.iloadN X0.here hx rfl (hb hby d7_0) rfl ?_
    refine XS.istore X0.here hx rfl (hb hby d7_1) rfl (l' := #[.val (.ref p0), .val (.int (0 : Int32)), .val (.int (1 : Int32)), .val (.int p3), .val (.int (0 : Int32)), .unset, .unset, .unset]) rfl ?_
    refine XS.iloadN X0.here hx rfl (hb hby d7_3) rfl ?_
    refine XS.iconst X0.here hx rfl (hb hby d7_4) ?_
    refine XS.isub X0.here hx rfl (hb hby d7_5) rfl ?_
    refine XS.istore X0.here hx rfl (hb hby d7_6) rfl (l' := #[.val (.ref p0), .val (.int (0 : Int32)), .val (.int (1 : Int32)), .val (.int p3), .val (.int (0 : Int32)), .val (.int (0 : Int32)), .unset, .unset]) rfl ?_
    refine XS.iload X0.here hx rfl (hb hby d7_8) rfl ?_
    refine XS.iload X0.here hx rfl (hb hby d7_10) rfl ?_
    show Steps p.tables e below (s₁.setTop (mkF m 12 #[.val (.ref p0), .val (.int (0 : Int32)), .val (.int (1 : Int32)), .val (.int p3), .val (.int (0 : Int32)), .val (.int (0 : Int32)), .unset, .unset] [(.int (0 : Int32)), (.int (0 : Int32))])) _
    refine XS.icmpNo X0.here hx rfl (hb hby d7_12) rfl (flt (by decide)).2.2.1 ?_
    refine XS.iload X0.here hx rfl (hb hby d7_15) rfl ?_
    refine XS.iload X0.here hx rfl (hb hby d7_17) rfl ?_
    refine XS.iadd X0.here hx rfl (hb hby d7_19) rfl ?_
    refine XS.iconst X0.here hx rfl (hb hby d7_20) ?_
    refine XS.iushr X0.here hx rfl (hb hby d7_21) rfl ?_
    refine XS.istore X0.here hx rfl (hb hby d7_22) rfl (l' := #[.val (.ref p0), .val (.int (0 : Int32)), .val (.int (1 : Int32)), .val (.int p3), .val (.int (0 : Int32)), .val (.int (0 : Int32)), .val (.int (0 : Int32)), .unset]) rfl ?_
    refine XS.aloadN X0.here hx rfl (hb hby d7_24) rfl rfl ?_
    refine XS.iload X0.here hx rfl (hb hby d7_25) rfl ?_
    refine X0.iaload hx (j := (0 : Int32)) (v := (.int p3)) (by rw [e0]; exact Ara1.1) (State.isArrayOf_alike hZ.alike Ara1.2.1) Ara1.2.2 hin2 hat3 (g := (mkF m 27 #[.val (.ref p0), .val (.int (0 : Int32)), .val (.int (1 : Int32)), .val (.int p3), .val (.int (0 : Int32)), .val (.int (0 : Int32)), .val (.int (0 : Int32)), .unset] [(.int (0 : Int32)), (.ref p0)])) rfl rfl (hb hby d7_27) _ ?_
    show Steps p.tables e below (s₁.setTop (mkF m 28 #[.val (.ref p0), .val (.int (0 : Int32)), .val (.int (1 : Int32)), .val (.int p3), .val (.int (0 : Int32)), .val (.int (0 : Int32)), .val (.int (0 : Int32)), .unset] [(.int p3)])) _
    refine XS.istore X0.here hx rfl (hb hby d7_28) rfl (l' := #[.val (.ref p0), .val (.int (0 : Int32)), .val (.int (1 : Int32)), .val (.int p3), .val (.int (0 : Int32)), .val (.int (0 : Int32)), .val (.int (0 : Int32)), .val (.int p3)]) rfl ?_
    refine XS.iload X0.here hx rfl (hb hby d7_30) rfl ?_
    refine XS.iloadN X0.here hx rfl (hb hby d7_32) rfl ?_
    refine XS.icmpYes X0.here hx rfl (pc0 := 33) (pc' := 45) rfl (hb hby d7_33) rfl (flt Int32.lt_irrefl).2.1 (by decide) (by decide) ?_
    refine XS.iload X0.here hx rfl (hb hby d7_45) rfl ?_
    refine XS.iloadN X0.here hx rfl (hb hby d7_47) rfl ?_
    refine XS.icmpYes X0.here hx rfl (pc0 := 48) (pc' := 60) rfl (hb hby d7_48) rfl (flt Int32.lt_irrefl).2.2.2 (by decide) (by decide) ?_
    refine XS.iload X0.here hx rfl (hb hby d7_60) rfl ?_
    exact Steps.refl _
  subst hA₀
  obtain ⟨fs, hr, hrun, hended, hW, hsame⟩ := X0.leave (v := some (.int (0 : Int32))) (fun h => by rw [Bd.returns] at h; cases h)
  refine ⟨_, _, s4.trans ?_, hrun, hended, _, _, rfl, ?_, ⟨_, rfl⟩, hW, hsame.mono (by decide) (by decide)⟩
  · show Steps p.tables e below (s₁.setTop (mkF m 62 #[.val (.ref p0), .val (.int (0 : Int32)), .val (.int (1 : Int32)), .val (.int p3), .val (.int (0 : Int32)), .val (.int (0 : Int32)), .val (.int (0 : Int32)), .val (.int p3)] [(.int (0 : Int32))])) _
    exact retI X0 hx Bd.returns (hb hby d7_62) hr
  · show Qb01 Z p0 p3 ka h0 n0 _ s₁.heap _
    rw [e0]
    exact ⟨rfl, N0, rfl⟩
theorem d6_0 : decode jdk_65_method_57_code 0 = .ok (.aload_n 0, 1) := by decide +kernel
theorem d6_1 : decode jdk_65_method_57_code 1 = .ok (.iconst 0, 1) := by decide +kernel
theorem d6_2 : decode jdk_65_method_57_code 2 = .ok (.aload_n 0, 1) := by decide +kernel
theorem d6_3 : decode jdk_65_method_57_code 3 = .ok (.arraylength, 1) := by decide +kernel
theorem d6_4 : decode jdk_65_method_57_code 4 = .ok (.iload_n 1, 1) := by decide +kernel
theorem d6_5 : decode jdk_65_method_57_code 5 = .ok (.invokestatic 209, 3) := by decide +kernel
theorem d6_8 : decode jdk_65_method_57_code 8 = .ok (.ireturn, 1) := by decide +kernel
theorem pd_rmbs1_0 : parseMethodDescriptor "([IIII)I" = some ⟨[(.array .int), .int, .int, .int], some .int⟩ := by decide +kernel
theorem ef_rmbs1 (m : MethodId) (p0 : Addr) (p1 : Int32) : entryFrame m #[(.ref p0), (.int p1)] 2 = mkF m 0 #[.val (.ref p0), .val (.int p1)] [] := by first | (simp [entryFrame, mkF, argsToLocals, Value.category]; done) | rfl
def Qbs1 (Z : State) (p0 : Addr) (p1 : Int32) (ka : ClassId) (h0 : Heap) (n0 : Nat) (v : Option Value) (h : Heap) (L : List Loc) : Prop := v = some (.int (0 : Int32)) ∧ Fr n0 L ∧ h = h0
set_option maxRecDepth 65536 in
set_option maxHeartbeats 40000000 in
theorem rmbs1 (l : Launch) (Z : State) (a0 : Array Value) (hw : ∀ d ∈ tables_1, d.before a0 Z = true) (ws : List Jvm.Cond) (p0 : Addr) (p1 : Int32) (ka : ClassId) (h0 : Heap) (n0 : Nat) (O0 : Old Z n0 h0) (F0_ : Arv Z h0 p0 ka .int (1 : Int32) [(.int p1)] (.int (0 : Int32))) :
    MetFree l nm4 (head1 (Jvm.Cond.code nm4 jdk_65_method_57_code 2 (some .int) :: ws) ({ frames := 1, cells := 0, slots := 0, locals := 19 } : Room)) (fun a U => a = #[(.ref p0), (.int p1)] ∧ Z.Warmed39 U.vm ∧ U.heap = h0) (fun _ _ _ _ _ => True) (fun _ U o U' => ∃ v L, o = .returned v ∧ Qbs1 Z p0 p1 ka h0 n0 v U'.heap L ∧ FrameEnd U o U' L ({ frames := 1, cells := 0, slots := 0, locals := 19 } : Room).cells ({ frames := 1, cells := 0, slots := 0, locals := 19 } : Room).slots) := by
  refine MetFree.of_bodySF (plainFor_of_name pn_7) hisR ?_
  intro p e s m args below meth c s₁ Bd hml0 hP hK
  obtain ⟨rfl, hZ, hh⟩ := hP
  have hx := Bd.exec
  have hby := Bd.bytes
  have hml : c.maxLocals = 2 := hml0
  have hown : s.vm.findClass "java/util/Arrays" = some m.cls := findClass_of_methodNamed Bd.named
  have X0 : Stand p l e ({ frames := 1, cells := 0, slots := 0, locals := 19 } : Room) s m #[(.ref p0), (.int p1)] below meth c s₁ [] 0 0 := Stand.of_body Bd
  have e0 : s₁.heap = h0 := by rw [← hh, Bd.state]; rfl
  have N0 := Fr.nil n0
  have s0 : Steps p.tables e below (s₁.setTop (entryFrame m #[(.ref p0), (.int p1)] 2)) (s₁.setTop (mkF m 0 #[.val (.ref p0), .val (.int p1)] [])) := castTop (ef_rmbs1 m p0 p1) (Steps.refl _)
  obtain ⟨A₀, hA₀⟩ : ∃ z, z = (s₁.setTop (entryFrame m #[(.ref p0), (.int p1)] 2)) := ⟨_, rfl⟩
  rw [← hA₀] at s0
  obtain ⟨cla1, Ara1, qa1, Sa1, Za1, Ha1, Ga1⟩ := id F0_
  obtain ⟨T2, L2, X2, e2, N2, st2⟩ := own_callP X0 hx hZ hown (wk41 hw) (wk42 hw) (wk39 hw) (wk43 hw) (by decide) (rmb01 l Z a0 hw [] p0 p1 ka h0 n0 O0 F0_) e0 N0 (W := 0) (by decide) (by decide) (by decide) (by decide) (g := (mkF m 5 #[.val (.ref p0), .val (.int p1)] [(.int p1), (.int (1 : Int32)), (.int (0 : Int32)), (.ref p0)])) rfl (by rw [hml]; rfl) (argsL := [(.ref p0), (.int (0 : Int32)), (.int (1 : Int32)), (.int p1)]) (rest := []) (lenOf pd_rmbs1_0 rfl) rfl (by show 2 * 0 + _ ≤ _; exact Nat.le_of_eq rfl) (hb hby d6_5)
  have s3 : Steps p.tables e below A₀ (T2.setTop (mkF m 8 #[.val (.ref p0), .val (.int p1)] [(.int (0 : Int32))])) := by
    refine s0.trans ?_
    refine XS.aloadN X0.here hx rfl (hb hby d6_0) rfl rfl ?_
    refine XS.iconst X0.here hx rfl (hb hby d6_1) ?_
    refine XS.aloadN X0.here hx rfl (hb hby d6_2) rfl rfl ?_
    refine X0.arraylength hx (by rw [e0]; exact Ara1.1) (State.isArrayOf_alike hZ.alike Ara1.2.1) (g := (mkF m 3 #[.val (.ref p0), .val (.int p1)] [(.ref p0), (.int (0 : Int32)), (.ref p0)])) rfl rfl (hb hby d6_3) _ ?_
    rw [len_of Sa1 Za1]
    show Steps p.tables e below (s₁.setTop (mkF m 4 #[.val (.ref p0), .val (.int p1)] [(.int (1 : Int32)), (.int (0 : Int32)), (.ref p0)])) _
    refine XS.iloadN X0.here hx rfl (hb hby d6_4) rfl ?_
    refine st2 _ ?_
    exact Steps.refl _
  subst hA₀
  obtain ⟨fs, hr, hrun, hended, hW, hsame⟩ := X2.leave (v := some (.int (0 : Int32))) (fun h => by rw [Bd.returns] at h; cases h)
  refine ⟨_, _, s3.trans ?_, hrun, hended, _, _, rfl, ?_, ⟨_, rfl⟩, hW, hsame.mono (by decide) (by decide)⟩
  · show Steps p.tables e below (T2.setTop (mkF m 8 #[.val (.ref p0), .val (.int p1)] [(.int (0 : Int32))])) _
    exact retI X2 hx Bd.returns (hb hby d6_8) hr
  · show Qbs1 Z p0 p1 ka h0 n0 _ T2.heap _
    rw [e2]
    exact ⟨rfl, N2, rfl⟩
theorem d5_0 : decode prog_6_method_5_code 0 = .ok (.aload_n 0, 1) := by decide +kernel
theorem d5_1 : decode prog_6_method_5_code 1 = .ok (.getfield 7, 3) := by decide +kernel
theorem d5_4 : decode prog_6_method_5_code 4 = .ok (.iload_n 1, 1) := by decide +kernel
theorem d5_5 : decode prog_6_method_5_code 5 = .ok (.invokestatic 51, 3) := by decide +kernel
theorem d5_8 : decode prog_6_method_5_code 8 = .ok (.istore_n 2, 1) := by decide +kernel
theorem d5_9 : decode prog_6_method_5_code 9 = .ok (.iload_n 2, 1) := by decide +kernel
theorem d5_10 : decode prog_6_method_5_code 10 = .ok (.ifCond .ge 7, 3) := by decide +kernel
theorem d5_17 : decode prog_6_method_5_code 17 = .ok (.aload_n 0, 1) := by decide +kernel
theorem d5_18 : decode prog_6_method_5_code 18 = .ok (.getfield 13, 3) := by decide +kernel
theorem d5_21 : decode prog_6_method_5_code 21 = .ok (.iload_n 2, 1) := by decide +kernel
theorem d5_22 : decode prog_6_method_5_code 22 = .ok (.daload, 1) := by decide +kernel
theorem d5_23 : decode prog_6_method_5_code 23 = .ok (.dreturn, 1) := by decide +kernel
theorem pd_rmpr1_0 : parseMethodDescriptor "([II)I" = some ⟨[(.array .int), .int], some .int⟩ := by decide +kernel
theorem ef_rmpr1 (m : MethodId) (p0 : Addr) (p1 : Int32) : entryFrame m #[(.ref p0), (.int p1)] 3 = mkF m 0 #[.val (.ref p0), .val (.int p1), .unset] [] := by first | (simp [entryFrame, mkF, argsToLocals, Value.category]; done) | rfl
def Qpr1 (Z : State) (p0 : Addr) (p1 : Int32) (a : Addr) (b : Addr) (kb : ClassId) (ka : ClassId) (h0 : Heap) (n0 : Nat) (v : Option Value) (h : Heap) (L : List Loc) : Prop := v = some (.double (FP.l2d (1 : Int64))) ∧ Fr n0 L ∧ h = h0
set_option maxRecDepth 65536 in
set_option maxHeartbeats 40000000 in
theorem rmpr1 (l : Launch) (Z : State) (a0 : Array Value) (hw : ∀ d ∈ tables_1, d.before a0 Z = true) (ws : List Jvm.Cond) (p0 : Addr) (p1 : Int32) (a : Addr) (b : Addr) (kb : ClassId) (ka : ClassId) (h0 : Heap) (n0 : Nat) (O0 : Old Z n0 h0) (F0_ : Exa Z h0 p0 "com/example/odds_on_axioms/oddsonaxioms/aleatoric/Distribution") (F1_ : Fld Z h0 p0 "com/example/odds_on_axioms/oddsonaxioms/aleatoric/Distribution" "individuals" "[I" (.ref a)) (F2_ : Fld Z h0 p0 "com/example/odds_on_axioms/oddsonaxioms/aleatoric/Distribution" "probabilities" "[D" (.ref b)) (F3_ : Arv Z h0 a ka .int (1 : Int32) [(.int p1)] (.int (0 : Int32))) (F4_ : Arv Z h0 b kb .double (1 : Int32) [(.double (FP.l2d (1 : Int64)))] (.double (FP.l2d (0 : Int64)))) :
    MetFree l nm5 (head1 (Jvm.Cond.code nm5 prog_6_method_5_code 3 (some .double) :: ws) ({ frames := 2, cells := 0, slots := 0, locals := 32 } : Room)) (fun a U => a = #[(.ref p0), (.int p1)] ∧ Z.Warmed39 U.vm ∧ U.heap = h0) (fun _ _ _ _ _ => True) (fun _ U o U' => ∃ v L, o = .returned v ∧ Qpr1 Z p0 p1 a b kb ka h0 n0 v U'.heap L ∧ FrameEnd U o U' L ({ frames := 2, cells := 0, slots := 0, locals := 32 } : Room).cells ({ frames := 2, cells := 0, slots := 0, locals := 32 } : Room).slots) := by
  refine MetFree.of_bodySF (plainFor_of_name pn_2) hisR ?_
  intro p e s m args below meth c s₁ Bd hml0 hP hK
  obtain ⟨rfl, hZ, hh⟩ := hP
  have hx := Bd.exec
  have hby := Bd.bytes
  have hml : c.maxLocals = 3 := hml0
  have hown : s.vm.findClass "com/example/odds_on_axioms/oddsonaxioms/aleatoric/Distribution" = some m.cls := findClass_of_methodNamed Bd.named
  have X0 : Stand p l e ({ frames := 2, cells := 0, slots := 0, locals := 32 } : Room) s m #[(.ref p0), (.int p1)] below meth c s₁ [] 0 0 := Stand.of_body Bd
  have e0 : s₁.heap = h0 := by rw [← hh, Bd.state]; rfl
  have N0 := Fr.nil n0
  have s0 : Steps p.tables e below (s₁.setTop (entryFrame m #[(.ref p0), (.int p1)] 3)) (s₁.setTop (mkF m 0 #[.val (.ref p0), .val (.int p1), .unset] [])) := castTop (ef_rmpr1 m p0 p1) (Steps.refl _)
  obtain ⟨A₀, hA₀⟩ : ∃ z, z = (s₁.setTop (entryFrame m #[(.ref p0), (.int p1)] 3)) := ⟨_, rfl⟩
  rw [← hA₀] at s0
  obtain ⟨T1, X1, e1, st1⟩ := getF X0 hx hZ hown (host := "") (Or.inl (hw _ (List.mem_of_getElem? (i := 14) rfl))) Via.refl e0 F1_ (g := (mkF m 1 #[.val (.ref p0), .val (.int p1), .unset] [(.ref p0)])) rfl rfl (hb hby d5_1)
  obtain ⟨T2, L2, X2, e2, N2, st2⟩ := own_callP X1 hx hZ hown (wk37 hw) (wk38 hw) (wk39 hw) (wk40 hw) (by decide) (rmbs1 l Z a0 hw [] a p1 ka h0 n0 O0 F3_) e1 N0 (W := 0) (by decide) (by decide) (by decide) (by decide) (g := (mkF m 5 #[.val (.ref p0), .val (.int p1), .unset] [(.int p1), (.ref a)])) rfl (by rw [hml]; rfl) (argsL := [(.ref a), (.int p1)]) (rest := []) (lenOf pd_rmpr1_0 rfl) rfl (by show 2 * 0 + _ ≤ _; exact Nat.le_of_eq rfl) (hb hby d5_5)
  obtain ⟨T3, X3, e3, st3⟩ := getF X2 hx hZ hown (host := "") (Or.inl (hw _ (List.mem_of_getElem? (i := 16) rfl))) Via.refl e2 F2_ (g := (mkF m 18 #[.val (.ref p0), .val (.int p1), .val (.int (0 : Int32))] [(.ref p0)])) rfl rfl (hb hby d5_18)
  obtain ⟨cla4, Ara4, qa4, Sa4, Za4, Ha4, Ga4⟩ := id F4_
  have hin5 : ¬ ((0 : Int32) < 0 ∨ cla4.slots.size ≤ ((0 : Int32)).toNatClampNeg) := inb_of Sa4 ⟨by decide, by decide⟩
  have hat6 : cla4.slots[((0 : Int32)).toNatClampNeg]? = some (.double (FP.l2d (1 : Int64))) := Has.at Ha4 hin5 rfl
  have s7 : Steps p.tables e below A₀ (T3.setTop (mkF m 23 #[.val (.ref p0), .val (.int p1), .val (.int (0 : Int32))] [(.double (FP.l2d (1 : Int64)))])) := by
    refine s0.trans ?_
    refine XS.aloadN X0.here hx rfl (hb hby d5_0) rfl rfl ?_
    refine st1 _ ?_
    refine XS.iloadN X1.here hx rfl (hb hby d5_4) rfl ?_
    refine st2 _ ?_
    refine XS.istoreN X2.here hx rfl (hb hby d5_8) rfl (l' := #[.val (.ref p0), .val (.int p1), .val (.int (0 : Int32))]) rfl ?_
    refine XS.iloadN X2.here hx rfl (hb hby d5_9) rfl ?_
    refine XS.ifYes X2.here hx rfl (pc0 := 10) (pc' := 17) rfl (hb hby d5_10) rfl ((if0 _ _).trans (flt (by decide)).2.1) (by decide) (by decide) ?_
    refine XS.aloadN X2.here hx rfl (hb hby d5_17) rfl rfl ?_
    show Steps p.tables e below (T2.setTop (mkF m 18 #[.val (.ref p0), .val (.int p1), .val (.int (0 : Int32))] [(.ref p0)])) _
    refine st3 _ ?_
    refine XS.iloadN X3.here hx rfl (hb hby d5_21) rfl ?_
    refine X3.daload hx (j := (0 : Int32)) (v := (.double (FP.l2d (1 : Int64)))) (by rw [e3]; exact Ara4.1) (State.isArrayOf_alike hZ.alike Ara4.2.1) Ara4.2.2 hin5 hat6 (g := (mkF m 22 #[.val (.ref p0), .val (.int p1), .val (.int (0 : Int32))] [(.int (0 : Int32)), (.ref b)])) rfl rfl (hb hby d5_22) _ ?_
    exact Steps.refl _
  subst hA₀
  obtain ⟨fs, hr, hrun, hended, hW, hsame⟩ := X3.leave (v := some (.double (FP.l2d (1 : Int64)))) (fun h => by rw [Bd.returns] at h; cases h)
  refine ⟨_, _, s7.trans ?_, hrun, hended, _, _, rfl, ?_, ⟨_, rfl⟩, hW, hsame.mono (by decide) (by decide)⟩
  · show Steps p.tables e below (T3.setTop (mkF m 23 #[.val (.ref p0), .val (.int p1), .val (.int (0 : Int32))] [(.double (FP.l2d (1 : Int64)))])) _
    jvm_step X3.here [X3.here.top, hx, (hb hby d5_23), X3.method', Bd.returns, narrow]
    first | (intro acts; rw [hr _ acts rfl rfl rfl]) | rw [hr _ _ rfl rfl rfl]
    exact Steps.refl _
  · show Qpr1 Z p0 p1 a b kb ka h0 n0 _ T3.heap _
    rw [e3]
    exact ⟨rfl, N2, rfl⟩
theorem d7_36 : decode jdk_65_method_59_code 36 = .ok (.iload 6, 2) := by decide +kernel
theorem d7_38 : decode jdk_65_method_59_code 38 = .ok (.iconst 1, 1) := by decide +kernel
theorem d7_39 : decode jdk_65_method_59_code 39 = .ok (.iadd, 1) := by decide +kernel
theorem d7_40 : decode jdk_65_method_59_code 40 = .ok (.istore 4, 2) := by decide +kernel
theorem d7_42 : decode jdk_65_method_59_code 42 = .ok (.goto 21, 3) := by decide +kernel
theorem d7_51 : decode jdk_65_method_59_code 51 = .ok (.iload 6, 2) := by decide +kernel
theorem d7_53 : decode jdk_65_method_59_code 53 = .ok (.iconst 1, 1) := by decide +kernel
theorem d7_54 : decode jdk_65_method_59_code 54 = .ok (.isub, 1) := by decide +kernel
theorem d7_55 : decode jdk_65_method_59_code 55 = .ok (.istore 5, 2) := by decide +kernel
theorem d7_57 : decode jdk_65_method_59_code 57 = .ok (.goto 6, 3) := by decide +kernel
theorem d7_63 : decode jdk_65_method_59_code 63 = .ok (.goto (-55), 3) := by decide +kernel
theorem d7_66 : decode jdk_65_method_59_code 66 = .ok (.iload 4, 2) := by decide +kernel
theorem d7_68 : decode jdk_65_method_59_code 68 = .ok (.iconst 1, 1) := by decide +kernel
theorem d7_69 : decode jdk_65_method_59_code 69 = .ok (.iadd, 1) := by decide +kernel
theorem d7_70 : decode jdk_65_method_59_code 70 = .ok (.ineg, 1) := by decide +kernel
theorem d7_71 : decode jdk_65_method_59_code 71 = .ok (.ireturn, 1) := by decide +kernel
theorem ef_rmb00 (m : MethodId) (p0 : Addr) (p3 : Int32) : entryFrame m #[(.ref p0), (.int (0 : Int32)), (.int (1 : Int32)), (.int p3)] 8 = mkF m 0 #[.val (.ref p0), .val (.int (0 : Int32)), .val (.int (1 : Int32)), .val (.int p3), .unset, .unset, .unset, .unset] [] := by first | (simp [entryFrame, mkF, argsToLocals, Value.category]; done) | rfl
def Qb00 (Z : State) (p0 : Addr) (p3 : Int32) (ka : ClassId) (x : Int32) (h0 : Heap) (n0 : Nat) (v : Option Value) (h : Heap) (L : List Loc) : Prop := ∃ r : Int32, v = some (.int r) ∧ Fr n0 L ∧ h = h0 ∧ (r < (0 : Int32))
set_option maxRecDepth 65536 in
set_option maxHeartbeats 40000000 in
theorem rmb00 (l : Launch) (Z : State) (a0 : Array Value) (hw : ∀ d ∈ tables_1, d.before a0 Z = true) (ws : List Jvm.Cond) (p0 : Addr) (p3 : Int32) (ka : ClassId) (x : Int32) (h0 : Heap) (n0 : Nat) (O0 : Old Z n0 h0) (F0_ : Arv Z h0 p0 ka .int (1 : Int32) [(.int x)] (.int (0 : Int32))) (hne : ¬ (x = p3)) :
    MetFree l nm3 (head1 (Jvm.Cond.code nm3 jdk_65_method_59_code 8 (some .int) :: ws) ({ frames := 0, cells := 0, slots := 0, locals := 0 } : Room)) (fun a U => a = #[(.ref p0), (.int (0 : Int32)), (.int (1 : Int32)), (.int p3)] ∧ Z.Warmed39 U.vm ∧ U.heap = h0) (fun _ _ _ _ _ => True) (fun _ U o U' => ∃ v L, o = .returned v ∧ Qb00 Z p0 p3 ka x h0 n0 v U'.heap L ∧ FrameEnd U o U' L ({ frames := 0, cells := 0, slots := 0, locals := 0 } : Room).cells ({ frames := 0, cells := 0, slots := 0, locals := 0 } : Room).slots) := by
  refine MetFree.of_bodySF (plainFor_of_name pn_7) hisR ?_
  intro p e s m args below meth c s₁ Bd hml0 hP hK
  obtain ⟨rfl, hZ, hh⟩ := hP
  have hx := Bd.exec
  have hby := Bd.bytes
  have hml : c.maxLocals = 8 := hml0
  have hown : s.vm.findClass "java/util/Arrays" = some m.cls := findClass_of_methodNamed Bd.named
  have X0 : Stand p l e ({ frames := 0, cells := 0, slots := 0, locals := 0 } : Room) s m #[(.ref p0), (.int (0 : Int32)), (.int (1 : Int32)), (.int p3)] below meth c s₁ [] 0 0 := Stand.of_body Bd
  have e0 : s₁.heap = h0 := by rw [← hh, Bd.state]; rfl
  have N0 := Fr.nil n0
  have s0 : Steps p.tables e below (s₁.setTop (entryFrame m #[(.ref p0), (.int (0 : Int32)), (.int (1 : Int32)), (.int p3)] 8)) (s₁.setTop (mkF m 0 #[.val (.ref p0), .val (.int (0 : Int32)), .val (.int (1 : Int32)), .val (.int p3), .unset, .unset, .unset, .unset] [])) := castTop (ef_rmb00 m p0 p3) (Steps.refl _)
  obtain ⟨A₀, hA₀⟩ : ∃ z, z = (s₁.setTop (entryFrame m #[(.ref p0), (.int (0 : Int32)), (.int (1 : Int32)), (.int p3)] 8)) := ⟨_, rfl⟩
  rw [← hA₀] at s0
  obtain ⟨cla1, Ara1, qa1, Sa1, Za1, Ha1, Ga1⟩ := id F0_
  have hin2 : ¬ ((0 : Int32) < 0 ∨ cla1.slots.size ≤ ((0 : Int32)).toNatClampNeg) := inb_of Sa1 ⟨by decide, by decide⟩
  have hat3 : cla1.slots[((0 : Int32)).toNatClampNeg]? = some (.int x) := Has.at Ha1 hin2 rfl
  have s4 : Steps p.tables e below A₀ (s₁.setTop (mkF m 33 #[.val (.ref p0), .val (.int (0 : Int32)), .val (.int (1 : Int32)), .val (.int p3), .val (.int (0 : Int32)), .val (.int (0 : Int32)), .val (.int (0 : Int32)), .val (.int x)] [(.int p3), (.int x)])) := by
    refine s0.trans ?_
    refine XS.iloadN X0.here hx rfl (hb hby d7_0) rfl ?_
    refine XS.istore X0.here hx rfl (hb hby d7_1) rfl (l' := #[.val (.ref p0), .val (.int (0 : Int32)), .val (.int (1 : Int32)), .val (.int p3), .val (.int (0 : Int32)), .unset, .unset, .unset]) rfl ?_
    refine XS.iloadN X0.here hx rfl (hb hby d7_3) rfl ?_
    refine XS.iconst X0.here hx rfl (hb hby d7_4) ?_
    refine XS.isub X0.here hx rfl (hb hby d7_5) rfl ?_
    refine XS.istore X0.here hx rfl (hb hby d7_6) rfl (l' := #[.val (.ref p0), .val (.int (0 : Int32)), .val (.int (1 : Int32)), .val (.int p3), .val (.int (0 : Int32)), .val (.int (0 : Int32)), .unset, .unset]) rfl ?_
    refine XS.iload X0.here hx rfl (hb hby d7_8) rfl ?_
    refine XS.iload X0.here hx rfl (hb hby d7_10) rfl ?_
    show Steps p.tables e below (s₁.setTop (mkF m 12 #[.val (.ref p0), .val (.int (0 : Int32)), .val (.int (1 : Int32)), .val (.int p3), .val (.int (0 : Int32)), .val (.int (0 : Int32)), .unset, .unset] [(.int (0 : Int32)), (.int (0 : Int32))])) _
    refine XS.icmpNo X0.here hx rfl (hb hby d7_12) rfl (flt (by decide)).2.2.1 ?_
    refine XS.iload X0.here hx rfl (hb hby d7_15) rfl ?_
    refine XS.iload X0.here hx rfl (hb hby d7_17) rfl ?_
    refine XS.iadd X0.here hx rfl (hb hby d7_19) rfl ?_
    refine XS.iconst X0.here hx rfl (hb hby d7_20) ?_
    refine XS.iushr X0.here hx rfl (hb hby d7_21) rfl ?_
    refine XS.istore X0.here hx rfl (hb hby d7_22) rfl (l' := #[.val (.ref p0), .val (.int (0 : Int32)), .val (.int (1 : Int32)), .val (.int p3), .val (.int (0 : Int32)), .val (.int (0 : Int32)), .val (.int (0 : Int32)), .unset]) rfl ?_
    refine XS.aloadN X0.here hx rfl (hb hby d7_24) rfl rfl ?_
    refine XS.iload X0.here hx rfl (hb hby d7_25) rfl ?_
    refine X0.iaload hx (j := (0 : Int32)) (v := (.int x)) (by rw [e0]; exact Ara1.1) (State.isArrayOf_alike hZ.alike Ara1.2.1) Ara1.2.2 hin2 hat3 (g := (mkF m 27 #[.val (.ref p0), .val (.int (0 : Int32)), .val (.int (1 : Int32)), .val (.int p3), .val (.int (0 : Int32)), .val (.int (0 : Int32)), .val (.int (0 : Int32)), .unset] [(.int (0 : Int32)), (.ref p0)])) rfl rfl (hb hby d7_27) _ ?_
    show Steps p.tables e below (s₁.setTop (mkF m 28 #[.val (.ref p0), .val (.int (0 : Int32)), .val (.int (1 : Int32)), .val (.int p3), .val (.int (0 : Int32)), .val (.int (0 : Int32)), .val (.int (0 : Int32)), .unset] [(.int x)])) _
    refine XS.istore X0.here hx rfl (hb hby d7_28) rfl (l' := #[.val (.ref p0), .val (.int (0 : Int32)), .val (.int (1 : Int32)), .val (.int p3), .val (.int (0 : Int32)), .val (.int (0 : Int32)), .val (.int (0 : Int32)), .val (.int x)]) rfl ?_
    refine XS.iload X0.here hx rfl (hb hby d7_30) rfl ?_
    refine XS.iloadN X0.here hx rfl (hb hby d7_32) rfl ?_
    exact Steps.refl _
  by_cases hc5 : x < p3
  · have s6 : Steps p.tables e below A₀ (s₁.setTop (mkF m 71 #[.val (.ref p0), .val (.int (0 : Int32)), .val (.int (1 : Int32)), .val (.int p3), .val (.int (1 : Int32)), .val (.int (0 : Int32)), .val (.int (0 : Int32)), .val (.int x)] [(.int (-2 : Int32))])) := by
      refine s4.trans ?_
      refine XS.icmpNo X0.here hx rfl (hb hby d7_33) rfl (tlt hc5).2.1 ?_
      refine XS.iload X0.here hx rfl (hb hby d7_36) rfl ?_
      refine XS.iconst X0.here hx rfl (hb hby d7_38) ?_
      refine XS.iadd X0.here hx rfl (hb hby d7_39) rfl ?_
      refine XS.istore X0.here hx rfl (hb hby d7_40) rfl (l' := #[.val (.ref p0), .val (.int (0 : Int32)), .val (.int (1 : Int32)), .val (.int p3), .val (.int (1 : Int32)), .val (.int (0 : Int32)), .val (.int (0 : Int32)), .val (.int x)]) rfl ?_
      refine XS.goto X0.here hx rfl (pc0 := 42) (pc' := 63) rfl (hb hby d7_42) (by decide) (by decide) ?_
      refine XS.goto X0.here hx rfl (pc0 := 63) (pc' := 8) rfl (hb hby d7_63) (by decide) (by decide) ?_
      refine XS.iload X0.here hx rfl (hb hby d7_8) rfl ?_
      show Steps p.tables e below (s₁.setTop (mkF m 10 #[.val (.ref p0), .val (.int (0 : Int32)), .val (.int (1 : Int32)), .val (.int p3), .val (.int (1 : Int32)), .val (.int (0 : Int32)), .val (.int (0 : Int32)), .val (.int x)] [(.int (1 : Int32))])) _
      refine XS.iload X0.here hx rfl (hb hby d7_10) rfl ?_
      refine XS.icmpYes X0.here hx rfl (pc0 := 12) (pc' := 66) rfl (hb hby d7_12) rfl (tlt (by decide)).2.2.1 (by decide) (by decide) ?_
      refine XS.iload X0.here hx rfl (hb hby d7_66) rfl ?_
      refine XS.iconst X0.here hx rfl (hb hby d7_68) ?_
      refine XS.iadd X0.here hx rfl (hb hby d7_69) rfl ?_
      refine XS.ineg X0.here hx rfl (hb hby d7_70) rfl ?_
      exact Steps.refl _
    subst hA₀
    obtain ⟨fs, hr, hrun, hended, hW, hsame⟩ := X0.leave (v := some (.int (-2 : Int32))) (fun h => by rw [Bd.returns] at h; cases h)
    refine ⟨_, _, s6.trans ?_, hrun, hended, _, _, rfl, ?_, ⟨_, rfl⟩, hW, hsame.mono (by decide) (by decide)⟩
    · show Steps p.tables e below (s₁.setTop (mkF m 71 #[.val (.ref p0), .val (.int (0 : Int32)), .val (.int (1 : Int32)), .val (.int p3), .val (.int (1 : Int32)), .val (.int (0 : Int32)), .val (.int (0 : Int32)), .val (.int x)] [(.int (-2 : Int32))])) _
      exact retI X0 hx Bd.returns (hb hby d7_71) hr
    · show Qb00 Z p0 p3 ka x h0 n0 _ s₁.heap _
      rw [e0]
      exact ⟨(-2 : Int32), rfl, N0, rfl, (by decide)⟩
  · have s7 : Steps p.tables e below A₀ (s₁.setTop (mkF m 48 #[.val (.ref p0), .val (.int (0 : Int32)), .val (.int (1 : Int32)), .val (.int p3), .val (.int (0 : Int32)), .val (.int (0 : Int32)), .val (.int (0 : Int32)), .val (.int x)] [(.int p3), (.int x)])) := by
      refine s4.trans ?_
      refine XS.icmpYes X0.here hx rfl (pc0 := 33) (pc' := 45) rfl (hb hby d7_33) rfl (flt hc5).2.1 (by decide) (by decide) ?_
      refine XS.iload X0.here hx rfl (hb hby d7_45) rfl ?_
      refine XS.iloadN X0.here hx rfl (hb hby d7_47) rfl ?_
      exact Steps.refl _
    by_cases hc8 : p3 < x
    · have s9 : Steps p.tables e below A₀ (s₁.setTop (mkF m 71 #[.val (.ref p0), .val (.int (0 : Int32)), .val (.int (1 : Int32)), .val (.int p3), .val (.int (0 : Int32)), .val (.int (-1 : Int32)), .val (.int (0 : Int32)), .val (.int x)] [(.int (-1 : Int32))])) := by
        refine s7.trans ?_
        refine XS.icmpNo X0.here hx rfl (hb hby d7_48) rfl (tlt hc8).2.2.2 ?_
        refine XS.iload X0.here hx rfl (hb hby d7_51) rfl ?_
        refine XS.iconst X0.here hx rfl (hb hby d7_53) ?_
        refine XS.isub X0.here hx rfl (hb hby d7_54) rfl ?_
        refine XS.istore X0.here hx rfl (hb hby d7_55) rfl (l' := #[.val (.ref p0), .val (.int (0 : Int32)), .val (.int (1 : Int32)), .val (.int p3), .val (.int (0 : Int32)), .val (.int (-1 : Int32)), .val (.int (0 : Int32)), .val (.int x)]) rfl ?_
        refine XS.goto X0.here hx rfl (pc0 := 57) (pc' := 63) rfl (hb hby d7_57) (by decide) (by decide) ?_
        refine XS.goto X0.here hx rfl (pc0 := 63) (pc' := 8) rfl (hb hby d7_63) (by decide) (by decide) ?_
        refine XS.iload X0.here hx rfl (hb hby d7_8) rfl ?_
        show Steps p.tables e below (s₁.setTop (mkF m 10 #[.val (.ref p0), .val (.int (0 : Int32)), .val (.int (1 : Int32)), .val (.int p3), .val (.int (0 : Int32)), .val (.int (-1 : Int32)), .val (.int (0 : Int32)), .val (.int x)] [(.int (0 : Int32))])) _
        refine XS.iload X0.here hx rfl (hb hby d7_10) rfl ?_
        refine XS.icmpYes X0.here hx rfl (pc0 := 12) (pc' := 66) rfl (hb hby d7_12) rfl (tlt (by decide)).2.2.1 (by decide) (by decide) ?_
        refine XS.iload X0.here hx rfl (hb hby d7_66) rfl ?_
        refine XS.iconst X0.here hx rfl (hb hby d7_68) ?_
        refine XS.iadd X0.here hx rfl (hb hby d7_69) rfl ?_
        refine XS.ineg X0.here hx rfl (hb hby d7_70) rfl ?_
        exact Steps.refl _
      subst hA₀
      obtain ⟨fs, hr, hrun, hended, hW, hsame⟩ := X0.leave (v := some (.int (-1 : Int32))) (fun h => by rw [Bd.returns] at h; cases h)
      refine ⟨_, _, s9.trans ?_, hrun, hended, _, _, rfl, ?_, ⟨_, rfl⟩, hW, hsame.mono (by decide) (by decide)⟩
      · show Steps p.tables e below (s₁.setTop (mkF m 71 #[.val (.ref p0), .val (.int (0 : Int32)), .val (.int (1 : Int32)), .val (.int p3), .val (.int (0 : Int32)), .val (.int (-1 : Int32)), .val (.int (0 : Int32)), .val (.int x)] [(.int (-1 : Int32))])) _
        exact retI X0 hx Bd.returns (hb hby d7_71) hr
      · show Qb00 Z p0 p3 ka x h0 n0 _ s₁.heap _
        rw [e0]
        exact ⟨(-1 : Int32), rfl, N0, rfl, (by decide)⟩
    · exact absurd (own_tri x p3 hc5 hc8) hne
theorem pd_rmbs0_0 : parseMethodDescriptor "([IIII)I" = some ⟨[(.array .int), .int, .int, .int], some .int⟩ := by decide +kernel
theorem ef_rmbs0 (m : MethodId) (p0 : Addr) (p1 : Int32) : entryFrame m #[(.ref p0), (.int p1)] 2 = mkF m 0 #[.val (.ref p0), .val (.int p1)] [] := by first | (simp [entryFrame, mkF, argsToLocals, Value.category]; done) | rfl
def Qbs0 (Z : State) (p0 : Addr) (p1 : Int32) (ka : ClassId) (x : Int32) (h0 : Heap) (n0 : Nat) (v : Option Value) (h : Heap) (L : List Loc) : Prop := ∃ r : Int32, v = some (.int r) ∧ Fr n0 L ∧ h = h0 ∧ (r < (0 : Int32))
set_option maxRecDepth 65536 in
set_option maxHeartbeats 40000000 in
theorem rmbs0 (l : Launch) (Z : State) (a0 : Array Value) (hw : ∀ d ∈ tables_1, d.before a0 Z = true) (ws : List Jvm.Cond) (p0 : Addr) (p1 : Int32) (ka : ClassId) (x : Int32) (h0 : Heap) (n0 : Nat) (O0 : Old Z n0 h0) (F0_ : Arv Z h0 p0 ka .int (1 : Int32) [(.int x)] (.int (0 : Int32))) (hne : ¬ (x = p1)) :
    MetFree l nm4 (head1 (Jvm.Cond.code nm4 jdk_65_method_57_code 2 (some .int) :: ws) ({ frames := 1, cells := 0, slots := 0, locals := 19 } : Room)) (fun a U => a = #[(.ref p0), (.int p1)] ∧ Z.Warmed39 U.vm ∧ U.heap = h0) (fun _ _ _ _ _ => True) (fun _ U o U' => ∃ v L, o = .returned v ∧ Qbs0 Z p0 p1 ka x h0 n0 v U'.heap L ∧ FrameEnd U o U' L ({ frames := 1, cells := 0, slots := 0, locals := 19 } : Room).cells ({ frames := 1, cells := 0, slots := 0, locals := 19 } : Room).slots) := by
  refine MetFree.of_bodySF (plainFor_of_name pn_7) hisR ?_
  intro p e s m args below meth c s₁ Bd hml0 hP hK
  obtain ⟨rfl, hZ, hh⟩ := hP
  have hx := Bd.exec
  have hby := Bd.bytes
  have hml : c.maxLocals = 2 := hml0
  have hown : s.vm.findClass "java/util/Arrays" = some m.cls := findClass_of_methodNamed Bd.named
  have X0 : Stand p l e ({ frames := 1, cells := 0, slots := 0, locals := 19 } : Room) s m #[(.ref p0), (.int p1)] below meth c s₁ [] 0 0 := Stand.of_body Bd
  have e0 : s₁.heap = h0 := by rw [← hh, Bd.state]; rfl
  have N0 := Fr.nil n0
  have s0 : Steps p.tables e below (s₁.setTop (entryFrame m #[(.ref p0), (.int p1)] 2)) (s₁.setTop (mkF m 0 #[.val (.ref p0), .val (.int p1)] [])) := castTop (ef_rmbs0 m p0 p1) (Steps.refl _)
  obtain ⟨A₀, hA₀⟩ : ∃ z, z = (s₁.setTop (entryFrame m #[(.ref p0), (.int p1)] 2)) := ⟨_, rfl⟩
  rw [← hA₀] at s0
  obtain ⟨cla1, Ara1, qa1, Sa1, Za1, Ha1, Ga1⟩ := id F0_
  obtain ⟨_, _, ⟨T2, L2, k2, n2⟩, -, X2, ⟨Lc2, hQ2, l2, y2, z2⟩, st2⟩ := Jvm.LawKit.callS X0 hx (y := (⟨"java/util/Arrays", "binarySearch0", "([IIII)I"⟩ : MethodName)) hown (mvT hZ (hw _ (List.mem_of_getElem? (i := 41) rfl))) (mvT hZ (hw _ (List.mem_of_getElem? (i := 42) rfl))) (mvT hZ (hw _ (List.mem_of_getElem? (i := 39) rfl))) (mvT hZ (hw _ (List.mem_of_getElem? (i := 43) rfl))) (by decide) (backOf (W := 0) (rmb00 l Z a0 hw [] p0 p1 ka x h0 n0 O0 F0_ hne) hZ (hw _ (List.mem_of_getElem? (i := 43) rfl)) (hw _ (List.mem_of_getElem? (i := 39) rfl)) (by decide) (by decide)) (g := (mkF m 5 #[.val (.ref p0), .val (.int p1)] [(.int p1), (.int (1 : Int32)), (.int (0 : Int32)), (.ref p0)])) rfl (by rw [hml]; rfl) (argsL := [(.ref p0), (.int (0 : Int32)), (.int (1 : Int32)), (.int p1)]) (rest := []) (lenOf pd_rmbs0_0 rfl) rfl (by show 2 * 0 + _ ≤ _; exact Nat.le_of_eq rfl) (hb hby d6_5) (fun _ _ => ⟨rfl, e0, (by decide : 0 + 0 ≤ _), (by decide : 0 + 0 ≤ _)⟩)
  dsimp only [Pt.U, Pt.locs, Pt.cells, Pt.slots] at X2 l2 y2 z2 st2 hQ2
  subst l2 y2 z2
  obtain ⟨u3, rfl, Nq2, e2, f2_0⟩ := hQ2
  have N2 := Fr.app N0 Nq2
  have s4 : Steps p.tables e below A₀ (T2.setTop (mkF m 8 #[.val (.ref p0), .val (.int p1)] [(.int u3)])) := by
    refine s0.trans ?_
    refine XS.aloadN X0.here hx rfl (hb hby d6_0) rfl rfl ?_
    refine XS.iconst X0.here hx rfl (hb hby d6_1) ?_
    refine XS.aloadN X0.here hx rfl (hb hby d6_2) rfl rfl ?_
    refine X0.arraylength hx (by rw [e0]; exact Ara1.1) (State.isArrayOf_alike hZ.alike Ara1.2.1) (g := (mkF m 3 #[.val (.ref p0), .val (.int p1)] [(.ref p0), (.int (0 : Int32)), (.ref p0)])) rfl rfl (hb hby d6_3) _ ?_
    rw [len_of Sa1 Za1]
    show Steps p.tables e below (s₁.setTop (mkF m 4 #[.val (.ref p0), .val (.int p1)] [(.int (1 : Int32)), (.int (0 : Int32)), (.ref p0)])) _
    refine XS.iloadN X0.here hx rfl (hb hby d6_4) rfl ?_
    refine st2 _ ?_
    exact Steps.refl _
  subst hA₀
  obtain ⟨fs, hr, hrun, hended, hW, hsame⟩ := X2.leave (v := some (.int u3)) (fun h => by rw [Bd.returns] at h; cases h)
  refine ⟨_, _, s4.trans ?_, hrun, hended, _, _, rfl, ?_, ⟨_, rfl⟩, hW, hsame.mono (by decide) (by decide)⟩
  · show Steps p.tables e below (T2.setTop (mkF m 8 #[.val (.ref p0), .val (.int p1)] [(.int u3)])) _
    exact retI X2 hx Bd.returns (hb hby d6_8) hr
  · show Qbs0 Z p0 p1 ka x h0 n0 _ T2.heap _
    rw [e2]
    exact ⟨u3, rfl, N2, rfl, f2_0⟩
theorem d5_13 : decode prog_6_method_5_code 13 = .ok (.dconst 0, 1) := by decide +kernel
theorem d5_14 : decode prog_6_method_5_code 14 = .ok (.goto 9, 3) := by decide +kernel
theorem pd_rmpr0_0 : parseMethodDescriptor "([II)I" = some ⟨[(.array .int), .int], some .int⟩ := by decide +kernel
theorem ef_rmpr0 (m : MethodId) (p0 : Addr) (p1 : Int32) : entryFrame m #[(.ref p0), (.int p1)] 3 = mkF m 0 #[.val (.ref p0), .val (.int p1), .unset] [] := by first | (simp [entryFrame, mkF, argsToLocals, Value.category]; done) | rfl
def Qpr0 (Z : State) (p0 : Addr) (p1 : Int32) (a : Addr) (b : Addr) (kb : ClassId) (ka : ClassId) (x : Int32) (h0 : Heap) (n0 : Nat) (v : Option Value) (h : Heap) (L : List Loc) : Prop := v = some (.double (FP.l2d (0 : Int64))) ∧ Fr n0 L ∧ h = h0
set_option maxRecDepth 65536 in
set_option maxHeartbeats 40000000 in
theorem rmpr0 (l : Launch) (Z : State) (a0 : Array Value) (hw : ∀ d ∈ tables_1, d.before a0 Z = true) (ws : List Jvm.Cond) (p0 : Addr) (p1 : Int32) (a : Addr) (b : Addr) (kb : ClassId) (ka : ClassId) (x : Int32) (h0 : Heap) (n0 : Nat) (O0 : Old Z n0 h0) (F0_ : Exa Z h0 p0 "com/example/odds_on_axioms/oddsonaxioms/aleatoric/Distribution") (F1_ : Fld Z h0 p0 "com/example/odds_on_axioms/oddsonaxioms/aleatoric/Distribution" "individuals" "[I" (.ref a)) (F2_ : Fld Z h0 p0 "com/example/odds_on_axioms/oddsonaxioms/aleatoric/Distribution" "probabilities" "[D" (.ref b)) (F3_ : Arv Z h0 a ka .int (1 : Int32) [(.int x)] (.int (0 : Int32))) (F4_ : Arv Z h0 b kb .double (1 : Int32) [(.double (FP.l2d (1 : Int64)))] (.double (FP.l2d (0 : Int64)))) (hne : ¬ (x = p1)) :
    MetFree l nm5 (head1 (Jvm.Cond.code nm5 prog_6_method_5_code 3 (some .double) :: ws) ({ frames := 2, cells := 0, slots := 0, locals := 32 } : Room)) (fun a U => a = #[(.ref p0), (.int p1)] ∧ Z.Warmed39 U.vm ∧ U.heap = h0) (fun _ _ _ _ _ => True) (fun _ U o U' => ∃ v L, o = .returned v ∧ Qpr0 Z p0 p1 a b kb ka x h0 n0 v U'.heap L ∧ FrameEnd U o U' L ({ frames := 2, cells := 0, slots := 0, locals := 32 } : Room).cells ({ frames := 2, cells := 0, slots := 0, locals := 32 } : Room).slots) := by
  refine MetFree.of_bodySF (plainFor_of_name pn_2) hisR ?_
  intro p e s m args below meth c s₁ Bd hml0 hP hK
  obtain ⟨rfl, hZ, hh⟩ := hP
  have hx := Bd.exec
  have hby := Bd.bytes
  have hml : c.maxLocals = 3 := hml0
  have hown : s.vm.findClass "com/example/odds_on_axioms/oddsonaxioms/aleatoric/Distribution" = some m.cls := findClass_of_methodNamed Bd.named
  have X0 : Stand p l e ({ frames := 2, cells := 0, slots := 0, locals := 32 } : Room) s m #[(.ref p0), (.int p1)] below meth c s₁ [] 0 0 := Stand.of_body Bd
  have e0 : s₁.heap = h0 := by rw [← hh, Bd.state]; rfl
  have N0 := Fr.nil n0
  have s0 : Steps p.tables e below (s₁.setTop (entryFrame m #[(.ref p0), (.int p1)] 3)) (s₁.setTop (mkF m 0 #[.val (.ref p0), .val (.int p1), .unset] [])) := castTop (ef_rmpr0 m p0 p1) (Steps.refl _)
  obtain ⟨A₀, hA₀⟩ : ∃ z, z = (s₁.setTop (entryFrame m #[(.ref p0), (.int p1)] 3)) := ⟨_, rfl⟩
  rw [← hA₀] at s0
  obtain ⟨T1, X1, e1, st1⟩ := getF X0 hx hZ hown (host := "") (Or.inl (hw _ (List.mem_of_getElem? (i := 14) rfl))) Via.refl e0 F1_ (g := (mkF m 1 #[.val (.ref p0), .val (.int p1), .unset] [(.ref p0)])) rfl rfl (hb hby d5_1)
  obtain ⟨_, _, ⟨T2, L2, k2, n2⟩, -, X2, ⟨Lc2, hQ2, l2, y2, z2⟩, st2⟩ := Jvm.LawKit.callS X1 hx (y := (⟨"java/util/Arrays", "binarySearch", "([II)I"⟩ : MethodName)) hown (mvT hZ (hw _ (List.mem_of_getElem? (i := 37) rfl))) (mvT hZ (hw _ (List.mem_of_getElem? (i := 38) rfl))) (mvT hZ (hw _ (List.mem_of_getElem? (i := 39) rfl))) (mvT hZ (hw _ (List.mem_of_getElem? (i := 40) rfl))) (by decide) (backOf (W := 0) (rmbs0 l Z a0 hw [] a p1 ka x h0 n0 O0 F3_ hne) hZ (hw _ (List.mem_of_getElem? (i := 40) rfl)) (hw _ (List.mem_of_getElem? (i := 39) rfl)) (by decide) (by decide)) (g := (mkF m 5 #[.val (.ref p0), .val (.int p1), .unset] [(.int p1), (.ref a)])) rfl (by rw [hml]; rfl) (argsL := [(.ref a), (.int p1)]) (rest := []) (lenOf pd_rmpr0_0 rfl) rfl (by show 2 * 0 + _ ≤ _; exact Nat.le_of_eq rfl) (hb hby d5_5) (fun _ _ => ⟨rfl, e1, (by decide : 0 + 0 ≤ _), (by decide : 0 + 0 ≤ _)⟩)
  dsimp only [Pt.U, Pt.locs, Pt.cells, Pt.slots] at X2 l2 y2 z2 st2 hQ2
  subst l2 y2 z2
  obtain ⟨u3, rfl, Nq2, e2, f2_0⟩ := hQ2
  have N2 := Fr.app N0 Nq2
  have s4 : Steps p.tables e below A₀ (T2.setTop (mkF m 23 #[.val (.ref p0), .val (.int p1), .val (.int u3)] [(.double (FP.l2d (0 : Int64)))])) := by
    refine s0.trans ?_
    refine XS.aloadN X0.here hx rfl (hb hby d5_0) rfl rfl ?_
    refine st1 _ ?_
    refine XS.iloadN X1.here hx rfl (hb hby d5_4) rfl ?_
    refine st2 _ ?_
    refine XS.istoreN X2.here hx rfl (hb hby d5_8) rfl (l' := #[.val (.ref p0), .val (.int p1), .val (.int u3)]) rfl ?_
    refine XS.iloadN X2.here hx rfl (hb hby d5_9) rfl ?_
    refine XS.ifNo X2.here hx rfl (hb hby d5_10) rfl ((if0 _ _).trans (tlt f2_0).2.1) ?_
    refine XS.dconst0 X2.here hx rfl (hb hby d5_13) (v := (FP.l2d (0 : Int64))) own_dc0 ?_
    show Steps p.tables e below (T2.setTop (mkF m 14 #[.val (.ref p0), .val (.int p1), .val (.int u3)] [(.double (FP.l2d (0 : Int64)))])) _
    refine XS.goto X2.here hx rfl (pc0 := 14) (pc' := 23) rfl (hb hby d5_14) (by decide) (by decide) ?_
    exact Steps.refl _
  subst hA₀
  obtain ⟨fs, hr, hrun, hended, hW, hsame⟩ := X2.leave (v := some (.double (FP.l2d (0 : Int64)))) (fun h => by rw [Bd.returns] at h; cases h)
  refine ⟨_, _, s4.trans ?_, hrun, hended, _, _, rfl, ?_, ⟨_, rfl⟩, hW, hsame.mono (by decide) (by decide)⟩
  · show Steps p.tables e below (T2.setTop (mkF m 23 #[.val (.ref p0), .val (.int p1), .val (.int u3)] [(.double (FP.l2d (0 : Int64)))])) _
    jvm_step X2.here [X2.here.top, hx, (hb hby d5_23), X2.method', Bd.returns, narrow]
    first | (intro acts; rw [hr _ acts rfl rfl rfl]) | rw [hr _ _ rfl rfl rfl]
    exact Steps.refl _
  · show Qpr0 Z p0 p1 a b kb ka x h0 n0 _ T2.heap _
    rw [e2]
    exact ⟨rfl, N2, rfl⟩
theorem d8_0 : decode prog_6_method_4_code 0 = .ok (.dconst 0, 1) := by decide +kernel
theorem d8_1 : decode prog_6_method_4_code 1 = .ok (.dstore_n 2, 1) := by decide +kernel
theorem d8_2 : decode prog_6_method_4_code 2 = .ok (.iconst 0, 1) := by decide +kernel
theorem d8_3 : decode prog_6_method_4_code 3 = .ok (.istore 4, 2) := by decide +kernel
theorem d8_5 : decode prog_6_method_4_code 5 = .ok (.iload 4, 2) := by decide +kernel
theorem d8_7 : decode prog_6_method_4_code 7 = .ok (.aload_n 0, 1) := by decide +kernel
theorem d8_8 : decode prog_6_method_4_code 8 = .ok (.getfield 7, 3) := by decide +kernel
theorem d8_11 : decode prog_6_method_4_code 11 = .ok (.arraylength, 1) := by decide +kernel
theorem d8_12 : decode prog_6_method_4_code 12 = .ok (.if_icmp .ge 29, 3) := by decide +kernel
theorem d8_15 : decode prog_6_method_4_code 15 = .ok (.dload_n 2, 1) := by decide +kernel
theorem d8_16 : decode prog_6_method_4_code 16 = .ok (.aload_n 0, 1) := by decide +kernel
theorem d8_17 : decode prog_6_method_4_code 17 = .ok (.getfield 13, 3) := by decide +kernel
theorem d8_20 : decode prog_6_method_4_code 20 = .ok (.iload 4, 2) := by decide +kernel
theorem d8_22 : decode prog_6_method_4_code 22 = .ok (.daload, 1) := by decide +kernel
theorem d8_23 : decode prog_6_method_4_code 23 = .ok (.aload_n 1, 1) := by decide +kernel
theorem d8_24 : decode prog_6_method_4_code 24 = .ok (.aload_n 0, 1) := by decide +kernel
theorem d8_25 : decode prog_6_method_4_code 25 = .ok (.getfield 7, 3) := by decide +kernel
theorem d8_28 : decode prog_6_method_4_code 28 = .ok (.iload 4, 2) := by decide +kernel
theorem d8_30 : decode prog_6_method_4_code 30 = .ok (.iaload, 1) := by decide +kernel
theorem d8_31 : decode prog_6_method_4_code 31 = .ok (.daload, 1) := by decide +kernel
theorem d8_32 : decode prog_6_method_4_code 32 = .ok (.dmul, 1) := by decide +kernel
theorem d8_33 : decode prog_6_method_4_code 33 = .ok (.dadd, 1) := by decide +kernel
theorem d8_34 : decode prog_6_method_4_code 34 = .ok (.dstore_n 2, 1) := by decide +kernel
theorem d8_35 : decode prog_6_method_4_code 35 = .ok (.iinc 4 1, 3) := by decide +kernel
theorem d8_38 : decode prog_6_method_4_code 38 = .ok (.goto (-33), 3) := by decide +kernel
theorem d8_41 : decode prog_6_method_4_code 41 = .ok (.dload_n 2, 1) := by decide +kernel
theorem d8_42 : decode prog_6_method_4_code 42 = .ok (.dreturn, 1) := by decide +kernel
theorem ef_rmex0 (m : MethodId) (p0 : Addr) (p1 : Addr) : entryFrame m #[(.ref p0), (.ref p1)] 5 = mkF m 0 #[.val (.ref p0), .val (.ref p1), .unset, .unset, .unset] [] := by first | (simp [entryFrame, mkF, argsToLocals, Value.category]; done) | rfl
def Qex0 (Z : State) (p0 : Addr) (p1 : Addr) (a : Addr) (b : Addr) (ka : ClassId) (kb : ClassId) (kv : ClassId) (y0 : Int64) (y1 : Int64) (y2 : Int64) (y3 : Int64) (h0 : Heap) (n0 : Nat) (v : Option Value) (h : Heap) (L : List Loc) : Prop := v = some (.double (FP.l2d y0)) ∧ Fr n0 L ∧ h = h0
set_option maxRecDepth 65536 in
set_option maxHeartbeats 40000000 in
theorem rmex0 (l : Launch) (Z : State) (a0 : Array Value) (hw : ∀ d ∈ tables_1, d.before a0 Z = true) (ws : List Jvm.Cond) (p0 : Addr) (p1 : Addr) (a : Addr) (b : Addr) (ka : ClassId) (kb : ClassId) (kv : ClassId) (y0 : Int64) (y1 : Int64) (y2 : Int64) (y3 : Int64) (h0 : Heap) (n0 : Nat) (O0 : Old Z n0 h0) (F0_ : Exa Z h0 p0 "com/example/odds_on_axioms/oddsonaxioms/aleatoric/Distribution") (F1_ : Fld Z h0 p0 "com/example/odds_on_axioms/oddsonaxioms/aleatoric/Distribution" "individuals" "[I" (.ref a)) (F2_ : Fld Z h0 p0 "com/example/odds_on_axioms/oddsonaxioms/aleatoric/Distribution" "probabilities" "[D" (.ref b)) (F3_ : Arv Z h0 a ka .int (1 : Int32) [(.int (0 : Int32))] (.int (0 : Int32))) (F4_ : Arv Z h0 b kb .double (1 : Int32) [(.double (FP.l2d (1 : Int64)))] (.double (FP.l2d (0 : Int64)))) (F5_ : Arv Z h0 p1 kv .double (4 : Int32) [(.double (FP.l2d y0)), (.double (FP.l2d y1)), (.double (FP.l2d y2)), (.double (FP.l2d y3))] (.double (FP.l2d (0 : Int64)))) (hy : 0 ≤ y0.toInt ∧ y0.toInt ≤ 70000) :
    MetFree l nm6 (head1 (Jvm.Cond.code nm6 prog_6_method_4_code 5 (some .double) :: ws) ({ frames := 0, cells := 0, slots := 0, locals := 0 } : Room)) (fun a U => a = #[(.ref p0), (.ref p1)] ∧ Z.Warmed39 U.vm ∧ U.heap = h0) (fun _ _ _ _ _ => True) (fun _ U o U' => ∃ v L, o = .returned v ∧ Qex0 Z p0 p1 a b ka kb kv y0 y1 y2 y3 h0 n0 v U'.heap L ∧ FrameEnd U o U' L ({ frames := 0, cells := 0, slots := 0, locals := 0 } : Room).cells ({ frames := 0, cells := 0, slots := 0, locals := 0 } : Room).slots) := by
  refine MetFree.of_bodySF (plainFor_of_name pn_2) hisR ?_
  intro p e s m args below meth c s₁ Bd hml0 hP hK
  obtain ⟨rfl, hZ, hh⟩ := hP
  have hx := Bd.exec
  have hby := Bd.bytes
  have hml : c.maxLocals = 5 := hml0
  have hown : s.vm.findClass "com/example/odds_on_axioms/oddsonaxioms/aleatoric/Distribution" = some m.cls := findClass_of_methodNamed Bd.named
  have X0 : Stand p l e ({ frames := 0, cells := 0, slots := 0, locals := 0 } : Room) s m #[(.ref p0), (.ref p1)] below meth c s₁ [] 0 0 := Stand.of_body Bd
  have e0 : s₁.heap = h0 := by rw [← hh, Bd.state]; rfl
  have N0 := Fr.nil n0
  have s0 : Steps p.tables e below (s₁.setTop (entryFrame m #[(.ref p0), (.ref p1)] 5)) (s₁.setTop (mkF m 0 #[.val (.ref p0), .val (.ref p1), .unset, .unset, .unset] [])) := castTop (ef_rmex0 m p0 p1) (Steps.refl _)
  obtain ⟨A₀, hA₀⟩ : ∃ z, z = (s₁.setTop (entryFrame m #[(.ref p0), (.ref p1)] 5)) := ⟨_, rfl⟩
  rw [← hA₀] at s0
  obtain ⟨T1, X1, e1, st1⟩ := getF X0 hx hZ hown (host := "") (Or.inl (hw _ (List.mem_of_getElem? (i := 14) rfl))) Via.refl e0 F1_ (g := (mkF m 8 #[.val (.ref p0), .val (.ref p1), .val (.double (FP.l2d (0 : Int64))), .second, .val (.int (0 : Int32))] [(.ref p0), (.int (0 : Int32))])) rfl rfl (hb hby d8_8)
  obtain ⟨cla2, Ara2, qa2, Sa2, Za2, Ha2, Ga2⟩ := id F3_
  obtain ⟨T3, X3, e3, st3⟩ := getF X1 hx hZ hown (host := "") (Or.inl (hw _ (List.mem_of_getElem? (i := 16) rfl))) Via.refl e1 F2_ (g := (mkF m 17 #[.val (.ref p0), .val (.ref p1), .val (.double (FP.l2d (0 : Int64))), .second, .val (.int (0 : Int32))] [(.ref p0), (.double (FP.l2d (0 : Int64)))])) rfl rfl (hb hby d8_17)
  obtain ⟨cla4, Ara4, qa4, Sa4, Za4, Ha4, Ga4⟩ := id F4_
  have hin5 : ¬ ((0 : Int32) < 0 ∨ cla4.slots.size ≤ ((0 : Int32)).toNatClampNeg) := inb_of Sa4 ⟨by decide, by decide⟩
  have hat6 : cla4.slots[((0 : Int32)).toNatClampNeg]? = some (.double (FP.l2d (1 : Int64))) := Has.at Ha4 hin5 rfl
  obtain ⟨T7, X7, e7, st7⟩ := getF X3 hx hZ hown (host := "") (Or.inl (hw _ (List.mem_of_getElem? (i := 14) rfl))) Via.refl e3 F1_ (g := (mkF m 25 #[.val (.ref p0), .val (.ref p1), .val (.double (FP.l2d (0 : Int64))), .second, .val (.int (0 : Int32))] [(.ref p0), (.ref p1), (.double (FP.l2d (1 : Int64))), (.double (FP.l2d (0 : Int64)))])) rfl rfl (hb hby d8_25)
  have hin8 : ¬ ((0 : Int32) < 0 ∨ cla2.slots.size ≤ ((0 : Int32)).toNatClampNeg) := inb_of Sa2 ⟨by decide, by decide⟩
  have hat9 : cla2.slots[((0 : Int32)).toNatClampNeg]? = some (.int (0 : Int32)) := Has.at Ha2 hin8 rfl
  obtain ⟨cla10, Ara10, qa10, Sa10, Za10, Ha10, Ga10⟩ := id F5_
  have hin11 : ¬ ((0 : Int32) < 0 ∨ cla10.slots.size ≤ ((0 : Int32)).toNatClampNeg) := inb_of Sa10 ⟨by decide, by decide⟩
  have hat12 : cla10.slots[((0 : Int32)).toNatClampNeg]? = some (.double (FP.l2d y0)) := Has.at Ha10 hin11 rfl
  obtain ⟨T13, X13, e13, st13⟩ := getF X7 hx hZ hown (host := "") (Or.inl (hw _ (List.mem_of_getElem? (i := 14) rfl))) Via.refl e7 F1_ (g := (mkF m 8 #[.val (.ref p0), .val (.ref p1), .val (.double (FP.l2d y0)), .second, .val (.int (1 : Int32))] [(.ref p0), (.int (1 : Int32))])) rfl rfl (hb hby d8_8)
  have s14 : Steps p.tables e below A₀ (T13.setTop (mkF m 42 #[.val (.ref p0), .val (.ref p1), .val (.double (FP.l2d y0)), .second, .val (.int (1 : Int32))] [(.double (FP.l2d y0))])) := by
    refine s0.trans ?_
    refine XS.dconst0 X0.here hx rfl (hb hby d8_0) (v := (FP.l2d (0 : Int64))) own_dc0 ?_
    refine XS.dstoreN X0.here hx rfl (hb hby d8_1) rfl (l' := #[.val (.ref p0), .val (.ref p1), .val (.double (FP.l2d (0 : Int64))), .second, .unset]) rfl ?_
    refine XS.iconst X0.here hx rfl (hb hby d8_2) ?_
    refine XS.istore X0.here hx rfl (hb hby d8_3) rfl (l' := #[.val (.ref p0), .val (.ref p1), .val (.double (FP.l2d (0 : Int64))), .second, .val (.int (0 : Int32))]) rfl ?_
    refine XS.iload X0.here hx rfl (hb hby d8_5) rfl ?_
    refine XS.aloadN X0.here hx rfl (hb hby d8_7) rfl rfl ?_
    refine st1 _ ?_
    refine X1.arraylength hx (by rw [e1]; exact Ara2.1) (State.isArrayOf_alike hZ.alike Ara2.2.1) (g := (mkF m 11 #[.val (.ref p0), .val (.ref p1), .val (.double (FP.l2d (0 : Int64))), .second, .val (.int (0 : Int32))] [(.ref a), (.int (0 : Int32))])) rfl rfl (hb hby d8_11) _ ?_
    rw [len_of Sa2 Za2]
    show Steps p.tables e below (T1.setTop (mkF m 12 #[.val (.ref p0), .val (.ref p1), .val (.double (FP.l2d (0 : Int64))), .second, .val (.int (0 : Int32))] [(.int (1 : Int32)), (.int (0 : Int32))])) _
    refine XS.icmpNo X1.here hx rfl (hb hby d8_12) rfl (tlt (by decide)).2.1 ?_
    refine XS.dloadN X1.here hx rfl (hb hby d8_15) rfl ?_
    refine XS.aloadN X1.here hx rfl (hb hby d8_16) rfl rfl ?_
    refine st3 _ ?_
    refine XS.iload X3.here hx rfl (hb hby d8_20) rfl ?_
    refine X3.daload hx (j := (0 : Int32)) (v := (.double (FP.l2d (1 : Int64)))) (by rw [e3]; exact Ara4.1) (State.isArrayOf_alike hZ.alike Ara4.2.1) Ara4.2.2 hin5 hat6 (g := (mkF m 22 #[.val (.ref p0), .val (.ref p1), .val (.double (FP.l2d (0 : Int64))), .second, .val (.int (0 : Int32))] [(.int (0 : Int32)), (.ref b), (.double (FP.l2d (0 : Int64)))])) rfl rfl (hb hby d8_22) _ ?_
    refine XS.aloadN X3.here hx rfl (hb hby d8_23) rfl rfl ?_
    refine XS.aloadN X3.here hx rfl (hb hby d8_24) rfl rfl ?_
    refine st7 _ ?_
    refine XS.iload X7.here hx rfl (hb hby d8_28) rfl ?_
    show Steps p.tables e below (T7.setTop (mkF m 30 #[.val (.ref p0), .val (.ref p1), .val (.double (FP.l2d (0 : Int64))), .second, .val (.int (0 : Int32))] [(.int (0 : Int32)), (.ref a), (.ref p1), (.double (FP.l2d (1 : Int64))), (.double (FP.l2d (0 : Int64)))])) _
    refine X7.iaload hx (j := (0 : Int32)) (v := (.int (0 : Int32))) (by rw [e7]; exact Ara2.1) (State.isArrayOf_alike hZ.alike Ara2.2.1) Ara2.2.2 hin8 hat9 (g := (mkF m 30 #[.val (.ref p0), .val (.ref p1), .val (.double (FP.l2d (0 : Int64))), .second, .val (.int (0 : Int32))] [(.int (0 : Int32)), (.ref a), (.ref p1), (.double (FP.l2d (1 : Int64))), (.double (FP.l2d (0 : Int64)))])) rfl rfl (hb hby d8_30) _ ?_
    refine X7.daload hx (j := (0 : Int32)) (v := (.double (FP.l2d y0))) (by rw [e7]; exact Ara10.1) (State.isArrayOf_alike hZ.alike Ara10.2.1) Ara10.2.2 hin11 hat12 (g := (mkF m 31 #[.val (.ref p0), .val (.ref p1), .val (.double (FP.l2d (0 : Int64))), .second, .val (.int (0 : Int32))] [(.int (0 : Int32)), (.ref p1), (.double (FP.l2d (1 : Int64))), (.double (FP.l2d (0 : Int64)))])) rfl rfl (hb hby d8_31) _ ?_
    refine XS.dmulS X7.here hx rfl (hb hby d8_32) rfl (nn_w (own_mul1 y0 hy)) (own_mul1 y0 hy) ?_
    refine XS.daddS X7.here hx rfl (hb hby d8_33) rfl (nn_w (own_add0 y0 hy)) (own_add0 y0 hy) ?_
    refine XS.dstoreN X7.here hx rfl (hb hby d8_34) rfl (l' := #[.val (.ref p0), .val (.ref p1), .val (.double (FP.l2d y0)), .second, .val (.int (0 : Int32))]) rfl ?_
    refine XS.iinc X7.here hx rfl (hb hby d8_35) rfl (l' := #[.val (.ref p0), .val (.ref p1), .val (.double (FP.l2d y0)), .second, .val (.int (1 : Int32))]) rfl ?_
    refine XS.goto X7.here hx rfl (pc0 := 38) (pc' := 5) rfl (hb hby d8_38) (by decide) (by decide) ?_
    refine XS.iload X7.here hx rfl (hb hby d8_5) rfl ?_
    refine XS.aloadN X7.here hx rfl (hb hby d8_7) rfl rfl ?_
    refine st13 _ ?_
    show Steps p.tables e below (T13.setTop (mkF m 11 #[.val (.ref p0), .val (.ref p1), .val (.double (FP.l2d y0)), .second, .val (.int (1 : Int32))] [(.ref a), (.int (1 : Int32))])) _
    refine X13.arraylength hx (by rw [e13]; exact Ara2.1) (State.isArrayOf_alike hZ.alike Ara2.2.1) (g := (mkF m 11 #[.val (.ref p0), .val (.ref p1), .val (.double (FP.l2d y0)), .second, .val (.int (1 : Int32))] [(.ref a), (.int (1 : Int32))])) rfl rfl (hb hby d8_11) _ ?_
    rw [len_of Sa2 Za2]
    show Steps p.tables e below (T13.setTop (mkF m 12 #[.val (.ref p0), .val (.ref p1), .val (.double (FP.l2d y0)), .second, .val (.int (1 : Int32))] [(.int (1 : Int32)), (.int (1 : Int32))])) _
    refine XS.icmpYes X13.here hx rfl (pc0 := 12) (pc' := 41) rfl (hb hby d8_12) rfl (flt (by decide)).2.1 (by decide) (by decide) ?_
    refine XS.dloadN X13.here hx rfl (hb hby d8_41) rfl ?_
    exact Steps.refl _
  subst hA₀
  obtain ⟨fs, hr, hrun, hended, hW, hsame⟩ := X13.leave (v := some (.double (FP.l2d y0))) (fun h => by rw [Bd.returns] at h; cases h)
  refine ⟨_, _, s14.trans ?_, hrun, hended, _, _, rfl, ?_, ⟨_, rfl⟩, hW, hsame.mono (by decide) (by decide)⟩
  · show Steps p.tables e below (T13.setTop (mkF m 42 #[.val (.ref p0), .val (.ref p1), .val (.double (FP.l2d y0)), .second, .val (.int (1 : Int32))] [(.double (FP.l2d y0))])) _
    jvm_step X13.here [X13.here.top, hx, (hb hby d8_42), X13.method', Bd.returns, narrow]
    first | (intro acts; rw [hr _ acts rfl rfl rfl]) | rw [hr _ _ rfl rfl rfl]
    exact Steps.refl _
  · show Qex0 Z p0 p1 a b ka kb kv y0 y1 y2 y3 h0 n0 _ T13.heap _
    rw [e13]
    exact ⟨rfl, N0, rfl⟩
theorem ef_rmex1 (m : MethodId) (p0 : Addr) (p1 : Addr) : entryFrame m #[(.ref p0), (.ref p1)] 5 = mkF m 0 #[.val (.ref p0), .val (.ref p1), .unset, .unset, .unset] [] := by first | (simp [entryFrame, mkF, argsToLocals, Value.category]; done) | rfl
def Qex1 (Z : State) (p0 : Addr) (p1 : Addr) (a : Addr) (b : Addr) (ka : ClassId) (kb : ClassId) (kv : ClassId) (y0 : Int64) (y1 : Int64) (y2 : Int64) (y3 : Int64) (h0 : Heap) (n0 : Nat) (v : Option Value) (h : Heap) (L : List Loc) : Prop := v = some (.double (FP.l2d y1)) ∧ Fr n0 L ∧ h = h0
set_option maxRecDepth 65536 in
set_option maxHeartbeats 40000000 in
theorem rmex1 (l : Launch) (Z : State) (a0 : Array Value) (hw : ∀ d ∈ tables_1, d.before a0 Z = true) (ws : List Jvm.Cond) (p0 : Addr) (p1 : Addr) (a : Addr) (b : Addr) (ka : ClassId) (kb : ClassId) (kv : ClassId) (y0 : Int64) (y1 : Int64) (y2 : Int64) (y3 : Int64) (h0 : Heap) (n0 : Nat) (O0 : Old Z n0 h0) (F0_ : Exa Z h0 p0 "com/example/odds_on_axioms/oddsonaxioms/aleatoric/Distribution") (F1_ : Fld Z h0 p0 "com/example/odds_on_axioms/oddsonaxioms/aleatoric/Distribution" "individuals" "[I" (.ref a)) (F2_ : Fld Z h0 p0 "com/example/odds_on_axioms/oddsonaxioms/aleatoric/Distribution" "probabilities" "[D" (.ref b)) (F3_ : Arv Z h0 a ka .int (1 : Int32) [(.int (1 : Int32))] (.int (0 : Int32))) (F4_ : Arv Z h0 b kb .double (1 : Int32) [(.double (FP.l2d (1 : Int64)))] (.double (FP.l2d (0 : Int64)))) (F5_ : Arv Z h0 p1 kv .double (4 : Int32) [(.double (FP.l2d y0)), (.double (FP.l2d y1)), (.double (FP.l2d y2)), (.double (FP.l2d y3))] (.double (FP.l2d (0 : Int64)))) (hy : 0 ≤ y1.toInt ∧ y1.toInt ≤ 70000) :
    MetFree l nm6 (head1 (Jvm.Cond.code nm6 prog_6_method_4_code 5 (some .double) :: ws) ({ frames := 0, cells := 0, slots := 0, locals := 0 } : Room)) (fun a U => a = #[(.ref p0), (.ref p1)] ∧ Z.Warmed39 U.vm ∧ U.heap = h0) (fun _ _ _ _ _ => True) (fun _ U o U' => ∃ v L, o = .returned v ∧ Qex1 Z p0 p1 a b ka kb kv y0 y1 y2 y3 h0 n0 v U'.heap L ∧ FrameEnd U o U' L ({ frames := 0, cells := 0, slots := 0, locals := 0 } : Room).cells ({ frames := 0, cells := 0, slots := 0, locals := 0 } : Room).slots) := by
  refine MetFree.of_bodySF (plainFor_of_name pn_2) hisR ?_
  intro p e s m args below meth c s₁ Bd hml0 hP hK
  obtain ⟨rfl, hZ, hh⟩ := hP
  have hx := Bd.exec
  have hby := Bd.bytes
  have hml : c.maxLocals = 5 := hml0
  have hown : s.vm.findClass "com/example/odds_on_axioms/oddsonaxioms/aleatoric/Distribution" = some m.cls := findClass_of_methodNamed Bd.named
  have X0 : Stand p l e ({ frames := 0, cells := 0, slots := 0, locals := 0 } : Room) s m #[(.ref p0), (.ref p1)] below meth c s₁ [] 0 0 := Stand.of_body Bd
  have e0 : s₁.heap = h0 := by rw [← hh, Bd.state]; rfl
  have N0 := Fr.nil n0
  have s0 : Steps p.tables e below (s₁.setTop (entryFrame m #[(.ref p0), (.ref p1)] 5)) (s₁.setTop (mkF m 0 #[.val (.ref p0), .val (.ref p1), .unset, .unset, .unset] [])) := castTop (ef_rmex1 m p0 p1) (Steps.refl _)
  obtain ⟨A₀, hA₀⟩ : ∃ z, z = (s₁.setTop (entryFrame m #[(.ref p0), (.ref p1)] 5)) := ⟨_, rfl⟩
  rw [← hA₀] at s0
  obtain ⟨T1, X1, e1, st1⟩ := getF X0 hx hZ hown (host := "") (Or.inl (hw _ (List.mem_of_getElem? (i := 14) rfl))) Via.refl e0 F1_ (g := (mkF m 8 #[.val (.ref p0), .val (.ref p1), .val (.double (FP.l2d (0 : Int64))), .second, .val (.int (0 : Int32))] [(.ref p0), (.int (0 : Int32))])) rfl rfl (hb hby d8_8)
  obtain ⟨cla2, Ara2, qa2, Sa2, Za2, Ha2, Ga2⟩ := id F3_
  obtain ⟨T3, X3, e3, st3⟩ := getF X1 hx hZ hown (host := "") (Or.inl (hw _ (List.mem_of_getElem? (i := 16) rfl))) Via.refl e1 F2_ (g := (mkF m 17 #[.val (.ref p0), .val (.ref p1), .val (.double (FP.l2d (0 : Int64))), .second, .val (.int (0 : Int32))] [(.ref p0), (.double (FP.l2d (0 : Int64)))])) rfl rfl (hb hby d8_17)
  obtain ⟨cla4, Ara4, qa4, Sa4, Za4, Ha4, Ga4⟩ := id F4_
  have hin5 : ¬ ((0 : Int32) < 0 ∨ cla4.slots.size ≤ ((0 : Int32)).toNatClampNeg) := inb_of Sa4 ⟨by decide, by decide⟩
  have hat6 : cla4.slots[((0 : Int32)).toNatClampNeg]? = some (.double (FP.l2d (1 : Int64))) := Has.at Ha4 hin5 rfl
  obtain ⟨T7, X7, e7, st7⟩ := getF X3 hx hZ hown (host := "") (Or.inl (hw _ (List.mem_of_getElem? (i := 14) rfl))) Via.refl e3 F1_ (g := (mkF m 25 #[.val (.ref p0), .val (.ref p1), .val (.double (FP.l2d (0 : Int64))), .second, .val (.int (0 : Int32))] [(.ref p0), (.ref p1), (.double (FP.l2d (1 : Int64))), (.double (FP.l2d (0 : Int64)))])) rfl rfl (hb hby d8_25)
  have hin8 : ¬ ((0 : Int32) < 0 ∨ cla2.slots.size ≤ ((0 : Int32)).toNatClampNeg) := inb_of Sa2 ⟨by decide, by decide⟩
  have hat9 : cla2.slots[((0 : Int32)).toNatClampNeg]? = some (.int (1 : Int32)) := Has.at Ha2 hin8 rfl
  obtain ⟨cla10, Ara10, qa10, Sa10, Za10, Ha10, Ga10⟩ := id F5_
  have hin11 : ¬ ((1 : Int32) < 0 ∨ cla10.slots.size ≤ ((1 : Int32)).toNatClampNeg) := inb_of Sa10 ⟨by decide, by decide⟩
  have hat12 : cla10.slots[((1 : Int32)).toNatClampNeg]? = some (.double (FP.l2d y1)) := Has.at Ha10 hin11 rfl
  obtain ⟨T13, X13, e13, st13⟩ := getF X7 hx hZ hown (host := "") (Or.inl (hw _ (List.mem_of_getElem? (i := 14) rfl))) Via.refl e7 F1_ (g := (mkF m 8 #[.val (.ref p0), .val (.ref p1), .val (.double (FP.l2d y1)), .second, .val (.int (1 : Int32))] [(.ref p0), (.int (1 : Int32))])) rfl rfl (hb hby d8_8)
  have s14 : Steps p.tables e below A₀ (T13.setTop (mkF m 42 #[.val (.ref p0), .val (.ref p1), .val (.double (FP.l2d y1)), .second, .val (.int (1 : Int32))] [(.double (FP.l2d y1))])) := by
    refine s0.trans ?_
    refine XS.dconst0 X0.here hx rfl (hb hby d8_0) (v := (FP.l2d (0 : Int64))) own_dc0 ?_
    refine XS.dstoreN X0.here hx rfl (hb hby d8_1) rfl (l' := #[.val (.ref p0), .val (.ref p1), .val (.double (FP.l2d (0 : Int64))), .second, .unset]) rfl ?_
    refine XS.iconst X0.here hx rfl (hb hby d8_2) ?_
    refine XS.istore X0.here hx rfl (hb hby d8_3) rfl (l' := #[.val (.ref p0), .val (.ref p1), .val (.double (FP.l2d (0 : Int64))), .second, .val (.int (0 : Int32))]) rfl ?_
    refine XS.iload X0.here hx rfl (hb hby d8_5) rfl ?_
    refine XS.aloadN X0.here hx rfl (hb hby d8_7) rfl rfl ?_
    refine st1 _ ?_
    refine X1.arraylength hx (by rw [e1]; exact Ara2.1) (State.isArrayOf_alike hZ.alike Ara2.2.1) (g := (mkF m 11 #[.val (.ref p0), .val (.ref p1), .val (.double (FP.l2d (0 : Int64))), .second, .val (.int (0 : Int32))] [(.ref a), (.int (0 : Int32))])) rfl rfl (hb hby d8_11) _ ?_
    rw [len_of Sa2 Za2]
    show Steps p.tables e below (T1.setTop (mkF m 12 #[.val (.ref p0), .val (.ref p1), .val (.double (FP.l2d (0 : Int64))), .second, .val (.int (0 : Int32))] [(.int (1 : Int32)), (.int (0 : Int32))])) _
    refine XS.icmpNo X1.here hx rfl (hb hby d8_12) rfl (tlt (by decide)).2.1 ?_
    refine XS.dloadN X1.here hx rfl (hb hby d8_15) rfl ?_
    refine XS.aloadN X1.here hx rfl (hb hby d8_16) rfl rfl ?_
    refine st3 _ ?_
    refine XS.iload X3.here hx rfl (hb hby d8_20) rfl ?_
    refine X3.daload hx (j := (0 : Int32)) (v := (.double (FP.l2d (1 : Int64)))) (by rw [e3]; exact Ara4.1) (State.isArrayOf_alike hZ.alike Ara4.2.1) Ara4.2.2 hin5 hat6 (g := (mkF m 22 #[.val (.ref p0), .val (.ref p1), .val (.double (FP.l2d (0 : Int64))), .second, .val (.int (0 : Int32))] [(.int (0 : Int32)), (.ref b), (.double (FP.l2d (0 : Int64)))])) rfl rfl (hb hby d8_22) _ ?_
    refine XS.aloadN X3.here hx rfl (hb hby d8_23) rfl rfl ?_
    refine XS.aloadN X3.here hx rfl (hb hby d8_24) rfl rfl ?_
    refine st7 _ ?_
    refine XS.iload X7.here hx rfl (hb hby d8_28) rfl ?_
    show Steps p.tables e below (T7.setTop (mkF m 30 #[.val (.ref p0), .val (.ref p1), .val (.double (FP.l2d (0 : Int64))), .second, .val (.int (0 : Int32))] [(.int (0 : Int32)), (.ref a), (.ref p1), (.double (FP.l2d (1 : Int64))), (.double (FP.l2d (0 : Int64)))])) _
    refine X7.iaload hx (j := (0 : Int32)) (v := (.int (1 : Int32))) (by rw [e7]; exact Ara2.1) (State.isArrayOf_alike hZ.alike Ara2.2.1) Ara2.2.2 hin8 hat9 (g := (mkF m 30 #[.val (.ref p0), .val (.ref p1), .val (.double (FP.l2d (0 : Int64))), .second, .val (.int (0 : Int32))] [(.int (0 : Int32)), (.ref a), (.ref p1), (.double (FP.l2d (1 : Int64))), (.double (FP.l2d (0 : Int64)))])) rfl rfl (hb hby d8_30) _ ?_
    refine X7.daload hx (j := (1 : Int32)) (v := (.double (FP.l2d y1))) (by rw [e7]; exact Ara10.1) (State.isArrayOf_alike hZ.alike Ara10.2.1) Ara10.2.2 hin11 hat12 (g := (mkF m 31 #[.val (.ref p0), .val (.ref p1), .val (.double (FP.l2d (0 : Int64))), .second, .val (.int (0 : Int32))] [(.int (1 : Int32)), (.ref p1), (.double (FP.l2d (1 : Int64))), (.double (FP.l2d (0 : Int64)))])) rfl rfl (hb hby d8_31) _ ?_
    refine XS.dmulS X7.here hx rfl (hb hby d8_32) rfl (nn_w (own_mul1 y1 hy)) (own_mul1 y1 hy) ?_
    refine XS.daddS X7.here hx rfl (hb hby d8_33) rfl (nn_w (own_add0 y1 hy)) (own_add0 y1 hy) ?_
    refine XS.dstoreN X7.here hx rfl (hb hby d8_34) rfl (l' := #[.val (.ref p0), .val (.ref p1), .val (.double (FP.l2d y1)), .second, .val (.int (0 : Int32))]) rfl ?_
    refine XS.iinc X7.here hx rfl (hb hby d8_35) rfl (l' := #[.val (.ref p0), .val (.ref p1), .val (.double (FP.l2d y1)), .second, .val (.int (1 : Int32))]) rfl ?_
    refine XS.goto X7.here hx rfl (pc0 := 38) (pc' := 5) rfl (hb hby d8_38) (by decide) (by decide) ?_
    refine XS.iload X7.here hx rfl (hb hby d8_5) rfl ?_
    refine XS.aloadN X7.here hx rfl (hb hby d8_7) rfl rfl ?_
    refine st13 _ ?_
    show Steps p.tables e below (T13.setTop (mkF m 11 #[.val (.ref p0), .val (.ref p1), .val (.double (FP.l2d y1)), .second, .val (.int (1 : Int32))] [(.ref a), (.int (1 : Int32))])) _
    refine X13.arraylength hx (by rw [e13]; exact Ara2.1) (State.isArrayOf_alike hZ.alike Ara2.2.1) (g := (mkF m 11 #[.val (.ref p0), .val (.ref p1), .val (.double (FP.l2d y1)), .second, .val (.int (1 : Int32))] [(.ref a), (.int (1 : Int32))])) rfl rfl (hb hby d8_11) _ ?_
    rw [len_of Sa2 Za2]
    show Steps p.tables e below (T13.setTop (mkF m 12 #[.val (.ref p0), .val (.ref p1), .val (.double (FP.l2d y1)), .second, .val (.int (1 : Int32))] [(.int (1 : Int32)), (.int (1 : Int32))])) _
    refine XS.icmpYes X13.here hx rfl (pc0 := 12) (pc' := 41) rfl (hb hby d8_12) rfl (flt (by decide)).2.1 (by decide) (by decide) ?_
    refine XS.dloadN X13.here hx rfl (hb hby d8_41) rfl ?_
    exact Steps.refl _
  subst hA₀
  obtain ⟨fs, hr, hrun, hended, hW, hsame⟩ := X13.leave (v := some (.double (FP.l2d y1))) (fun h => by rw [Bd.returns] at h; cases h)
  refine ⟨_, _, s14.trans ?_, hrun, hended, _, _, rfl, ?_, ⟨_, rfl⟩, hW, hsame.mono (by decide) (by decide)⟩
  · show Steps p.tables e below (T13.setTop (mkF m 42 #[.val (.ref p0), .val (.ref p1), .val (.double (FP.l2d y1)), .second, .val (.int (1 : Int32))] [(.double (FP.l2d y1))])) _
    jvm_step X13.here [X13.here.top, hx, (hb hby d8_42), X13.method', Bd.returns, narrow]
    first | (intro acts; rw [hr _ acts rfl rfl rfl]) | rw [hr _ _ rfl rfl rfl]
    exact Steps.refl _
  · show Qex1 Z p0 p1 a b ka kb kv y0 y1 y2 y3 h0 n0 _ T13.heap _
    rw [e13]
    exact ⟨rfl, N0, rfl⟩
theorem ef_rmex2 (m : MethodId) (p0 : Addr) (p1 : Addr) : entryFrame m #[(.ref p0), (.ref p1)] 5 = mkF m 0 #[.val (.ref p0), .val (.ref p1), .unset, .unset, .unset] [] := by first | (simp [entryFrame, mkF, argsToLocals, Value.category]; done) | rfl
def Qex2 (Z : State) (p0 : Addr) (p1 : Addr) (a : Addr) (b : Addr) (ka : ClassId) (kb : ClassId) (kv : ClassId) (y0 : Int64) (y1 : Int64) (y2 : Int64) (y3 : Int64) (h0 : Heap) (n0 : Nat) (v : Option Value) (h : Heap) (L : List Loc) : Prop := v = some (.double (FP.l2d y2)) ∧ Fr n0 L ∧ h = h0
set_option maxRecDepth 65536 in
set_option maxHeartbeats 40000000 in
theorem rmex2 (l : Launch) (Z : State) (a0 : Array Value) (hw : ∀ d ∈ tables_1, d.before a0 Z = true) (ws : List Jvm.Cond) (p0 : Addr) (p1 : Addr) (a : Addr) (b : Addr) (ka : ClassId) (kb : ClassId) (kv : ClassId) (y0 : Int64) (y1 : Int64) (y2 : Int64) (y3 : Int64) (h0 : Heap) (n0 : Nat) (O0 : Old Z n0 h0) (F0_ : Exa Z h0 p0 "com/example/odds_on_axioms/oddsonaxioms/aleatoric/Distribution") (F1_ : Fld Z h0 p0 "com/example/odds_on_axioms/oddsonaxioms/aleatoric/Distribution" "individuals" "[I" (.ref a)) (F2_ : Fld Z h0 p0 "com/example/odds_on_axioms/oddsonaxioms/aleatoric/Distribution" "probabilities" "[D" (.ref b)) (F3_ : Arv Z h0 a ka .int (1 : Int32) [(.int (2 : Int32))] (.int (0 : Int32))) (F4_ : Arv Z h0 b kb .double (1 : Int32) [(.double (FP.l2d (1 : Int64)))] (.double (FP.l2d (0 : Int64)))) (F5_ : Arv Z h0 p1 kv .double (4 : Int32) [(.double (FP.l2d y0)), (.double (FP.l2d y1)), (.double (FP.l2d y2)), (.double (FP.l2d y3))] (.double (FP.l2d (0 : Int64)))) (hy : 0 ≤ y2.toInt ∧ y2.toInt ≤ 70000) :
    MetFree l nm6 (head1 (Jvm.Cond.code nm6 prog_6_method_4_code 5 (some .double) :: ws) ({ frames := 0, cells := 0, slots := 0, locals := 0 } : Room)) (fun a U => a = #[(.ref p0), (.ref p1)] ∧ Z.Warmed39 U.vm ∧ U.heap = h0) (fun _ _ _ _ _ => True) (fun _ U o U' => ∃ v L, o = .returned v ∧ Qex2 Z p0 p1 a b ka kb kv y0 y1 y2 y3 h0 n0 v U'.heap L ∧ FrameEnd U o U' L ({ frames := 0, cells := 0, slots := 0, locals := 0 } : Room).cells ({ frames := 0, cells := 0, slots := 0, locals := 0 } : Room).slots) := by
  refine MetFree.of_bodySF (plainFor_of_name pn_2) hisR ?_
  intro p e s m args below meth c s₁ Bd hml0 hP hK
  obtain ⟨rfl, hZ, hh⟩ := hP
  have hx := Bd.exec
  have hby := Bd.bytes
  have hml : c.maxLocals = 5 := hml0
  have hown : s.vm.findClass "com/example/odds_on_axioms/oddsonaxioms/aleatoric/Distribution" = some m.cls := findClass_of_methodNamed Bd.named
  have X0 : Stand p l e ({ frames := 0, cells := 0, slots := 0, locals := 0 } : Room) s m #[(.ref p0), (.ref p1)] below meth c s₁ [] 0 0 := Stand.of_body Bd
  have e0 : s₁.heap = h0 := by rw [← hh, Bd.state]; rfl
  have N0 := Fr.nil n0
  have s0 : Steps p.tables e below (s₁.setTop (entryFrame m #[(.ref p0), (.ref p1)] 5)) (s₁.setTop (mkF m 0 #[.val (.ref p0), .val (.ref p1), .unset, .unset, .unset] [])) := castTop (ef_rmex2 m p0 p1) (Steps.refl _)
  obtain ⟨A₀, hA₀⟩ : ∃ z, z = (s₁.setTop (entryFrame m #[(.ref p0), (.ref p1)] 5)) := ⟨_, rfl⟩
  rw [← hA₀] at s0
  obtain ⟨T1, X1, e1, st1⟩ := getF X0 hx hZ hown (host := "") (Or.inl (hw _ (List.mem_of_getElem? (i := 14) rfl))) Via.refl e0 F1_ (g := (mkF m 8 #[.val (.ref p0), .val (.ref p1), .val (.double (FP.l2d (0 : Int64))), .second, .val (.int (0 : Int32))] [(.ref p0), (.int (0 : Int32))])) rfl rfl (hb hby d8_8)
  obtain ⟨cla2, Ara2, qa2, Sa2, Za2, Ha2, Ga2⟩ := id F3_
  obtain ⟨T3, X3, e3, st3⟩ := getF X1 hx hZ hown (host := "") (Or.inl (hw _ (List.mem_of_getElem? (i := 16) rfl))) Via.refl e1 F2_ (g := (mkF m 17 #[.val (.ref p0), .val (.ref p1), .val (.double (FP.l2d (0 : Int64))), .second, .val (.int (0 : Int32))] [(.ref p0), (.double (FP.l2d (0 : Int64)))])) rfl rfl (hb hby d8_17)
  obtain ⟨cla4, Ara4, qa4, Sa4, Za4, Ha4, Ga4⟩ := id F4_
  have hin5 : ¬ ((0 : Int32) < 0 ∨ cla4.slots.size ≤ ((0 : Int32)).toNatClampNeg) := inb_of Sa4 ⟨by decide, by decide⟩
  have hat6 : cla4.slots[((0 : Int32)).toNatClampNeg]? = some (.double (FP.l2d (1 : Int64))) := Has.at Ha4 hin5 rfl
  obtain ⟨T7, X7, e7, st7⟩ := getF X3 hx hZ hown (host := "") (Or.inl (hw _ (List.mem_of_getElem? (i := 14) rfl))) Via.refl e3 F1_ (g := (mkF m 25 #[.val (.ref p0), .val (.ref p1), .val (.double (FP.l2d (0 : Int64))), .second, .val (.int (0 : Int32))] [(.ref p0), (.ref p1), (.double (FP.l2d (1 : Int64))), (.double (FP.l2d (0 : Int64)))])) rfl rfl (hb hby d8_25)
  have hin8 : ¬ ((0 : Int32) < 0 ∨ cla2.slots.size ≤ ((0 : Int32)).toNatClampNeg) := inb_of Sa2 ⟨by decide, by decide⟩
  have hat9 : cla2.slots[((0 : Int32)).toNatClampNeg]? = some (.int (2 : Int32)) := Has.at Ha2 hin8 rfl
  obtain ⟨cla10, Ara10, qa10, Sa10, Za10, Ha10, Ga10⟩ := id F5_
  have hin11 : ¬ ((2 : Int32) < 0 ∨ cla10.slots.size ≤ ((2 : Int32)).toNatClampNeg) := inb_of Sa10 ⟨by decide, by decide⟩
  have hat12 : cla10.slots[((2 : Int32)).toNatClampNeg]? = some (.double (FP.l2d y2)) := Has.at Ha10 hin11 rfl
  obtain ⟨T13, X13, e13, st13⟩ := getF X7 hx hZ hown (host := "") (Or.inl (hw _ (List.mem_of_getElem? (i := 14) rfl))) Via.refl e7 F1_ (g := (mkF m 8 #[.val (.ref p0), .val (.ref p1), .val (.double (FP.l2d y2)), .second, .val (.int (1 : Int32))] [(.ref p0), (.int (1 : Int32))])) rfl rfl (hb hby d8_8)
  have s14 : Steps p.tables e below A₀ (T13.setTop (mkF m 42 #[.val (.ref p0), .val (.ref p1), .val (.double (FP.l2d y2)), .second, .val (.int (1 : Int32))] [(.double (FP.l2d y2))])) := by
    refine s0.trans ?_
    refine XS.dconst0 X0.here hx rfl (hb hby d8_0) (v := (FP.l2d (0 : Int64))) own_dc0 ?_
    refine XS.dstoreN X0.here hx rfl (hb hby d8_1) rfl (l' := #[.val (.ref p0), .val (.ref p1), .val (.double (FP.l2d (0 : Int64))), .second, .unset]) rfl ?_
    refine XS.iconst X0.here hx rfl (hb hby d8_2) ?_
    refine XS.istore X0.here hx rfl (hb hby d8_3) rfl (l' := #[.val (.ref p0), .val (.ref p1), .val (.double (FP.l2d (0 : Int64))), .second, .val (.int (0 : Int32))]) rfl ?_
    refine XS.iload X0.here hx rfl (hb hby d8_5) rfl ?_
    refine XS.aloadN X0.here hx rfl (hb hby d8_7) rfl rfl ?_
    refine st1 _ ?_
    refine X1.arraylength hx (by rw [e1]; exact Ara2.1) (State.isArrayOf_alike hZ.alike Ara2.2.1) (g := (mkF m 11 #[.val (.ref p0), .val (.ref p1), .val (.double (FP.l2d (0 : Int64))), .second, .val (.int (0 : Int32))] [(.ref a), (.int (0 : Int32))])) rfl rfl (hb hby d8_11) _ ?_
    rw [len_of Sa2 Za2]
    show Steps p.tables e below (T1.setTop (mkF m 12 #[.val (.ref p0), .val (.ref p1), .val (.double (FP.l2d (0 : Int64))), .second, .val (.int (0 : Int32))] [(.int (1 : Int32)), (.int (0 : Int32))])) _
    refine XS.icmpNo X1.here hx rfl (hb hby d8_12) rfl (tlt (by decide)).2.1 ?_
    refine XS.dloadN X1.here hx rfl (hb hby d8_15) rfl ?_
    refine XS.aloadN X1.here hx rfl (hb hby d8_16) rfl rfl ?_
    refine st3 _ ?_
    refine XS.iload X3.here hx rfl (hb hby d8_20) rfl ?_
    refine X3.daload hx (j := (0 : Int32)) (v := (.double (FP.l2d (1 : Int64)))) (by rw [e3]; exact Ara4.1) (State.isArrayOf_alike hZ.alike Ara4.2.1) Ara4.2.2 hin5 hat6 (g := (mkF m 22 #[.val (.ref p0), .val (.ref p1), .val (.double (FP.l2d (0 : Int64))), .second, .val (.int (0 : Int32))] [(.int (0 : Int32)), (.ref b), (.double (FP.l2d (0 : Int64)))])) rfl rfl (hb hby d8_22) _ ?_
    refine XS.aloadN X3.here hx rfl (hb hby d8_23) rfl rfl ?_
    refine XS.aloadN X3.here hx rfl (hb hby d8_24) rfl rfl ?_
    refine st7 _ ?_
    refine XS.iload X7.here hx rfl (hb hby d8_28) rfl ?_
    show Steps p.tables e below (T7.setTop (mkF m 30 #[.val (.ref p0), .val (.ref p1), .val (.double (FP.l2d (0 : Int64))), .second, .val (.int (0 : Int32))] [(.int (0 : Int32)), (.ref a), (.ref p1), (.double (FP.l2d (1 : Int64))), (.double (FP.l2d (0 : Int64)))])) _
    refine X7.iaload hx (j := (0 : Int32)) (v := (.int (2 : Int32))) (by rw [e7]; exact Ara2.1) (State.isArrayOf_alike hZ.alike Ara2.2.1) Ara2.2.2 hin8 hat9 (g := (mkF m 30 #[.val (.ref p0), .val (.ref p1), .val (.double (FP.l2d (0 : Int64))), .second, .val (.int (0 : Int32))] [(.int (0 : Int32)), (.ref a), (.ref p1), (.double (FP.l2d (1 : Int64))), (.double (FP.l2d (0 : Int64)))])) rfl rfl (hb hby d8_30) _ ?_
    refine X7.daload hx (j := (2 : Int32)) (v := (.double (FP.l2d y2))) (by rw [e7]; exact Ara10.1) (State.isArrayOf_alike hZ.alike Ara10.2.1) Ara10.2.2 hin11 hat12 (g := (mkF m 31 #[.val (.ref p0), .val (.ref p1), .val (.double (FP.l2d (0 : Int64))), .second, .val (.int (0 : Int32))] [(.int (2 : Int32)), (.ref p1), (.double (FP.l2d (1 : Int64))), (.double (FP.l2d (0 : Int64)))])) rfl rfl (hb hby d8_31) _ ?_
    refine XS.dmulS X7.here hx rfl (hb hby d8_32) rfl (nn_w (own_mul1 y2 hy)) (own_mul1 y2 hy) ?_
    refine XS.daddS X7.here hx rfl (hb hby d8_33) rfl (nn_w (own_add0 y2 hy)) (own_add0 y2 hy) ?_
    refine XS.dstoreN X7.here hx rfl (hb hby d8_34) rfl (l' := #[.val (.ref p0), .val (.ref p1), .val (.double (FP.l2d y2)), .second, .val (.int (0 : Int32))]) rfl ?_
    refine XS.iinc X7.here hx rfl (hb hby d8_35) rfl (l' := #[.val (.ref p0), .val (.ref p1), .val (.double (FP.l2d y2)), .second, .val (.int (1 : Int32))]) rfl ?_
    refine XS.goto X7.here hx rfl (pc0 := 38) (pc' := 5) rfl (hb hby d8_38) (by decide) (by decide) ?_
    refine XS.iload X7.here hx rfl (hb hby d8_5) rfl ?_
    refine XS.aloadN X7.here hx rfl (hb hby d8_7) rfl rfl ?_
    refine st13 _ ?_
    show Steps p.tables e below (T13.setTop (mkF m 11 #[.val (.ref p0), .val (.ref p1), .val (.double (FP.l2d y2)), .second, .val (.int (1 : Int32))] [(.ref a), (.int (1 : Int32))])) _
    refine X13.arraylength hx (by rw [e13]; exact Ara2.1) (State.isArrayOf_alike hZ.alike Ara2.2.1) (g := (mkF m 11 #[.val (.ref p0), .val (.ref p1), .val (.double (FP.l2d y2)), .second, .val (.int (1 : Int32))] [(.ref a), (.int (1 : Int32))])) rfl rfl (hb hby d8_11) _ ?_
    rw [len_of Sa2 Za2]
    show Steps p.tables e below (T13.setTop (mkF m 12 #[.val (.ref p0), .val (.ref p1), .val (.double (FP.l2d y2)), .second, .val (.int (1 : Int32))] [(.int (1 : Int32)), (.int (1 : Int32))])) _
    refine XS.icmpYes X13.here hx rfl (pc0 := 12) (pc' := 41) rfl (hb hby d8_12) rfl (flt (by decide)).2.1 (by decide) (by decide) ?_
    refine XS.dloadN X13.here hx rfl (hb hby d8_41) rfl ?_
    exact Steps.refl _
  subst hA₀
  obtain ⟨fs, hr, hrun, hended, hW, hsame⟩ := X13.leave (v := some (.double (FP.l2d y2))) (fun h => by rw [Bd.returns] at h; cases h)
  refine ⟨_, _, s14.trans ?_, hrun, hended, _, _, rfl, ?_, ⟨_, rfl⟩, hW, hsame.mono (by decide) (by decide)⟩
  · show Steps p.tables e below (T13.setTop (mkF m 42 #[.val (.ref p0), .val (.ref p1), .val (.double (FP.l2d y2)), .second, .val (.int (1 : Int32))] [(.double (FP.l2d y2))])) _
    jvm_step X13.here [X13.here.top, hx, (hb hby d8_42), X13.method', Bd.returns, narrow]
    first | (intro acts; rw [hr _ acts rfl rfl rfl]) | rw [hr _ _ rfl rfl rfl]
    exact Steps.refl _
  · show Qex2 Z p0 p1 a b ka kb kv y0 y1 y2 y3 h0 n0 _ T13.heap _
    rw [e13]
    exact ⟨rfl, N0, rfl⟩
theorem ef_rmex3 (m : MethodId) (p0 : Addr) (p1 : Addr) : entryFrame m #[(.ref p0), (.ref p1)] 5 = mkF m 0 #[.val (.ref p0), .val (.ref p1), .unset, .unset, .unset] [] := by first | (simp [entryFrame, mkF, argsToLocals, Value.category]; done) | rfl
def Qex3 (Z : State) (p0 : Addr) (p1 : Addr) (a : Addr) (b : Addr) (ka : ClassId) (kb : ClassId) (kv : ClassId) (y0 : Int64) (y1 : Int64) (y2 : Int64) (y3 : Int64) (h0 : Heap) (n0 : Nat) (v : Option Value) (h : Heap) (L : List Loc) : Prop := v = some (.double (FP.l2d y3)) ∧ Fr n0 L ∧ h = h0
set_option maxRecDepth 65536 in
set_option maxHeartbeats 40000000 in
theorem rmex3 (l : Launch) (Z : State) (a0 : Array Value) (hw : ∀ d ∈ tables_1, d.before a0 Z = true) (ws : List Jvm.Cond) (p0 : Addr) (p1 : Addr) (a : Addr) (b : Addr) (ka : ClassId) (kb : ClassId) (kv : ClassId) (y0 : Int64) (y1 : Int64) (y2 : Int64) (y3 : Int64) (h0 : Heap) (n0 : Nat) (O0 : Old Z n0 h0) (F0_ : Exa Z h0 p0 "com/example/odds_on_axioms/oddsonaxioms/aleatoric/Distribution") (F1_ : Fld Z h0 p0 "com/example/odds_on_axioms/oddsonaxioms/aleatoric/Distribution" "individuals" "[I" (.ref a)) (F2_ : Fld Z h0 p0 "com/example/odds_on_axioms/oddsonaxioms/aleatoric/Distribution" "probabilities" "[D" (.ref b)) (F3_ : Arv Z h0 a ka .int (1 : Int32) [(.int (3 : Int32))] (.int (0 : Int32))) (F4_ : Arv Z h0 b kb .double (1 : Int32) [(.double (FP.l2d (1 : Int64)))] (.double (FP.l2d (0 : Int64)))) (F5_ : Arv Z h0 p1 kv .double (4 : Int32) [(.double (FP.l2d y0)), (.double (FP.l2d y1)), (.double (FP.l2d y2)), (.double (FP.l2d y3))] (.double (FP.l2d (0 : Int64)))) (hy : 0 ≤ y3.toInt ∧ y3.toInt ≤ 70000) :
    MetFree l nm6 (head1 (Jvm.Cond.code nm6 prog_6_method_4_code 5 (some .double) :: ws) ({ frames := 0, cells := 0, slots := 0, locals := 0 } : Room)) (fun a U => a = #[(.ref p0), (.ref p1)] ∧ Z.Warmed39 U.vm ∧ U.heap = h0) (fun _ _ _ _ _ => True) (fun _ U o U' => ∃ v L, o = .returned v ∧ Qex3 Z p0 p1 a b ka kb kv y0 y1 y2 y3 h0 n0 v U'.heap L ∧ FrameEnd U o U' L ({ frames := 0, cells := 0, slots := 0, locals := 0 } : Room).cells ({ frames := 0, cells := 0, slots := 0, locals := 0 } : Room).slots) := by
  refine MetFree.of_bodySF (plainFor_of_name pn_2) hisR ?_
  intro p e s m args below meth c s₁ Bd hml0 hP hK
  obtain ⟨rfl, hZ, hh⟩ := hP
  have hx := Bd.exec
  have hby := Bd.bytes
  have hml : c.maxLocals = 5 := hml0
  have hown : s.vm.findClass "com/example/odds_on_axioms/oddsonaxioms/aleatoric/Distribution" = some m.cls := findClass_of_methodNamed Bd.named
  have X0 : Stand p l e ({ frames := 0, cells := 0, slots := 0, locals := 0 } : Room) s m #[(.ref p0), (.ref p1)] below meth c s₁ [] 0 0 := Stand.of_body Bd
  have e0 : s₁.heap = h0 := by rw [← hh, Bd.state]; rfl
  have N0 := Fr.nil n0
  have s0 : Steps p.tables e below (s₁.setTop (entryFrame m #[(.ref p0), (.ref p1)] 5)) (s₁.setTop (mkF m 0 #[.val (.ref p0), .val (.ref p1), .unset, .unset, .unset] [])) := castTop (ef_rmex3 m p0 p1) (Steps.refl _)
  obtain ⟨A₀, hA₀⟩ : ∃ z, z = (s₁.setTop (entryFrame m #[(.ref p0), (.ref p1)] 5)) := ⟨_, rfl⟩
  rw [← hA₀] at s0
  obtain ⟨T1, X1, e1, st1⟩ := getF X0 hx hZ hown (host := "") (Or.inl (hw _ (List.mem_of_getElem? (i := 14) rfl))) Via.refl e0 F1_ (g := (mkF m 8 #[.val (.ref p0), .val (.ref p1), .val (.double (FP.l2d (0 : Int64))), .second, .val (.int (0 : Int32))] [(.ref p0), (.int (0 : Int32))])) rfl rfl (hb hby d8_8)
  obtain ⟨cla2, Ara2, qa2, Sa2, Za2, Ha2, Ga2⟩ := id F3_
  obtain ⟨T3, X3, e3, st3⟩ := getF X1 hx hZ hown (host := "") (Or.inl (hw _ (List.mem_of_getElem? (i := 16) rfl))) Via.refl e1 F2_ (g := (mkF m 17 #[.val (.ref p0), .val (.ref p1), .val (.double (FP.l2d (0 : Int64))), .second, .val (.int (0 : Int32))] [(.ref p0), (.double (FP.l2d (0 : Int64)))])) rfl rfl (hb hby d8_17)
  obtain ⟨cla4, Ara4, qa4, Sa4, Za4, Ha4, Ga4⟩ := id F4_
  have hin5 : ¬ ((0 : Int32) < 0 ∨ cla4.slots.size ≤ ((0 : Int32)).toNatClampNeg) := inb_of Sa4 ⟨by decide, by decide⟩
  have hat6 : cla4.slots[((0 : Int32)).toNatClampNeg]? = some (.double (FP.l2d (1 : Int64))) := Has.at Ha4 hin5 rfl
  obtain ⟨T7, X7, e7, st7⟩ := getF X3 hx hZ hown (host := "") (Or.inl (hw _ (List.mem_of_getElem? (i := 14) rfl))) Via.refl e3 F1_ (g := (mkF m 25 #[.val (.ref p0), .val (.ref p1), .val (.double (FP.l2d (0 : Int64))), .second, .val (.int (0 : Int32))] [(.ref p0), (.ref p1), (.double (FP.l2d (1 : Int64))), (.double (FP.l2d (0 : Int64)))])) rfl rfl (hb hby d8_25)
  have hin8 : ¬ ((0 : Int32) < 0 ∨ cla2.slots.size ≤ ((0 : Int32)).toNatClampNeg) := inb_of Sa2 ⟨by decide, by decide⟩
  have hat9 : cla2.slots[((0 : Int32)).toNatClampNeg]? = some (.int (3 : Int32)) := Has.at Ha2 hin8 rfl
  obtain ⟨cla10, Ara10, qa10, Sa10, Za10, Ha10, Ga10⟩ := id F5_
  have hin11 : ¬ ((3 : Int32) < 0 ∨ cla10.slots.size ≤ ((3 : Int32)).toNatClampNeg) := inb_of Sa10 ⟨by decide, by decide⟩
  have hat12 : cla10.slots[((3 : Int32)).toNatClampNeg]? = some (.double (FP.l2d y3)) := Has.at Ha10 hin11 rfl
  obtain ⟨T13, X13, e13, st13⟩ := getF X7 hx hZ hown (host := "") (Or.inl (hw _ (List.mem_of_getElem? (i := 14) rfl))) Via.refl e7 F1_ (g := (mkF m 8 #[.val (.ref p0), .val (.ref p1), .val (.double (FP.l2d y3)), .second, .val (.int (1 : Int32))] [(.ref p0), (.int (1 : Int32))])) rfl rfl (hb hby d8_8)
  have s14 : Steps p.tables e below A₀ (T13.setTop (mkF m 42 #[.val (.ref p0), .val (.ref p1), .val (.double (FP.l2d y3)), .second, .val (.int (1 : Int32))] [(.double (FP.l2d y3))])) := by
    refine s0.trans ?_
    refine XS.dconst0 X0.here hx rfl (hb hby d8_0) (v := (FP.l2d (0 : Int64))) own_dc0 ?_
    refine XS.dstoreN X0.here hx rfl (hb hby d8_1) rfl (l' := #[.val (.ref p0), .val (.ref p1), .val (.double (FP.l2d (0 : Int64))), .second, .unset]) rfl ?_
    refine XS.iconst X0.here hx rfl (hb hby d8_2) ?_
    refine XS.istore X0.here hx rfl (hb hby d8_3) rfl (l' := #[.val (.ref p0), .val (.ref p1), .val (.double (FP.l2d (0 : Int64))), .second, .val (.int (0 : Int32))]) rfl ?_
    refine XS.iload X0.here hx rfl (hb hby d8_5) rfl ?_
    refine XS.aloadN X0.here hx rfl (hb hby d8_7) rfl rfl ?_
    refine st1 _ ?_
    refine X1.arraylength hx (by rw [e1]; exact Ara2.1) (State.isArrayOf_alike hZ.alike Ara2.2.1) (g := (mkF m 11 #[.val (.ref p0), .val (.ref p1), .val (.double (FP.l2d (0 : Int64))), .second, .val (.int (0 : Int32))] [(.ref a), (.int (0 : Int32))])) rfl rfl (hb hby d8_11) _ ?_
    rw [len_of Sa2 Za2]
    show Steps p.tables e below (T1.setTop (mkF m 12 #[.val (.ref p0), .val (.ref p1), .val (.double (FP.l2d (0 : Int64))), .second, .val (.int (0 : Int32))] [(.int (1 : Int32)), (.int (0 : Int32))])) _
    refine XS.icmpNo X1.here hx rfl (hb hby d8_12) rfl (tlt (by decide)).2.1 ?_
    refine XS.dloadN X1.here hx rfl (hb hby d8_15) rfl ?_
    refine XS.aloadN X1.here hx rfl (hb hby d8_16) rfl rfl ?_
    refine st3 _ ?_
    refine XS.iload X3.here hx rfl (hb hby d8_20) rfl ?_
    refine X3.daload hx (j := (0 : Int32)) (v := (.double (FP.l2d (1 : Int64)))) (by rw [e3]; exact Ara4.1) (State.isArrayOf_alike hZ.alike Ara4.2.1) Ara4.2.2 hin5 hat6 (g := (mkF m 22 #[.val (.ref p0), .val (.ref p1), .val (.double (FP.l2d (0 : Int64))), .second, .val (.int (0 : Int32))] [(.int (0 : Int32)), (.ref b), (.double (FP.l2d (0 : Int64)))])) rfl rfl (hb hby d8_22) _ ?_
    refine XS.aloadN X3.here hx rfl (hb hby d8_23) rfl rfl ?_
    refine XS.aloadN X3.here hx rfl (hb hby d8_24) rfl rfl ?_
    refine st7 _ ?_
    refine XS.iload X7.here hx rfl (hb hby d8_28) rfl ?_
    show Steps p.tables e below (T7.setTop (mkF m 30 #[.val (.ref p0), .val (.ref p1), .val (.double (FP.l2d (0 : Int64))), .second, .val (.int (0 : Int32))] [(.int (0 : Int32)), (.ref a), (.ref p1), (.double (FP.l2d (1 : Int64))), (.double (FP.l2d (0 : Int64)))])) _
    refine X7.iaload hx (j := (0 : Int32)) (v := (.int (3 : Int32))) (by rw [e7]; exact Ara2.1) (State.isArrayOf_alike hZ.alike Ara2.2.1) Ara2.2.2 hin8 hat9 (g := (mkF m 30 #[.val (.ref p0), .val (.ref p1), .val (.double (FP.l2d (0 : Int64))), .second, .val (.int (0 : Int32))] [(.int (0 : Int32)), (.ref a), (.ref p1), (.double (FP.l2d (1 : Int64))), (.double (FP.l2d (0 : Int64)))])) rfl rfl (hb hby d8_30) _ ?_
    refine X7.daload hx (j := (3 : Int32)) (v := (.double (FP.l2d y3))) (by rw [e7]; exact Ara10.1) (State.isArrayOf_alike hZ.alike Ara10.2.1) Ara10.2.2 hin11 hat12 (g := (mkF m 31 #[.val (.ref p0), .val (.ref p1), .val (.double (FP.l2d (0 : Int64))), .second, .val (.int (0 : Int32))] [(.int (3 : Int32)), (.ref p1), (.double (FP.l2d (1 : Int64))), (.double (FP.l2d (0 : Int64)))])) rfl rfl (hb hby d8_31) _ ?_
    refine XS.dmulS X7.here hx rfl (hb hby d8_32) rfl (nn_w (own_mul1 y3 hy)) (own_mul1 y3 hy) ?_
    refine XS.daddS X7.here hx rfl (hb hby d8_33) rfl (nn_w (own_add0 y3 hy)) (own_add0 y3 hy) ?_
    refine XS.dstoreN X7.here hx rfl (hb hby d8_34) rfl (l' := #[.val (.ref p0), .val (.ref p1), .val (.double (FP.l2d y3)), .second, .val (.int (0 : Int32))]) rfl ?_
    refine XS.iinc X7.here hx rfl (hb hby d8_35) rfl (l' := #[.val (.ref p0), .val (.ref p1), .val (.double (FP.l2d y3)), .second, .val (.int (1 : Int32))]) rfl ?_
    refine XS.goto X7.here hx rfl (pc0 := 38) (pc' := 5) rfl (hb hby d8_38) (by decide) (by decide) ?_
    refine XS.iload X7.here hx rfl (hb hby d8_5) rfl ?_
    refine XS.aloadN X7.here hx rfl (hb hby d8_7) rfl rfl ?_
    refine st13 _ ?_
    show Steps p.tables e below (T13.setTop (mkF m 11 #[.val (.ref p0), .val (.ref p1), .val (.double (FP.l2d y3)), .second, .val (.int (1 : Int32))] [(.ref a), (.int (1 : Int32))])) _
    refine X13.arraylength hx (by rw [e13]; exact Ara2.1) (State.isArrayOf_alike hZ.alike Ara2.2.1) (g := (mkF m 11 #[.val (.ref p0), .val (.ref p1), .val (.double (FP.l2d y3)), .second, .val (.int (1 : Int32))] [(.ref a), (.int (1 : Int32))])) rfl rfl (hb hby d8_11) _ ?_
    rw [len_of Sa2 Za2]
    show Steps p.tables e below (T13.setTop (mkF m 12 #[.val (.ref p0), .val (.ref p1), .val (.double (FP.l2d y3)), .second, .val (.int (1 : Int32))] [(.int (1 : Int32)), (.int (1 : Int32))])) _
    refine XS.icmpYes X13.here hx rfl (pc0 := 12) (pc' := 41) rfl (hb hby d8_12) rfl (flt (by decide)).2.1 (by decide) (by decide) ?_
    refine XS.dloadN X13.here hx rfl (hb hby d8_41) rfl ?_
    exact Steps.refl _
  subst hA₀
  obtain ⟨fs, hr, hrun, hended, hW, hsame⟩ := X13.leave (v := some (.double (FP.l2d y3))) (fun h => by rw [Bd.returns] at h; cases h)
  refine ⟨_, _, s14.trans ?_, hrun, hended, _, _, rfl, ?_, ⟨_, rfl⟩, hW, hsame.mono (by decide) (by decide)⟩
  · show Steps p.tables e below (T13.setTop (mkF m 42 #[.val (.ref p0), .val (.ref p1), .val (.double (FP.l2d y3)), .second, .val (.int (1 : Int32))] [(.double (FP.l2d y3))])) _
    jvm_step X13.here [X13.here.top, hx, (hb hby d8_42), X13.method', Bd.returns, narrow]
    first | (intro acts; rw [hr _ acts rfl rfl rfl]) | rw [hr _ _ rfl rfl rfl]
    exact Steps.refl _
  · show Qex3 Z p0 p1 a b ka kb kv y0 y1 y2 y3 h0 n0 _ T13.heap _
    rw [e13]
    exact ⟨rfl, N0, rfl⟩
theorem pn_0 : plainName "com/example/odds_on_axioms/oddsonaxioms/aleatoric/DistributionCertainPinLaw" = true := by first | (simp [plainName, overriddenIn]; done) | decide +kernel
theorem pd_rm0_0 : parseMethodDescriptor "(I)Lcom/example/odds_on_axioms/oddsonaxioms/aleatoric/Distribution;" = some ⟨[.int], some (.object "com/example/odds_on_axioms/oddsonaxioms/aleatoric/Distribution")⟩ := by decide +kernel
theorem pd_rm0_1 : parseMethodDescriptor "()[I" = some ⟨[], some (.array .int)⟩ := by decide +kernel
theorem pd_rm0_2 : parseMethodDescriptor "(I)D" = some ⟨[.int], some .double⟩ := by decide +kernel
theorem pd_rm0_3 : parseMethodDescriptor "([D)D" = some ⟨[(.array .double)], some .double⟩ := by decide +kernel
theorem ef_rm0 (m : MethodId) (p0 : Int32) (p1 : Int32) (p2 : Int32) : entryFrame m #[(.int p0), (.int p1), (.int p2)] maxLocals = mkF m 0 #[.val (.int p0), .val (.int p1), .val (.int p2), .unset, .unset, .unset, .unset, .unset, .unset, .unset] [] := by first | (simp [entryFrame, mkF, argsToLocals, Value.category, maxLocals]; done) | rfl
def Q0 (Z : State) (p0 : Int32) (p1 : Int32) (p2 : Int32) (h0 : Heap) (n0 : Nat) (v : Option Value) (h : Heap) (L : List Loc) : Prop := v = some (.int (1 : Int32)) ∧ Fr n0 L
set_option maxRecDepth 65536 in
set_option maxHeartbeats 40000000 in
theorem rm0 (l : Launch) (Z : State) (a0 : Array Value) (hw : ∀ d ∈ tables_1, d.before a0 Z = true) (ws : List Jvm.Cond) (p0 : Int32) (p1 : Int32) (p2 : Int32) (h0 : Heap) (n0 : Nat) (O0 : Old Z n0 h0) :
    MetFree l x (head1 (Jvm.Cond.code x code maxLocals ret :: ws) room_1) (fun a U => a = #[(.int p0), (.int p1), (.int p2)] ∧ Z.Warmed39 U.vm ∧ U.heap = h0) (fun _ _ _ _ _ => True) (fun _ U o U' => ∃ v L, o = .returned v ∧ Q0 Z p0 p1 p2 h0 n0 v U'.heap L ∧ FrameEnd U o U' L room_1.cells room_1.slots) := by
  refine MetFree.of_bodySF (plainFor_of_name pn_0) hisR ?_
  intro p e s m args below meth c s₁ Bd hml0 hP hK
  obtain ⟨rfl, hZ, hh⟩ := hP
  have hx := Bd.exec
  have hby := Bd.bytes
  have hml : c.maxLocals = 10 := hml0
  have hown : s.vm.findClass "com/example/odds_on_axioms/oddsonaxioms/aleatoric/DistributionCertainPinLaw" = some m.cls := findClass_of_methodNamed Bd.named
  have X0 : Stand p l e room_1 s m #[(.int p0), (.int p1), (.int p2)] below meth c s₁ [] 0 0 := Stand.of_body Bd
  have e0 : s₁.heap = h0 := by rw [← hh, Bd.state]; rfl
  have N0 := Fr.nil n0
  have s0 : Steps p.tables e below (s₁.setTop (entryFrame m #[(.int p0), (.int p1), (.int p2)] maxLocals)) (s₁.setTop (mkF m 0 #[.val (.int p0), .val (.int p1), .val (.int p2), .unset, .unset, .unset, .unset, .unset, .unset, .unset] [])) := castTop (ef_rm0 m p0 p1 p2) (Steps.refl _)
  obtain ⟨A₀, hA₀⟩ : ∃ z, z = (s₁.setTop (entryFrame m #[(.int p0), (.int p1), (.int p2)] maxLocals)) := ⟨_, rfl⟩
  rw [← hA₀] at s0
  obtain ⟨_, _, ⟨T1, L1, k1, n1⟩, -, X1, ⟨Lc1, hQ1, l1, y1, z1⟩, st1⟩ := Jvm.LawKit.callS X0 hx (y := (⟨"com/example/odds_on_axioms/oddsonaxioms/aleatoric/Distribution", "certain", "(I)Lcom/example/odds_on_axioms/oddsonaxioms/aleatoric/Distribution;"⟩ : MethodName)) hown (mvT hZ (hw _ (List.mem_of_getElem? (i := 0) rfl))) (mvT hZ (hw _ (List.mem_of_getElem? (i := 1) rfl))) (mvT hZ (hw _ (List.mem_of_getElem? (i := 2) rfl))) (mvT hZ (hw _ (List.mem_of_getElem? (i := 3) rfl))) (by decide) (backOf (W := 0) (rm1 l Z a0 hw [] p0 h0 n0 O0 ) hZ (hw _ (List.mem_of_getElem? (i := 3) rfl)) (hw _ (List.mem_of_getElem? (i := 2) rfl)) (by decide) (by decide)) (g := (mkF m 1 #[.val (.int p0), .val (.int p1), .val (.int p2), .unset, .unset, .unset, .unset, .unset, .unset, .unset] [(.int p0)])) rfl (by rw [hml]; rfl) (argsL := [(.int p0)]) (rest := []) (lenOf pd_rm0_0 rfl) rfl (by show 2 * 0 + _ ≤ _; exact Nat.le_of_eq rfl) (hb hby at_1) (fun _ _ => ⟨rfl, e0, (by decide : 0 + 3 ≤ _), (by decide : 0 + 4 ≤ _)⟩)
  dsimp only [Pt.U, Pt.locs, Pt.cells, Pt.slots] at X1 l1 y1 z1 st1 hQ1
  subst l1 y1 z1
  obtain ⟨u2, u3, u4, u5, u6, rfl, Nq1, Kc1, f1_0, f1_1, f1_2, f1_3, f1_4, f1_5, f1_6, f1_7, f1_8⟩ := hQ1
  have N1 := Fr.app N0 Nq1
  have g_u2 : n0 ≤ u2 := Nat.le_trans (Nat.le_of_eq O0.1.symm) (Nat.le_trans O0.2.1 f1_6)
  have g_u3 : n0 ≤ u3 := Nat.le_trans (Nat.le_of_eq O0.1.symm) (Nat.le_trans O0.2.1 f1_7)
  have g_u4 : n0 ≤ u4 := Nat.le_trans (Nat.le_of_eq O0.1.symm) (Nat.le_trans O0.2.1 f1_8)
  have O1 := O0.keep Kc1 all0
  obtain ⟨cq7, kq7, q7a, q7b, q7c⟩ := isOf hZ (rfl : T1.heap = T1.heap) f1_0
  obtain ⟨_, _, ⟨T7, L7, k7, n7⟩, -, X7, ⟨Lc7, hQ7, l7, y7, z7⟩, st7⟩ := X1.virtualBack hx (y := (⟨"com/example/odds_on_axioms/oddsonaxioms/aleatoric/Distribution", "support", "()[I"⟩ : MethodName)) (z := (⟨"com/example/odds_on_axioms/oddsonaxioms/aleatoric/Distribution", "support", "()[I"⟩ : MethodName)) hown (mvT hZ (hw _ (List.mem_of_getElem? (i := 18) rfl))) (mvT hZ (hw _ (List.mem_of_getElem? (i := 19) rfl))) (notFace_of_selects (args := #[]) (mvT hZ (hw _ (List.mem_of_getElem? (i := 21) rfl)))) (mvT hZ (hw _ (List.mem_of_getElem? (i := 21) rfl))) (mvT hZ (hw _ (List.mem_of_getElem? (i := 20) rfl))) (by decide) (backOf (W := 0) (rm4 l Z a0 hw [] u2 u3 u5 p0 T1.heap n0 O1 f1_1 f1_3 f1_4) hZ (hw _ (List.mem_of_getElem? (i := 22) rfl)) (hw _ (List.mem_of_getElem? (i := 2) rfl)) (by decide) (by decide)) q7a q7c (g := (mkF m 6 #[.val (.int p0), .val (.int p1), .val (.int p2), .val (.ref u2), .unset, .unset, .unset, .unset, .unset, .unset] [(.ref u2)])) rfl (by rw [hml]; rfl) (Steps.refl _) (argsL := []) (rest := []) (lenOf pd_rm0_1 rfl) rfl (by show 2 * 0 + _ ≤ _; exact Nat.le_of_eq rfl) (hb hby at_6) (fun _ _ => ⟨rfl, (rfl : T1.heap = T1.heap), (by decide : 3 + 1 ≤ _), (by decide : 4 + 1 ≤ _)⟩)
  dsimp only [Pt.U, Pt.locs, Pt.cells, Pt.slots] at X7 l7 y7 z7 st7 hQ7
  subst l7 y7 z7
  obtain ⟨u8, u9, rfl, Nq7, Kc7, f7_0, f7_1⟩ := hQ7
  have N7 := Fr.app N1 Nq7
  have ne_u2_u8 : u2 ≠ u8 := Nat.ne_of_lt (Nat.lt_of_lt_of_le f1_0.lt f7_1)
  have ne_u3_u8 : u3 ≠ u8 := Nat.ne_of_lt (Nat.lt_of_lt_of_le f1_3.lt f7_1)
  have ne_u4_u8 : u4 ≠ u8 := Nat.ne_of_lt (Nat.lt_of_lt_of_le f1_5.lt f7_1)
  have g_u8 : n0 ≤ u8 := Nat.le_trans (Nat.le_of_eq O1.1.symm) (Nat.le_trans O1.2.1 f7_1)
  have O7 := O1.keep Kc7 all0
  obtain ⟨cla10, Ara10, qa10, Sa10, Za10, Ha10, Ga10⟩ := id f7_0
  have hin11 : ¬ ((0 : Int32) < 0 ∨ cla10.slots.size ≤ ((0 : Int32)).toNatClampNeg) := inb_of Sa10 ⟨by decide, by decide⟩
  have hat12 : cla10.slots[((0 : Int32)).toNatClampNeg]? = some (.int p0) := Has.at Ha10 hin11 rfl
  have c13 : Exa Z T7.heap u2 "com/example/odds_on_axioms/oddsonaxioms/aleatoric/Distribution" := (f1_0.keep Kc7)
  have c14 : Fld Z T7.heap u2 "com/example/odds_on_axioms/oddsonaxioms/aleatoric/Distribution" "individuals" "[I" (.ref u3) := (f1_1.keep Kc7 nin0)
  have c15 : Fld Z T7.heap u2 "com/example/odds_on_axioms/oddsonaxioms/aleatoric/Distribution" "probabilities" "[D" (.ref u4) := (f1_2.keep Kc7 nin0)
  have c16 : Arv Z T7.heap u3 u5 .int (1 : Int32) [(.int p0)] (.int (0 : Int32)) := (f1_3.keep Kc7 nin0)
  have c17 : Arv Z T7.heap u4 u6 .double (1 : Int32) [(.double (FP.l2d (1 : Int64)))] (.double (FP.l2d (0 : Int64))) := (f1_5.keep Kc7 nin0)
  obtain ⟨T18, L18, X18, e18, N18, st18⟩ := own_callVP X7 hx hZ hown (wk32 hw) (wk33 hw) (wk35 hw) (wk34 hw) (by decide) (wk2 hw) (wk36 hw) (rmpr1 l Z a0 hw [] u2 p0 u3 u4 u6 u5 T7.heap n0 O7 c13 c14 c15 c16 c17) (rfl : T7.heap = T7.heap) N7 (W := 0) (by decide) (by decide) (by decide) (by decide) c13 (g := (mkF m 40 #[.val (.int p0), .val (.int p1), .val (.int p2), .val (.ref u2), .val (.ref u8), .val (.int (1 : Int32)), .unset, .unset, .unset, .unset] [(.int p0), (.ref u2)])) rfl (by rw [hml]; rfl) (argsL := [(.int p0)]) (rest := []) (lenOf pd_rm0_2 rfl) rfl (by show 2 * 0 + _ ≤ _; exact Nat.le_of_eq rfl) (hb hby at_40)
  obtain ⟨T19, L19, X19, e19, N19, st19⟩ := own_callVP X18 hx hZ hown (wk32 hw) (wk33 hw) (wk35 hw) (wk34 hw) (by decide) (wk2 hw) (wk36 hw) (rmpr0 l Z a0 hw [] u2 (p0 + (1 : Int32)) u3 u4 u6 u5 p0 T7.heap n0 O7 c13 c14 c15 c16 c17 (own_ne1 p0)) e18 N18 (W := 0) (by decide) (by decide) (by decide) (by decide) c13 (g := (mkF m 64 #[.val (.int p0), .val (.int p1), .val (.int p2), .val (.ref u2), .val (.ref u8), .val (.int (1 : Int32)), .unset, .unset, .unset, .unset] [(.int (p0 + (1 : Int32))), (.ref u2)])) rfl (by rw [hml]; rfl) (argsL := [(.int (p0 + (1 : Int32)))]) (rest := []) (lenOf pd_rm0_2 rfl) rfl (by show 2 * 0 + _ ≤ _; exact Nat.le_of_eq rfl) (hb hby at_64)
  obtain ⟨T20, L20, X20, e20, N20, st20⟩ := own_callVP X19 hx hZ hown (wk32 hw) (wk33 hw) (wk35 hw) (wk34 hw) (by decide) (wk2 hw) (wk36 hw) (rmpr0 l Z a0 hw [] u2 (p0 - (1 : Int32)) u3 u4 u6 u5 p0 T7.heap n0 O7 c13 c14 c15 c16 c17 (own_ne2 p0)) e19 N19 (W := 0) (by decide) (by decide) (by decide) (by decide) c13 (g := (mkF m 88 #[.val (.int p0), .val (.int p1), .val (.int p2), .val (.ref u2), .val (.ref u8), .val (.int (1 : Int32)), .unset, .unset, .unset, .unset] [(.int (p0 - (1 : Int32))), (.ref u2)])) rfl (by rw [hml]; rfl) (argsL := [(.int (p0 - (1 : Int32)))]) (rest := []) (lenOf pd_rm0_2 rfl) rfl (by show 2 * 0 + _ ≤ _; exact Nat.le_of_eq rfl) (hb hby at_88)
  have s21 : Steps p.tables e below A₀ (T20.setTop (mkF m 105 #[.val (.int p0), .val (.int p1), .val (.int p2), .val (.ref u2), .val (.ref u8), .val (.int (1 : Int32)), .unset, .unset, .unset, .unset] [(.int p0), (.int p1)])) := by
    refine s0.trans ?_
    refine XS.iloadN X0.here hx rfl (hb hby at_0) rfl ?_
    refine st1 _ ?_
    refine XS.astoreN X1.here hx rfl (hb hby at_4) rfl rfl (l' := #[.val (.int p0), .val (.int p1), .val (.int p2), .val (.ref u2), .unset, .unset, .unset, .unset, .unset, .unset]) rfl ?_
    refine XS.aloadN X1.here hx rfl (hb hby at_5) rfl rfl ?_
    refine st7.trans ?_
    refine XS.astore X7.here hx rfl (hb hby at_9) rfl rfl (l' := #[.val (.int p0), .val (.int p1), .val (.int p2), .val (.ref u2), .val (.ref u8), .unset, .unset, .unset, .unset, .unset]) rfl ?_
    refine XS.aload X7.here hx rfl (hb hby at_11) rfl rfl ?_
    refine X7.arraylength hx (by rw [(rfl : T7.heap = T7.heap)]; exact Ara10.1) (State.isArrayOf_alike hZ.alike Ara10.2.1) (g := (mkF m 13 #[.val (.int p0), .val (.int p1), .val (.int p2), .val (.ref u2), .val (.ref u8), .unset, .unset, .unset, .unset, .unset] [(.ref u8)])) rfl rfl (hb hby at_13) _ ?_
    rw [len_of Sa10 Za10]
    show Steps p.tables e below (T7.setTop (mkF m 14 #[.val (.int p0), .val (.int p1), .val (.int p2), .val (.ref u2), .val (.ref u8), .unset, .unset, .unset, .unset, .unset] [(.int (1 : Int32))])) _
    refine XS.iconst X7.here hx rfl (hb hby at_14) ?_
    refine XS.icmpNo X7.here hx rfl (hb hby at_15) rfl (teq (by decide)).2 ?_
    refine XS.aload X7.here hx rfl (hb hby at_18) rfl rfl ?_
    refine XS.iconst X7.here hx rfl (hb hby at_20) ?_
    refine X7.iaload hx (j := (0 : Int32)) (v := (.int p0)) (by rw [(rfl : T7.heap = T7.heap)]; exact Ara10.1) (State.isArrayOf_alike hZ.alike Ara10.2.1) Ara10.2.2 hin11 hat12 (g := (mkF m 21 #[.val (.int p0), .val (.int p1), .val (.int p2), .val (.ref u2), .val (.ref u8), .unset, .unset, .unset, .unset, .unset] [(.int (0 : Int32)), (.ref u8)])) rfl rfl (hb hby at_21) _ ?_
    refine XS.iloadN X7.here hx rfl (hb hby at_22) rfl ?_
    refine XS.icmpNo X7.here hx rfl (hb hby at_23) rfl (teq rfl).2 ?_
    refine XS.iconst X7.here hx rfl (hb hby at_26) ?_
    refine XS.goto X7.here hx rfl (pc0 := 27) (pc' := 31) rfl (hb hby at_27) (by decide) (by decide) ?_
    refine XS.istore X7.here hx rfl (hb hby at_31) rfl (l' := #[.val (.int p0), .val (.int p1), .val (.int p2), .val (.ref u2), .val (.ref u8), .val (.int (1 : Int32)), .unset, .unset, .unset, .unset]) rfl ?_
    show Steps p.tables e below (T7.setTop (mkF m 33 #[.val (.int p0), .val (.int p1), .val (.int p2), .val (.ref u2), .val (.ref u8), .val (.int (1 : Int32)), .unset, .unset, .unset, .unset] [])) _
    refine XS.iload X7.here hx rfl (hb hby at_33) rfl ?_
    refine XS.ifNo X7.here hx rfl (hb hby at_35) rfl ((if0 _ _).trans (feq (by decide)).1) ?_
    refine XS.aloadN X7.here hx rfl (hb hby at_38) rfl rfl ?_
    refine XS.iloadN X7.here hx rfl (hb hby at_39) rfl ?_
    refine st18 _ ?_
    refine XS.dconst1 X18.here hx rfl (hb hby at_43) (v := (FP.l2d (1 : Int64))) own_dc1 ?_
    refine XS.dcmpS X18.here hx rfl (hb hby at_44) rfl (dcmpV_self (nn_w rfl) _) ?_
    refine XS.ifNo X18.here hx rfl (hb hby at_45) rfl ((if0 _ _).trans (teq (by decide)).2) ?_
    refine XS.iconst X18.here hx rfl (hb hby at_48) ?_
    refine XS.goto X18.here hx rfl (pc0 := 49) (pc' := 53) rfl (hb hby at_49) (by decide) (by decide) ?_
    show Steps p.tables e below (T18.setTop (mkF m 53 #[.val (.int p0), .val (.int p1), .val (.int p2), .val (.ref u2), .val (.ref u8), .val (.int (1 : Int32)), .unset, .unset, .unset, .unset] [(.int (1 : Int32))])) _
    refine XS.istore X18.here hx rfl (hb hby at_53) rfl (l' := #[.val (.int p0), .val (.int p1), .val (.int p2), .val (.ref u2), .val (.ref u8), .val (.int (1 : Int32)), .unset, .unset, .unset, .unset]) rfl ?_
    refine XS.iload X18.here hx rfl (hb hby at_55) rfl ?_
    refine XS.ifNo X18.here hx rfl (hb hby at_57) rfl ((if0 _ _).trans (feq (by decide)).1) ?_
    refine XS.aloadN X18.here hx rfl (hb hby at_60) rfl rfl ?_
    refine XS.iloadN X18.here hx rfl (hb hby at_61) rfl ?_
    refine XS.iconst X18.here hx rfl (hb hby at_62) ?_
    refine XS.iadd X18.here hx rfl (hb hby at_63) rfl ?_
    refine st19 _ ?_
    refine XS.dconst0 X19.here hx rfl (hb hby at_67) (v := (FP.l2d (0 : Int64))) own_dc0 ?_
    refine XS.dcmpS X19.here hx rfl (hb hby at_68) rfl (dcmpV_self (nn_w rfl) _) ?_
    show Steps p.tables e below (T19.setTop (mkF m 69 #[.val (.int p0), .val (.int p1), .val (.int p2), .val (.ref u2), .val (.ref u8), .val (.int (1 : Int32)), .unset, .unset, .unset, .unset] [(.int (0 : Int32))])) _
    refine XS.ifNo X19.here hx rfl (hb hby at_69) rfl ((if0 _ _).trans (teq (by decide)).2) ?_
    refine XS.iconst X19.here hx rfl (hb hby at_72) ?_
    refine XS.goto X19.here hx rfl (pc0 := 73) (pc' := 77) rfl (hb hby at_73) (by decide) (by decide) ?_
    refine XS.istore X19.here hx rfl (hb hby at_77) rfl (l' := #[.val (.int p0), .val (.int p1), .val (.int p2), .val (.ref u2), .val (.ref u8), .val (.int (1 : Int32)), .unset, .unset, .unset, .unset]) rfl ?_
    refine XS.iload X19.here hx rfl (hb hby at_79) rfl ?_
    refine XS.ifNo X19.here hx rfl (hb hby at_81) rfl ((if0 _ _).trans (feq (by decide)).1) ?_
    refine XS.aloadN X19.here hx rfl (hb hby at_84) rfl rfl ?_
    refine XS.iloadN X19.here hx rfl (hb hby at_85) rfl ?_
    refine XS.iconst X19.here hx rfl (hb hby at_86) ?_
    refine XS.isub X19.here hx rfl (hb hby at_87) rfl ?_
    show Steps p.tables e below (T19.setTop (mkF m 88 #[.val (.int p0), .val (.int p1), .val (.int p2), .val (.ref u2), .val (.ref u8), .val (.int (1 : Int32)), .unset, .unset, .unset, .unset] [(.int (p0 - (1 : Int32))), (.ref u2)])) _
    refine st20 _ ?_
    refine XS.dconst0 X20.here hx rfl (hb hby at_91) (v := (FP.l2d (0 : Int64))) own_dc0 ?_
    refine XS.dcmpS X20.here hx rfl (hb hby at_92) rfl (dcmpV_self (nn_w rfl) _) ?_
    refine XS.ifNo X20.here hx rfl (hb hby at_93) rfl ((if0 _ _).trans (teq (by decide)).2) ?_
    refine XS.iconst X20.here hx rfl (hb hby at_96) ?_
    refine XS.goto X20.here hx rfl (pc0 := 97) (pc' := 101) rfl (hb hby at_97) (by decide) (by decide) ?_
    refine XS.istore X20.here hx rfl (hb hby at_101) rfl (l' := #[.val (.int p0), .val (.int p1), .val (.int p2), .val (.ref u2), .val (.ref u8), .val (.int (1 : Int32)), .unset, .unset, .unset, .unset]) rfl ?_
    refine XS.iloadN X20.here hx rfl (hb hby at_103) rfl ?_
    refine XS.iloadN X20.here hx rfl (hb hby at_104) rfl ?_
    exact Steps.refl _
  by_cases hc22 : p1 = p0
  · have s23 : Steps p.tables e below A₀ (T20.setTop (mkF m 133 #[.val (.int p0), .val (.int p1), .val (.int p2), .val (.ref u2), .val (.ref u8), .val (.int (1 : Int32)), .unset, .unset, .unset, .unset] [(.int (p0 &&& (3 : Int32)))])) := by
      refine s21.trans ?_
      refine XS.icmpYes X20.here hx rfl (pc0 := 105) (pc' := 130) rfl (hb hby at_105) rfl (teq hc22).1 (by decide) (by decide) ?_
      refine XS.iloadN X20.here hx rfl (hb hby at_130) rfl ?_
      refine XS.iconst X20.here hx rfl (hb hby at_131) ?_
      refine XS.iand X20.here hx rfl (hb hby at_132) rfl ?_
      exact Steps.refl _
    rcases own_and3 p0 with hk24 | hk24 | hk24 | hk24
    · have s25 := s23
      rw [hk24] at s25
      obtain ⟨T26, h26, k26, X26, e26, E26, A26, st26⟩ := newP X20 hx hZ (hw _ (List.mem_of_getElem? (i := 7) rfl)) e20 (g := (mkF m 142 #[.val (.int p0), .val (.int p1), .val (.int p2), .val (.ref u2), .val (.ref u8), .val (.int (1 : Int32)), .val (.int (0 : Int32)), .val (.int (p2 &&& (65535 : Int32))), .unset, .unset] [(.int (4 : Int32))])) rfl (hb hby at_142) rfl (by decide) (cap := 4) (by decide) (by decide) (by decide) (by decide)
      obtain ⟨b26, g26⟩ : ∃ z, z = T7.heap.size := ⟨_, rfl⟩
      rw [← g26] at A26 st26
      have ne_u2_b26 : u2 ≠ b26 := Nat.ne_of_lt (Nat.lt_of_lt_of_le c13.lt (Nat.le_of_eq g26.symm))
      have ne_u3_b26 : u3 ≠ b26 := Nat.ne_of_lt (Nat.lt_of_lt_of_le c16.lt (Nat.le_of_eq g26.symm))
      have ne_u4_b26 : u4 ≠ b26 := Nat.ne_of_lt (Nat.lt_of_lt_of_le c17.lt (Nat.le_of_eq g26.symm))
      have ne_u8_b26 : u8 ≠ b26 := Nat.ne_of_lt (Nat.lt_of_lt_of_le f7_0.lt (Nat.le_of_eq g26.symm))
      have g_b26 : n0 ≤ b26 := Nat.le_trans (Nat.le_of_eq O7.1.symm) (Nat.le_trans O7.2.1 (Nat.le_of_eq g26.symm))
      have O26 := O7.ext E26
      have V26 : Arv Z h26 b26 k26 .double (4 : Int32) [(.double (FP.l2d (0 : Int64))), (.double (FP.l2d (0 : Int64))), (.double (FP.l2d (0 : Int64))), (.double (FP.l2d (0 : Int64)))] (.double (FP.l2d (0 : Int64))) := (Arv.newD A26 (by decide)).pad (pad_rep [] (.double (FP.l2d (0 : Int64))) 4)
      obtain ⟨cla27, Ara27, qa27, Sa27, Za27, Ha27, Ga27⟩ := id V26
      have hin28 : ¬ ((0 : Int32) < 0 ∨ cla27.slots.size ≤ ((0 : Int32)).toNatClampNeg) := inb_of Sa27 ⟨by decide, by decide⟩
      obtain ⟨T29, h29, X29, e29, W29, st29⟩ := stD X26 hx hZ e26 Ara27 (j := (0 : Int32)) hin28 (g := (mkF m 149 #[.val (.int p0), .val (.int p1), .val (.int p2), .val (.ref u2), .val (.ref u8), .val (.int (1 : Int32)), .val (.int (0 : Int32)), .val (.int (p2 &&& (65535 : Int32))), .unset, .unset] [(.double (FP.l2d ((p2 &&& (65535 : Int32)).toInt64))), (.int (0 : Int32)), (.ref b26), (.ref b26)])) rfl rfl (hb hby at_149)
      have O29 := O26.wr W29 g_b26
      have N29 := Fr.snoc X29 N20 g_b26
      have V29 : Arv Z h29 b26 k26 .double (4 : Int32) [(.double (FP.l2d ((p2 &&& (65535 : Int32)).toInt64))), (.double (FP.l2d (0 : Int64))), (.double (FP.l2d (0 : Int64))), (.double (FP.l2d (0 : Int64)))] (.double (FP.l2d (0 : Int64))) := Arv.set Ara27 qa27 Sa27 Za27 Ha27 Ga27 rfl W29 0 rfl (Nat.le_of_ble_eq_true rfl)
      obtain ⟨cla30, Ara30, qa30, Sa30, Za30, Ha30, Ga30⟩ := id V29
      have hin31 : ¬ ((1 : Int32) < 0 ∨ cla30.slots.size ≤ ((1 : Int32)).toNatClampNeg) := inb_of Sa30 ⟨by decide, by decide⟩
      obtain ⟨T32, h32, X32, e32, W32, st32⟩ := stD X29 hx hZ e29 Ara30 (j := (1 : Int32)) hin31 (g := (mkF m 157 #[.val (.int p0), .val (.int p1), .val (.int p2), .val (.ref u2), .val (.ref u8), .val (.int (1 : Int32)), .val (.int (0 : Int32)), .val (.int (p2 &&& (65535 : Int32))), .unset, .unset] [(.double (FP.l2d (((p2 &&& (65535 : Int32)) + (1 : Int32)).toInt64))), (.int (1 : Int32)), (.ref b26), (.ref b26)])) rfl rfl (hb hby at_157)
      have O32 := O29.wr W32 g_b26
      have N32 := Fr.snoc X32 N29 g_b26
      have V32 : Arv Z h32 b26 k26 .double (4 : Int32) [(.double (FP.l2d ((p2 &&& (65535 : Int32)).toInt64))), (.double (FP.l2d (((p2 &&& (65535 : Int32)) + (1 : Int32)).toInt64))), (.double (FP.l2d (0 : Int64))), (.double (FP.l2d (0 : Int64)))] (.double (FP.l2d (0 : Int64))) := Arv.set Ara30 qa30 Sa30 Za30 Ha30 Ga30 rfl W32 1 rfl (Nat.le_of_ble_eq_true rfl)
      obtain ⟨cla33, Ara33, qa33, Sa33, Za33, Ha33, Ga33⟩ := id V32
      have hin34 : ¬ ((2 : Int32) < 0 ∨ cla33.slots.size ≤ ((2 : Int32)).toNatClampNeg) := inb_of Sa33 ⟨by decide, by decide⟩
      obtain ⟨T35, h35, X35, e35, W35, st35⟩ := stD X32 hx hZ e32 Ara33 (j := (2 : Int32)) hin34 (g := (mkF m 165 #[.val (.int p0), .val (.int p1), .val (.int p2), .val (.ref u2), .val (.ref u8), .val (.int (1 : Int32)), .val (.int (0 : Int32)), .val (.int (p2 &&& (65535 : Int32))), .unset, .unset] [(.double (FP.l2d (((p2 &&& (65535 : Int32)) + (2 : Int32)).toInt64))), (.int (2 : Int32)), (.ref b26), (.ref b26)])) rfl rfl (hb hby at_165)
      have O35 := O32.wr W35 g_b26
      have N35 := Fr.snoc X35 N32 g_b26
      have V35 : Arv Z h35 b26 k26 .double (4 : Int32) [(.double (FP.l2d ((p2 &&& (65535 : Int32)).toInt64))), (.double (FP.l2d (((p2 &&& (65535 : Int32)) + (1 : Int32)).toInt64))), (.double (FP.l2d (((p2 &&& (65535 : Int32)) + (2 : Int32)).toInt64))), (.double (FP.l2d (0 : Int64)))] (.double (FP.l2d (0 : Int64))) := Arv.set Ara33 qa33 Sa33 Za33 Ha33 Ga33 rfl W35 2 rfl (Nat.le_of_ble_eq_true rfl)
      obtain ⟨cla36, Ara36, qa36, Sa36, Za36, Ha36, Ga36⟩ := id V35
      have hin37 : ¬ ((3 : Int32) < 0 ∨ cla36.slots.size ≤ ((3 : Int32)).toNatClampNeg) := inb_of Sa36 ⟨by decide, by decide⟩
      obtain ⟨T38, h38, X38, e38, W38, st38⟩ := stD X35 hx hZ e35 Ara36 (j := (3 : Int32)) hin37 (g := (mkF m 173 #[.val (.int p0), .val (.int p1), .val (.int p2), .val (.ref u2), .val (.ref u8), .val (.int (1 : Int32)), .val (.int (0 : Int32)), .val (.int (p2 &&& (65535 : Int32))), .unset, .unset] [(.double (FP.l2d (((p2 &&& (65535 : Int32)) + (3 : Int32)).toInt64))), (.int (3 : Int32)), (.ref b26), (.ref b26)])) rfl rfl (hb hby at_173)
      have O38 := O35.wr W38 g_b26
      have N38 := Fr.snoc X38 N35 g_b26
      have V38 : Arv Z h38 b26 k26 .double (4 : Int32) [(.double (FP.l2d ((p2 &&& (65535 : Int32)).toInt64))), (.double (FP.l2d (((p2 &&& (65535 : Int32)) + (1 : Int32)).toInt64))), (.double (FP.l2d (((p2 &&& (65535 : Int32)) + (2 : Int32)).toInt64))), (.double (FP.l2d (((p2 &&& (65535 : Int32)) + (3 : Int32)).toInt64)))] (.double (FP.l2d (0 : Int64))) := Arv.set Ara36 qa36 Sa36 Za36 Ha36 Ga36 rfl W38 3 rfl (Nat.le_of_ble_eq_true rfl)
      obtain ⟨_, _, ⟨T39, L39, k39, n39⟩, -, X39, ⟨Lc39, hQ39, l39, y39, z39⟩, st39⟩ := Jvm.LawKit.callS X38 hx (y := (⟨"com/example/odds_on_axioms/oddsonaxioms/aleatoric/Distribution", "certain", "(I)Lcom/example/odds_on_axioms/oddsonaxioms/aleatoric/Distribution;"⟩ : MethodName)) hown (mvT hZ (hw _ (List.mem_of_getElem? (i := 0) rfl))) (mvT hZ (hw _ (List.mem_of_getElem? (i := 1) rfl))) (mvT hZ (hw _ (List.mem_of_getElem? (i := 2) rfl))) (mvT hZ (hw _ (List.mem_of_getElem? (i := 3) rfl))) (by decide) (backOf (W := 0) (rm1 l Z a0 hw [] (0 : Int32) h38 n0 O38 ) hZ (hw _ (List.mem_of_getElem? (i := 3) rfl)) (hw _ (List.mem_of_getElem? (i := 2) rfl)) (by decide) (by decide)) (g := (mkF m 178 #[.val (.int p0), .val (.int p1), .val (.int p2), .val (.ref u2), .val (.ref u8), .val (.int (1 : Int32)), .val (.int (0 : Int32)), .val (.int (p2 &&& (65535 : Int32))), .val (.ref b26), .unset] [(.int (0 : Int32))])) rfl (by rw [hml]; rfl) (argsL := [(.int (0 : Int32))]) (rest := []) (lenOf pd_rm0_0 rfl) rfl (by show 2 * 0 + _ ≤ _; exact Nat.le_of_eq rfl) (hb hby at_178) (fun _ _ => ⟨rfl, e38, (by decide : 5 + 3 ≤ _), (by decide : 9 + 4 ≤ _)⟩)
      dsimp only [Pt.U, Pt.locs, Pt.cells, Pt.slots] at X39 l39 y39 z39 st39 hQ39
      subst l39 y39 z39
      obtain ⟨u40, u41, u42, u43, u44, rfl, Nq39, Kc39, f39_0, f39_1, f39_2, f39_3, f39_4, f39_5, f39_6, f39_7, f39_8⟩ := hQ39
      have N39 := Fr.app N38 Nq39
      have c45 : Exa Z h38 u2 "com/example/odds_on_axioms/oddsonaxioms/aleatoric/Distribution" := (((((c13.ext E26).wr W29).wr W32).wr W35).wr W38)
      have ne_u2_u40 : u2 ≠ u40 := Nat.ne_of_lt (Nat.lt_of_lt_of_le c45.lt f39_6)
      have c46 : Arv Z h38 u3 u5 .int (1 : Int32) [(.int p0)] (.int (0 : Int32)) := (((((c16.ext E26).other W29 ne_u3_b26).other W32 ne_u3_b26).other W35 ne_u3_b26).other W38 ne_u3_b26)
      have ne_u3_u40 : u3 ≠ u40 := Nat.ne_of_lt (Nat.lt_of_lt_of_le c46.lt f39_6)
      have c47 : Arv Z h38 u4 u6 .double (1 : Int32) [(.double (FP.l2d (1 : Int64)))] (.double (FP.l2d (0 : Int64))) := (((((c17.ext E26).other W29 ne_u4_b26).other W32 ne_u4_b26).other W35 ne_u4_b26).other W38 ne_u4_b26)
      have ne_u4_u40 : u4 ≠ u40 := Nat.ne_of_lt (Nat.lt_of_lt_of_le c47.lt f39_6)
      have c48 : Arv Z h38 u8 u9 .int (1 : Int32) [(.int p0)] (.int (0 : Int32)) := (((((f7_0.ext E26).other W29 ne_u8_b26).other W32 ne_u8_b26).other W35 ne_u8_b26).other W38 ne_u8_b26)
      have ne_u8_u40 : u8 ≠ u40 := Nat.ne_of_lt (Nat.lt_of_lt_of_le c48.lt f39_6)
      have ne_b26_u40 : b26 ≠ u40 := Nat.ne_of_lt (Nat.lt_of_lt_of_le V38.lt f39_6)
      have ne_u2_u41 : u2 ≠ u41 := Nat.ne_of_lt (Nat.lt_of_lt_of_le c45.lt f39_7)
      have ne_u3_u41 : u3 ≠ u41 := Nat.ne_of_lt (Nat.lt_of_lt_of_le c46.lt f39_7)
      have ne_u4_u41 : u4 ≠ u41 := Nat.ne_of_lt (Nat.lt_of_lt_of_le c47.lt f39_7)
      have ne_u8_u41 : u8 ≠ u41 := Nat.ne_of_lt (Nat.lt_of_lt_of_le c48.lt f39_7)
      have ne_b26_u41 : b26 ≠ u41 := Nat.ne_of_lt (Nat.lt_of_lt_of_le V38.lt f39_7)
      have ne_u2_u42 : u2 ≠ u42 := Nat.ne_of_lt (Nat.lt_of_lt_of_le c45.lt f39_8)
      have ne_u3_u42 : u3 ≠ u42 := Nat.ne_of_lt (Nat.lt_of_lt_of_le c46.lt f39_8)
      have ne_u4_u42 : u4 ≠ u42 := Nat.ne_of_lt (Nat.lt_of_lt_of_le c47.lt f39_8)
      have ne_u8_u42 : u8 ≠ u42 := Nat.ne_of_lt (Nat.lt_of_lt_of_le c48.lt f39_8)
      have ne_b26_u42 : b26 ≠ u42 := Nat.ne_of_lt (Nat.lt_of_lt_of_le V38.lt f39_8)
      have g_u40 : n0 ≤ u40 := Nat.le_trans (Nat.le_of_eq O38.1.symm) (Nat.le_trans O38.2.1 f39_6)
      have g_u41 : n0 ≤ u41 := Nat.le_trans (Nat.le_of_eq O38.1.symm) (Nat.le_trans O38.2.1 f39_7)
      have g_u42 : n0 ≤ u42 := Nat.le_trans (Nat.le_of_eq O38.1.symm) (Nat.le_trans O38.2.1 f39_8)
      have O39 := O38.keep Kc39 all0
      have c49 : Arv Z T39.heap b26 k26 .double (4 : Int32) [(.double (FP.l2d ((p2 &&& (65535 : Int32)).toInt64))), (.double (FP.l2d (((p2 &&& (65535 : Int32)) + (1 : Int32)).toInt64))), (.double (FP.l2d (((p2 &&& (65535 : Int32)) + (2 : Int32)).toInt64))), (.double (FP.l2d (((p2 &&& (65535 : Int32)) + (3 : Int32)).toInt64)))] (.double (FP.l2d (0 : Int64))) := (V38.keep Kc39 nin0)
      obtain ⟨T50, L50, X50, e50, N50, st50⟩ := own_callVP X39 hx hZ hown (wk45 hw) (wk46 hw) (wk48 hw) (wk47 hw) (by decide) (wk2 hw) (wk49 hw) (rmex0 l Z a0 hw [] u40 b26 u41 u42 u43 u44 k26 ((p2 &&& (65535 : Int32)).toInt64) (((p2 &&& (65535 : Int32)) + (1 : Int32)).toInt64) (((p2 &&& (65535 : Int32)) + (2 : Int32)).toInt64) (((p2 &&& (65535 : Int32)) + (3 : Int32)).toInt64) T39.heap n0 O39 f39_0 f39_1 f39_2 f39_3 f39_5 c49 (own_rng0 p2)) (rfl : T39.heap = T39.heap) N39 (W := 0) (by decide) (by decide) (by decide) (by decide) f39_0 (g := (mkF m 192 #[.val (.int p0), .val (.int p1), .val (.int p2), .val (.ref u2), .val (.ref u8), .val (.int (1 : Int32)), .val (.int (0 : Int32)), .val (.int (p2 &&& (65535 : Int32))), .val (.ref b26), .val (.ref u40)] [(.ref b26), (.ref u40)])) rfl (by rw [hml]; rfl) (argsL := [(.ref b26)]) (rest := []) (lenOf pd_rm0_3 rfl) rfl (by show 2 * 0 + _ ≤ _; exact Nat.le_of_eq rfl) (hb hby at_192)
      obtain ⟨cla51, Ara51, qa51, Sa51, Za51, Ha51, Ga51⟩ := id c49
      have hin52 : ¬ ((0 : Int32) < 0 ∨ cla51.slots.size ≤ ((0 : Int32)).toNatClampNeg) := inb_of Sa51 ⟨by decide, by decide⟩
      have hat53 : cla51.slots[((0 : Int32)).toNatClampNeg]? = some (.double (FP.l2d ((p2 &&& (65535 : Int32)).toInt64))) := Has.at Ha51 hin52 rfl
      have s54 : Steps p.tables e below A₀ (T50.setTop (mkF m 213 #[.val (.int p0), .val (.int p1), .val (.int p2), .val (.ref u2), .val (.ref u8), .val (.int (1 : Int32)), .val (.int (0 : Int32)), .val (.int (p2 &&& (65535 : Int32))), .val (.ref b26), .val (.ref u40)] [(.int (1 : Int32))])) := by
        refine s25.trans ?_
        refine XS.istore X20.here hx rfl (hb hby at_133) rfl (l' := #[.val (.int p0), .val (.int p1), .val (.int p2), .val (.ref u2), .val (.ref u8), .val (.int (1 : Int32)), .val (.int (0 : Int32)), .unset, .unset, .unset]) rfl ?_
        refine XS.iloadN X20.here hx rfl (hb hby at_135) rfl ?_
        refine X20.ldcInt hx hown (mvT hZ (hw _ (List.mem_of_getElem? (i := 44) rfl))) (g := (mkF m 136 #[.val (.int p0), .val (.int p1), .val (.int p2), .val (.ref u2), .val (.ref u8), .val (.int (1 : Int32)), .val (.int (0 : Int32)), .unset, .unset, .unset] [(.int p2)])) rfl (hb hby at_136) _ ?_
        refine XS.iand X20.here hx rfl (hb hby at_138) rfl ?_
        refine XS.istore X20.here hx rfl (hb hby at_139) rfl (l' := #[.val (.int p0), .val (.int p1), .val (.int p2), .val (.ref u2), .val (.ref u8), .val (.int (1 : Int32)), .val (.int (0 : Int32)), .val (.int (p2 &&& (65535 : Int32))), .unset, .unset]) rfl ?_
        refine XS.iconst X20.here hx rfl (hb hby at_141) ?_
        refine st26 _ ?_
        refine XS.dup X26.here hx rfl (hb hby at_144) rfl rfl ?_
        show Steps p.tables e below (T26.setTop (mkF m 145 #[.val (.int p0), .val (.int p1), .val (.int p2), .val (.ref u2), .val (.ref u8), .val (.int (1 : Int32)), .val (.int (0 : Int32)), .val (.int (p2 &&& (65535 : Int32))), .unset, .unset] [(.ref b26), (.ref b26)])) _
        refine XS.iconst X26.here hx rfl (hb hby at_145) ?_
        refine XS.iload X26.here hx rfl (hb hby at_146) rfl ?_
        refine XS.i2dS X26.here hx rfl (hb hby at_148) rfl (i2d_w _) ?_
        refine st29 _ ?_
        refine XS.dup X29.here hx rfl (hb hby at_150) rfl rfl ?_
        refine XS.iconst X29.here hx rfl (hb hby at_151) ?_
        refine XS.iload X29.here hx rfl (hb hby at_152) rfl ?_
        refine XS.iconst X29.here hx rfl (hb hby at_154) ?_
        refine XS.iadd X29.here hx rfl (hb hby at_155) rfl ?_
        refine XS.i2dS X29.here hx rfl (hb hby at_156) rfl (i2d_w _) ?_
        show Steps p.tables e below (T29.setTop (mkF m 157 #[.val (.int p0), .val (.int p1), .val (.int p2), .val (.ref u2), .val (.ref u8), .val (.int (1 : Int32)), .val (.int (0 : Int32)), .val (.int (p2 &&& (65535 : Int32))), .unset, .unset] [(.double (FP.l2d (((p2 &&& (65535 : Int32)) + (1 : Int32)).toInt64))), (.int (1 : Int32)), (.ref b26), (.ref b26)])) _
        refine st32 _ ?_
        refine XS.dup X32.here hx rfl (hb hby at_158) rfl rfl ?_
        refine XS.iconst X32.here hx rfl (hb hby at_159) ?_
        refine XS.iload X32.here hx rfl (hb hby at_160) rfl ?_
        refine XS.iconst X32.here hx rfl (hb hby at_162) ?_
        refine XS.iadd X32.here hx rfl (hb hby at_163) rfl ?_
        refine XS.i2dS X32.here hx rfl (hb hby at_164) rfl (i2d_w _) ?_
        refine st35 _ ?_
        refine XS.dup X35.here hx rfl (hb hby at_166) rfl rfl ?_
        refine XS.iconst X35.here hx rfl (hb hby at_167) ?_
        show Steps p.tables e below (T35.setTop (mkF m 168 #[.val (.int p0), .val (.int p1), .val (.int p2), .val (.ref u2), .val (.ref u8), .val (.int (1 : Int32)), .val (.int (0 : Int32)), .val (.int (p2 &&& (65535 : Int32))), .unset, .unset] [(.int (3 : Int32)), (.ref b26), (.ref b26)])) _
        refine XS.iload X35.here hx rfl (hb hby at_168) rfl ?_
        refine XS.iconst X35.here hx rfl (hb hby at_170) ?_
        refine XS.iadd X35.here hx rfl (hb hby at_171) rfl ?_
        refine XS.i2dS X35.here hx rfl (hb hby at_172) rfl (i2d_w _) ?_
        refine st38 _ ?_
        refine XS.astore X38.here hx rfl (hb hby at_174) rfl rfl (l' := #[.val (.int p0), .val (.int p1), .val (.int p2), .val (.ref u2), .val (.ref u8), .val (.int (1 : Int32)), .val (.int (0 : Int32)), .val (.int (p2 &&& (65535 : Int32))), .val (.ref b26), .unset]) rfl ?_
        refine XS.iload X38.here hx rfl (hb hby at_176) rfl ?_
        refine st39 _ ?_
        refine XS.astore X39.here hx rfl (hb hby at_181) rfl rfl (l' := #[.val (.int p0), .val (.int p1), .val (.int p2), .val (.ref u2), .val (.ref u8), .val (.int (1 : Int32)), .val (.int (0 : Int32)), .val (.int (p2 &&& (65535 : Int32))), .val (.ref b26), .val (.ref u40)]) rfl ?_
        refine XS.iload X39.here hx rfl (hb hby at_183) rfl ?_
        show Steps p.tables e below (T39.setTop (mkF m 185 #[.val (.int p0), .val (.int p1), .val (.int p2), .val (.ref u2), .val (.ref u8), .val (.int (1 : Int32)), .val (.int (0 : Int32)), .val (.int (p2 &&& (65535 : Int32))), .val (.ref b26), .val (.ref u40)] [(.int (1 : Int32))])) _
        refine XS.ifNo X39.here hx rfl (hb hby at_185) rfl ((if0 _ _).trans (feq (by decide)).1) ?_
        refine XS.aload X39.here hx rfl (hb hby at_188) rfl rfl ?_
        refine XS.aload X39.here hx rfl (hb hby at_190) rfl rfl ?_
        refine st50 _ ?_
        refine XS.aload X50.here hx rfl (hb hby at_195) rfl rfl ?_
        refine XS.iload X50.here hx rfl (hb hby at_197) rfl ?_
        refine X50.daload hx (j := (0 : Int32)) (v := (.double (FP.l2d ((p2 &&& (65535 : Int32)).toInt64)))) (by rw [e50]; exact Ara51.1) (State.isArrayOf_alike hZ.alike Ara51.2.1) Ara51.2.2 hin52 hat53 (g := (mkF m 199 #[.val (.int p0), .val (.int p1), .val (.int p2), .val (.ref u2), .val (.ref u8), .val (.int (1 : Int32)), .val (.int (0 : Int32)), .val (.int (p2 &&& (65535 : Int32))), .val (.ref b26), .val (.ref u40)] [(.int (0 : Int32)), (.ref b26), (.double (FP.l2d ((p2 &&& (65535 : Int32)).toInt64)))])) rfl rfl (hb hby at_199) _ ?_
        refine XS.dcmpS X50.here hx rfl (hb hby at_200) rfl (dcmpV_self (nn_w rfl) _) ?_
        refine XS.ifNo X50.here hx rfl (hb hby at_201) rfl ((if0 _ _).trans (teq (by decide)).2) ?_
        refine XS.iconst X50.here hx rfl (hb hby at_204) ?_
        show Steps p.tables e below (T50.setTop (mkF m 205 #[.val (.int p0), .val (.int p1), .val (.int p2), .val (.ref u2), .val (.ref u8), .val (.int (1 : Int32)), .val (.int (0 : Int32)), .val (.int (p2 &&& (65535 : Int32))), .val (.ref b26), .val (.ref u40)] [(.int (1 : Int32))])) _
        refine XS.goto X50.here hx rfl (pc0 := 205) (pc' := 209) rfl (hb hby at_205) (by decide) (by decide) ?_
        refine XS.istore X50.here hx rfl (hb hby at_209) rfl (l' := #[.val (.int p0), .val (.int p1), .val (.int p2), .val (.ref u2), .val (.ref u8), .val (.int (1 : Int32)), .val (.int (0 : Int32)), .val (.int (p2 &&& (65535 : Int32))), .val (.ref b26), .val (.ref u40)]) rfl ?_
        refine XS.iload X50.here hx rfl (hb hby at_211) rfl ?_
        exact Steps.refl _
      subst hA₀
      obtain ⟨fs, hr, hrun, hended, hW, hsame⟩ := X50.leave (v := some (.int (1 : Int32))) (fun h => by rw [Bd.returns] at h; cases h)
      refine ⟨_, _, s54.trans ?_, hrun, hended, _, _, rfl, ?_, ⟨_, rfl⟩, hW, hsame.mono (by decide) (by decide)⟩
      · show Steps p.tables e below (T50.setTop (mkF m 213 #[.val (.int p0), .val (.int p1), .val (.int p2), .val (.ref u2), .val (.ref u8), .val (.int (1 : Int32)), .val (.int (0 : Int32)), .val (.int (p2 &&& (65535 : Int32))), .val (.ref b26), .val (.ref u40)] [(.int (1 : Int32))])) _
        exact retN X50 hx (t := .boolean) Bd.returns (by simp) (hb hby at_213) hr
      · show Q0 Z p0 p1 p2 h0 n0 _ T50.heap _
        rw [e50]
        exact ⟨rfl, N50⟩
    · have s55 := s23
      rw [hk24] at s55
      obtain ⟨T56, h56, k56, X56, e56, E56, A56, st56⟩ := newP X20 hx hZ (hw _ (List.mem_of_getElem? (i := 7) rfl)) e20 (g := (mkF m 142 #[.val (.int p0), .val (.int p1), .val (.int p2), .val (.ref u2), .val (.ref u8), .val (.int (1 : Int32)), .val (.int (1 : Int32)), .val (.int (p2 &&& (65535 : Int32))), .unset, .unset] [(.int (4 : Int32))])) rfl (hb hby at_142) rfl (by decide) (cap := 4) (by decide) (by decide) (by decide) (by decide)
      obtain ⟨b56, g56⟩ : ∃ z, z = T7.heap.size := ⟨_, rfl⟩
      rw [← g56] at A56 st56
      have ne_u2_b56 : u2 ≠ b56 := Nat.ne_of_lt (Nat.lt_of_lt_of_le c13.lt (Nat.le_of_eq g56.symm))
      have ne_u3_b56 : u3 ≠ b56 := Nat.ne_of_lt (Nat.lt_of_lt_of_le c16.lt (Nat.le_of_eq g56.symm))
      have ne_u4_b56 : u4 ≠ b56 := Nat.ne_of_lt (Nat.lt_of_lt_of_le c17.lt (Nat.le_of_eq g56.symm))
      have ne_u8_b56 : u8 ≠ b56 := Nat.ne_of_lt (Nat.lt_of_lt_of_le f7_0.lt (Nat.le_of_eq g56.symm))
      have g_b56 : n0 ≤ b56 := Nat.le_trans (Nat.le_of_eq O7.1.symm) (Nat.le_trans O7.2.1 (Nat.le_of_eq g56.symm))
      have O56 := O7.ext E56
      have V56 : Arv Z h56 b56 k56 .double (4 : Int32) [(.double (FP.l2d (0 : Int64))), (.double (FP.l2d (0 : Int64))), (.double (FP.l2d (0 : Int64))), (.double (FP.l2d (0 : Int64)))] (.double (FP.l2d (0 : Int64))) := (Arv.newD A56 (by decide)).pad (pad_rep [] (.double (FP.l2d (0 : Int64))) 4)
      obtain ⟨cla57, Ara57, qa57, Sa57, Za57, Ha57, Ga57⟩ := id V56
      have hin58 : ¬ ((0 : Int32) < 0 ∨ cla57.slots.size ≤ ((0 : Int32)).toNatClampNeg) := inb_of Sa57 ⟨by decide, by decide⟩
      obtain ⟨T59, h59, X59, e59, W59, st59⟩ := stD X56 hx hZ e56 Ara57 (j := (0 : Int32)) hin58 (g := (mkF m 149 #[.val (.int p0), .val (.int p1), .val (.int p2), .val (.ref u2), .val (.ref u8), .val (.int (1 : Int32)), .val (.int (1 : Int32)), .val (.int (p2 &&& (65535 : Int32))), .unset, .unset] [(.double (FP.l2d ((p2 &&& (65535 : Int32)).toInt64))), (.int (0 : Int32)), (.ref b56), (.ref b56)])) rfl rfl (hb hby at_149)
      have O59 := O56.wr W59 g_b56
      have N59 := Fr.snoc X59 N20 g_b56
      have V59 : Arv Z h59 b56 k56 .double (4 : Int32) [(.double (FP.l2d ((p2 &&& (65535 : Int32)).toInt64))), (.double (FP.l2d (0 : Int64))), (.double (FP.l2d (0 : Int64))), (.double (FP.l2d (0 : Int64)))] (.double (FP.l2d (0 : Int64))) := Arv.set Ara57 qa57 Sa57 Za57 Ha57 Ga57 rfl W59 0 rfl (Nat.le_of_ble_eq_true rfl)
      obtain ⟨cla60, Ara60, qa60, Sa60, Za60, Ha60, Ga60⟩ := id V59
      have hin61 : ¬ ((1 : Int32) < 0 ∨ cla60.slots.size ≤ ((1 : Int32)).toNatClampNeg) := inb_of Sa60 ⟨by decide, by decide⟩
      obtain ⟨T62, h62, X62, e62, W62, st62⟩ := stD X59 hx hZ e59 Ara60 (j := (1 : Int32)) hin61 (g := (mkF m 157 #[.val (.int p0), .val (.int p1), .val (.int p2), .val (.ref u2), .val (.ref u8), .val (.int (1 : Int32)), .val (.int (1 : Int32)), .val (.int (p2 &&& (65535 : Int32))), .unset, .unset] [(.double (FP.l2d (((p2 &&& (65535 : Int32)) + (1 : Int32)).toInt64))), (.int (1 : Int32)), (.ref b56), (.ref b56)])) rfl rfl (hb hby at_157)
      have O62 := O59.wr W62 g_b56
      have N62 := Fr.snoc X62 N59 g_b56
      have V62 : Arv Z h62 b56 k56 .double (4 : Int32) [(.double (FP.l2d ((p2 &&& (65535 : Int32)).toInt64))), (.double (FP.l2d (((p2 &&& (65535 : Int32)) + (1 : Int32)).toInt64))), (.double (FP.l2d (0 : Int64))), (.double (FP.l2d (0 : Int64)))] (.double (FP.l2d (0 : Int64))) := Arv.set Ara60 qa60 Sa60 Za60 Ha60 Ga60 rfl W62 1 rfl (Nat.le_of_ble_eq_true rfl)
      obtain ⟨cla63, Ara63, qa63, Sa63, Za63, Ha63, Ga63⟩ := id V62
      have hin64 : ¬ ((2 : Int32) < 0 ∨ cla63.slots.size ≤ ((2 : Int32)).toNatClampNeg) := inb_of Sa63 ⟨by decide, by decide⟩
      obtain ⟨T65, h65, X65, e65, W65, st65⟩ := stD X62 hx hZ e62 Ara63 (j := (2 : Int32)) hin64 (g := (mkF m 165 #[.val (.int p0), .val (.int p1), .val (.int p2), .val (.ref u2), .val (.ref u8), .val (.int (1 : Int32)), .val (.int (1 : Int32)), .val (.int (p2 &&& (65535 : Int32))), .unset, .unset] [(.double (FP.l2d (((p2 &&& (65535 : Int32)) + (2 : Int32)).toInt64))), (.int (2 : Int32)), (.ref b56), (.ref b56)])) rfl rfl (hb hby at_165)
      have O65 := O62.wr W65 g_b56
      have N65 := Fr.snoc X65 N62 g_b56
      have V65 : Arv Z h65 b56 k56 .double (4 : Int32) [(.double (FP.l2d ((p2 &&& (65535 : Int32)).toInt64))), (.double (FP.l2d (((p2 &&& (65535 : Int32)) + (1 : Int32)).toInt64))), (.double (FP.l2d (((p2 &&& (65535 : Int32)) + (2 : Int32)).toInt64))), (.double (FP.l2d (0 : Int64)))] (.double (FP.l2d (0 : Int64))) := Arv.set Ara63 qa63 Sa63 Za63 Ha63 Ga63 rfl W65 2 rfl (Nat.le_of_ble_eq_true rfl)
      obtain ⟨cla66, Ara66, qa66, Sa66, Za66, Ha66, Ga66⟩ := id V65
      have hin67 : ¬ ((3 : Int32) < 0 ∨ cla66.slots.size ≤ ((3 : Int32)).toNatClampNeg) := inb_of Sa66 ⟨by decide, by decide⟩
      obtain ⟨T68, h68, X68, e68, W68, st68⟩ := stD X65 hx hZ e65 Ara66 (j := (3 : Int32)) hin67 (g := (mkF m 173 #[.val (.int p0), .val (.int p1), .val (.int p2), .val (.ref u2), .val (.ref u8), .val (.int (1 : Int32)), .val (.int (1 : Int32)), .val (.int (p2 &&& (65535 : Int32))), .unset, .unset] [(.double (FP.l2d (((p2 &&& (65535 : Int32)) + (3 : Int32)).toInt64))), (.int (3 : Int32)), (.ref b56), (.ref b56)])) rfl rfl (hb hby at_173)
      have O68 := O65.wr W68 g_b56
      have N68 := Fr.snoc X68 N65 g_b56
      have V68 : Arv Z h68 b56 k56 .double (4 : Int32) [(.double (FP.l2d ((p2 &&& (65535 : Int32)).toInt64))), (.double (FP.l2d (((p2 &&& (65535 : Int32)) + (1 : Int32)).toInt64))), (.double (FP.l2d (((p2 &&& (65535 : Int32)) + (2 : Int32)).toInt64))), (.double (FP.l2d (((p2 &&& (65535 : Int32)) + (3 : Int32)).toInt64)))] (.double (FP.l2d (0 : Int64))) := Arv.set Ara66 qa66 Sa66 Za66 Ha66 Ga66 rfl W68 3 rfl (Nat.le_of_ble_eq_true rfl)
      obtain ⟨_, _, ⟨T69, L69, k69, n69⟩, -, X69, ⟨Lc69, hQ69, l69, y69, z69⟩, st69⟩ := Jvm.LawKit.callS X68 hx (y := (⟨"com/example/odds_on_axioms/oddsonaxioms/aleatoric/Distribution", "certain", "(I)Lcom/example/odds_on_axioms/oddsonaxioms/aleatoric/Distribution;"⟩ : MethodName)) hown (mvT hZ (hw _ (List.mem_of_getElem? (i := 0) rfl))) (mvT hZ (hw _ (List.mem_of_getElem? (i := 1) rfl))) (mvT hZ (hw _ (List.mem_of_getElem? (i := 2) rfl))) (mvT hZ (hw _ (List.mem_of_getElem? (i := 3) rfl))) (by decide) (backOf (W := 0) (rm1 l Z a0 hw [] (1 : Int32) h68 n0 O68 ) hZ (hw _ (List.mem_of_getElem? (i := 3) rfl)) (hw _ (List.mem_of_getElem? (i := 2) rfl)) (by decide) (by decide)) (g := (mkF m 178 #[.val (.int p0), .val (.int p1), .val (.int p2), .val (.ref u2), .val (.ref u8), .val (.int (1 : Int32)), .val (.int (1 : Int32)), .val (.int (p2 &&& (65535 : Int32))), .val (.ref b56), .unset] [(.int (1 : Int32))])) rfl (by rw [hml]; rfl) (argsL := [(.int (1 : Int32))]) (rest := []) (lenOf pd_rm0_0 rfl) rfl (by show 2 * 0 + _ ≤ _; exact Nat.le_of_eq rfl) (hb hby at_178) (fun _ _ => ⟨rfl, e68, (by decide : 5 + 3 ≤ _), (by decide : 9 + 4 ≤ _)⟩)
      dsimp only [Pt.U, Pt.locs, Pt.cells, Pt.slots] at X69 l69 y69 z69 st69 hQ69
      subst l69 y69 z69
      obtain ⟨u70, u71, u72, u73, u74, rfl, Nq69, Kc69, f69_0, f69_1, f69_2, f69_3, f69_4, f69_5, f69_6, f69_7, f69_8⟩ := hQ69
      have N69 := Fr.app N68 Nq69
      have c75 : Exa Z h68 u2 "com/example/odds_on_axioms/oddsonaxioms/aleatoric/Distribution" := (((((c13.ext E56).wr W59).wr W62).wr W65).wr W68)
      have ne_u2_u70 : u2 ≠ u70 := Nat.ne_of_lt (Nat.lt_of_lt_of_le c75.lt f69_6)
      have c76 : Arv Z h68 u3 u5 .int (1 : Int32) [(.int p0)] (.int (0 : Int32)) := (((((c16.ext E56).other W59 ne_u3_b56).other W62 ne_u3_b56).other W65 ne_u3_b56).other W68 ne_u3_b56)
      have ne_u3_u70 : u3 ≠ u70 := Nat.ne_of_lt (Nat.lt_of_lt_of_le c76.lt f69_6)
      have c77 : Arv Z h68 u4 u6 .double (1 : Int32) [(.double (FP.l2d (1 : Int64)))] (.double (FP.l2d (0 : Int64))) := (((((c17.ext E56).other W59 ne_u4_b56).other W62 ne_u4_b56).other W65 ne_u4_b56).other W68 ne_u4_b56)
      have ne_u4_u70 : u4 ≠ u70 := Nat.ne_of_lt (Nat.lt_of_lt_of_le c77.lt f69_6)
      have c78 : Arv Z h68 u8 u9 .int (1 : Int32) [(.int p0)] (.int (0 : Int32)) := (((((f7_0.ext E56).other W59 ne_u8_b56).other W62 ne_u8_b56).other W65 ne_u8_b56).other W68 ne_u8_b56)
      have ne_u8_u70 : u8 ≠ u70 := Nat.ne_of_lt (Nat.lt_of_lt_of_le c78.lt f69_6)
      have ne_b56_u70 : b56 ≠ u70 := Nat.ne_of_lt (Nat.lt_of_lt_of_le V68.lt f69_6)
      have ne_u2_u71 : u2 ≠ u71 := Nat.ne_of_lt (Nat.lt_of_lt_of_le c75.lt f69_7)
      have ne_u3_u71 : u3 ≠ u71 := Nat.ne_of_lt (Nat.lt_of_lt_of_le c76.lt f69_7)
      have ne_u4_u71 : u4 ≠ u71 := Nat.ne_of_lt (Nat.lt_of_lt_of_le c77.lt f69_7)
      have ne_u8_u71 : u8 ≠ u71 := Nat.ne_of_lt (Nat.lt_of_lt_of_le c78.lt f69_7)
      have ne_b56_u71 : b56 ≠ u71 := Nat.ne_of_lt (Nat.lt_of_lt_of_le V68.lt f69_7)
      have ne_u2_u72 : u2 ≠ u72 := Nat.ne_of_lt (Nat.lt_of_lt_of_le c75.lt f69_8)
      have ne_u3_u72 : u3 ≠ u72 := Nat.ne_of_lt (Nat.lt_of_lt_of_le c76.lt f69_8)
      have ne_u4_u72 : u4 ≠ u72 := Nat.ne_of_lt (Nat.lt_of_lt_of_le c77.lt f69_8)
      have ne_u8_u72 : u8 ≠ u72 := Nat.ne_of_lt (Nat.lt_of_lt_of_le c78.lt f69_8)
      have ne_b56_u72 : b56 ≠ u72 := Nat.ne_of_lt (Nat.lt_of_lt_of_le V68.lt f69_8)
      have g_u70 : n0 ≤ u70 := Nat.le_trans (Nat.le_of_eq O68.1.symm) (Nat.le_trans O68.2.1 f69_6)
      have g_u71 : n0 ≤ u71 := Nat.le_trans (Nat.le_of_eq O68.1.symm) (Nat.le_trans O68.2.1 f69_7)
      have g_u72 : n0 ≤ u72 := Nat.le_trans (Nat.le_of_eq O68.1.symm) (Nat.le_trans O68.2.1 f69_8)
      have O69 := O68.keep Kc69 all0
      have c79 : Arv Z T69.heap b56 k56 .double (4 : Int32) [(.double (FP.l2d ((p2 &&& (65535 : Int32)).toInt64))), (.double (FP.l2d (((p2 &&& (65535 : Int32)) + (1 : Int32)).toInt64))), (.double (FP.l2d (((p2 &&& (65535 : Int32)) + (2 : Int32)).toInt64))), (.double (FP.l2d (((p2 &&& (65535 : Int32)) + (3 : Int32)).toInt64)))] (.double (FP.l2d (0 : Int64))) := (V68.keep Kc69 nin0)
      obtain ⟨T80, L80, X80, e80, N80, st80⟩ := own_callVP X69 hx hZ hown (wk45 hw) (wk46 hw) (wk48 hw) (wk47 hw) (by decide) (wk2 hw) (wk49 hw) (rmex1 l Z a0 hw [] u70 b56 u71 u72 u73 u74 k56 ((p2 &&& (65535 : Int32)).toInt64) (((p2 &&& (65535 : Int32)) + (1 : Int32)).toInt64) (((p2 &&& (65535 : Int32)) + (2 : Int32)).toInt64) (((p2 &&& (65535 : Int32)) + (3 : Int32)).toInt64) T69.heap n0 O69 f69_0 f69_1 f69_2 f69_3 f69_5 c79 (own_rng1 p2)) (rfl : T69.heap = T69.heap) N69 (W := 0) (by decide) (by decide) (by decide) (by decide) f69_0 (g := (mkF m 192 #[.val (.int p0), .val (.int p1), .val (.int p2), .val (.ref u2), .val (.ref u8), .val (.int (1 : Int32)), .val (.int (1 : Int32)), .val (.int (p2 &&& (65535 : Int32))), .val (.ref b56), .val (.ref u70)] [(.ref b56), (.ref u70)])) rfl (by rw [hml]; rfl) (argsL := [(.ref b56)]) (rest := []) (lenOf pd_rm0_3 rfl) rfl (by show 2 * 0 + _ ≤ _; exact Nat.le_of_eq rfl) (hb hby at_192)
      obtain ⟨cla81, Ara81, qa81, Sa81, Za81, Ha81, Ga81⟩ := id c79
      have hin82 : ¬ ((1 : Int32) < 0 ∨ cla81.slots.size ≤ ((1 : Int32)).toNatClampNeg) := inb_of Sa81 ⟨by decide, by decide⟩
      have hat83 : cla81.slots[((1 : Int32)).toNatClampNeg]? = some (.double (FP.l2d (((p2 &&& (65535 : Int32)) + (1 : Int32)).toInt64))) := Has.at Ha81 hin82 rfl
      have s84 : Steps p.tables e below A₀ (T80.setTop (mkF m 213 #[.val (.int p0), .val (.int p1), .val (.int p2), .val (.ref u2), .val (.ref u8), .val (.int (1 : Int32)), .val (.int (1 : Int32)), .val (.int (p2 &&& (65535 : Int32))), .val (.ref b56), .val (.ref u70)] [(.int (1 : Int32))])) := by
        refine s55.trans ?_
        refine XS.istore X20.here hx rfl (hb hby at_133) rfl (l' := #[.val (.int p0), .val (.int p1), .val (.int p2), .val (.ref u2), .val (.ref u8), .val (.int (1 : Int32)), .val (.int (1 : Int32)), .unset, .unset, .unset]) rfl ?_
        refine XS.iloadN X20.here hx rfl (hb hby at_135) rfl ?_
        refine X20.ldcInt hx hown (mvT hZ (hw _ (List.mem_of_getElem? (i := 44) rfl))) (g := (mkF m 136 #[.val (.int p0), .val (.int p1), .val (.int p2), .val (.ref u2), .val (.ref u8), .val (.int (1 : Int32)), .val (.int (1 : Int32)), .unset, .unset, .unset] [(.int p2)])) rfl (hb hby at_136) _ ?_
        refine XS.iand X20.here hx rfl (hb hby at_138) rfl ?_
        refine XS.istore X20.here hx rfl (hb hby at_139) rfl (l' := #[.val (.int p0), .val (.int p1), .val (.int p2), .val (.ref u2), .val (.ref u8), .val (.int (1 : Int32)), .val (.int (1 : Int32)), .val (.int (p2 &&& (65535 : Int32))), .unset, .unset]) rfl ?_
        refine XS.iconst X20.here hx rfl (hb hby at_141) ?_
        refine st56 _ ?_
        refine XS.dup X56.here hx rfl (hb hby at_144) rfl rfl ?_
        show Steps p.tables e below (T56.setTop (mkF m 145 #[.val (.int p0), .val (.int p1), .val (.int p2), .val (.ref u2), .val (.ref u8), .val (.int (1 : Int32)), .val (.int (1 : Int32)), .val (.int (p2 &&& (65535 : Int32))), .unset, .unset] [(.ref b56), (.ref b56)])) _
        refine XS.iconst X56.here hx rfl (hb hby at_145) ?_
        refine XS.iload X56.here hx rfl (hb hby at_146) rfl ?_
        refine XS.i2dS X56.here hx rfl (hb hby at_148) rfl (i2d_w _) ?_
        refine st59 _ ?_
        refine XS.dup X59.here hx rfl (hb hby at_150) rfl rfl ?_
        refine XS.iconst X59.here hx rfl (hb hby at_151) ?_
        refine XS.iload X59.here hx rfl (hb hby at_152) rfl ?_
        refine XS.iconst X59.here hx rfl (hb hby at_154) ?_
        refine XS.iadd X59.here hx rfl (hb hby at_155) rfl ?_
        refine XS.i2dS X59.here hx rfl (hb hby at_156) rfl (i2d_w _) ?_
        show Steps p.tables e below (T59.setTop (mkF m 157 #[.val (.int p0), .val (.int p1), .val (.int p2), .val (.ref u2), .val (.ref u8), .val (.int (1 : Int32)), .val (.int (1 : Int32)), .val (.int (p2 &&& (65535 : Int32))), .unset, .unset] [(.double (FP.l2d (((p2 &&& (65535 : Int32)) + (1 : Int32)).toInt64))), (.int (1 : Int32)), (.ref b56), (.ref b56)])) _
        refine st62 _ ?_
        refine XS.dup X62.here hx rfl (hb hby at_158) rfl rfl ?_
        refine XS.iconst X62.here hx rfl (hb hby at_159) ?_
        refine XS.iload X62.here hx rfl (hb hby at_160) rfl ?_
        refine XS.iconst X62.here hx rfl (hb hby at_162) ?_
        refine XS.iadd X62.here hx rfl (hb hby at_163) rfl ?_
        refine XS.i2dS X62.here hx rfl (hb hby at_164) rfl (i2d_w _) ?_
        refine st65 _ ?_
        refine XS.dup X65.here hx rfl (hb hby at_166) rfl rfl ?_
        refine XS.iconst X65.here hx rfl (hb hby at_167) ?_
        show Steps p.tables e below (T65.setTop (mkF m 168 #[.val (.int p0), .val (.int p1), .val (.int p2), .val (.ref u2), .val (.ref u8), .val (.int (1 : Int32)), .val (.int (1 : Int32)), .val (.int (p2 &&& (65535 : Int32))), .unset, .unset] [(.int (3 : Int32)), (.ref b56), (.ref b56)])) _
        refine XS.iload X65.here hx rfl (hb hby at_168) rfl ?_
        refine XS.iconst X65.here hx rfl (hb hby at_170) ?_
        refine XS.iadd X65.here hx rfl (hb hby at_171) rfl ?_
        refine XS.i2dS X65.here hx rfl (hb hby at_172) rfl (i2d_w _) ?_
        refine st68 _ ?_
        refine XS.astore X68.here hx rfl (hb hby at_174) rfl rfl (l' := #[.val (.int p0), .val (.int p1), .val (.int p2), .val (.ref u2), .val (.ref u8), .val (.int (1 : Int32)), .val (.int (1 : Int32)), .val (.int (p2 &&& (65535 : Int32))), .val (.ref b56), .unset]) rfl ?_
        refine XS.iload X68.here hx rfl (hb hby at_176) rfl ?_
        refine st69 _ ?_
        refine XS.astore X69.here hx rfl (hb hby at_181) rfl rfl (l' := #[.val (.int p0), .val (.int p1), .val (.int p2), .val (.ref u2), .val (.ref u8), .val (.int (1 : Int32)), .val (.int (1 : Int32)), .val (.int (p2 &&& (65535 : Int32))), .val (.ref b56), .val (.ref u70)]) rfl ?_
        refine XS.iload X69.here hx rfl (hb hby at_183) rfl ?_
        show Steps p.tables e below (T69.setTop (mkF m 185 #[.val (.int p0), .val (.int p1), .val (.int p2), .val (.ref u2), .val (.ref u8), .val (.int (1 : Int32)), .val (.int (1 : Int32)), .val (.int (p2 &&& (65535 : Int32))), .val (.ref b56), .val (.ref u70)] [(.int (1 : Int32))])) _
        refine XS.ifNo X69.here hx rfl (hb hby at_185) rfl ((if0 _ _).trans (feq (by decide)).1) ?_
        refine XS.aload X69.here hx rfl (hb hby at_188) rfl rfl ?_
        refine XS.aload X69.here hx rfl (hb hby at_190) rfl rfl ?_
        refine st80 _ ?_
        refine XS.aload X80.here hx rfl (hb hby at_195) rfl rfl ?_
        refine XS.iload X80.here hx rfl (hb hby at_197) rfl ?_
        refine X80.daload hx (j := (1 : Int32)) (v := (.double (FP.l2d (((p2 &&& (65535 : Int32)) + (1 : Int32)).toInt64)))) (by rw [e80]; exact Ara81.1) (State.isArrayOf_alike hZ.alike Ara81.2.1) Ara81.2.2 hin82 hat83 (g := (mkF m 199 #[.val (.int p0), .val (.int p1), .val (.int p2), .val (.ref u2), .val (.ref u8), .val (.int (1 : Int32)), .val (.int (1 : Int32)), .val (.int (p2 &&& (65535 : Int32))), .val (.ref b56), .val (.ref u70)] [(.int (1 : Int32)), (.ref b56), (.double (FP.l2d (((p2 &&& (65535 : Int32)) + (1 : Int32)).toInt64)))])) rfl rfl (hb hby at_199) _ ?_
        refine XS.dcmpS X80.here hx rfl (hb hby at_200) rfl (dcmpV_self (nn_w rfl) _) ?_
        refine XS.ifNo X80.here hx rfl (hb hby at_201) rfl ((if0 _ _).trans (teq (by decide)).2) ?_
        refine XS.iconst X80.here hx rfl (hb hby at_204) ?_
        show Steps p.tables e below (T80.setTop (mkF m 205 #[.val (.int p0), .val (.int p1), .val (.int p2), .val (.ref u2), .val (.ref u8), .val (.int (1 : Int32)), .val (.int (1 : Int32)), .val (.int (p2 &&& (65535 : Int32))), .val (.ref b56), .val (.ref u70)] [(.int (1 : Int32))])) _
        refine XS.goto X80.here hx rfl (pc0 := 205) (pc' := 209) rfl (hb hby at_205) (by decide) (by decide) ?_
        refine XS.istore X80.here hx rfl (hb hby at_209) rfl (l' := #[.val (.int p0), .val (.int p1), .val (.int p2), .val (.ref u2), .val (.ref u8), .val (.int (1 : Int32)), .val (.int (1 : Int32)), .val (.int (p2 &&& (65535 : Int32))), .val (.ref b56), .val (.ref u70)]) rfl ?_
        refine XS.iload X80.here hx rfl (hb hby at_211) rfl ?_
        exact Steps.refl _
      subst hA₀
      obtain ⟨fs, hr, hrun, hended, hW, hsame⟩ := X80.leave (v := some (.int (1 : Int32))) (fun h => by rw [Bd.returns] at h; cases h)
      refine ⟨_, _, s84.trans ?_, hrun, hended, _, _, rfl, ?_, ⟨_, rfl⟩, hW, hsame.mono (by decide) (by decide)⟩
      · show Steps p.tables e below (T80.setTop (mkF m 213 #[.val (.int p0), .val (.int p1), .val (.int p2), .val (.ref u2), .val (.ref u8), .val (.int (1 : Int32)), .val (.int (1 : Int32)), .val (.int (p2 &&& (65535 : Int32))), .val (.ref b56), .val (.ref u70)] [(.int (1 : Int32))])) _
        exact retN X80 hx (t := .boolean) Bd.returns (by simp) (hb hby at_213) hr
      · show Q0 Z p0 p1 p2 h0 n0 _ T80.heap _
        rw [e80]
        exact ⟨rfl, N80⟩
    · have s85 := s23
      rw [hk24] at s85
      obtain ⟨T86, h86, k86, X86, e86, E86, A86, st86⟩ := newP X20 hx hZ (hw _ (List.mem_of_getElem? (i := 7) rfl)) e20 (g := (mkF m 142 #[.val (.int p0), .val (.int p1), .val (.int p2), .val (.ref u2), .val (.ref u8), .val (.int (1 : Int32)), .val (.int (2 : Int32)), .val (.int (p2 &&& (65535 : Int32))), .unset, .unset] [(.int (4 : Int32))])) rfl (hb hby at_142) rfl (by decide) (cap := 4) (by decide) (by decide) (by decide) (by decide)
      obtain ⟨b86, g86⟩ : ∃ z, z = T7.heap.size := ⟨_, rfl⟩
      rw [← g86] at A86 st86
      have ne_u2_b86 : u2 ≠ b86 := Nat.ne_of_lt (Nat.lt_of_lt_of_le c13.lt (Nat.le_of_eq g86.symm))
      have ne_u3_b86 : u3 ≠ b86 := Nat.ne_of_lt (Nat.lt_of_lt_of_le c16.lt (Nat.le_of_eq g86.symm))
      have ne_u4_b86 : u4 ≠ b86 := Nat.ne_of_lt (Nat.lt_of_lt_of_le c17.lt (Nat.le_of_eq g86.symm))
      have ne_u8_b86 : u8 ≠ b86 := Nat.ne_of_lt (Nat.lt_of_lt_of_le f7_0.lt (Nat.le_of_eq g86.symm))
      have g_b86 : n0 ≤ b86 := Nat.le_trans (Nat.le_of_eq O7.1.symm) (Nat.le_trans O7.2.1 (Nat.le_of_eq g86.symm))
      have O86 := O7.ext E86
      have V86 : Arv Z h86 b86 k86 .double (4 : Int32) [(.double (FP.l2d (0 : Int64))), (.double (FP.l2d (0 : Int64))), (.double (FP.l2d (0 : Int64))), (.double (FP.l2d (0 : Int64)))] (.double (FP.l2d (0 : Int64))) := (Arv.newD A86 (by decide)).pad (pad_rep [] (.double (FP.l2d (0 : Int64))) 4)
      obtain ⟨cla87, Ara87, qa87, Sa87, Za87, Ha87, Ga87⟩ := id V86
      have hin88 : ¬ ((0 : Int32) < 0 ∨ cla87.slots.size ≤ ((0 : Int32)).toNatClampNeg) := inb_of Sa87 ⟨by decide, by decide⟩
      obtain ⟨T89, h89, X89, e89, W89, st89⟩ := stD X86 hx hZ e86 Ara87 (j := (0 : Int32)) hin88 (g := (mkF m 149 #[.val (.int p0), .val (.int p1), .val (.int p2), .val (.ref u2), .val (.ref u8), .val (.int (1 : Int32)), .val (.int (2 : Int32)), .val (.int (p2 &&& (65535 : Int32))), .unset, .unset] [(.double (FP.l2d ((p2 &&& (65535 : Int32)).toInt64))), (.int (0 : Int32)), (.ref b86), (.ref b86)])) rfl rfl (hb hby at_149)
      have O89 := O86.wr W89 g_b86
      have N89 := Fr.snoc X89 N20 g_b86
      have V89 : Arv Z h89 b86 k86 .double (4 : Int32) [(.double (FP.l2d ((p2 &&& (65535 : Int32)).toInt64))), (.double (FP.l2d (0 : Int64))), (.double (FP.l2d (0 : Int64))), (.double (FP.l2d (0 : Int64)))] (.double (FP.l2d (0 : Int64))) := Arv.set Ara87 qa87 Sa87 Za87 Ha87 Ga87 rfl W89 0 rfl (Nat.le_of_ble_eq_true rfl)
      obtain ⟨cla90, Ara90, qa90, Sa90, Za90, Ha90, Ga90⟩ := id V89
      have hin91 : ¬ ((1 : Int32) < 0 ∨ cla90.slots.size ≤ ((1 : Int32)).toNatClampNeg) := inb_of Sa90 ⟨by decide, by decide⟩
      obtain ⟨T92, h92, X92, e92, W92, st92⟩ := stD X89 hx hZ e89 Ara90 (j := (1 : Int32)) hin91 (g := (mkF m 157 #[.val (.int p0), .val (.int p1), .val (.int p2), .val (.ref u2), .val (.ref u8), .val (.int (1 : Int32)), .val (.int (2 : Int32)), .val (.int (p2 &&& (65535 : Int32))), .unset, .unset] [(.double (FP.l2d (((p2 &&& (65535 : Int32)) + (1 : Int32)).toInt64))), (.int (1 : Int32)), (.ref b86), (.ref b86)])) rfl rfl (hb hby at_157)
      have O92 := O89.wr W92 g_b86
      have N92 := Fr.snoc X92 N89 g_b86
      have V92 : Arv Z h92 b86 k86 .double (4 : Int32) [(.double (FP.l2d ((p2 &&& (65535 : Int32)).toInt64))), (.double (FP.l2d (((p2 &&& (65535 : Int32)) + (1 : Int32)).toInt64))), (.double (FP.l2d (0 : Int64))), (.double (FP.l2d (0 : Int64)))] (.double (FP.l2d (0 : Int64))) := Arv.set Ara90 qa90 Sa90 Za90 Ha90 Ga90 rfl W92 1 rfl (Nat.le_of_ble_eq_true rfl)
      obtain ⟨cla93, Ara93, qa93, Sa93, Za93, Ha93, Ga93⟩ := id V92
      have hin94 : ¬ ((2 : Int32) < 0 ∨ cla93.slots.size ≤ ((2 : Int32)).toNatClampNeg) := inb_of Sa93 ⟨by decide, by decide⟩
      obtain ⟨T95, h95, X95, e95, W95, st95⟩ := stD X92 hx hZ e92 Ara93 (j := (2 : Int32)) hin94 (g := (mkF m 165 #[.val (.int p0), .val (.int p1), .val (.int p2), .val (.ref u2), .val (.ref u8), .val (.int (1 : Int32)), .val (.int (2 : Int32)), .val (.int (p2 &&& (65535 : Int32))), .unset, .unset] [(.double (FP.l2d (((p2 &&& (65535 : Int32)) + (2 : Int32)).toInt64))), (.int (2 : Int32)), (.ref b86), (.ref b86)])) rfl rfl (hb hby at_165)
      have O95 := O92.wr W95 g_b86
      have N95 := Fr.snoc X95 N92 g_b86
      have V95 : Arv Z h95 b86 k86 .double (4 : Int32) [(.double (FP.l2d ((p2 &&& (65535 : Int32)).toInt64))), (.double (FP.l2d (((p2 &&& (65535 : Int32)) + (1 : Int32)).toInt64))), (.double (FP.l2d (((p2 &&& (65535 : Int32)) + (2 : Int32)).toInt64))), (.double (FP.l2d (0 : Int64)))] (.double (FP.l2d (0 : Int64))) := Arv.set Ara93 qa93 Sa93 Za93 Ha93 Ga93 rfl W95 2 rfl (Nat.le_of_ble_eq_true rfl)
      obtain ⟨cla96, Ara96, qa96, Sa96, Za96, Ha96, Ga96⟩ := id V95
      have hin97 : ¬ ((3 : Int32) < 0 ∨ cla96.slots.size ≤ ((3 : Int32)).toNatClampNeg) := inb_of Sa96 ⟨by decide, by decide⟩
      obtain ⟨T98, h98, X98, e98, W98, st98⟩ := stD X95 hx hZ e95 Ara96 (j := (3 : Int32)) hin97 (g := (mkF m 173 #[.val (.int p0), .val (.int p1), .val (.int p2), .val (.ref u2), .val (.ref u8), .val (.int (1 : Int32)), .val (.int (2 : Int32)), .val (.int (p2 &&& (65535 : Int32))), .unset, .unset] [(.double (FP.l2d (((p2 &&& (65535 : Int32)) + (3 : Int32)).toInt64))), (.int (3 : Int32)), (.ref b86), (.ref b86)])) rfl rfl (hb hby at_173)
      have O98 := O95.wr W98 g_b86
      have N98 := Fr.snoc X98 N95 g_b86
      have V98 : Arv Z h98 b86 k86 .double (4 : Int32) [(.double (FP.l2d ((p2 &&& (65535 : Int32)).toInt64))), (.double (FP.l2d (((p2 &&& (65535 : Int32)) + (1 : Int32)).toInt64))), (.double (FP.l2d (((p2 &&& (65535 : Int32)) + (2 : Int32)).toInt64))), (.double (FP.l2d (((p2 &&& (65535 : Int32)) + (3 : Int32)).toInt64)))] (.double (FP.l2d (0 : Int64))) := Arv.set Ara96 qa96 Sa96 Za96 Ha96 Ga96 rfl W98 3 rfl (Nat.le_of_ble_eq_true rfl)
      obtain ⟨_, _, ⟨T99, L99, k99, n99⟩, -, X99, ⟨Lc99, hQ99, l99, y99, z99⟩, st99⟩ := Jvm.LawKit.callS X98 hx (y := (⟨"com/example/odds_on_axioms/oddsonaxioms/aleatoric/Distribution", "certain", "(I)Lcom/example/odds_on_axioms/oddsonaxioms/aleatoric/Distribution;"⟩ : MethodName)) hown (mvT hZ (hw _ (List.mem_of_getElem? (i := 0) rfl))) (mvT hZ (hw _ (List.mem_of_getElem? (i := 1) rfl))) (mvT hZ (hw _ (List.mem_of_getElem? (i := 2) rfl))) (mvT hZ (hw _ (List.mem_of_getElem? (i := 3) rfl))) (by decide) (backOf (W := 0) (rm1 l Z a0 hw [] (2 : Int32) h98 n0 O98 ) hZ (hw _ (List.mem_of_getElem? (i := 3) rfl)) (hw _ (List.mem_of_getElem? (i := 2) rfl)) (by decide) (by decide)) (g := (mkF m 178 #[.val (.int p0), .val (.int p1), .val (.int p2), .val (.ref u2), .val (.ref u8), .val (.int (1 : Int32)), .val (.int (2 : Int32)), .val (.int (p2 &&& (65535 : Int32))), .val (.ref b86), .unset] [(.int (2 : Int32))])) rfl (by rw [hml]; rfl) (argsL := [(.int (2 : Int32))]) (rest := []) (lenOf pd_rm0_0 rfl) rfl (by show 2 * 0 + _ ≤ _; exact Nat.le_of_eq rfl) (hb hby at_178) (fun _ _ => ⟨rfl, e98, (by decide : 5 + 3 ≤ _), (by decide : 9 + 4 ≤ _)⟩)
      dsimp only [Pt.U, Pt.locs, Pt.cells, Pt.slots] at X99 l99 y99 z99 st99 hQ99
      subst l99 y99 z99
      obtain ⟨u100, u101, u102, u103, u104, rfl, Nq99, Kc99, f99_0, f99_1, f99_2, f99_3, f99_4, f99_5, f99_6, f99_7, f99_8⟩ := hQ99
      have N99 := Fr.app N98 Nq99
      have c105 : Exa Z h98 u2 "com/example/odds_on_axioms/oddsonaxioms/aleatoric/Distribution" := (((((c13.ext E86).wr W89).wr W92).wr W95).wr W98)
      have ne_u2_u100 : u2 ≠ u100 := Nat.ne_of_lt (Nat.lt_of_lt_of_le c105.lt f99_6)
      have c106 : Arv Z h98 u3 u5 .int (1 : Int32) [(.int p0)] (.int (0 : Int32)) := (((((c16.ext E86).other W89 ne_u3_b86).other W92 ne_u3_b86).other W95 ne_u3_b86).other W98 ne_u3_b86)
      have ne_u3_u100 : u3 ≠ u100 := Nat.ne_of_lt (Nat.lt_of_lt_of_le c106.lt f99_6)
      have c107 : Arv Z h98 u4 u6 .double (1 : Int32) [(.double (FP.l2d (1 : Int64)))] (.double (FP.l2d (0 : Int64))) := (((((c17.ext E86).other W89 ne_u4_b86).other W92 ne_u4_b86).other W95 ne_u4_b86).other W98 ne_u4_b86)
      have ne_u4_u100 : u4 ≠ u100 := Nat.ne_of_lt (Nat.lt_of_lt_of_le c107.lt f99_6)
      have c108 : Arv Z h98 u8 u9 .int (1 : Int32) [(.int p0)] (.int (0 : Int32)) := (((((f7_0.ext E86).other W89 ne_u8_b86).other W92 ne_u8_b86).other W95 ne_u8_b86).other W98 ne_u8_b86)
      have ne_u8_u100 : u8 ≠ u100 := Nat.ne_of_lt (Nat.lt_of_lt_of_le c108.lt f99_6)
      have ne_b86_u100 : b86 ≠ u100 := Nat.ne_of_lt (Nat.lt_of_lt_of_le V98.lt f99_6)
      have ne_u2_u101 : u2 ≠ u101 := Nat.ne_of_lt (Nat.lt_of_lt_of_le c105.lt f99_7)
      have ne_u3_u101 : u3 ≠ u101 := Nat.ne_of_lt (Nat.lt_of_lt_of_le c106.lt f99_7)
      have ne_u4_u101 : u4 ≠ u101 := Nat.ne_of_lt (Nat.lt_of_lt_of_le c107.lt f99_7)
      have ne_u8_u101 : u8 ≠ u101 := Nat.ne_of_lt (Nat.lt_of_lt_of_le c108.lt f99_7)
      have ne_b86_u101 : b86 ≠ u101 := Nat.ne_of_lt (Nat.lt_of_lt_of_le V98.lt f99_7)
      have ne_u2_u102 : u2 ≠ u102 := Nat.ne_of_lt (Nat.lt_of_lt_of_le c105.lt f99_8)
      have ne_u3_u102 : u3 ≠ u102 := Nat.ne_of_lt (Nat.lt_of_lt_of_le c106.lt f99_8)
      have ne_u4_u102 : u4 ≠ u102 := Nat.ne_of_lt (Nat.lt_of_lt_of_le c107.lt f99_8)
      have ne_u8_u102 : u8 ≠ u102 := Nat.ne_of_lt (Nat.lt_of_lt_of_le c108.lt f99_8)
      have ne_b86_u102 : b86 ≠ u102 := Nat.ne_of_lt (Nat.lt_of_lt_of_le V98.lt f99_8)
      have g_u100 : n0 ≤ u100 := Nat.le_trans (Nat.le_of_eq O98.1.symm) (Nat.le_trans O98.2.1 f99_6)
      have g_u101 : n0 ≤ u101 := Nat.le_trans (Nat.le_of_eq O98.1.symm) (Nat.le_trans O98.2.1 f99_7)
      have g_u102 : n0 ≤ u102 := Nat.le_trans (Nat.le_of_eq O98.1.symm) (Nat.le_trans O98.2.1 f99_8)
      have O99 := O98.keep Kc99 all0
      have c109 : Arv Z T99.heap b86 k86 .double (4 : Int32) [(.double (FP.l2d ((p2 &&& (65535 : Int32)).toInt64))), (.double (FP.l2d (((p2 &&& (65535 : Int32)) + (1 : Int32)).toInt64))), (.double (FP.l2d (((p2 &&& (65535 : Int32)) + (2 : Int32)).toInt64))), (.double (FP.l2d (((p2 &&& (65535 : Int32)) + (3 : Int32)).toInt64)))] (.double (FP.l2d (0 : Int64))) := (V98.keep Kc99 nin0)
      obtain ⟨T110, L110, X110, e110, N110, st110⟩ := own_callVP X99 hx hZ hown (wk45 hw) (wk46 hw) (wk48 hw) (wk47 hw) (by decide) (wk2 hw) (wk49 hw) (rmex2 l Z a0 hw [] u100 b86 u101 u102 u103 u104 k86 ((p2 &&& (65535 : Int32)).toInt64) (((p2 &&& (65535 : Int32)) + (1 : Int32)).toInt64) (((p2 &&& (65535 : Int32)) + (2 : Int32)).toInt64) (((p2 &&& (65535 : Int32)) + (3 : Int32)).toInt64) T99.heap n0 O99 f99_0 f99_1 f99_2 f99_3 f99_5 c109 (own_rng2 p2)) (rfl : T99.heap = T99.heap) N99 (W := 0) (by decide) (by decide) (by decide) (by decide) f99_0 (g := (mkF m 192 #[.val (.int p0), .val (.int p1), .val (.int p2), .val (.ref u2), .val (.ref u8), .val (.int (1 : Int32)), .val (.int (2 : Int32)), .val (.int (p2 &&& (65535 : Int32))), .val (.ref b86), .val (.ref u100)] [(.ref b86), (.ref u100)])) rfl (by rw [hml]; rfl) (argsL := [(.ref b86)]) (rest := []) (lenOf pd_rm0_3 rfl) rfl (by show 2 * 0 + _ ≤ _; exact Nat.le_of_eq rfl) (hb hby at_192)
      obtain ⟨cla111, Ara111, qa111, Sa111, Za111, Ha111, Ga111⟩ := id c109
      have hin112 : ¬ ((2 : Int32) < 0 ∨ cla111.slots.size ≤ ((2 : Int32)).toNatClampNeg) := inb_of Sa111 ⟨by decide, by decide⟩
      have hat113 : cla111.slots[((2 : Int32)).toNatClampNeg]? = some (.double (FP.l2d (((p2 &&& (65535 : Int32)) + (2 : Int32)).toInt64))) := Has.at Ha111 hin112 rfl
      have s114 : Steps p.tables e below A₀ (T110.setTop (mkF m 213 #[.val (.int p0), .val (.int p1), .val (.int p2), .val (.ref u2), .val (.ref u8), .val (.int (1 : Int32)), .val (.int (2 : Int32)), .val (.int (p2 &&& (65535 : Int32))), .val (.ref b86), .val (.ref u100)] [(.int (1 : Int32))])) := by
        refine s85.trans ?_
        refine XS.istore X20.here hx rfl (hb hby at_133) rfl (l' := #[.val (.int p0), .val (.int p1), .val (.int p2), .val (.ref u2), .val (.ref u8), .val (.int (1 : Int32)), .val (.int (2 : Int32)), .unset, .unset, .unset]) rfl ?_
        refine XS.iloadN X20.here hx rfl (hb hby at_135) rfl ?_
        refine X20.ldcInt hx hown (mvT hZ (hw _ (List.mem_of_getElem? (i := 44) rfl))) (g := (mkF m 136 #[.val (.int p0), .val (.int p1), .val (.int p2), .val (.ref u2), .val (.ref u8), .val (.int (1 : Int32)), .val (.int (2 : Int32)), .unset, .unset, .unset] [(.int p2)])) rfl (hb hby at_136) _ ?_
        refine XS.iand X20.here hx rfl (hb hby at_138) rfl ?_
        refine XS.istore X20.here hx rfl (hb hby at_139) rfl (l' := #[.val (.int p0), .val (.int p1), .val (.int p2), .val (.ref u2), .val (.ref u8), .val (.int (1 : Int32)), .val (.int (2 : Int32)), .val (.int (p2 &&& (65535 : Int32))), .unset, .unset]) rfl ?_
        refine XS.iconst X20.here hx rfl (hb hby at_141) ?_
        refine st86 _ ?_
        refine XS.dup X86.here hx rfl (hb hby at_144) rfl rfl ?_
        show Steps p.tables e below (T86.setTop (mkF m 145 #[.val (.int p0), .val (.int p1), .val (.int p2), .val (.ref u2), .val (.ref u8), .val (.int (1 : Int32)), .val (.int (2 : Int32)), .val (.int (p2 &&& (65535 : Int32))), .unset, .unset] [(.ref b86), (.ref b86)])) _
        refine XS.iconst X86.here hx rfl (hb hby at_145) ?_
        refine XS.iload X86.here hx rfl (hb hby at_146) rfl ?_
        refine XS.i2dS X86.here hx rfl (hb hby at_148) rfl (i2d_w _) ?_
        refine st89 _ ?_
        refine XS.dup X89.here hx rfl (hb hby at_150) rfl rfl ?_
        refine XS.iconst X89.here hx rfl (hb hby at_151) ?_
        refine XS.iload X89.here hx rfl (hb hby at_152) rfl ?_
        refine XS.iconst X89.here hx rfl (hb hby at_154) ?_
        refine XS.iadd X89.here hx rfl (hb hby at_155) rfl ?_
        refine XS.i2dS X89.here hx rfl (hb hby at_156) rfl (i2d_w _) ?_
        show Steps p.tables e below (T89.setTop (mkF m 157 #[.val (.int p0), .val (.int p1), .val (.int p2), .val (.ref u2), .val (.ref u8), .val (.int (1 : Int32)), .val (.int (2 : Int32)), .val (.int (p2 &&& (65535 : Int32))), .unset, .unset] [(.double (FP.l2d (((p2 &&& (65535 : Int32)) + (1 : Int32)).toInt64))), (.int (1 : Int32)), (.ref b86), (.ref b86)])) _
        refine st92 _ ?_
        refine XS.dup X92.here hx rfl (hb hby at_158) rfl rfl ?_
        refine XS.iconst X92.here hx rfl (hb hby at_159) ?_
        refine XS.iload X92.here hx rfl (hb hby at_160) rfl ?_
        refine XS.iconst X92.here hx rfl (hb hby at_162) ?_
        refine XS.iadd X92.here hx rfl (hb hby at_163) rfl ?_
        refine XS.i2dS X92.here hx rfl (hb hby at_164) rfl (i2d_w _) ?_
        refine st95 _ ?_
        refine XS.dup X95.here hx rfl (hb hby at_166) rfl rfl ?_
        refine XS.iconst X95.here hx rfl (hb hby at_167) ?_
        show Steps p.tables e below (T95.setTop (mkF m 168 #[.val (.int p0), .val (.int p1), .val (.int p2), .val (.ref u2), .val (.ref u8), .val (.int (1 : Int32)), .val (.int (2 : Int32)), .val (.int (p2 &&& (65535 : Int32))), .unset, .unset] [(.int (3 : Int32)), (.ref b86), (.ref b86)])) _
        refine XS.iload X95.here hx rfl (hb hby at_168) rfl ?_
        refine XS.iconst X95.here hx rfl (hb hby at_170) ?_
        refine XS.iadd X95.here hx rfl (hb hby at_171) rfl ?_
        refine XS.i2dS X95.here hx rfl (hb hby at_172) rfl (i2d_w _) ?_
        refine st98 _ ?_
        refine XS.astore X98.here hx rfl (hb hby at_174) rfl rfl (l' := #[.val (.int p0), .val (.int p1), .val (.int p2), .val (.ref u2), .val (.ref u8), .val (.int (1 : Int32)), .val (.int (2 : Int32)), .val (.int (p2 &&& (65535 : Int32))), .val (.ref b86), .unset]) rfl ?_
        refine XS.iload X98.here hx rfl (hb hby at_176) rfl ?_
        refine st99 _ ?_
        refine XS.astore X99.here hx rfl (hb hby at_181) rfl rfl (l' := #[.val (.int p0), .val (.int p1), .val (.int p2), .val (.ref u2), .val (.ref u8), .val (.int (1 : Int32)), .val (.int (2 : Int32)), .val (.int (p2 &&& (65535 : Int32))), .val (.ref b86), .val (.ref u100)]) rfl ?_
        refine XS.iload X99.here hx rfl (hb hby at_183) rfl ?_
        show Steps p.tables e below (T99.setTop (mkF m 185 #[.val (.int p0), .val (.int p1), .val (.int p2), .val (.ref u2), .val (.ref u8), .val (.int (1 : Int32)), .val (.int (2 : Int32)), .val (.int (p2 &&& (65535 : Int32))), .val (.ref b86), .val (.ref u100)] [(.int (1 : Int32))])) _
        refine XS.ifNo X99.here hx rfl (hb hby at_185) rfl ((if0 _ _).trans (feq (by decide)).1) ?_
        refine XS.aload X99.here hx rfl (hb hby at_188) rfl rfl ?_
        refine XS.aload X99.here hx rfl (hb hby at_190) rfl rfl ?_
        refine st110 _ ?_
        refine XS.aload X110.here hx rfl (hb hby at_195) rfl rfl ?_
        refine XS.iload X110.here hx rfl (hb hby at_197) rfl ?_
        refine X110.daload hx (j := (2 : Int32)) (v := (.double (FP.l2d (((p2 &&& (65535 : Int32)) + (2 : Int32)).toInt64)))) (by rw [e110]; exact Ara111.1) (State.isArrayOf_alike hZ.alike Ara111.2.1) Ara111.2.2 hin112 hat113 (g := (mkF m 199 #[.val (.int p0), .val (.int p1), .val (.int p2), .val (.ref u2), .val (.ref u8), .val (.int (1 : Int32)), .val (.int (2 : Int32)), .val (.int (p2 &&& (65535 : Int32))), .val (.ref b86), .val (.ref u100)] [(.int (2 : Int32)), (.ref b86), (.double (FP.l2d (((p2 &&& (65535 : Int32)) + (2 : Int32)).toInt64)))])) rfl rfl (hb hby at_199) _ ?_
        refine XS.dcmpS X110.here hx rfl (hb hby at_200) rfl (dcmpV_self (nn_w rfl) _) ?_
        refine XS.ifNo X110.here hx rfl (hb hby at_201) rfl ((if0 _ _).trans (teq (by decide)).2) ?_
        refine XS.iconst X110.here hx rfl (hb hby at_204) ?_
        show Steps p.tables e below (T110.setTop (mkF m 205 #[.val (.int p0), .val (.int p1), .val (.int p2), .val (.ref u2), .val (.ref u8), .val (.int (1 : Int32)), .val (.int (2 : Int32)), .val (.int (p2 &&& (65535 : Int32))), .val (.ref b86), .val (.ref u100)] [(.int (1 : Int32))])) _
        refine XS.goto X110.here hx rfl (pc0 := 205) (pc' := 209) rfl (hb hby at_205) (by decide) (by decide) ?_
        refine XS.istore X110.here hx rfl (hb hby at_209) rfl (l' := #[.val (.int p0), .val (.int p1), .val (.int p2), .val (.ref u2), .val (.ref u8), .val (.int (1 : Int32)), .val (.int (2 : Int32)), .val (.int (p2 &&& (65535 : Int32))), .val (.ref b86), .val (.ref u100)]) rfl ?_
        refine XS.iload X110.here hx rfl (hb hby at_211) rfl ?_
        exact Steps.refl _
      subst hA₀
      obtain ⟨fs, hr, hrun, hended, hW, hsame⟩ := X110.leave (v := some (.int (1 : Int32))) (fun h => by rw [Bd.returns] at h; cases h)
      refine ⟨_, _, s114.trans ?_, hrun, hended, _, _, rfl, ?_, ⟨_, rfl⟩, hW, hsame.mono (by decide) (by decide)⟩
      · show Steps p.tables e below (T110.setTop (mkF m 213 #[.val (.int p0), .val (.int p1), .val (.int p2), .val (.ref u2), .val (.ref u8), .val (.int (1 : Int32)), .val (.int (2 : Int32)), .val (.int (p2 &&& (65535 : Int32))), .val (.ref b86), .val (.ref u100)] [(.int (1 : Int32))])) _
        exact retN X110 hx (t := .boolean) Bd.returns (by simp) (hb hby at_213) hr
      · show Q0 Z p0 p1 p2 h0 n0 _ T110.heap _
        rw [e110]
        exact ⟨rfl, N110⟩
    · have s115 := s23
      rw [hk24] at s115
      obtain ⟨T116, h116, k116, X116, e116, E116, A116, st116⟩ := newP X20 hx hZ (hw _ (List.mem_of_getElem? (i := 7) rfl)) e20 (g := (mkF m 142 #[.val (.int p0), .val (.int p1), .val (.int p2), .val (.ref u2), .val (.ref u8), .val (.int (1 : Int32)), .val (.int (3 : Int32)), .val (.int (p2 &&& (65535 : Int32))), .unset, .unset] [(.int (4 : Int32))])) rfl (hb hby at_142) rfl (by decide) (cap := 4) (by decide) (by decide) (by decide) (by decide)
      obtain ⟨b116, g116⟩ : ∃ z, z = T7.heap.size := ⟨_, rfl⟩
      rw [← g116] at A116 st116
      have ne_u2_b116 : u2 ≠ b116 := Nat.ne_of_lt (Nat.lt_of_lt_of_le c13.lt (Nat.le_of_eq g116.symm))
      have ne_u3_b116 : u3 ≠ b116 := Nat.ne_of_lt (Nat.lt_of_lt_of_le c16.lt (Nat.le_of_eq g116.symm))
      have ne_u4_b116 : u4 ≠ b116 := Nat.ne_of_lt (Nat.lt_of_lt_of_le c17.lt (Nat.le_of_eq g116.symm))
      have ne_u8_b116 : u8 ≠ b116 := Nat.ne_of_lt (Nat.lt_of_lt_of_le f7_0.lt (Nat.le_of_eq g116.symm))
      have g_b116 : n0 ≤ b116 := Nat.le_trans (Nat.le_of_eq O7.1.symm) (Nat.le_trans O7.2.1 (Nat.le_of_eq g116.symm))
      have O116 := O7.ext E116
      have V116 : Arv Z h116 b116 k116 .double (4 : Int32) [(.double (FP.l2d (0 : Int64))), (.double (FP.l2d (0 : Int64))), (.double (FP.l2d (0 : Int64))), (.double (FP.l2d (0 : Int64)))] (.double (FP.l2d (0 : Int64))) := (Arv.newD A116 (by decide)).pad (pad_rep [] (.double (FP.l2d (0 : Int64))) 4)
      obtain ⟨cla117, Ara117, qa117, Sa117, Za117, Ha117, Ga117⟩ := id V116
      have hin118 : ¬ ((0 : Int32) < 0 ∨ cla117.slots.size ≤ ((0 : Int32)).toNatClampNeg) := inb_of Sa117 ⟨by decide, by decide⟩
      obtain ⟨T119, h119, X119, e119, W119, st119⟩ := stD X116 hx hZ e116 Ara117 (j := (0 : Int32)) hin118 (g := (mkF m 149 #[.val (.int p0), .val (.int p1), .val (.int p2), .val (.ref u2), .val (.ref u8), .val (.int (1 : Int32)), .val (.int (3 : Int32)), .val (.int (p2 &&& (65535 : Int32))), .unset, .unset] [(.double (FP.l2d ((p2 &&& (65535 : Int32)).toInt64))), (.int (0 : Int32)), (.ref b116), (.ref b116)])) rfl rfl (hb hby at_149)
      have O119 := O116.wr W119 g_b116
      have N119 := Fr.snoc X119 N20 g_b116
      have V119 : Arv Z h119 b116 k116 .double (4 : Int32) [(.double (FP.l2d ((p2 &&& (65535 : Int32)).toInt64))), (.double (FP.l2d (0 : Int64))), (.double (FP.l2d (0 : Int64))), (.double (FP.l2d (0 : Int64)))] (.double (FP.l2d (0 : Int64))) := Arv.set Ara117 qa117 Sa117 Za117 Ha117 Ga117 rfl W119 0 rfl (Nat.le_of_ble_eq_true rfl)
      obtain ⟨cla120, Ara120, qa120, Sa120, Za120, Ha120, Ga120⟩ := id V119
      have hin121 : ¬ ((1 : Int32) < 0 ∨ cla120.slots.size ≤ ((1 : Int32)).toNatClampNeg) := inb_of Sa120 ⟨by decide, by decide⟩
      obtain ⟨T122, h122, X122, e122, W122, st122⟩ := stD X119 hx hZ e119 Ara120 (j := (1 : Int32)) hin121 (g := (mkF m 157 #[.val (.int p0), .val (.int p1), .val (.int p2), .val (.ref u2), .val (.ref u8), .val (.int (1 : Int32)), .val (.int (3 : Int32)), .val (.int (p2 &&& (65535 : Int32))), .unset, .unset] [(.double (FP.l2d (((p2 &&& (65535 : Int32)) + (1 : Int32)).toInt64))), (.int (1 : Int32)), (.ref b116), (.ref b116)])) rfl rfl (hb hby at_157)
      have O122 := O119.wr W122 g_b116
      have N122 := Fr.snoc X122 N119 g_b116
      have V122 : Arv Z h122 b116 k116 .double (4 : Int32) [(.double (FP.l2d ((p2 &&& (65535 : Int32)).toInt64))), (.double (FP.l2d (((p2 &&& (65535 : Int32)) + (1 : Int32)).toInt64))), (.double (FP.l2d (0 : Int64))), (.double (FP.l2d (0 : Int64)))] (.double (FP.l2d (0 : Int64))) := Arv.set Ara120 qa120 Sa120 Za120 Ha120 Ga120 rfl W122 1 rfl (Nat.le_of_ble_eq_true rfl)
      obtain ⟨cla123, Ara123, qa123, Sa123, Za123, Ha123, Ga123⟩ := id V122
      have hin124 : ¬ ((2 : Int32) < 0 ∨ cla123.slots.size ≤ ((2 : Int32)).toNatClampNeg) := inb_of Sa123 ⟨by decide, by decide⟩
      obtain ⟨T125, h125, X125, e125, W125, st125⟩ := stD X122 hx hZ e122 Ara123 (j := (2 : Int32)) hin124 (g := (mkF m 165 #[.val (.int p0), .val (.int p1), .val (.int p2), .val (.ref u2), .val (.ref u8), .val (.int (1 : Int32)), .val (.int (3 : Int32)), .val (.int (p2 &&& (65535 : Int32))), .unset, .unset] [(.double (FP.l2d (((p2 &&& (65535 : Int32)) + (2 : Int32)).toInt64))), (.int (2 : Int32)), (.ref b116), (.ref b116)])) rfl rfl (hb hby at_165)
      have O125 := O122.wr W125 g_b116
      have N125 := Fr.snoc X125 N122 g_b116
      have V125 : Arv Z h125 b116 k116 .double (4 : Int32) [(.double (FP.l2d ((p2 &&& (65535 : Int32)).toInt64))), (.double (FP.l2d (((p2 &&& (65535 : Int32)) + (1 : Int32)).toInt64))), (.double (FP.l2d (((p2 &&& (65535 : Int32)) + (2 : Int32)).toInt64))), (.double (FP.l2d (0 : Int64)))] (.double (FP.l2d (0 : Int64))) := Arv.set Ara123 qa123 Sa123 Za123 Ha123 Ga123 rfl W125 2 rfl (Nat.le_of_ble_eq_true rfl)
      obtain ⟨cla126, Ara126, qa126, Sa126, Za126, Ha126, Ga126⟩ := id V125
      have hin127 : ¬ ((3 : Int32) < 0 ∨ cla126.slots.size ≤ ((3 : Int32)).toNatClampNeg) := inb_of Sa126 ⟨by decide, by decide⟩
      obtain ⟨T128, h128, X128, e128, W128, st128⟩ := stD X125 hx hZ e125 Ara126 (j := (3 : Int32)) hin127 (g := (mkF m 173 #[.val (.int p0), .val (.int p1), .val (.int p2), .val (.ref u2), .val (.ref u8), .val (.int (1 : Int32)), .val (.int (3 : Int32)), .val (.int (p2 &&& (65535 : Int32))), .unset, .unset] [(.double (FP.l2d (((p2 &&& (65535 : Int32)) + (3 : Int32)).toInt64))), (.int (3 : Int32)), (.ref b116), (.ref b116)])) rfl rfl (hb hby at_173)
      have O128 := O125.wr W128 g_b116
      have N128 := Fr.snoc X128 N125 g_b116
      have V128 : Arv Z h128 b116 k116 .double (4 : Int32) [(.double (FP.l2d ((p2 &&& (65535 : Int32)).toInt64))), (.double (FP.l2d (((p2 &&& (65535 : Int32)) + (1 : Int32)).toInt64))), (.double (FP.l2d (((p2 &&& (65535 : Int32)) + (2 : Int32)).toInt64))), (.double (FP.l2d (((p2 &&& (65535 : Int32)) + (3 : Int32)).toInt64)))] (.double (FP.l2d (0 : Int64))) := Arv.set Ara126 qa126 Sa126 Za126 Ha126 Ga126 rfl W128 3 rfl (Nat.le_of_ble_eq_true rfl)
      obtain ⟨_, _, ⟨T129, L129, k129, n129⟩, -, X129, ⟨Lc129, hQ129, l129, y129, z129⟩, st129⟩ := Jvm.LawKit.callS X128 hx (y := (⟨"com/example/odds_on_axioms/oddsonaxioms/aleatoric/Distribution", "certain", "(I)Lcom/example/odds_on_axioms/oddsonaxioms/aleatoric/Distribution;"⟩ : MethodName)) hown (mvT hZ (hw _ (List.mem_of_getElem? (i := 0) rfl))) (mvT hZ (hw _ (List.mem_of_getElem? (i := 1) rfl))) (mvT hZ (hw _ (List.mem_of_getElem? (i := 2) rfl))) (mvT hZ (hw _ (List.mem_of_getElem? (i := 3) rfl))) (by decide) (backOf (W := 0) (rm1 l Z a0 hw [] (3 : Int32) h128 n0 O128 ) hZ (hw _ (List.mem_of_getElem? (i := 3) rfl)) (hw _ (List.mem_of_getElem? (i := 2) rfl)) (by decide) (by decide)) (g := (mkF m 178 #[.val (.int p0), .val (.int p1), .val (.int p2), .val (.ref u2), .val (.ref u8), .val (.int (1 : Int32)), .val (.int (3 : Int32)), .val (.int (p2 &&& (65535 : Int32))), .val (.ref b116), .unset] [(.int (3 : Int32))])) rfl (by rw [hml]; rfl) (argsL := [(.int (3 : Int32))]) (rest := []) (lenOf pd_rm0_0 rfl) rfl (by show 2 * 0 + _ ≤ _; exact Nat.le_of_eq rfl) (hb hby at_178) (fun _ _ => ⟨rfl, e128, (by decide : 5 + 3 ≤ _), (by decide : 9 + 4 ≤ _)⟩)
      dsimp only [Pt.U, Pt.locs, Pt.cells, Pt.slots] at X129 l129 y129 z129 st129 hQ129
      subst l129 y129 z129
      obtain ⟨u130, u131, u132, u133, u134, rfl, Nq129, Kc129, f129_0, f129_1, f129_2, f129_3, f129_4, f129_5, f129_6, f129_7, f129_8⟩ := hQ129
      have N129 := Fr.app N128 Nq129
      have c135 : Exa Z h128 u2 "com/example/odds_on_axioms/oddsonaxioms/aleatoric/Distribution" := (((((c13.ext E116).wr W119).wr W122).wr W125).wr W128)
      have ne_u2_u130 : u2 ≠ u130 := Nat.ne_of_lt (Nat.lt_of_lt_of_le c135.lt f129_6)
      have c136 : Arv Z h128 u3 u5 .int (1 : Int32) [(.int p0)] (.int (0 : Int32)) := (((((c16.ext E116).other W119 ne_u3_b116).other W122 ne_u3_b116).other W125 ne_u3_b116).other W128 ne_u3_b116)
      have ne_u3_u130 : u3 ≠ u130 := Nat.ne_of_lt (Nat.lt_of_lt_of_le c136.lt f129_6)
      have c137 : Arv Z h128 u4 u6 .double (1 : Int32) [(.double (FP.l2d (1 : Int64)))] (.double (FP.l2d (0 : Int64))) := (((((c17.ext E116).other W119 ne_u4_b116).other W122 ne_u4_b116).other W125 ne_u4_b116).other W128 ne_u4_b116)
      have ne_u4_u130 : u4 ≠ u130 := Nat.ne_of_lt (Nat.lt_of_lt_of_le c137.lt f129_6)
      have c138 : Arv Z h128 u8 u9 .int (1 : Int32) [(.int p0)] (.int (0 : Int32)) := (((((f7_0.ext E116).other W119 ne_u8_b116).other W122 ne_u8_b116).other W125 ne_u8_b116).other W128 ne_u8_b116)
      have ne_u8_u130 : u8 ≠ u130 := Nat.ne_of_lt (Nat.lt_of_lt_of_le c138.lt f129_6)
      have ne_b116_u130 : b116 ≠ u130 := Nat.ne_of_lt (Nat.lt_of_lt_of_le V128.lt f129_6)
      have ne_u2_u131 : u2 ≠ u131 := Nat.ne_of_lt (Nat.lt_of_lt_of_le c135.lt f129_7)
      have ne_u3_u131 : u3 ≠ u131 := Nat.ne_of_lt (Nat.lt_of_lt_of_le c136.lt f129_7)
      have ne_u4_u131 : u4 ≠ u131 := Nat.ne_of_lt (Nat.lt_of_lt_of_le c137.lt f129_7)
      have ne_u8_u131 : u8 ≠ u131 := Nat.ne_of_lt (Nat.lt_of_lt_of_le c138.lt f129_7)
      have ne_b116_u131 : b116 ≠ u131 := Nat.ne_of_lt (Nat.lt_of_lt_of_le V128.lt f129_7)
      have ne_u2_u132 : u2 ≠ u132 := Nat.ne_of_lt (Nat.lt_of_lt_of_le c135.lt f129_8)
      have ne_u3_u132 : u3 ≠ u132 := Nat.ne_of_lt (Nat.lt_of_lt_of_le c136.lt f129_8)
      have ne_u4_u132 : u4 ≠ u132 := Nat.ne_of_lt (Nat.lt_of_lt_of_le c137.lt f129_8)
      have ne_u8_u132 : u8 ≠ u132 := Nat.ne_of_lt (Nat.lt_of_lt_of_le c138.lt f129_8)
      have ne_b116_u132 : b116 ≠ u132 := Nat.ne_of_lt (Nat.lt_of_lt_of_le V128.lt f129_8)
      have g_u130 : n0 ≤ u130 := Nat.le_trans (Nat.le_of_eq O128.1.symm) (Nat.le_trans O128.2.1 f129_6)
      have g_u131 : n0 ≤ u131 := Nat.le_trans (Nat.le_of_eq O128.1.symm) (Nat.le_trans O128.2.1 f129_7)
      have g_u132 : n0 ≤ u132 := Nat.le_trans (Nat.le_of_eq O128.1.symm) (Nat.le_trans O128.2.1 f129_8)
      have O129 := O128.keep Kc129 all0
      have c139 : Arv Z T129.heap b116 k116 .double (4 : Int32) [(.double (FP.l2d ((p2 &&& (65535 : Int32)).toInt64))), (.double (FP.l2d (((p2 &&& (65535 : Int32)) + (1 : Int32)).toInt64))), (.double (FP.l2d (((p2 &&& (65535 : Int32)) + (2 : Int32)).toInt64))), (.double (FP.l2d (((p2 &&& (65535 : Int32)) + (3 : Int32)).toInt64)))] (.double (FP.l2d (0 : Int64))) := (V128.keep Kc129 nin0)
      obtain ⟨T140, L140, X140, e140, N140, st140⟩ := own_callVP X129 hx hZ hown (wk45 hw) (wk46 hw) (wk48 hw) (wk47 hw) (by decide) (wk2 hw) (wk49 hw) (rmex3 l Z a0 hw [] u130 b116 u131 u132 u133 u134 k116 ((p2 &&& (65535 : Int32)).toInt64) (((p2 &&& (65535 : Int32)) + (1 : Int32)).toInt64) (((p2 &&& (65535 : Int32)) + (2 : Int32)).toInt64) (((p2 &&& (65535 : Int32)) + (3 : Int32)).toInt64) T129.heap n0 O129 f129_0 f129_1 f129_2 f129_3 f129_5 c139 (own_rng3 p2)) (rfl : T129.heap = T129.heap) N129 (W := 0) (by decide) (by decide) (by decide) (by decide) f129_0 (g := (mkF m 192 #[.val (.int p0), .val (.int p1), .val (.int p2), .val (.ref u2), .val (.ref u8), .val (.int (1 : Int32)), .val (.int (3 : Int32)), .val (.int (p2 &&& (65535 : Int32))), .val (.ref b116), .val (.ref u130)] [(.ref b116), (.ref u130)])) rfl (by rw [hml]; rfl) (argsL := [(.ref b116)]) (rest := []) (lenOf pd_rm0_3 rfl) rfl (by show 2 * 0 + _ ≤ _; exact Nat.le_of_eq rfl) (hb hby at_192)
      obtain ⟨cla141, Ara141, qa141, Sa141, Za141, Ha141, Ga141⟩ := id c139
      have hin142 : ¬ ((3 : Int32) < 0 ∨ cla141.slots.size ≤ ((3 : Int32)).toNatClampNeg) := inb_of Sa141 ⟨by decide, by decide⟩
      have hat143 : cla141.slots[((3 : Int32)).toNatClampNeg]? = some (.double (FP.l2d (((p2 &&& (65535 : Int32)) + (3 : Int32)).toInt64))) := Has.at Ha141 hin142 rfl
      have s144 : Steps p.tables e below A₀ (T140.setTop (mkF m 213 #[.val (.int p0), .val (.int p1), .val (.int p2), .val (.ref u2), .val (.ref u8), .val (.int (1 : Int32)), .val (.int (3 : Int32)), .val (.int (p2 &&& (65535 : Int32))), .val (.ref b116), .val (.ref u130)] [(.int (1 : Int32))])) := by
        refine s115.trans ?_
        refine XS.istore X20.here hx rfl (hb hby at_133) rfl (l' := #[.val (.int p0), .val (.int p1), .val (.int p2), .val (.ref u2), .val (.ref u8), .val (.int (1 : Int32)), .val (.int (3 : Int32)), .unset, .unset, .unset]) rfl ?_
        refine XS.iloadN X20.here hx rfl (hb hby at_135) rfl ?_
        refine X20.ldcInt hx hown (mvT hZ (hw _ (List.mem_of_getElem? (i := 44) rfl))) (g := (mkF m 136 #[.val (.int p0), .val (.int p1), .val (.int p2), .val (.ref u2), .val (.ref u8), .val (.int (1 : Int32)), .val (.int (3 : Int32)), .unset, .unset, .unset] [(.int p2)])) rfl (hb hby at_136) _ ?_
        refine XS.iand X20.here hx rfl (hb hby at_138) rfl ?_
        refine XS.istore X20.here hx rfl (hb hby at_139) rfl (l' := #[.val (.int p0), .val (.int p1), .val (.int p2), .val (.ref u2), .val (.ref u8), .val (.int (1 : Int32)), .val (.int (3 : Int32)), .val (.int (p2 &&& (65535 : Int32))), .unset, .unset]) rfl ?_
        refine XS.iconst X20.here hx rfl (hb hby at_141) ?_
        refine st116 _ ?_
        refine XS.dup X116.here hx rfl (hb hby at_144) rfl rfl ?_
        show Steps p.tables e below (T116.setTop (mkF m 145 #[.val (.int p0), .val (.int p1), .val (.int p2), .val (.ref u2), .val (.ref u8), .val (.int (1 : Int32)), .val (.int (3 : Int32)), .val (.int (p2 &&& (65535 : Int32))), .unset, .unset] [(.ref b116), (.ref b116)])) _
        refine XS.iconst X116.here hx rfl (hb hby at_145) ?_
        refine XS.iload X116.here hx rfl (hb hby at_146) rfl ?_
        refine XS.i2dS X116.here hx rfl (hb hby at_148) rfl (i2d_w _) ?_
        refine st119 _ ?_
        refine XS.dup X119.here hx rfl (hb hby at_150) rfl rfl ?_
        refine XS.iconst X119.here hx rfl (hb hby at_151) ?_
        refine XS.iload X119.here hx rfl (hb hby at_152) rfl ?_
        refine XS.iconst X119.here hx rfl (hb hby at_154) ?_
        refine XS.iadd X119.here hx rfl (hb hby at_155) rfl ?_
        refine XS.i2dS X119.here hx rfl (hb hby at_156) rfl (i2d_w _) ?_
        show Steps p.tables e below (T119.setTop (mkF m 157 #[.val (.int p0), .val (.int p1), .val (.int p2), .val (.ref u2), .val (.ref u8), .val (.int (1 : Int32)), .val (.int (3 : Int32)), .val (.int (p2 &&& (65535 : Int32))), .unset, .unset] [(.double (FP.l2d (((p2 &&& (65535 : Int32)) + (1 : Int32)).toInt64))), (.int (1 : Int32)), (.ref b116), (.ref b116)])) _
        refine st122 _ ?_
        refine XS.dup X122.here hx rfl (hb hby at_158) rfl rfl ?_
        refine XS.iconst X122.here hx rfl (hb hby at_159) ?_
        refine XS.iload X122.here hx rfl (hb hby at_160) rfl ?_
        refine XS.iconst X122.here hx rfl (hb hby at_162) ?_
        refine XS.iadd X122.here hx rfl (hb hby at_163) rfl ?_
        refine XS.i2dS X122.here hx rfl (hb hby at_164) rfl (i2d_w _) ?_
        refine st125 _ ?_
        refine XS.dup X125.here hx rfl (hb hby at_166) rfl rfl ?_
        refine XS.iconst X125.here hx rfl (hb hby at_167) ?_
        show Steps p.tables e below (T125.setTop (mkF m 168 #[.val (.int p0), .val (.int p1), .val (.int p2), .val (.ref u2), .val (.ref u8), .val (.int (1 : Int32)), .val (.int (3 : Int32)), .val (.int (p2 &&& (65535 : Int32))), .unset, .unset] [(.int (3 : Int32)), (.ref b116), (.ref b116)])) _
        refine XS.iload X125.here hx rfl (hb hby at_168) rfl ?_
        refine XS.iconst X125.here hx rfl (hb hby at_170) ?_
        refine XS.iadd X125.here hx rfl (hb hby at_171) rfl ?_
        refine XS.i2dS X125.here hx rfl (hb hby at_172) rfl (i2d_w _) ?_
        refine st128 _ ?_
        refine XS.astore X128.here hx rfl (hb hby at_174) rfl rfl (l' := #[.val (.int p0), .val (.int p1), .val (.int p2), .val (.ref u2), .val (.ref u8), .val (.int (1 : Int32)), .val (.int (3 : Int32)), .val (.int (p2 &&& (65535 : Int32))), .val (.ref b116), .unset]) rfl ?_
        refine XS.iload X128.here hx rfl (hb hby at_176) rfl ?_
        refine st129 _ ?_
        refine XS.astore X129.here hx rfl (hb hby at_181) rfl rfl (l' := #[.val (.int p0), .val (.int p1), .val (.int p2), .val (.ref u2), .val (.ref u8), .val (.int (1 : Int32)), .val (.int (3 : Int32)), .val (.int (p2 &&& (65535 : Int32))), .val (.ref b116), .val (.ref u130)]) rfl ?_
        refine XS.iload X129.here hx rfl (hb hby at_183) rfl ?_
        show Steps p.tables e below (T129.setTop (mkF m 185 #[.val (.int p0), .val (.int p1), .val (.int p2), .val (.ref u2), .val (.ref u8), .val (.int (1 : Int32)), .val (.int (3 : Int32)), .val (.int (p2 &&& (65535 : Int32))), .val (.ref b116), .val (.ref u130)] [(.int (1 : Int32))])) _
        refine XS.ifNo X129.here hx rfl (hb hby at_185) rfl ((if0 _ _).trans (feq (by decide)).1) ?_
        refine XS.aload X129.here hx rfl (hb hby at_188) rfl rfl ?_
        refine XS.aload X129.here hx rfl (hb hby at_190) rfl rfl ?_
        refine st140 _ ?_
        refine XS.aload X140.here hx rfl (hb hby at_195) rfl rfl ?_
        refine XS.iload X140.here hx rfl (hb hby at_197) rfl ?_
        refine X140.daload hx (j := (3 : Int32)) (v := (.double (FP.l2d (((p2 &&& (65535 : Int32)) + (3 : Int32)).toInt64)))) (by rw [e140]; exact Ara141.1) (State.isArrayOf_alike hZ.alike Ara141.2.1) Ara141.2.2 hin142 hat143 (g := (mkF m 199 #[.val (.int p0), .val (.int p1), .val (.int p2), .val (.ref u2), .val (.ref u8), .val (.int (1 : Int32)), .val (.int (3 : Int32)), .val (.int (p2 &&& (65535 : Int32))), .val (.ref b116), .val (.ref u130)] [(.int (3 : Int32)), (.ref b116), (.double (FP.l2d (((p2 &&& (65535 : Int32)) + (3 : Int32)).toInt64)))])) rfl rfl (hb hby at_199) _ ?_
        refine XS.dcmpS X140.here hx rfl (hb hby at_200) rfl (dcmpV_self (nn_w rfl) _) ?_
        refine XS.ifNo X140.here hx rfl (hb hby at_201) rfl ((if0 _ _).trans (teq (by decide)).2) ?_
        refine XS.iconst X140.here hx rfl (hb hby at_204) ?_
        show Steps p.tables e below (T140.setTop (mkF m 205 #[.val (.int p0), .val (.int p1), .val (.int p2), .val (.ref u2), .val (.ref u8), .val (.int (1 : Int32)), .val (.int (3 : Int32)), .val (.int (p2 &&& (65535 : Int32))), .val (.ref b116), .val (.ref u130)] [(.int (1 : Int32))])) _
        refine XS.goto X140.here hx rfl (pc0 := 205) (pc' := 209) rfl (hb hby at_205) (by decide) (by decide) ?_
        refine XS.istore X140.here hx rfl (hb hby at_209) rfl (l' := #[.val (.int p0), .val (.int p1), .val (.int p2), .val (.ref u2), .val (.ref u8), .val (.int (1 : Int32)), .val (.int (3 : Int32)), .val (.int (p2 &&& (65535 : Int32))), .val (.ref b116), .val (.ref u130)]) rfl ?_
        refine XS.iload X140.here hx rfl (hb hby at_211) rfl ?_
        exact Steps.refl _
      subst hA₀
      obtain ⟨fs, hr, hrun, hended, hW, hsame⟩ := X140.leave (v := some (.int (1 : Int32))) (fun h => by rw [Bd.returns] at h; cases h)
      refine ⟨_, _, s144.trans ?_, hrun, hended, _, _, rfl, ?_, ⟨_, rfl⟩, hW, hsame.mono (by decide) (by decide)⟩
      · show Steps p.tables e below (T140.setTop (mkF m 213 #[.val (.int p0), .val (.int p1), .val (.int p2), .val (.ref u2), .val (.ref u8), .val (.int (1 : Int32)), .val (.int (3 : Int32)), .val (.int (p2 &&& (65535 : Int32))), .val (.ref b116), .val (.ref u130)] [(.int (1 : Int32))])) _
        exact retN X140 hx (t := .boolean) Bd.returns (by simp) (hb hby at_213) hr
      · show Q0 Z p0 p1 p2 h0 n0 _ T140.heap _
        rw [e140]
        exact ⟨rfl, N140⟩
  · obtain ⟨T145, L145, X145, e145, N145, st145⟩ := own_callVP X20 hx hZ hown (wk32 hw) (wk33 hw) (wk35 hw) (wk34 hw) (by decide) (wk2 hw) (wk36 hw) (rmpr0 l Z a0 hw [] u2 p1 u3 u4 u6 u5 p0 T7.heap n0 O7 c13 c14 c15 c16 c17 (fun q => hc22 q.symm)) e20 N20 (W := 0) (by decide) (by decide) (by decide) (by decide) c13 (g := (mkF m 115 #[.val (.int p0), .val (.int p1), .val (.int p2), .val (.ref u2), .val (.ref u8), .val (.int (1 : Int32)), .unset, .unset, .unset, .unset] [(.int p1), (.ref u2)])) rfl (by rw [hml]; rfl) (argsL := [(.int p1)]) (rest := []) (lenOf pd_rm0_2 rfl) rfl (by show 2 * 0 + _ ≤ _; exact Nat.le_of_eq rfl) (hb hby at_115)
    have s146 : Steps p.tables e below A₀ (T145.setTop (mkF m 133 #[.val (.int p0), .val (.int p1), .val (.int p2), .val (.ref u2), .val (.ref u8), .val (.int (1 : Int32)), .unset, .unset, .unset, .unset] [(.int (p0 &&& (3 : Int32)))])) := by
      refine s21.trans ?_
      refine XS.icmpNo X20.here hx rfl (hb hby at_105) rfl (feq hc22).1 ?_
      refine XS.iload X20.here hx rfl (hb hby at_108) rfl ?_
      refine XS.ifNo X20.here hx rfl (hb hby at_110) rfl ((if0 _ _).trans (feq (by decide)).1) ?_
      refine XS.aloadN X20.here hx rfl (hb hby at_113) rfl rfl ?_
      refine XS.iloadN X20.here hx rfl (hb hby at_114) rfl ?_
      refine st145 _ ?_
      refine XS.dconst0 X145.here hx rfl (hb hby at_118) (v := (FP.l2d (0 : Int64))) own_dc0 ?_
      refine XS.dcmpS X145.here hx rfl (hb hby at_119) rfl (dcmpV_self (nn_w rfl) _) ?_
      show Steps p.tables e below (T145.setTop (mkF m 120 #[.val (.int p0), .val (.int p1), .val (.int p2), .val (.ref u2), .val (.ref u8), .val (.int (1 : Int32)), .unset, .unset, .unset, .unset] [(.int (0 : Int32))])) _
      refine XS.ifNo X145.here hx rfl (hb hby at_120) rfl ((if0 _ _).trans (teq (by decide)).2) ?_
      refine XS.iconst X145.here hx rfl (hb hby at_123) ?_
      refine XS.goto X145.here hx rfl (pc0 := 124) (pc' := 128) rfl (hb hby at_124) (by decide) (by decide) ?_
      refine XS.istore X145.here hx rfl (hb hby at_128) rfl (l' := #[.val (.int p0), .val (.int p1), .val (.int p2), .val (.ref u2), .val (.ref u8), .val (.int (1 : Int32)), .unset, .unset, .unset, .unset]) rfl ?_
      refine XS.iloadN X145.here hx rfl (hb hby at_130) rfl ?_
      refine XS.iconst X145.here hx rfl (hb hby at_131) ?_
      refine XS.iand X145.here hx rfl (hb hby at_132) rfl ?_
      exact Steps.refl _
    rcases own_and3 p0 with hk147 | hk147 | hk147 | hk147
    · have s148 := s146
      rw [hk147] at s148
      obtain ⟨T149, h149, k149, X149, e149, E149, A149, st149⟩ := newP X145 hx hZ (hw _ (List.mem_of_getElem? (i := 7) rfl)) e145 (g := (mkF m 142 #[.val (.int p0), .val (.int p1), .val (.int p2), .val (.ref u2), .val (.ref u8), .val (.int (1 : Int32)), .val (.int (0 : Int32)), .val (.int (p2 &&& (65535 : Int32))), .unset, .unset] [(.int (4 : Int32))])) rfl (hb hby at_142) rfl (by decide) (cap := 4) (by decide) (by decide) (by decide) (by decide)
      obtain ⟨b149, g149⟩ : ∃ z, z = T7.heap.size := ⟨_, rfl⟩
      rw [← g149] at A149 st149
      have ne_u2_b149 : u2 ≠ b149 := Nat.ne_of_lt (Nat.lt_of_lt_of_le c13.lt (Nat.le_of_eq g149.symm))
      have ne_u3_b149 : u3 ≠ b149 := Nat.ne_of_lt (Nat.lt_of_lt_of_le c16.lt (Nat.le_of_eq g149.symm))
      have ne_u4_b149 : u4 ≠ b149 := Nat.ne_of_lt (Nat.lt_of_lt_of_le c17.lt (Nat.le_of_eq g149.symm))
      have ne_u8_b149 : u8 ≠ b149 := Nat.ne_of_lt (Nat.lt_of_lt_of_le f7_0.lt (Nat.le_of_eq g149.symm))
      have g_b149 : n0 ≤ b149 := Nat.le_trans (Nat.le_of_eq O7.1.symm) (Nat.le_trans O7.2.1 (Nat.le_of_eq g149.symm))
      have O149 := O7.ext E149
      have V149 : Arv Z h149 b149 k149 .double (4 : Int32) [(.double (FP.l2d (0 : Int64))), (.double (FP.l2d (0 : Int64))), (.double (FP.l2d (0 : Int64))), (.double (FP.l2d (0 : Int64)))] (.double (FP.l2d (0 : Int64))) := (Arv.newD A149 (by decide)).pad (pad_rep [] (.double (FP.l2d (0 : Int64))) 4)
      obtain ⟨cla150, Ara150, qa150, Sa150, Za150, Ha150, Ga150⟩ := id V149
      have hin151 : ¬ ((0 : Int32) < 0 ∨ cla150.slots.size ≤ ((0 : Int32)).toNatClampNeg) := inb_of Sa150 ⟨by decide, by decide⟩
      obtain ⟨T152, h152, X152, e152, W152, st152⟩ := stD X149 hx hZ e149 Ara150 (j := (0 : Int32)) hin151 (g := (mkF m 149 #[.val (.int p0), .val (.int p1), .val (.int p2), .val (.ref u2), .val (.ref u8), .val (.int (1 : Int32)), .val (.int (0 : Int32)), .val (.int (p2 &&& (65535 : Int32))), .unset, .unset] [(.double (FP.l2d ((p2 &&& (65535 : Int32)).toInt64))), (.int (0 : Int32)), (.ref b149), (.ref b149)])) rfl rfl (hb hby at_149)
      have O152 := O149.wr W152 g_b149
      have N152 := Fr.snoc X152 N145 g_b149
      have V152 : Arv Z h152 b149 k149 .double (4 : Int32) [(.double (FP.l2d ((p2 &&& (65535 : Int32)).toInt64))), (.double (FP.l2d (0 : Int64))), (.double (FP.l2d (0 : Int64))), (.double (FP.l2d (0 : Int64)))] (.double (FP.l2d (0 : Int64))) := Arv.set Ara150 qa150 Sa150 Za150 Ha150 Ga150 rfl W152 0 rfl (Nat.le_of_ble_eq_true rfl)
      obtain ⟨cla153, Ara153, qa153, Sa153, Za153, Ha153, Ga153⟩ := id V152
      have hin154 : ¬ ((1 : Int32) < 0 ∨ cla153.slots.size ≤ ((1 : Int32)).toNatClampNeg) := inb_of Sa153 ⟨by decide, by decide⟩
      obtain ⟨T155, h155, X155, e155, W155, st155⟩ := stD X152 hx hZ e152 Ara153 (j := (1 : Int32)) hin154 (g := (mkF m 157 #[.val (.int p0), .val (.int p1), .val (.int p2), .val (.ref u2), .val (.ref u8), .val (.int (1 : Int32)), .val (.int (0 : Int32)), .val (.int (p2 &&& (65535 : Int32))), .unset, .unset] [(.double (FP.l2d (((p2 &&& (65535 : Int32)) + (1 : Int32)).toInt64))), (.int (1 : Int32)), (.ref b149), (.ref b149)])) rfl rfl (hb hby at_157)
      have O155 := O152.wr W155 g_b149
      have N155 := Fr.snoc X155 N152 g_b149
      have V155 : Arv Z h155 b149 k149 .double (4 : Int32) [(.double (FP.l2d ((p2 &&& (65535 : Int32)).toInt64))), (.double (FP.l2d (((p2 &&& (65535 : Int32)) + (1 : Int32)).toInt64))), (.double (FP.l2d (0 : Int64))), (.double (FP.l2d (0 : Int64)))] (.double (FP.l2d (0 : Int64))) := Arv.set Ara153 qa153 Sa153 Za153 Ha153 Ga153 rfl W155 1 rfl (Nat.le_of_ble_eq_true rfl)
      obtain ⟨cla156, Ara156, qa156, Sa156, Za156, Ha156, Ga156⟩ := id V155
      have hin157 : ¬ ((2 : Int32) < 0 ∨ cla156.slots.size ≤ ((2 : Int32)).toNatClampNeg) := inb_of Sa156 ⟨by decide, by decide⟩
      obtain ⟨T158, h158, X158, e158, W158, st158⟩ := stD X155 hx hZ e155 Ara156 (j := (2 : Int32)) hin157 (g := (mkF m 165 #[.val (.int p0), .val (.int p1), .val (.int p2), .val (.ref u2), .val (.ref u8), .val (.int (1 : Int32)), .val (.int (0 : Int32)), .val (.int (p2 &&& (65535 : Int32))), .unset, .unset] [(.double (FP.l2d (((p2 &&& (65535 : Int32)) + (2 : Int32)).toInt64))), (.int (2 : Int32)), (.ref b149), (.ref b149)])) rfl rfl (hb hby at_165)
      have O158 := O155.wr W158 g_b149
      have N158 := Fr.snoc X158 N155 g_b149
      have V158 : Arv Z h158 b149 k149 .double (4 : Int32) [(.double (FP.l2d ((p2 &&& (65535 : Int32)).toInt64))), (.double (FP.l2d (((p2 &&& (65535 : Int32)) + (1 : Int32)).toInt64))), (.double (FP.l2d (((p2 &&& (65535 : Int32)) + (2 : Int32)).toInt64))), (.double (FP.l2d (0 : Int64)))] (.double (FP.l2d (0 : Int64))) := Arv.set Ara156 qa156 Sa156 Za156 Ha156 Ga156 rfl W158 2 rfl (Nat.le_of_ble_eq_true rfl)
      obtain ⟨cla159, Ara159, qa159, Sa159, Za159, Ha159, Ga159⟩ := id V158
      have hin160 : ¬ ((3 : Int32) < 0 ∨ cla159.slots.size ≤ ((3 : Int32)).toNatClampNeg) := inb_of Sa159 ⟨by decide, by decide⟩
      obtain ⟨T161, h161, X161, e161, W161, st161⟩ := stD X158 hx hZ e158 Ara159 (j := (3 : Int32)) hin160 (g := (mkF m 173 #[.val (.int p0), .val (.int p1), .val (.int p2), .val (.ref u2), .val (.ref u8), .val (.int (1 : Int32)), .val (.int (0 : Int32)), .val (.int (p2 &&& (65535 : Int32))), .unset, .unset] [(.double (FP.l2d (((p2 &&& (65535 : Int32)) + (3 : Int32)).toInt64))), (.int (3 : Int32)), (.ref b149), (.ref b149)])) rfl rfl (hb hby at_173)
      have O161 := O158.wr W161 g_b149
      have N161 := Fr.snoc X161 N158 g_b149
      have V161 : Arv Z h161 b149 k149 .double (4 : Int32) [(.double (FP.l2d ((p2 &&& (65535 : Int32)).toInt64))), (.double (FP.l2d (((p2 &&& (65535 : Int32)) + (1 : Int32)).toInt64))), (.double (FP.l2d (((p2 &&& (65535 : Int32)) + (2 : Int32)).toInt64))), (.double (FP.l2d (((p2 &&& (65535 : Int32)) + (3 : Int32)).toInt64)))] (.double (FP.l2d (0 : Int64))) := Arv.set Ara159 qa159 Sa159 Za159 Ha159 Ga159 rfl W161 3 rfl (Nat.le_of_ble_eq_true rfl)
      obtain ⟨_, _, ⟨T162, L162, k162, n162⟩, -, X162, ⟨Lc162, hQ162, l162, y162, z162⟩, st162⟩ := Jvm.LawKit.callS X161 hx (y := (⟨"com/example/odds_on_axioms/oddsonaxioms/aleatoric/Distribution", "certain", "(I)Lcom/example/odds_on_axioms/oddsonaxioms/aleatoric/Distribution;"⟩ : MethodName)) hown (mvT hZ (hw _ (List.mem_of_getElem? (i := 0) rfl))) (mvT hZ (hw _ (List.mem_of_getElem? (i := 1) rfl))) (mvT hZ (hw _ (List.mem_of_getElem? (i := 2) rfl))) (mvT hZ (hw _ (List.mem_of_getElem? (i := 3) rfl))) (by decide) (backOf (W := 0) (rm1 l Z a0 hw [] (0 : Int32) h161 n0 O161 ) hZ (hw _ (List.mem_of_getElem? (i := 3) rfl)) (hw _ (List.mem_of_getElem? (i := 2) rfl)) (by decide) (by decide)) (g := (mkF m 178 #[.val (.int p0), .val (.int p1), .val (.int p2), .val (.ref u2), .val (.ref u8), .val (.int (1 : Int32)), .val (.int (0 : Int32)), .val (.int (p2 &&& (65535 : Int32))), .val (.ref b149), .unset] [(.int (0 : Int32))])) rfl (by rw [hml]; rfl) (argsL := [(.int (0 : Int32))]) (rest := []) (lenOf pd_rm0_0 rfl) rfl (by show 2 * 0 + _ ≤ _; exact Nat.le_of_eq rfl) (hb hby at_178) (fun _ _ => ⟨rfl, e161, (by decide : 5 + 3 ≤ _), (by decide : 9 + 4 ≤ _)⟩)
      dsimp only [Pt.U, Pt.locs, Pt.cells, Pt.slots] at X162 l162 y162 z162 st162 hQ162
      subst l162 y162 z162
      obtain ⟨u163, u164, u165, u166, u167, rfl, Nq162, Kc162, f162_0, f162_1, f162_2, f162_3, f162_4, f162_5, f162_6, f162_7, f162_8⟩ := hQ162
      have N162 := Fr.app N161 Nq162
      have c168 : Exa Z h161 u2 "com/example/odds_on_axioms/oddsonaxioms/aleatoric/Distribution" := (((((c13.ext E149).wr W152).wr W155).wr W158).wr W161)
      have ne_u2_u163 : u2 ≠ u163 := Nat.ne_of_lt (Nat.lt_of_lt_of_le c168.lt f162_6)
      have c169 : Arv Z h161 u3 u5 .int (1 : Int32) [(.int p0)] (.int (0 : Int32)) := (((((c16.ext E149).other W152 ne_u3_b149).other W155 ne_u3_b149).other W158 ne_u3_b149).other W161 ne_u3_b149)
      have ne_u3_u163 : u3 ≠ u163 := Nat.ne_of_lt (Nat.lt_of_lt_of_le c169.lt f162_6)
      have c170 : Arv Z h161 u4 u6 .double (1 : Int32) [(.double (FP.l2d (1 : Int64)))] (.double (FP.l2d (0 : Int64))) := (((((c17.ext E149).other W152 ne_u4_b149).other W155 ne_u4_b149).other W158 ne_u4_b149).other W161 ne_u4_b149)
      have ne_u4_u163 : u4 ≠ u163 := Nat.ne_of_lt (Nat.lt_of_lt_of_le c170.lt f162_6)
      have c171 : Arv Z h161 u8 u9 .int (1 : Int32) [(.int p0)] (.int (0 : Int32)) := (((((f7_0.ext E149).other W152 ne_u8_b149).other W155 ne_u8_b149).other W158 ne_u8_b149).other W161 ne_u8_b149)
      have ne_u8_u163 : u8 ≠ u163 := Nat.ne_of_lt (Nat.lt_of_lt_of_le c171.lt f162_6)
      have ne_b149_u163 : b149 ≠ u163 := Nat.ne_of_lt (Nat.lt_of_lt_of_le V161.lt f162_6)
      have ne_u2_u164 : u2 ≠ u164 := Nat.ne_of_lt (Nat.lt_of_lt_of_le c168.lt f162_7)
      have ne_u3_u164 : u3 ≠ u164 := Nat.ne_of_lt (Nat.lt_of_lt_of_le c169.lt f162_7)
      have ne_u4_u164 : u4 ≠ u164 := Nat.ne_of_lt (Nat.lt_of_lt_of_le c170.lt f162_7)
      have ne_u8_u164 : u8 ≠ u164 := Nat.ne_of_lt (Nat.lt_of_lt_of_le c171.lt f162_7)
      have ne_b149_u164 : b149 ≠ u164 := Nat.ne_of_lt (Nat.lt_of_lt_of_le V161.lt f162_7)
      have ne_u2_u165 : u2 ≠ u165 := Nat.ne_of_lt (Nat.lt_of_lt_of_le c168.lt f162_8)
      have ne_u3_u165 : u3 ≠ u165 := Nat.ne_of_lt (Nat.lt_of_lt_of_le c169.lt f162_8)
      have ne_u4_u165 : u4 ≠ u165 := Nat.ne_of_lt (Nat.lt_of_lt_of_le c170.lt f162_8)
      have ne_u8_u165 : u8 ≠ u165 := Nat.ne_of_lt (Nat.lt_of_lt_of_le c171.lt f162_8)
      have ne_b149_u165 : b149 ≠ u165 := Nat.ne_of_lt (Nat.lt_of_lt_of_le V161.lt f162_8)
      have g_u163 : n0 ≤ u163 := Nat.le_trans (Nat.le_of_eq O161.1.symm) (Nat.le_trans O161.2.1 f162_6)
      have g_u164 : n0 ≤ u164 := Nat.le_trans (Nat.le_of_eq O161.1.symm) (Nat.le_trans O161.2.1 f162_7)
      have g_u165 : n0 ≤ u165 := Nat.le_trans (Nat.le_of_eq O161.1.symm) (Nat.le_trans O161.2.1 f162_8)
      have O162 := O161.keep Kc162 all0
      have c172 : Arv Z T162.heap b149 k149 .double (4 : Int32) [(.double (FP.l2d ((p2 &&& (65535 : Int32)).toInt64))), (.double (FP.l2d (((p2 &&& (65535 : Int32)) + (1 : Int32)).toInt64))), (.double (FP.l2d (((p2 &&& (65535 : Int32)) + (2 : Int32)).toInt64))), (.double (FP.l2d (((p2 &&& (65535 : Int32)) + (3 : Int32)).toInt64)))] (.double (FP.l2d (0 : Int64))) := (V161.keep Kc162 nin0)
      obtain ⟨T173, L173, X173, e173, N173, st173⟩ := own_callVP X162 hx hZ hown (wk45 hw) (wk46 hw) (wk48 hw) (wk47 hw) (by decide) (wk2 hw) (wk49 hw) (rmex0 l Z a0 hw [] u163 b149 u164 u165 u166 u167 k149 ((p2 &&& (65535 : Int32)).toInt64) (((p2 &&& (65535 : Int32)) + (1 : Int32)).toInt64) (((p2 &&& (65535 : Int32)) + (2 : Int32)).toInt64) (((p2 &&& (65535 : Int32)) + (3 : Int32)).toInt64) T162.heap n0 O162 f162_0 f162_1 f162_2 f162_3 f162_5 c172 (own_rng0 p2)) (rfl : T162.heap = T162.heap) N162 (W := 0) (by decide) (by decide) (by decide) (by decide) f162_0 (g := (mkF m 192 #[.val (.int p0), .val (.int p1), .val (.int p2), .val (.ref u2), .val (.ref u8), .val (.int (1 : Int32)), .val (.int (0 : Int32)), .val (.int (p2 &&& (65535 : Int32))), .val (.ref b149), .val (.ref u163)] [(.ref b149), (.ref u163)])) rfl (by rw [hml]; rfl) (argsL := [(.ref b149)]) (rest := []) (lenOf pd_rm0_3 rfl) rfl (by show 2 * 0 + _ ≤ _; exact Nat.le_of_eq rfl) (hb hby at_192)
      obtain ⟨cla174, Ara174, qa174, Sa174, Za174, Ha174, Ga174⟩ := id c172
      have hin175 : ¬ ((0 : Int32) < 0 ∨ cla174.slots.size ≤ ((0 : Int32)).toNatClampNeg) := inb_of Sa174 ⟨by decide, by decide⟩
      have hat176 : cla174.slots[((0 : Int32)).toNatClampNeg]? = some (.double (FP.l2d ((p2 &&& (65535 : Int32)).toInt64))) := Has.at Ha174 hin175 rfl
      have s177 : Steps p.tables e below A₀ (T173.setTop (mkF m 213 #[.val (.int p0), .val (.int p1), .val (.int p2), .val (.ref u2), .val (.ref u8), .val (.int (1 : Int32)), .val (.int (0 : Int32)), .val (.int (p2 &&& (65535 : Int32))), .val (.ref b149), .val (.ref u163)] [(.int (1 : Int32))])) := by
        refine s148.trans ?_
        refine XS.istore X145.here hx rfl (hb hby at_133) rfl (l' := #[.val (.int p0), .val (.int p1), .val (.int p2), .val (.ref u2), .val (.ref u8), .val (.int (1 : Int32)), .val (.int (0 : Int32)), .unset, .unset, .unset]) rfl ?_
        refine XS.iloadN X145.here hx rfl (hb hby at_135) rfl ?_
        refine X145.ldcInt hx hown (mvT hZ (hw _ (List.mem_of_getElem? (i := 44) rfl))) (g := (mkF m 136 #[.val (.int p0), .val (.int p1), .val (.int p2), .val (.ref u2), .val (.ref u8), .val (.int (1 : Int32)), .val (.int (0 : Int32)), .unset, .unset, .unset] [(.int p2)])) rfl (hb hby at_136) _ ?_
        refine XS.iand X145.here hx rfl (hb hby at_138) rfl ?_
        refine XS.istore X145.here hx rfl (hb hby at_139) rfl (l' := #[.val (.int p0), .val (.int p1), .val (.int p2), .val (.ref u2), .val (.ref u8), .val (.int (1 : Int32)), .val (.int (0 : Int32)), .val (.int (p2 &&& (65535 : Int32))), .unset, .unset]) rfl ?_
        refine XS.iconst X145.here hx rfl (hb hby at_141) ?_
        refine st149 _ ?_
        refine XS.dup X149.here hx rfl (hb hby at_144) rfl rfl ?_
        show Steps p.tables e below (T149.setTop (mkF m 145 #[.val (.int p0), .val (.int p1), .val (.int p2), .val (.ref u2), .val (.ref u8), .val (.int (1 : Int32)), .val (.int (0 : Int32)), .val (.int (p2 &&& (65535 : Int32))), .unset, .unset] [(.ref b149), (.ref b149)])) _
        refine XS.iconst X149.here hx rfl (hb hby at_145) ?_
        refine XS.iload X149.here hx rfl (hb hby at_146) rfl ?_
        refine XS.i2dS X149.here hx rfl (hb hby at_148) rfl (i2d_w _) ?_
        refine st152 _ ?_
        refine XS.dup X152.here hx rfl (hb hby at_150) rfl rfl ?_
        refine XS.iconst X152.here hx rfl (hb hby at_151) ?_
        refine XS.iload X152.here hx rfl (hb hby at_152) rfl ?_
        refine XS.iconst X152.here hx rfl (hb hby at_154) ?_
        refine XS.iadd X152.here hx rfl (hb hby at_155) rfl ?_
        refine XS.i2dS X152.here hx rfl (hb hby at_156) rfl (i2d_w _) ?_
        show Steps p.tables e below (T152.setTop (mkF m 157 #[.val (.int p0), .val (.int p1), .val (.int p2), .val (.ref u2), .val (.ref u8), .val (.int (1 : Int32)), .val (.int (0 : Int32)), .val (.int (p2 &&& (65535 : Int32))), .unset, .unset] [(.double (FP.l2d (((p2 &&& (65535 : Int32)) + (1 : Int32)).toInt64))), (.int (1 : Int32)), (.ref b149), (.ref b149)])) _
        refine st155 _ ?_
        refine XS.dup X155.here hx rfl (hb hby at_158) rfl rfl ?_
        refine XS.iconst X155.here hx rfl (hb hby at_159) ?_
        refine XS.iload X155.here hx rfl (hb hby at_160) rfl ?_
        refine XS.iconst X155.here hx rfl (hb hby at_162) ?_
        refine XS.iadd X155.here hx rfl (hb hby at_163) rfl ?_
        refine XS.i2dS X155.here hx rfl (hb hby at_164) rfl (i2d_w _) ?_
        refine st158 _ ?_
        refine XS.dup X158.here hx rfl (hb hby at_166) rfl rfl ?_
        refine XS.iconst X158.here hx rfl (hb hby at_167) ?_
        show Steps p.tables e below (T158.setTop (mkF m 168 #[.val (.int p0), .val (.int p1), .val (.int p2), .val (.ref u2), .val (.ref u8), .val (.int (1 : Int32)), .val (.int (0 : Int32)), .val (.int (p2 &&& (65535 : Int32))), .unset, .unset] [(.int (3 : Int32)), (.ref b149), (.ref b149)])) _
        refine XS.iload X158.here hx rfl (hb hby at_168) rfl ?_
        refine XS.iconst X158.here hx rfl (hb hby at_170) ?_
        refine XS.iadd X158.here hx rfl (hb hby at_171) rfl ?_
        refine XS.i2dS X158.here hx rfl (hb hby at_172) rfl (i2d_w _) ?_
        refine st161 _ ?_
        refine XS.astore X161.here hx rfl (hb hby at_174) rfl rfl (l' := #[.val (.int p0), .val (.int p1), .val (.int p2), .val (.ref u2), .val (.ref u8), .val (.int (1 : Int32)), .val (.int (0 : Int32)), .val (.int (p2 &&& (65535 : Int32))), .val (.ref b149), .unset]) rfl ?_
        refine XS.iload X161.here hx rfl (hb hby at_176) rfl ?_
        refine st162 _ ?_
        refine XS.astore X162.here hx rfl (hb hby at_181) rfl rfl (l' := #[.val (.int p0), .val (.int p1), .val (.int p2), .val (.ref u2), .val (.ref u8), .val (.int (1 : Int32)), .val (.int (0 : Int32)), .val (.int (p2 &&& (65535 : Int32))), .val (.ref b149), .val (.ref u163)]) rfl ?_
        refine XS.iload X162.here hx rfl (hb hby at_183) rfl ?_
        show Steps p.tables e below (T162.setTop (mkF m 185 #[.val (.int p0), .val (.int p1), .val (.int p2), .val (.ref u2), .val (.ref u8), .val (.int (1 : Int32)), .val (.int (0 : Int32)), .val (.int (p2 &&& (65535 : Int32))), .val (.ref b149), .val (.ref u163)] [(.int (1 : Int32))])) _
        refine XS.ifNo X162.here hx rfl (hb hby at_185) rfl ((if0 _ _).trans (feq (by decide)).1) ?_
        refine XS.aload X162.here hx rfl (hb hby at_188) rfl rfl ?_
        refine XS.aload X162.here hx rfl (hb hby at_190) rfl rfl ?_
        refine st173 _ ?_
        refine XS.aload X173.here hx rfl (hb hby at_195) rfl rfl ?_
        refine XS.iload X173.here hx rfl (hb hby at_197) rfl ?_
        refine X173.daload hx (j := (0 : Int32)) (v := (.double (FP.l2d ((p2 &&& (65535 : Int32)).toInt64)))) (by rw [e173]; exact Ara174.1) (State.isArrayOf_alike hZ.alike Ara174.2.1) Ara174.2.2 hin175 hat176 (g := (mkF m 199 #[.val (.int p0), .val (.int p1), .val (.int p2), .val (.ref u2), .val (.ref u8), .val (.int (1 : Int32)), .val (.int (0 : Int32)), .val (.int (p2 &&& (65535 : Int32))), .val (.ref b149), .val (.ref u163)] [(.int (0 : Int32)), (.ref b149), (.double (FP.l2d ((p2 &&& (65535 : Int32)).toInt64)))])) rfl rfl (hb hby at_199) _ ?_
        refine XS.dcmpS X173.here hx rfl (hb hby at_200) rfl (dcmpV_self (nn_w rfl) _) ?_
        refine XS.ifNo X173.here hx rfl (hb hby at_201) rfl ((if0 _ _).trans (teq (by decide)).2) ?_
        refine XS.iconst X173.here hx rfl (hb hby at_204) ?_
        show Steps p.tables e below (T173.setTop (mkF m 205 #[.val (.int p0), .val (.int p1), .val (.int p2), .val (.ref u2), .val (.ref u8), .val (.int (1 : Int32)), .val (.int (0 : Int32)), .val (.int (p2 &&& (65535 : Int32))), .val (.ref b149), .val (.ref u163)] [(.int (1 : Int32))])) _
        refine XS.goto X173.here hx rfl (pc0 := 205) (pc' := 209) rfl (hb hby at_205) (by decide) (by decide) ?_
        refine XS.istore X173.here hx rfl (hb hby at_209) rfl (l' := #[.val (.int p0), .val (.int p1), .val (.int p2), .val (.ref u2), .val (.ref u8), .val (.int (1 : Int32)), .val (.int (0 : Int32)), .val (.int (p2 &&& (65535 : Int32))), .val (.ref b149), .val (.ref u163)]) rfl ?_
        refine XS.iload X173.here hx rfl (hb hby at_211) rfl ?_
        exact Steps.refl _
      subst hA₀
      obtain ⟨fs, hr, hrun, hended, hW, hsame⟩ := X173.leave (v := some (.int (1 : Int32))) (fun h => by rw [Bd.returns] at h; cases h)
      refine ⟨_, _, s177.trans ?_, hrun, hended, _, _, rfl, ?_, ⟨_, rfl⟩, hW, hsame.mono (by decide) (by decide)⟩
      · show Steps p.tables e below (T173.setTop (mkF m 213 #[.val (.int p0), .val (.int p1), .val (.int p2), .val (.ref u2), .val (.ref u8), .val (.int (1 : Int32)), .val (.int (0 : Int32)), .val (.int (p2 &&& (65535 : Int32))), .val (.ref b149), .val (.ref u163)] [(.int (1 : Int32))])) _
        exact retN X173 hx (t := .boolean) Bd.returns (by simp) (hb hby at_213) hr
      · show Q0 Z p0 p1 p2 h0 n0 _ T173.heap _
        rw [e173]
        exact ⟨rfl, N173⟩
    · have s178 := s146
      rw [hk147] at s178
      obtain ⟨T179, h179, k179, X179, e179, E179, A179, st179⟩ := newP X145 hx hZ (hw _ (List.mem_of_getElem? (i := 7) rfl)) e145 (g := (mkF m 142 #[.val (.int p0), .val (.int p1), .val (.int p2), .val (.ref u2), .val (.ref u8), .val (.int (1 : Int32)), .val (.int (1 : Int32)), .val (.int (p2 &&& (65535 : Int32))), .unset, .unset] [(.int (4 : Int32))])) rfl (hb hby at_142) rfl (by decide) (cap := 4) (by decide) (by decide) (by decide) (by decide)
      obtain ⟨b179, g179⟩ : ∃ z, z = T7.heap.size := ⟨_, rfl⟩
      rw [← g179] at A179 st179
      have ne_u2_b179 : u2 ≠ b179 := Nat.ne_of_lt (Nat.lt_of_lt_of_le c13.lt (Nat.le_of_eq g179.symm))
      have ne_u3_b179 : u3 ≠ b179 := Nat.ne_of_lt (Nat.lt_of_lt_of_le c16.lt (Nat.le_of_eq g179.symm))
      have ne_u4_b179 : u4 ≠ b179 := Nat.ne_of_lt (Nat.lt_of_lt_of_le c17.lt (Nat.le_of_eq g179.symm))
      have ne_u8_b179 : u8 ≠ b179 := Nat.ne_of_lt (Nat.lt_of_lt_of_le f7_0.lt (Nat.le_of_eq g179.symm))
      have g_b179 : n0 ≤ b179 := Nat.le_trans (Nat.le_of_eq O7.1.symm) (Nat.le_trans O7.2.1 (Nat.le_of_eq g179.symm))
      have O179 := O7.ext E179
      have V179 : Arv Z h179 b179 k179 .double (4 : Int32) [(.double (FP.l2d (0 : Int64))), (.double (FP.l2d (0 : Int64))), (.double (FP.l2d (0 : Int64))), (.double (FP.l2d (0 : Int64)))] (.double (FP.l2d (0 : Int64))) := (Arv.newD A179 (by decide)).pad (pad_rep [] (.double (FP.l2d (0 : Int64))) 4)
      obtain ⟨cla180, Ara180, qa180, Sa180, Za180, Ha180, Ga180⟩ := id V179
      have hin181 : ¬ ((0 : Int32) < 0 ∨ cla180.slots.size ≤ ((0 : Int32)).toNatClampNeg) := inb_of Sa180 ⟨by decide, by decide⟩
      obtain ⟨T182, h182, X182, e182, W182, st182⟩ := stD X179 hx hZ e179 Ara180 (j := (0 : Int32)) hin181 (g := (mkF m 149 #[.val (.int p0), .val (.int p1), .val (.int p2), .val (.ref u2), .val (.ref u8), .val (.int (1 : Int32)), .val (.int (1 : Int32)), .val (.int (p2 &&& (65535 : Int32))), .unset, .unset] [(.double (FP.l2d ((p2 &&& (65535 : Int32)).toInt64))), (.int (0 : Int32)), (.ref b179), (.ref b179)])) rfl rfl (hb hby at_149)
      have O182 := O179.wr W182 g_b179
      have N182 := Fr.snoc X182 N145 g_b179
      have V182 : Arv Z h182 b179 k179 .double (4 : Int32) [(.double (FP.l2d ((p2 &&& (65535 : Int32)).toInt64))), (.double (FP.l2d (0 : Int64))), (.double (FP.l2d (0 : Int64))), (.double (FP.l2d (0 : Int64)))] (.double (FP.l2d (0 : Int64))) := Arv.set Ara180 qa180 Sa180 Za180 Ha180 Ga180 rfl W182 0 rfl (Nat.le_of_ble_eq_true rfl)
      obtain ⟨cla183, Ara183, qa183, Sa183, Za183, Ha183, Ga183⟩ := id V182
      have hin184 : ¬ ((1 : Int32) < 0 ∨ cla183.slots.size ≤ ((1 : Int32)).toNatClampNeg) := inb_of Sa183 ⟨by decide, by decide⟩
      obtain ⟨T185, h185, X185, e185, W185, st185⟩ := stD X182 hx hZ e182 Ara183 (j := (1 : Int32)) hin184 (g := (mkF m 157 #[.val (.int p0), .val (.int p1), .val (.int p2), .val (.ref u2), .val (.ref u8), .val (.int (1 : Int32)), .val (.int (1 : Int32)), .val (.int (p2 &&& (65535 : Int32))), .unset, .unset] [(.double (FP.l2d (((p2 &&& (65535 : Int32)) + (1 : Int32)).toInt64))), (.int (1 : Int32)), (.ref b179), (.ref b179)])) rfl rfl (hb hby at_157)
      have O185 := O182.wr W185 g_b179
      have N185 := Fr.snoc X185 N182 g_b179
      have V185 : Arv Z h185 b179 k179 .double (4 : Int32) [(.double (FP.l2d ((p2 &&& (65535 : Int32)).toInt64))), (.double (FP.l2d (((p2 &&& (65535 : Int32)) + (1 : Int32)).toInt64))), (.double (FP.l2d (0 : Int64))), (.double (FP.l2d (0 : Int64)))] (.double (FP.l2d (0 : Int64))) := Arv.set Ara183 qa183 Sa183 Za183 Ha183 Ga183 rfl W185 1 rfl (Nat.le_of_ble_eq_true rfl)
      obtain ⟨cla186, Ara186, qa186, Sa186, Za186, Ha186, Ga186⟩ := id V185
      have hin187 : ¬ ((2 : Int32) < 0 ∨ cla186.slots.size ≤ ((2 : Int32)).toNatClampNeg) := inb_of Sa186 ⟨by decide, by decide⟩
      obtain ⟨T188, h188, X188, e188, W188, st188⟩ := stD X185 hx hZ e185 Ara186 (j := (2 : Int32)) hin187 (g := (mkF m 165 #[.val (.int p0), .val (.int p1), .val (.int p2), .val (.ref u2), .val (.ref u8), .val (.int (1 : Int32)), .val (.int (1 : Int32)), .val (.int (p2 &&& (65535 : Int32))), .unset, .unset] [(.double (FP.l2d (((p2 &&& (65535 : Int32)) + (2 : Int32)).toInt64))), (.int (2 : Int32)), (.ref b179), (.ref b179)])) rfl rfl (hb hby at_165)
      have O188 := O185.wr W188 g_b179
      have N188 := Fr.snoc X188 N185 g_b179
      have V188 : Arv Z h188 b179 k179 .double (4 : Int32) [(.double (FP.l2d ((p2 &&& (65535 : Int32)).toInt64))), (.double (FP.l2d (((p2 &&& (65535 : Int32)) + (1 : Int32)).toInt64))), (.double (FP.l2d (((p2 &&& (65535 : Int32)) + (2 : Int32)).toInt64))), (.double (FP.l2d (0 : Int64)))] (.double (FP.l2d (0 : Int64))) := Arv.set Ara186 qa186 Sa186 Za186 Ha186 Ga186 rfl W188 2 rfl (Nat.le_of_ble_eq_true rfl)
      obtain ⟨cla189, Ara189, qa189, Sa189, Za189, Ha189, Ga189⟩ := id V188
      have hin190 : ¬ ((3 : Int32) < 0 ∨ cla189.slots.size ≤ ((3 : Int32)).toNatClampNeg) := inb_of Sa189 ⟨by decide, by decide⟩
      obtain ⟨T191, h191, X191, e191, W191, st191⟩ := stD X188 hx hZ e188 Ara189 (j := (3 : Int32)) hin190 (g := (mkF m 173 #[.val (.int p0), .val (.int p1), .val (.int p2), .val (.ref u2), .val (.ref u8), .val (.int (1 : Int32)), .val (.int (1 : Int32)), .val (.int (p2 &&& (65535 : Int32))), .unset, .unset] [(.double (FP.l2d (((p2 &&& (65535 : Int32)) + (3 : Int32)).toInt64))), (.int (3 : Int32)), (.ref b179), (.ref b179)])) rfl rfl (hb hby at_173)
      have O191 := O188.wr W191 g_b179
      have N191 := Fr.snoc X191 N188 g_b179
      have V191 : Arv Z h191 b179 k179 .double (4 : Int32) [(.double (FP.l2d ((p2 &&& (65535 : Int32)).toInt64))), (.double (FP.l2d (((p2 &&& (65535 : Int32)) + (1 : Int32)).toInt64))), (.double (FP.l2d (((p2 &&& (65535 : Int32)) + (2 : Int32)).toInt64))), (.double (FP.l2d (((p2 &&& (65535 : Int32)) + (3 : Int32)).toInt64)))] (.double (FP.l2d (0 : Int64))) := Arv.set Ara189 qa189 Sa189 Za189 Ha189 Ga189 rfl W191 3 rfl (Nat.le_of_ble_eq_true rfl)
      obtain ⟨_, _, ⟨T192, L192, k192, n192⟩, -, X192, ⟨Lc192, hQ192, l192, y192, z192⟩, st192⟩ := Jvm.LawKit.callS X191 hx (y := (⟨"com/example/odds_on_axioms/oddsonaxioms/aleatoric/Distribution", "certain", "(I)Lcom/example/odds_on_axioms/oddsonaxioms/aleatoric/Distribution;"⟩ : MethodName)) hown (mvT hZ (hw _ (List.mem_of_getElem? (i := 0) rfl))) (mvT hZ (hw _ (List.mem_of_getElem? (i := 1) rfl))) (mvT hZ (hw _ (List.mem_of_getElem? (i := 2) rfl))) (mvT hZ (hw _ (List.mem_of_getElem? (i := 3) rfl))) (by decide) (backOf (W := 0) (rm1 l Z a0 hw [] (1 : Int32) h191 n0 O191 ) hZ (hw _ (List.mem_of_getElem? (i := 3) rfl)) (hw _ (List.mem_of_getElem? (i := 2) rfl)) (by decide) (by decide)) (g := (mkF m 178 #[.val (.int p0), .val (.int p1), .val (.int p2), .val (.ref u2), .val (.ref u8), .val (.int (1 : Int32)), .val (.int (1 : Int32)), .val (.int (p2 &&& (65535 : Int32))), .val (.ref b179), .unset] [(.int (1 : Int32))])) rfl (by rw [hml]; rfl) (argsL := [(.int (1 : Int32))]) (rest := []) (lenOf pd_rm0_0 rfl) rfl (by show 2 * 0 + _ ≤ _; exact Nat.le_of_eq rfl) (hb hby at_178) (fun _ _ => ⟨rfl, e191, (by decide : 5 + 3 ≤ _), (by decide : 9 + 4 ≤ _)⟩)
      dsimp only [Pt.U, Pt.locs, Pt.cells, Pt.slots] at X192 l192 y192 z192 st192 hQ192
      subst l192 y192 z192
      obtain ⟨u193, u194, u195, u196, u197, rfl, Nq192, Kc192, f192_0, f192_1, f192_2, f192_3, f192_4, f192_5, f192_6, f192_7, f192_8⟩ := hQ192
      have N192 := Fr.app N191 Nq192
      have c198 : Exa Z h191 u2 "com/example/odds_on_axioms/oddsonaxioms/aleatoric/Distribution" := (((((c13.ext E179).wr W182).wr W185).wr W188).wr W191)
      have ne_u2_u193 : u2 ≠ u193 := Nat.ne_of_lt (Nat.lt_of_lt_of_le c198.lt f192_6)
      have c199 : Arv Z h191 u3 u5 .int (1 : Int32) [(.int p0)] (.int (0 : Int32)) := (((((c16.ext E179).other W182 ne_u3_b179).other W185 ne_u3_b179).other W188 ne_u3_b179).other W191 ne_u3_b179)
      have ne_u3_u193 : u3 ≠ u193 := Nat.ne_of_lt (Nat.lt_of_lt_of_le c199.lt f192_6)
      have c200 : Arv Z h191 u4 u6 .double (1 : Int32) [(.double (FP.l2d (1 : Int64)))] (.double (FP.l2d (0 : Int64))) := (((((c17.ext E179).other W182 ne_u4_b179).other W185 ne_u4_b179).other W188 ne_u4_b179).other W191 ne_u4_b179)
      have ne_u4_u193 : u4 ≠ u193 := Nat.ne_of_lt (Nat.lt_of_lt_of_le c200.lt f192_6)
      have c201 : Arv Z h191 u8 u9 .int (1 : Int32) [(.int p0)] (.int (0 : Int32)) := (((((f7_0.ext E179).other W182 ne_u8_b179).other W185 ne_u8_b179).other W188 ne_u8_b179).other W191 ne_u8_b179)
      have ne_u8_u193 : u8 ≠ u193 := Nat.ne_of_lt (Nat.lt_of_lt_of_le c201.lt f192_6)
      have ne_b179_u193 : b179 ≠ u193 := Nat.ne_of_lt (Nat.lt_of_lt_of_le V191.lt f192_6)
      have ne_u2_u194 : u2 ≠ u194 := Nat.ne_of_lt (Nat.lt_of_lt_of_le c198.lt f192_7)
      have ne_u3_u194 : u3 ≠ u194 := Nat.ne_of_lt (Nat.lt_of_lt_of_le c199.lt f192_7)
      have ne_u4_u194 : u4 ≠ u194 := Nat.ne_of_lt (Nat.lt_of_lt_of_le c200.lt f192_7)
      have ne_u8_u194 : u8 ≠ u194 := Nat.ne_of_lt (Nat.lt_of_lt_of_le c201.lt f192_7)
      have ne_b179_u194 : b179 ≠ u194 := Nat.ne_of_lt (Nat.lt_of_lt_of_le V191.lt f192_7)
      have ne_u2_u195 : u2 ≠ u195 := Nat.ne_of_lt (Nat.lt_of_lt_of_le c198.lt f192_8)
      have ne_u3_u195 : u3 ≠ u195 := Nat.ne_of_lt (Nat.lt_of_lt_of_le c199.lt f192_8)
      have ne_u4_u195 : u4 ≠ u195 := Nat.ne_of_lt (Nat.lt_of_lt_of_le c200.lt f192_8)
      have ne_u8_u195 : u8 ≠ u195 := Nat.ne_of_lt (Nat.lt_of_lt_of_le c201.lt f192_8)
      have ne_b179_u195 : b179 ≠ u195 := Nat.ne_of_lt (Nat.lt_of_lt_of_le V191.lt f192_8)
      have g_u193 : n0 ≤ u193 := Nat.le_trans (Nat.le_of_eq O191.1.symm) (Nat.le_trans O191.2.1 f192_6)
      have g_u194 : n0 ≤ u194 := Nat.le_trans (Nat.le_of_eq O191.1.symm) (Nat.le_trans O191.2.1 f192_7)
      have g_u195 : n0 ≤ u195 := Nat.le_trans (Nat.le_of_eq O191.1.symm) (Nat.le_trans O191.2.1 f192_8)
      have O192 := O191.keep Kc192 all0
      have c202 : Arv Z T192.heap b179 k179 .double (4 : Int32) [(.double (FP.l2d ((p2 &&& (65535 : Int32)).toInt64))), (.double (FP.l2d (((p2 &&& (65535 : Int32)) + (1 : Int32)).toInt64))), (.double (FP.l2d (((p2 &&& (65535 : Int32)) + (2 : Int32)).toInt64))), (.double (FP.l2d (((p2 &&& (65535 : Int32)) + (3 : Int32)).toInt64)))] (.double (FP.l2d (0 : Int64))) := (V191.keep Kc192 nin0)
      obtain ⟨T203, L203, X203, e203, N203, st203⟩ := own_callVP X192 hx hZ hown (wk45 hw) (wk46 hw) (wk48 hw) (wk47 hw) (by decide) (wk2 hw) (wk49 hw) (rmex1 l Z a0 hw [] u193 b179 u194 u195 u196 u197 k179 ((p2 &&& (65535 : Int32)).toInt64) (((p2 &&& (65535 : Int32)) + (1 : Int32)).toInt64) (((p2 &&& (65535 : Int32)) + (2 : Int32)).toInt64) (((p2 &&& (65535 : Int32)) + (3 : Int32)).toInt64) T192.heap n0 O192 f192_0 f192_1 f192_2 f192_3 f192_5 c202 (own_rng1 p2)) (rfl : T192.heap = T192.heap) N192 (W := 0) (by decide) (by decide) (by decide) (by decide) f192_0 (g := (mkF m 192 #[.val (.int p0), .val (.int p1), .val (.int p2), .val (.ref u2), .val (.ref u8), .val (.int (1 : Int32)), .val (.int (1 : Int32)), .val (.int (p2 &&& (65535 : Int32))), .val (.ref b179), .val (.ref u193)] [(.ref b179), (.ref u193)])) rfl (by rw [hml]; rfl) (argsL := [(.ref b179)]) (rest := []) (lenOf pd_rm0_3 rfl) rfl (by show 2 * 0 + _ ≤ _; exact Nat.le_of_eq rfl) (hb hby at_192)
      obtain ⟨cla204, Ara204, qa204, Sa204, Za204, Ha204, Ga204⟩ := id c202
      have hin205 : ¬ ((1 : Int32) < 0 ∨ cla204.slots.size ≤ ((1 : Int32)).toNatClampNeg) := inb_of Sa204 ⟨by decide, by decide⟩
      have hat206 : cla204.slots[((1 : Int32)).toNatClampNeg]? = some (.double (FP.l2d (((p2 &&& (65535 : Int32)) + (1 : Int32)).toInt64))) := Has.at Ha204 hin205 rfl
      have s207 : Steps p.tables e below A₀ (T203.setTop (mkF m 213 #[.val (.int p0), .val (.int p1), .val (.int p2), .val (.ref u2), .val (.ref u8), .val (.int (1 : Int32)), .val (.int (1 : Int32)), .val (.int (p2 &&& (65535 : Int32))), .val (.ref b179), .val (.ref u193)] [(.int (1 : Int32))])) := by
        refine s178.trans ?_
        refine XS.istore X145.here hx rfl (hb hby at_133) rfl (l' := #[.val (.int p0), .val (.int p1), .val (.int p2), .val (.ref u2), .val (.ref u8), .val (.int (1 : Int32)), .val (.int (1 : Int32)), .unset, .unset, .unset]) rfl ?_
        refine XS.iloadN X145.here hx rfl (hb hby at_135) rfl ?_
        refine X145.ldcInt hx hown (mvT hZ (hw _ (List.mem_of_getElem? (i := 44) rfl))) (g := (mkF m 136 #[.val (.int p0), .val (.int p1), .val (.int p2), .val (.ref u2), .val (.ref u8), .val (.int (1 : Int32)), .val (.int (1 : Int32)), .unset, .unset, .unset] [(.int p2)])) rfl (hb hby at_136) _ ?_
        refine XS.iand X145.here hx rfl (hb hby at_138) rfl ?_
        refine XS.istore X145.here hx rfl (hb hby at_139) rfl (l' := #[.val (.int p0), .val (.int p1), .val (.int p2), .val (.ref u2), .val (.ref u8), .val (.int (1 : Int32)), .val (.int (1 : Int32)), .val (.int (p2 &&& (65535 : Int32))), .unset, .unset]) rfl ?_
        refine XS.iconst X145.here hx rfl (hb hby at_141) ?_
        refine st179 _ ?_
        refine XS.dup X179.here hx rfl (hb hby at_144) rfl rfl ?_
        show Steps p.tables e below (T179.setTop (mkF m 145 #[.val (.int p0), .val (.int p1), .val (.int p2), .val (.ref u2), .val (.ref u8), .val (.int (1 : Int32)), .val (.int (1 : Int32)), .val (.int (p2 &&& (65535 : Int32))), .unset, .unset] [(.ref b179), (.ref b179)])) _
        refine XS.iconst X179.here hx rfl (hb hby at_145) ?_
        refine XS.iload X179.here hx rfl (hb hby at_146) rfl ?_
        refine XS.i2dS X179.here hx rfl (hb hby at_148) rfl (i2d_w _) ?_
        refine st182 _ ?_
        refine XS.dup X182.here hx rfl (hb hby at_150) rfl rfl ?_
        refine XS.iconst X182.here hx rfl (hb hby at_151) ?_
        refine XS.iload X182.here hx rfl (hb hby at_152) rfl ?_
        refine XS.iconst X182.here hx rfl (hb hby at_154) ?_
        refine XS.iadd X182.here hx rfl (hb hby at_155) rfl ?_
        refine XS.i2dS X182.here hx rfl (hb hby at_156) rfl (i2d_w _) ?_
        show Steps p.tables e below (T182.setTop (mkF m 157 #[.val (.int p0), .val (.int p1), .val (.int p2), .val (.ref u2), .val (.ref u8), .val (.int (1 : Int32)), .val (.int (1 : Int32)), .val (.int (p2 &&& (65535 : Int32))), .unset, .unset] [(.double (FP.l2d (((p2 &&& (65535 : Int32)) + (1 : Int32)).toInt64))), (.int (1 : Int32)), (.ref b179), (.ref b179)])) _
        refine st185 _ ?_
        refine XS.dup X185.here hx rfl (hb hby at_158) rfl rfl ?_
        refine XS.iconst X185.here hx rfl (hb hby at_159) ?_
        refine XS.iload X185.here hx rfl (hb hby at_160) rfl ?_
        refine XS.iconst X185.here hx rfl (hb hby at_162) ?_
        refine XS.iadd X185.here hx rfl (hb hby at_163) rfl ?_
        refine XS.i2dS X185.here hx rfl (hb hby at_164) rfl (i2d_w _) ?_
        refine st188 _ ?_
        refine XS.dup X188.here hx rfl (hb hby at_166) rfl rfl ?_
        refine XS.iconst X188.here hx rfl (hb hby at_167) ?_
        show Steps p.tables e below (T188.setTop (mkF m 168 #[.val (.int p0), .val (.int p1), .val (.int p2), .val (.ref u2), .val (.ref u8), .val (.int (1 : Int32)), .val (.int (1 : Int32)), .val (.int (p2 &&& (65535 : Int32))), .unset, .unset] [(.int (3 : Int32)), (.ref b179), (.ref b179)])) _
        refine XS.iload X188.here hx rfl (hb hby at_168) rfl ?_
        refine XS.iconst X188.here hx rfl (hb hby at_170) ?_
        refine XS.iadd X188.here hx rfl (hb hby at_171) rfl ?_
        refine XS.i2dS X188.here hx rfl (hb hby at_172) rfl (i2d_w _) ?_
        refine st191 _ ?_
        refine XS.astore X191.here hx rfl (hb hby at_174) rfl rfl (l' := #[.val (.int p0), .val (.int p1), .val (.int p2), .val (.ref u2), .val (.ref u8), .val (.int (1 : Int32)), .val (.int (1 : Int32)), .val (.int (p2 &&& (65535 : Int32))), .val (.ref b179), .unset]) rfl ?_
        refine XS.iload X191.here hx rfl (hb hby at_176) rfl ?_
        refine st192 _ ?_
        refine XS.astore X192.here hx rfl (hb hby at_181) rfl rfl (l' := #[.val (.int p0), .val (.int p1), .val (.int p2), .val (.ref u2), .val (.ref u8), .val (.int (1 : Int32)), .val (.int (1 : Int32)), .val (.int (p2 &&& (65535 : Int32))), .val (.ref b179), .val (.ref u193)]) rfl ?_
        refine XS.iload X192.here hx rfl (hb hby at_183) rfl ?_
        show Steps p.tables e below (T192.setTop (mkF m 185 #[.val (.int p0), .val (.int p1), .val (.int p2), .val (.ref u2), .val (.ref u8), .val (.int (1 : Int32)), .val (.int (1 : Int32)), .val (.int (p2 &&& (65535 : Int32))), .val (.ref b179), .val (.ref u193)] [(.int (1 : Int32))])) _
        refine XS.ifNo X192.here hx rfl (hb hby at_185) rfl ((if0 _ _).trans (feq (by decide)).1) ?_
        refine XS.aload X192.here hx rfl (hb hby at_188) rfl rfl ?_
        refine XS.aload X192.here hx rfl (hb hby at_190) rfl rfl ?_
        refine st203 _ ?_
        refine XS.aload X203.here hx rfl (hb hby at_195) rfl rfl ?_
        refine XS.iload X203.here hx rfl (hb hby at_197) rfl ?_
        refine X203.daload hx (j := (1 : Int32)) (v := (.double (FP.l2d (((p2 &&& (65535 : Int32)) + (1 : Int32)).toInt64)))) (by rw [e203]; exact Ara204.1) (State.isArrayOf_alike hZ.alike Ara204.2.1) Ara204.2.2 hin205 hat206 (g := (mkF m 199 #[.val (.int p0), .val (.int p1), .val (.int p2), .val (.ref u2), .val (.ref u8), .val (.int (1 : Int32)), .val (.int (1 : Int32)), .val (.int (p2 &&& (65535 : Int32))), .val (.ref b179), .val (.ref u193)] [(.int (1 : Int32)), (.ref b179), (.double (FP.l2d (((p2 &&& (65535 : Int32)) + (1 : Int32)).toInt64)))])) rfl rfl (hb hby at_199) _ ?_
        refine XS.dcmpS X203.here hx rfl (hb hby at_200) rfl (dcmpV_self (nn_w rfl) _) ?_
        refine XS.ifNo X203.here hx rfl (hb hby at_201) rfl ((if0 _ _).trans (teq (by decide)).2) ?_
        refine XS.iconst X203.here hx rfl (hb hby at_204) ?_
        show Steps p.tables e below (T203.setTop (mkF m 205 #[.val (.int p0), .val (.int p1), .val (.int p2), .val (.ref u2), .val (.ref u8), .val (.int (1 : Int32)), .val (.int (1 : Int32)), .val (.int (p2 &&& (65535 : Int32))), .val (.ref b179), .val (.ref u193)] [(.int (1 : Int32))])) _
        refine XS.goto X203.here hx rfl (pc0 := 205) (pc' := 209) rfl (hb hby at_205) (by decide) (by decide) ?_
        refine XS.istore X203.here hx rfl (hb hby at_209) rfl (l' := #[.val (.int p0), .val (.int p1), .val (.int p2), .val (.ref u2), .val (.ref u8), .val (.int (1 : Int32)), .val (.int (1 : Int32)), .val (.int (p2 &&& (65535 : Int32))), .val (.ref b179), .val (.ref u193)]) rfl ?_
        refine XS.iload X203.here hx rfl (hb hby at_211) rfl ?_
        exact Steps.refl _
      subst hA₀
      obtain ⟨fs, hr, hrun, hended, hW, hsame⟩ := X203.leave (v := some (.int (1 : Int32))) (fun h => by rw [Bd.returns] at h; cases h)
      refine ⟨_, _, s207.trans ?_, hrun, hended, _, _, rfl, ?_, ⟨_, rfl⟩, hW, hsame.mono (by decide) (by decide)⟩
      · show Steps p.tables e below (T203.setTop (mkF m 213 #[.val (.int p0), .val (.int p1), .val (.int p2), .val (.ref u2), .val (.ref u8), .val (.int (1 : Int32)), .val (.int (1 : Int32)), .val (.int (p2 &&& (65535 : Int32))), .val (.ref b179), .val (.ref u193)] [(.int (1 : Int32))])) _
        exact retN X203 hx (t := .boolean) Bd.returns (by simp) (hb hby at_213) hr
      · show Q0 Z p0 p1 p2 h0 n0 _ T203.heap _
        rw [e203]
        exact ⟨rfl, N203⟩
    · have s208 := s146
      rw [hk147] at s208
      obtain ⟨T209, h209, k209, X209, e209, E209, A209, st209⟩ := newP X145 hx hZ (hw _ (List.mem_of_getElem? (i := 7) rfl)) e145 (g := (mkF m 142 #[.val (.int p0), .val (.int p1), .val (.int p2), .val (.ref u2), .val (.ref u8), .val (.int (1 : Int32)), .val (.int (2 : Int32)), .val (.int (p2 &&& (65535 : Int32))), .unset, .unset] [(.int (4 : Int32))])) rfl (hb hby at_142) rfl (by decide) (cap := 4) (by decide) (by decide) (by decide) (by decide)
      obtain ⟨b209, g209⟩ : ∃ z, z = T7.heap.size := ⟨_, rfl⟩
      rw [← g209] at A209 st209
      have ne_u2_b209 : u2 ≠ b209 := Nat.ne_of_lt (Nat.lt_of_lt_of_le c13.lt (Nat.le_of_eq g209.symm))
      have ne_u3_b209 : u3 ≠ b209 := Nat.ne_of_lt (Nat.lt_of_lt_of_le c16.lt (Nat.le_of_eq g209.symm))
      have ne_u4_b209 : u4 ≠ b209 := Nat.ne_of_lt (Nat.lt_of_lt_of_le c17.lt (Nat.le_of_eq g209.symm))
      have ne_u8_b209 : u8 ≠ b209 := Nat.ne_of_lt (Nat.lt_of_lt_of_le f7_0.lt (Nat.le_of_eq g209.symm))
      have g_b209 : n0 ≤ b209 := Nat.le_trans (Nat.le_of_eq O7.1.symm) (Nat.le_trans O7.2.1 (Nat.le_of_eq g209.symm))
      have O209 := O7.ext E209
      have V209 : Arv Z h209 b209 k209 .double (4 : Int32) [(.double (FP.l2d (0 : Int64))), (.double (FP.l2d (0 : Int64))), (.double (FP.l2d (0 : Int64))), (.double (FP.l2d (0 : Int64)))] (.double (FP.l2d (0 : Int64))) := (Arv.newD A209 (by decide)).pad (pad_rep [] (.double (FP.l2d (0 : Int64))) 4)
      obtain ⟨cla210, Ara210, qa210, Sa210, Za210, Ha210, Ga210⟩ := id V209
      have hin211 : ¬ ((0 : Int32) < 0 ∨ cla210.slots.size ≤ ((0 : Int32)).toNatClampNeg) := inb_of Sa210 ⟨by decide, by decide⟩
      obtain ⟨T212, h212, X212, e212, W212, st212⟩ := stD X209 hx hZ e209 Ara210 (j := (0 : Int32)) hin211 (g := (mkF m 149 #[.val (.int p0), .val (.int p1), .val (.int p2), .val (.ref u2), .val (.ref u8), .val (.int (1 : Int32)), .val (.int (2 : Int32)), .val (.int (p2 &&& (65535 : Int32))), .unset, .unset] [(.double (FP.l2d ((p2 &&& (65535 : Int32)).toInt64))), (.int (0 : Int32)), (.ref b209), (.ref b209)])) rfl rfl (hb hby at_149)
      have O212 := O209.wr W212 g_b209
      have N212 := Fr.snoc X212 N145 g_b209
      have V212 : Arv Z h212 b209 k209 .double (4 : Int32) [(.double (FP.l2d ((p2 &&& (65535 : Int32)).toInt64))), (.double (FP.l2d (0 : Int64))), (.double (FP.l2d (0 : Int64))), (.double (FP.l2d (0 : Int64)))] (.double (FP.l2d (0 : Int64))) := Arv.set Ara210 qa210 Sa210 Za210 Ha210 Ga210 rfl W212 0 rfl (Nat.le_of_ble_eq_true rfl)
      obtain ⟨cla213, Ara213, qa213, Sa213, Za213, Ha213, Ga213⟩ := id V212
      have hin214 : ¬ ((1 : Int32) < 0 ∨ cla213.slots.size ≤ ((1 : Int32)).toNatClampNeg) := inb_of Sa213 ⟨by decide, by decide⟩
      obtain ⟨T215, h215, X215, e215, W215, st215⟩ := stD X212 hx hZ e212 Ara213 (j := (1 : Int32)) hin214 (g := (mkF m 157 #[.val (.int p0), .val (.int p1), .val (.int p2), .val (.ref u2), .val (.ref u8), .val (.int (1 : Int32)), .val (.int (2 : Int32)), .val (.int (p2 &&& (65535 : Int32))), .unset, .unset] [(.double (FP.l2d (((p2 &&& (65535 : Int32)) + (1 : Int32)).toInt64))), (.int (1 : Int32)), (.ref b209), (.ref b209)])) rfl rfl (hb hby at_157)
      have O215 := O212.wr W215 g_b209
      have N215 := Fr.snoc X215 N212 g_b209
      have V215 : Arv Z h215 b209 k209 .double (4 : Int32) [(.double (FP.l2d ((p2 &&& (65535 : Int32)).toInt64))), (.double (FP.l2d (((p2 &&& (65535 : Int32)) + (1 : Int32)).toInt64))), (.double (FP.l2d (0 : Int64))), (.double (FP.l2d (0 : Int64)))] (.double (FP.l2d (0 : Int64))) := Arv.set Ara213 qa213 Sa213 Za213 Ha213 Ga213 rfl W215 1 rfl (Nat.le_of_ble_eq_true rfl)
      obtain ⟨cla216, Ara216, qa216, Sa216, Za216, Ha216, Ga216⟩ := id V215
      have hin217 : ¬ ((2 : Int32) < 0 ∨ cla216.slots.size ≤ ((2 : Int32)).toNatClampNeg) := inb_of Sa216 ⟨by decide, by decide⟩
      obtain ⟨T218, h218, X218, e218, W218, st218⟩ := stD X215 hx hZ e215 Ara216 (j := (2 : Int32)) hin217 (g := (mkF m 165 #[.val (.int p0), .val (.int p1), .val (.int p2), .val (.ref u2), .val (.ref u8), .val (.int (1 : Int32)), .val (.int (2 : Int32)), .val (.int (p2 &&& (65535 : Int32))), .unset, .unset] [(.double (FP.l2d (((p2 &&& (65535 : Int32)) + (2 : Int32)).toInt64))), (.int (2 : Int32)), (.ref b209), (.ref b209)])) rfl rfl (hb hby at_165)
      have O218 := O215.wr W218 g_b209
      have N218 := Fr.snoc X218 N215 g_b209
      have V218 : Arv Z h218 b209 k209 .double (4 : Int32) [(.double (FP.l2d ((p2 &&& (65535 : Int32)).toInt64))), (.double (FP.l2d (((p2 &&& (65535 : Int32)) + (1 : Int32)).toInt64))), (.double (FP.l2d (((p2 &&& (65535 : Int32)) + (2 : Int32)).toInt64))), (.double (FP.l2d (0 : Int64)))] (.double (FP.l2d (0 : Int64))) := Arv.set Ara216 qa216 Sa216 Za216 Ha216 Ga216 rfl W218 2 rfl (Nat.le_of_ble_eq_true rfl)
      obtain ⟨cla219, Ara219, qa219, Sa219, Za219, Ha219, Ga219⟩ := id V218
      have hin220 : ¬ ((3 : Int32) < 0 ∨ cla219.slots.size ≤ ((3 : Int32)).toNatClampNeg) := inb_of Sa219 ⟨by decide, by decide⟩
      obtain ⟨T221, h221, X221, e221, W221, st221⟩ := stD X218 hx hZ e218 Ara219 (j := (3 : Int32)) hin220 (g := (mkF m 173 #[.val (.int p0), .val (.int p1), .val (.int p2), .val (.ref u2), .val (.ref u8), .val (.int (1 : Int32)), .val (.int (2 : Int32)), .val (.int (p2 &&& (65535 : Int32))), .unset, .unset] [(.double (FP.l2d (((p2 &&& (65535 : Int32)) + (3 : Int32)).toInt64))), (.int (3 : Int32)), (.ref b209), (.ref b209)])) rfl rfl (hb hby at_173)
      have O221 := O218.wr W221 g_b209
      have N221 := Fr.snoc X221 N218 g_b209
      have V221 : Arv Z h221 b209 k209 .double (4 : Int32) [(.double (FP.l2d ((p2 &&& (65535 : Int32)).toInt64))), (.double (FP.l2d (((p2 &&& (65535 : Int32)) + (1 : Int32)).toInt64))), (.double (FP.l2d (((p2 &&& (65535 : Int32)) + (2 : Int32)).toInt64))), (.double (FP.l2d (((p2 &&& (65535 : Int32)) + (3 : Int32)).toInt64)))] (.double (FP.l2d (0 : Int64))) := Arv.set Ara219 qa219 Sa219 Za219 Ha219 Ga219 rfl W221 3 rfl (Nat.le_of_ble_eq_true rfl)
      obtain ⟨_, _, ⟨T222, L222, k222, n222⟩, -, X222, ⟨Lc222, hQ222, l222, y222, z222⟩, st222⟩ := Jvm.LawKit.callS X221 hx (y := (⟨"com/example/odds_on_axioms/oddsonaxioms/aleatoric/Distribution", "certain", "(I)Lcom/example/odds_on_axioms/oddsonaxioms/aleatoric/Distribution;"⟩ : MethodName)) hown (mvT hZ (hw _ (List.mem_of_getElem? (i := 0) rfl))) (mvT hZ (hw _ (List.mem_of_getElem? (i := 1) rfl))) (mvT hZ (hw _ (List.mem_of_getElem? (i := 2) rfl))) (mvT hZ (hw _ (List.mem_of_getElem? (i := 3) rfl))) (by decide) (backOf (W := 0) (rm1 l Z a0 hw [] (2 : Int32) h221 n0 O221 ) hZ (hw _ (List.mem_of_getElem? (i := 3) rfl)) (hw _ (List.mem_of_getElem? (i := 2) rfl)) (by decide) (by decide)) (g := (mkF m 178 #[.val (.int p0), .val (.int p1), .val (.int p2), .val (.ref u2), .val (.ref u8), .val (.int (1 : Int32)), .val (.int (2 : Int32)), .val (.int (p2 &&& (65535 : Int32))), .val (.ref b209), .unset] [(.int (2 : Int32))])) rfl (by rw [hml]; rfl) (argsL := [(.int (2 : Int32))]) (rest := []) (lenOf pd_rm0_0 rfl) rfl (by show 2 * 0 + _ ≤ _; exact Nat.le_of_eq rfl) (hb hby at_178) (fun _ _ => ⟨rfl, e221, (by decide : 5 + 3 ≤ _), (by decide : 9 + 4 ≤ _)⟩)
      dsimp only [Pt.U, Pt.locs, Pt.cells, Pt.slots] at X222 l222 y222 z222 st222 hQ222
      subst l222 y222 z222
      obtain ⟨u223, u224, u225, u226, u227, rfl, Nq222, Kc222, f222_0, f222_1, f222_2, f222_3, f222_4, f222_5, f222_6, f222_7, f222_8⟩ := hQ222
      have N222 := Fr.app N221 Nq222
      have c228 : Exa Z h221 u2 "com/example/odds_on_axioms/oddsonaxioms/aleatoric/Distribution" := (((((c13.ext E209).wr W212).wr W215).wr W218).wr W221)
      have ne_u2_u223 : u2 ≠ u223 := Nat.ne_of_lt (Nat.lt_of_lt_of_le c228.lt f222_6)
      have c229 : Arv Z h221 u3 u5 .int (1 : Int32) [(.int p0)] (.int (0 : Int32)) := (((((c16.ext E209).other W212 ne_u3_b209).other W215 ne_u3_b209).other W218 ne_u3_b209).other W221 ne_u3_b209)
      have ne_u3_u223 : u3 ≠ u223 := Nat.ne_of_lt (Nat.lt_of_lt_of_le c229.lt f222_6)
      have c230 : Arv Z h221 u4 u6 .double (1 : Int32) [(.double (FP.l2d (1 : Int64)))] (.double (FP.l2d (0 : Int64))) := (((((c17.ext E209).other W212 ne_u4_b209).other W215 ne_u4_b209).other W218 ne_u4_b209).other W221 ne_u4_b209)
      have ne_u4_u223 : u4 ≠ u223 := Nat.ne_of_lt (Nat.lt_of_lt_of_le c230.lt f222_6)
      have c231 : Arv Z h221 u8 u9 .int (1 : Int32) [(.int p0)] (.int (0 : Int32)) := (((((f7_0.ext E209).other W212 ne_u8_b209).other W215 ne_u8_b209).other W218 ne_u8_b209).other W221 ne_u8_b209)
      have ne_u8_u223 : u8 ≠ u223 := Nat.ne_of_lt (Nat.lt_of_lt_of_le c231.lt f222_6)
      have ne_b209_u223 : b209 ≠ u223 := Nat.ne_of_lt (Nat.lt_of_lt_of_le V221.lt f222_6)
      have ne_u2_u224 : u2 ≠ u224 := Nat.ne_of_lt (Nat.lt_of_lt_of_le c228.lt f222_7)
      have ne_u3_u224 : u3 ≠ u224 := Nat.ne_of_lt (Nat.lt_of_lt_of_le c229.lt f222_7)
      have ne_u4_u224 : u4 ≠ u224 := Nat.ne_of_lt (Nat.lt_of_lt_of_le c230.lt f222_7)
      have ne_u8_u224 : u8 ≠ u224 := Nat.ne_of_lt (Nat.lt_of_lt_of_le c231.lt f222_7)
      have ne_b209_u224 : b209 ≠ u224 := Nat.ne_of_lt (Nat.lt_of_lt_of_le V221.lt f222_7)
      have ne_u2_u225 : u2 ≠ u225 := Nat.ne_of_lt (Nat.lt_of_lt_of_le c228.lt f222_8)
      have ne_u3_u225 : u3 ≠ u225 := Nat.ne_of_lt (Nat.lt_of_lt_of_le c229.lt f222_8)
      have ne_u4_u225 : u4 ≠ u225 := Nat.ne_of_lt (Nat.lt_of_lt_of_le c230.lt f222_8)
      have ne_u8_u225 : u8 ≠ u225 := Nat.ne_of_lt (Nat.lt_of_lt_of_le c231.lt f222_8)
      have ne_b209_u225 : b209 ≠ u225 := Nat.ne_of_lt (Nat.lt_of_lt_of_le V221.lt f222_8)
      have g_u223 : n0 ≤ u223 := Nat.le_trans (Nat.le_of_eq O221.1.symm) (Nat.le_trans O221.2.1 f222_6)
      have g_u224 : n0 ≤ u224 := Nat.le_trans (Nat.le_of_eq O221.1.symm) (Nat.le_trans O221.2.1 f222_7)
      have g_u225 : n0 ≤ u225 := Nat.le_trans (Nat.le_of_eq O221.1.symm) (Nat.le_trans O221.2.1 f222_8)
      have O222 := O221.keep Kc222 all0
      have c232 : Arv Z T222.heap b209 k209 .double (4 : Int32) [(.double (FP.l2d ((p2 &&& (65535 : Int32)).toInt64))), (.double (FP.l2d (((p2 &&& (65535 : Int32)) + (1 : Int32)).toInt64))), (.double (FP.l2d (((p2 &&& (65535 : Int32)) + (2 : Int32)).toInt64))), (.double (FP.l2d (((p2 &&& (65535 : Int32)) + (3 : Int32)).toInt64)))] (.double (FP.l2d (0 : Int64))) := (V221.keep Kc222 nin0)
      obtain ⟨T233, L233, X233, e233, N233, st233⟩ := own_callVP X222 hx hZ hown (wk45 hw) (wk46 hw) (wk48 hw) (wk47 hw) (by decide) (wk2 hw) (wk49 hw) (rmex2 l Z a0 hw [] u223 b209 u224 u225 u226 u227 k209 ((p2 &&& (65535 : Int32)).toInt64) (((p2 &&& (65535 : Int32)) + (1 : Int32)).toInt64) (((p2 &&& (65535 : Int32)) + (2 : Int32)).toInt64) (((p2 &&& (65535 : Int32)) + (3 : Int32)).toInt64) T222.heap n0 O222 f222_0 f222_1 f222_2 f222_3 f222_5 c232 (own_rng2 p2)) (rfl : T222.heap = T222.heap) N222 (W := 0) (by decide) (by decide) (by decide) (by decide) f222_0 (g := (mkF m 192 #[.val (.int p0), .val (.int p1), .val (.int p2), .val (.ref u2), .val (.ref u8), .val (.int (1 : Int32)), .val (.int (2 : Int32)), .val (.int (p2 &&& (65535 : Int32))), .val (.ref b209), .val (.ref u223)] [(.ref b209), (.ref u223)])) rfl (by rw [hml]; rfl) (argsL := [(.ref b209)]) (rest := []) (lenOf pd_rm0_3 rfl) rfl (by show 2 * 0 + _ ≤ _; exact Nat.le_of_eq rfl) (hb hby at_192)
      obtain ⟨cla234, Ara234, qa234, Sa234, Za234, Ha234, Ga234⟩ := id c232
      have hin235 : ¬ ((2 : Int32) < 0 ∨ cla234.slots.size ≤ ((2 : Int32)).toNatClampNeg) := inb_of Sa234 ⟨by decide, by decide⟩
      have hat236 : cla234.slots[((2 : Int32)).toNatClampNeg]? = some (.double (FP.l2d (((p2 &&& (65535 : Int32)) + (2 : Int32)).toInt64))) := Has.at Ha234 hin235 rfl
      have s237 : Steps p.tables e below A₀ (T233.setTop (mkF m 213 #[.val (.int p0), .val (.int p1), .val (.int p2), .val (.ref u2), .val (.ref u8), .val (.int (1 : Int32)), .val (.int (2 : Int32)), .val (.int (p2 &&& (65535 : Int32))), .val (.ref b209), .val (.ref u223)] [(.int (1 : Int32))])) := by
        refine s208.trans ?_
        refine XS.istore X145.here hx rfl (hb hby at_133) rfl (l' := #[.val (.int p0), .val (.int p1), .val (.int p2), .val (.ref u2), .val (.ref u8), .val (.int (1 : Int32)), .val (.int (2 : Int32)), .unset, .unset, .unset]) rfl ?_
        refine XS.iloadN X145.here hx rfl (hb hby at_135) rfl ?_
        refine X145.ldcInt hx hown (mvT hZ (hw _ (List.mem_of_getElem? (i := 44) rfl))) (g := (mkF m 136 #[.val (.int p0), .val (.int p1), .val (.int p2), .val (.ref u2), .val (.ref u8), .val (.int (1 : Int32)), .val (.int (2 : Int32)), .unset, .unset, .unset] [(.int p2)])) rfl (hb hby at_136) _ ?_
        refine XS.iand X145.here hx rfl (hb hby at_138) rfl ?_
        refine XS.istore X145.here hx rfl (hb hby at_139) rfl (l' := #[.val (.int p0), .val (.int p1), .val (.int p2), .val (.ref u2), .val (.ref u8), .val (.int (1 : Int32)), .val (.int (2 : Int32)), .val (.int (p2 &&& (65535 : Int32))), .unset, .unset]) rfl ?_
        refine XS.iconst X145.here hx rfl (hb hby at_141) ?_
        refine st209 _ ?_
        refine XS.dup X209.here hx rfl (hb hby at_144) rfl rfl ?_
        show Steps p.tables e below (T209.setTop (mkF m 145 #[.val (.int p0), .val (.int p1), .val (.int p2), .val (.ref u2), .val (.ref u8), .val (.int (1 : Int32)), .val (.int (2 : Int32)), .val (.int (p2 &&& (65535 : Int32))), .unset, .unset] [(.ref b209), (.ref b209)])) _
        refine XS.iconst X209.here hx rfl (hb hby at_145) ?_
        refine XS.iload X209.here hx rfl (hb hby at_146) rfl ?_
        refine XS.i2dS X209.here hx rfl (hb hby at_148) rfl (i2d_w _) ?_
        refine st212 _ ?_
        refine XS.dup X212.here hx rfl (hb hby at_150) rfl rfl ?_
        refine XS.iconst X212.here hx rfl (hb hby at_151) ?_
        refine XS.iload X212.here hx rfl (hb hby at_152) rfl ?_
        refine XS.iconst X212.here hx rfl (hb hby at_154) ?_
        refine XS.iadd X212.here hx rfl (hb hby at_155) rfl ?_
        refine XS.i2dS X212.here hx rfl (hb hby at_156) rfl (i2d_w _) ?_
        show Steps p.tables e below (T212.setTop (mkF m 157 #[.val (.int p0), .val (.int p1), .val (.int p2), .val (.ref u2), .val (.ref u8), .val (.int (1 : Int32)), .val (.int (2 : Int32)), .val (.int (p2 &&& (65535 : Int32))), .unset, .unset] [(.double (FP.l2d (((p2 &&& (65535 : Int32)) + (1 : Int32)).toInt64))), (.int (1 : Int32)), (.ref b209), (.ref b209)])) _
        refine st215 _ ?_
        refine XS.dup X215.here hx rfl (hb hby at_158) rfl rfl ?_
        refine XS.iconst X215.here hx rfl (hb hby at_159) ?_
        refine XS.iload X215.here hx rfl (hb hby at_160) rfl ?_
        refine XS.iconst X215.here hx rfl (hb hby at_162) ?_
        refine XS.iadd X215.here hx rfl (hb hby at_163) rfl ?_
        refine XS.i2dS X215.here hx rfl (hb hby at_164) rfl (i2d_w _) ?_
        refine st218 _ ?_
        refine XS.dup X218.here hx rfl (hb hby at_166) rfl rfl ?_
        refine XS.iconst X218.here hx rfl (hb hby at_167) ?_
        show Steps p.tables e below (T218.setTop (mkF m 168 #[.val (.int p0), .val (.int p1), .val (.int p2), .val (.ref u2), .val (.ref u8), .val (.int (1 : Int32)), .val (.int (2 : Int32)), .val (.int (p2 &&& (65535 : Int32))), .unset, .unset] [(.int (3 : Int32)), (.ref b209), (.ref b209)])) _
        refine XS.iload X218.here hx rfl (hb hby at_168) rfl ?_
        refine XS.iconst X218.here hx rfl (hb hby at_170) ?_
        refine XS.iadd X218.here hx rfl (hb hby at_171) rfl ?_
        refine XS.i2dS X218.here hx rfl (hb hby at_172) rfl (i2d_w _) ?_
        refine st221 _ ?_
        refine XS.astore X221.here hx rfl (hb hby at_174) rfl rfl (l' := #[.val (.int p0), .val (.int p1), .val (.int p2), .val (.ref u2), .val (.ref u8), .val (.int (1 : Int32)), .val (.int (2 : Int32)), .val (.int (p2 &&& (65535 : Int32))), .val (.ref b209), .unset]) rfl ?_
        refine XS.iload X221.here hx rfl (hb hby at_176) rfl ?_
        refine st222 _ ?_
        refine XS.astore X222.here hx rfl (hb hby at_181) rfl rfl (l' := #[.val (.int p0), .val (.int p1), .val (.int p2), .val (.ref u2), .val (.ref u8), .val (.int (1 : Int32)), .val (.int (2 : Int32)), .val (.int (p2 &&& (65535 : Int32))), .val (.ref b209), .val (.ref u223)]) rfl ?_
        refine XS.iload X222.here hx rfl (hb hby at_183) rfl ?_
        show Steps p.tables e below (T222.setTop (mkF m 185 #[.val (.int p0), .val (.int p1), .val (.int p2), .val (.ref u2), .val (.ref u8), .val (.int (1 : Int32)), .val (.int (2 : Int32)), .val (.int (p2 &&& (65535 : Int32))), .val (.ref b209), .val (.ref u223)] [(.int (1 : Int32))])) _
        refine XS.ifNo X222.here hx rfl (hb hby at_185) rfl ((if0 _ _).trans (feq (by decide)).1) ?_
        refine XS.aload X222.here hx rfl (hb hby at_188) rfl rfl ?_
        refine XS.aload X222.here hx rfl (hb hby at_190) rfl rfl ?_
        refine st233 _ ?_
        refine XS.aload X233.here hx rfl (hb hby at_195) rfl rfl ?_
        refine XS.iload X233.here hx rfl (hb hby at_197) rfl ?_
        refine X233.daload hx (j := (2 : Int32)) (v := (.double (FP.l2d (((p2 &&& (65535 : Int32)) + (2 : Int32)).toInt64)))) (by rw [e233]; exact Ara234.1) (State.isArrayOf_alike hZ.alike Ara234.2.1) Ara234.2.2 hin235 hat236 (g := (mkF m 199 #[.val (.int p0), .val (.int p1), .val (.int p2), .val (.ref u2), .val (.ref u8), .val (.int (1 : Int32)), .val (.int (2 : Int32)), .val (.int (p2 &&& (65535 : Int32))), .val (.ref b209), .val (.ref u223)] [(.int (2 : Int32)), (.ref b209), (.double (FP.l2d (((p2 &&& (65535 : Int32)) + (2 : Int32)).toInt64)))])) rfl rfl (hb hby at_199) _ ?_
        refine XS.dcmpS X233.here hx rfl (hb hby at_200) rfl (dcmpV_self (nn_w rfl) _) ?_
        refine XS.ifNo X233.here hx rfl (hb hby at_201) rfl ((if0 _ _).trans (teq (by decide)).2) ?_
        refine XS.iconst X233.here hx rfl (hb hby at_204) ?_
        show Steps p.tables e below (T233.setTop (mkF m 205 #[.val (.int p0), .val (.int p1), .val (.int p2), .val (.ref u2), .val (.ref u8), .val (.int (1 : Int32)), .val (.int (2 : Int32)), .val (.int (p2 &&& (65535 : Int32))), .val (.ref b209), .val (.ref u223)] [(.int (1 : Int32))])) _
        refine XS.goto X233.here hx rfl (pc0 := 205) (pc' := 209) rfl (hb hby at_205) (by decide) (by decide) ?_
        refine XS.istore X233.here hx rfl (hb hby at_209) rfl (l' := #[.val (.int p0), .val (.int p1), .val (.int p2), .val (.ref u2), .val (.ref u8), .val (.int (1 : Int32)), .val (.int (2 : Int32)), .val (.int (p2 &&& (65535 : Int32))), .val (.ref b209), .val (.ref u223)]) rfl ?_
        refine XS.iload X233.here hx rfl (hb hby at_211) rfl ?_
        exact Steps.refl _
      subst hA₀
      obtain ⟨fs, hr, hrun, hended, hW, hsame⟩ := X233.leave (v := some (.int (1 : Int32))) (fun h => by rw [Bd.returns] at h; cases h)
      refine ⟨_, _, s237.trans ?_, hrun, hended, _, _, rfl, ?_, ⟨_, rfl⟩, hW, hsame.mono (by decide) (by decide)⟩
      · show Steps p.tables e below (T233.setTop (mkF m 213 #[.val (.int p0), .val (.int p1), .val (.int p2), .val (.ref u2), .val (.ref u8), .val (.int (1 : Int32)), .val (.int (2 : Int32)), .val (.int (p2 &&& (65535 : Int32))), .val (.ref b209), .val (.ref u223)] [(.int (1 : Int32))])) _
        exact retN X233 hx (t := .boolean) Bd.returns (by simp) (hb hby at_213) hr
      · show Q0 Z p0 p1 p2 h0 n0 _ T233.heap _
        rw [e233]
        exact ⟨rfl, N233⟩
    · have s238 := s146
      rw [hk147] at s238
      obtain ⟨T239, h239, k239, X239, e239, E239, A239, st239⟩ := newP X145 hx hZ (hw _ (List.mem_of_getElem? (i := 7) rfl)) e145 (g := (mkF m 142 #[.val (.int p0), .val (.int p1), .val (.int p2), .val (.ref u2), .val (.ref u8), .val (.int (1 : Int32)), .val (.int (3 : Int32)), .val (.int (p2 &&& (65535 : Int32))), .unset, .unset] [(.int (4 : Int32))])) rfl (hb hby at_142) rfl (by decide) (cap := 4) (by decide) (by decide) (by decide) (by decide)
      obtain ⟨b239, g239⟩ : ∃ z, z = T7.heap.size := ⟨_, rfl⟩
      rw [← g239] at A239 st239
      have ne_u2_b239 : u2 ≠ b239 := Nat.ne_of_lt (Nat.lt_of_lt_of_le c13.lt (Nat.le_of_eq g239.symm))
      have ne_u3_b239 : u3 ≠ b239 := Nat.ne_of_lt (Nat.lt_of_lt_of_le c16.lt (Nat.le_of_eq g239.symm))
      have ne_u4_b239 : u4 ≠ b239 := Nat.ne_of_lt (Nat.lt_of_lt_of_le c17.lt (Nat.le_of_eq g239.symm))
      have ne_u8_b239 : u8 ≠ b239 := Nat.ne_of_lt (Nat.lt_of_lt_of_le f7_0.lt (Nat.le_of_eq g239.symm))
      have g_b239 : n0 ≤ b239 := Nat.le_trans (Nat.le_of_eq O7.1.symm) (Nat.le_trans O7.2.1 (Nat.le_of_eq g239.symm))
      have O239 := O7.ext E239
      have V239 : Arv Z h239 b239 k239 .double (4 : Int32) [(.double (FP.l2d (0 : Int64))), (.double (FP.l2d (0 : Int64))), (.double (FP.l2d (0 : Int64))), (.double (FP.l2d (0 : Int64)))] (.double (FP.l2d (0 : Int64))) := (Arv.newD A239 (by decide)).pad (pad_rep [] (.double (FP.l2d (0 : Int64))) 4)
      obtain ⟨cla240, Ara240, qa240, Sa240, Za240, Ha240, Ga240⟩ := id V239
      have hin241 : ¬ ((0 : Int32) < 0 ∨ cla240.slots.size ≤ ((0 : Int32)).toNatClampNeg) := inb_of Sa240 ⟨by decide, by decide⟩
      obtain ⟨T242, h242, X242, e242, W242, st242⟩ := stD X239 hx hZ e239 Ara240 (j := (0 : Int32)) hin241 (g := (mkF m 149 #[.val (.int p0), .val (.int p1), .val (.int p2), .val (.ref u2), .val (.ref u8), .val (.int (1 : Int32)), .val (.int (3 : Int32)), .val (.int (p2 &&& (65535 : Int32))), .unset, .unset] [(.double (FP.l2d ((p2 &&& (65535 : Int32)).toInt64))), (.int (0 : Int32)), (.ref b239), (.ref b239)])) rfl rfl (hb hby at_149)
      have O242 := O239.wr W242 g_b239
      have N242 := Fr.snoc X242 N145 g_b239
      have V242 : Arv Z h242 b239 k239 .double (4 : Int32) [(.double (FP.l2d ((p2 &&& (65535 : Int32)).toInt64))), (.double (FP.l2d (0 : Int64))), (.double (FP.l2d (0 : Int64))), (.double (FP.l2d (0 : Int64)))] (.double (FP.l2d (0 : Int64))) := Arv.set Ara240 qa240 Sa240 Za240 Ha240 Ga240 rfl W242 0 rfl (Nat.le_of_ble_eq_true rfl)
      obtain ⟨cla243, Ara243, qa243, Sa243, Za243, Ha243, Ga243⟩ := id V242
      have hin244 : ¬ ((1 : Int32) < 0 ∨ cla243.slots.size ≤ ((1 : Int32)).toNatClampNeg) := inb_of Sa243 ⟨by decide, by decide⟩
      obtain ⟨T245, h245, X245, e245, W245, st245⟩ := stD X242 hx hZ e242 Ara243 (j := (1 : Int32)) hin244 (g := (mkF m 157 #[.val (.int p0), .val (.int p1), .val (.int p2), .val (.ref u2), .val (.ref u8), .val (.int (1 : Int32)), .val (.int (3 : Int32)), .val (.int (p2 &&& (65535 : Int32))), .unset, .unset] [(.double (FP.l2d (((p2 &&& (65535 : Int32)) + (1 : Int32)).toInt64))), (.int (1 : Int32)), (.ref b239), (.ref b239)])) rfl rfl (hb hby at_157)
      have O245 := O242.wr W245 g_b239
      have N245 := Fr.snoc X245 N242 g_b239
      have V245 : Arv Z h245 b239 k239 .double (4 : Int32) [(.double (FP.l2d ((p2 &&& (65535 : Int32)).toInt64))), (.double (FP.l2d (((p2 &&& (65535 : Int32)) + (1 : Int32)).toInt64))), (.double (FP.l2d (0 : Int64))), (.double (FP.l2d (0 : Int64)))] (.double (FP.l2d (0 : Int64))) := Arv.set Ara243 qa243 Sa243 Za243 Ha243 Ga243 rfl W245 1 rfl (Nat.le_of_ble_eq_true rfl)
      obtain ⟨cla246, Ara246, qa246, Sa246, Za246, Ha246, Ga246⟩ := id V245
      have hin247 : ¬ ((2 : Int32) < 0 ∨ cla246.slots.size ≤ ((2 : Int32)).toNatClampNeg) := inb_of Sa246 ⟨by decide, by decide⟩
      obtain ⟨T248, h248, X248, e248, W248, st248⟩ := stD X245 hx hZ e245 Ara246 (j := (2 : Int32)) hin247 (g := (mkF m 165 #[.val (.int p0), .val (.int p1), .val (.int p2), .val (.ref u2), .val (.ref u8), .val (.int (1 : Int32)), .val (.int (3 : Int32)), .val (.int (p2 &&& (65535 : Int32))), .unset, .unset] [(.double (FP.l2d (((p2 &&& (65535 : Int32)) + (2 : Int32)).toInt64))), (.int (2 : Int32)), (.ref b239), (.ref b239)])) rfl rfl (hb hby at_165)
      have O248 := O245.wr W248 g_b239
      have N248 := Fr.snoc X248 N245 g_b239
      have V248 : Arv Z h248 b239 k239 .double (4 : Int32) [(.double (FP.l2d ((p2 &&& (65535 : Int32)).toInt64))), (.double (FP.l2d (((p2 &&& (65535 : Int32)) + (1 : Int32)).toInt64))), (.double (FP.l2d (((p2 &&& (65535 : Int32)) + (2 : Int32)).toInt64))), (.double (FP.l2d (0 : Int64)))] (.double (FP.l2d (0 : Int64))) := Arv.set Ara246 qa246 Sa246 Za246 Ha246 Ga246 rfl W248 2 rfl (Nat.le_of_ble_eq_true rfl)
      obtain ⟨cla249, Ara249, qa249, Sa249, Za249, Ha249, Ga249⟩ := id V248
      have hin250 : ¬ ((3 : Int32) < 0 ∨ cla249.slots.size ≤ ((3 : Int32)).toNatClampNeg) := inb_of Sa249 ⟨by decide, by decide⟩
      obtain ⟨T251, h251, X251, e251, W251, st251⟩ := stD X248 hx hZ e248 Ara249 (j := (3 : Int32)) hin250 (g := (mkF m 173 #[.val (.int p0), .val (.int p1), .val (.int p2), .val (.ref u2), .val (.ref u8), .val (.int (1 : Int32)), .val (.int (3 : Int32)), .val (.int (p2 &&& (65535 : Int32))), .unset, .unset] [(.double (FP.l2d (((p2 &&& (65535 : Int32)) + (3 : Int32)).toInt64))), (.int (3 : Int32)), (.ref b239), (.ref b239)])) rfl rfl (hb hby at_173)
      have O251 := O248.wr W251 g_b239
      have N251 := Fr.snoc X251 N248 g_b239
      have V251 : Arv Z h251 b239 k239 .double (4 : Int32) [(.double (FP.l2d ((p2 &&& (65535 : Int32)).toInt64))), (.double (FP.l2d (((p2 &&& (65535 : Int32)) + (1 : Int32)).toInt64))), (.double (FP.l2d (((p2 &&& (65535 : Int32)) + (2 : Int32)).toInt64))), (.double (FP.l2d (((p2 &&& (65535 : Int32)) + (3 : Int32)).toInt64)))] (.double (FP.l2d (0 : Int64))) := Arv.set Ara249 qa249 Sa249 Za249 Ha249 Ga249 rfl W251 3 rfl (Nat.le_of_ble_eq_true rfl)
      obtain ⟨_, _, ⟨T252, L252, k252, n252⟩, -, X252, ⟨Lc252, hQ252, l252, y252, z252⟩, st252⟩ := Jvm.LawKit.callS X251 hx (y := (⟨"com/example/odds_on_axioms/oddsonaxioms/aleatoric/Distribution", "certain", "(I)Lcom/example/odds_on_axioms/oddsonaxioms/aleatoric/Distribution;"⟩ : MethodName)) hown (mvT hZ (hw _ (List.mem_of_getElem? (i := 0) rfl))) (mvT hZ (hw _ (List.mem_of_getElem? (i := 1) rfl))) (mvT hZ (hw _ (List.mem_of_getElem? (i := 2) rfl))) (mvT hZ (hw _ (List.mem_of_getElem? (i := 3) rfl))) (by decide) (backOf (W := 0) (rm1 l Z a0 hw [] (3 : Int32) h251 n0 O251 ) hZ (hw _ (List.mem_of_getElem? (i := 3) rfl)) (hw _ (List.mem_of_getElem? (i := 2) rfl)) (by decide) (by decide)) (g := (mkF m 178 #[.val (.int p0), .val (.int p1), .val (.int p2), .val (.ref u2), .val (.ref u8), .val (.int (1 : Int32)), .val (.int (3 : Int32)), .val (.int (p2 &&& (65535 : Int32))), .val (.ref b239), .unset] [(.int (3 : Int32))])) rfl (by rw [hml]; rfl) (argsL := [(.int (3 : Int32))]) (rest := []) (lenOf pd_rm0_0 rfl) rfl (by show 2 * 0 + _ ≤ _; exact Nat.le_of_eq rfl) (hb hby at_178) (fun _ _ => ⟨rfl, e251, (by decide : 5 + 3 ≤ _), (by decide : 9 + 4 ≤ _)⟩)
      dsimp only [Pt.U, Pt.locs, Pt.cells, Pt.slots] at X252 l252 y252 z252 st252 hQ252
      subst l252 y252 z252
      obtain ⟨u253, u254, u255, u256, u257, rfl, Nq252, Kc252, f252_0, f252_1, f252_2, f252_3, f252_4, f252_5, f252_6, f252_7, f252_8⟩ := hQ252
      have N252 := Fr.app N251 Nq252
      have c258 : Exa Z h251 u2 "com/example/odds_on_axioms/oddsonaxioms/aleatoric/Distribution" := (((((c13.ext E239).wr W242).wr W245).wr W248).wr W251)
      have ne_u2_u253 : u2 ≠ u253 := Nat.ne_of_lt (Nat.lt_of_lt_of_le c258.lt f252_6)
      have c259 : Arv Z h251 u3 u5 .int (1 : Int32) [(.int p0)] (.int (0 : Int32)) := (((((c16.ext E239).other W242 ne_u3_b239).other W245 ne_u3_b239).other W248 ne_u3_b239).other W251 ne_u3_b239)
      have ne_u3_u253 : u3 ≠ u253 := Nat.ne_of_lt (Nat.lt_of_lt_of_le c259.lt f252_6)
      have c260 : Arv Z h251 u4 u6 .double (1 : Int32) [(.double (FP.l2d (1 : Int64)))] (.double (FP.l2d (0 : Int64))) := (((((c17.ext E239).other W242 ne_u4_b239).other W245 ne_u4_b239).other W248 ne_u4_b239).other W251 ne_u4_b239)
      have ne_u4_u253 : u4 ≠ u253 := Nat.ne_of_lt (Nat.lt_of_lt_of_le c260.lt f252_6)
      have c261 : Arv Z h251 u8 u9 .int (1 : Int32) [(.int p0)] (.int (0 : Int32)) := (((((f7_0.ext E239).other W242 ne_u8_b239).other W245 ne_u8_b239).other W248 ne_u8_b239).other W251 ne_u8_b239)
      have ne_u8_u253 : u8 ≠ u253 := Nat.ne_of_lt (Nat.lt_of_lt_of_le c261.lt f252_6)
      have ne_b239_u253 : b239 ≠ u253 := Nat.ne_of_lt (Nat.lt_of_lt_of_le V251.lt f252_6)
      have ne_u2_u254 : u2 ≠ u254 := Nat.ne_of_lt (Nat.lt_of_lt_of_le c258.lt f252_7)
      have ne_u3_u254 : u3 ≠ u254 := Nat.ne_of_lt (Nat.lt_of_lt_of_le c259.lt f252_7)
      have ne_u4_u254 : u4 ≠ u254 := Nat.ne_of_lt (Nat.lt_of_lt_of_le c260.lt f252_7)
      have ne_u8_u254 : u8 ≠ u254 := Nat.ne_of_lt (Nat.lt_of_lt_of_le c261.lt f252_7)
      have ne_b239_u254 : b239 ≠ u254 := Nat.ne_of_lt (Nat.lt_of_lt_of_le V251.lt f252_7)
      have ne_u2_u255 : u2 ≠ u255 := Nat.ne_of_lt (Nat.lt_of_lt_of_le c258.lt f252_8)
      have ne_u3_u255 : u3 ≠ u255 := Nat.ne_of_lt (Nat.lt_of_lt_of_le c259.lt f252_8)
      have ne_u4_u255 : u4 ≠ u255 := Nat.ne_of_lt (Nat.lt_of_lt_of_le c260.lt f252_8)
      have ne_u8_u255 : u8 ≠ u255 := Nat.ne_of_lt (Nat.lt_of_lt_of_le c261.lt f252_8)
      have ne_b239_u255 : b239 ≠ u255 := Nat.ne_of_lt (Nat.lt_of_lt_of_le V251.lt f252_8)
      have g_u253 : n0 ≤ u253 := Nat.le_trans (Nat.le_of_eq O251.1.symm) (Nat.le_trans O251.2.1 f252_6)
      have g_u254 : n0 ≤ u254 := Nat.le_trans (Nat.le_of_eq O251.1.symm) (Nat.le_trans O251.2.1 f252_7)
      have g_u255 : n0 ≤ u255 := Nat.le_trans (Nat.le_of_eq O251.1.symm) (Nat.le_trans O251.2.1 f252_8)
      have O252 := O251.keep Kc252 all0
      have c262 : Arv Z T252.heap b239 k239 .double (4 : Int32) [(.double (FP.l2d ((p2 &&& (65535 : Int32)).toInt64))), (.double (FP.l2d (((p2 &&& (65535 : Int32)) + (1 : Int32)).toInt64))), (.double (FP.l2d (((p2 &&& (65535 : Int32)) + (2 : Int32)).toInt64))), (.double (FP.l2d (((p2 &&& (65535 : Int32)) + (3 : Int32)).toInt64)))] (.double (FP.l2d (0 : Int64))) := (V251.keep Kc252 nin0)
      obtain ⟨T263, L263, X263, e263, N263, st263⟩ := own_callVP X252 hx hZ hown (wk45 hw) (wk46 hw) (wk48 hw) (wk47 hw) (by decide) (wk2 hw) (wk49 hw) (rmex3 l Z a0 hw [] u253 b239 u254 u255 u256 u257 k239 ((p2 &&& (65535 : Int32)).toInt64) (((p2 &&& (65535 : Int32)) + (1 : Int32)).toInt64) (((p2 &&& (65535 : Int32)) + (2 : Int32)).toInt64) (((p2 &&& (65535 : Int32)) + (3 : Int32)).toInt64) T252.heap n0 O252 f252_0 f252_1 f252_2 f252_3 f252_5 c262 (own_rng3 p2)) (rfl : T252.heap = T252.heap) N252 (W := 0) (by decide) (by decide) (by decide) (by decide) f252_0 (g := (mkF m 192 #[.val (.int p0), .val (.int p1), .val (.int p2), .val (.ref u2), .val (.ref u8), .val (.int (1 : Int32)), .val (.int (3 : Int32)), .val (.int (p2 &&& (65535 : Int32))), .val (.ref b239), .val (.ref u253)] [(.ref b239), (.ref u253)])) rfl (by rw [hml]; rfl) (argsL := [(.ref b239)]) (rest := []) (lenOf pd_rm0_3 rfl) rfl (by show 2 * 0 + _ ≤ _; exact Nat.le_of_eq rfl) (hb hby at_192)
      obtain ⟨cla264, Ara264, qa264, Sa264, Za264, Ha264, Ga264⟩ := id c262
      have hin265 : ¬ ((3 : Int32) < 0 ∨ cla264.slots.size ≤ ((3 : Int32)).toNatClampNeg) := inb_of Sa264 ⟨by decide, by decide⟩
      have hat266 : cla264.slots[((3 : Int32)).toNatClampNeg]? = some (.double (FP.l2d (((p2 &&& (65535 : Int32)) + (3 : Int32)).toInt64))) := Has.at Ha264 hin265 rfl
      have s267 : Steps p.tables e below A₀ (T263.setTop (mkF m 213 #[.val (.int p0), .val (.int p1), .val (.int p2), .val (.ref u2), .val (.ref u8), .val (.int (1 : Int32)), .val (.int (3 : Int32)), .val (.int (p2 &&& (65535 : Int32))), .val (.ref b239), .val (.ref u253)] [(.int (1 : Int32))])) := by
        refine s238.trans ?_
        refine XS.istore X145.here hx rfl (hb hby at_133) rfl (l' := #[.val (.int p0), .val (.int p1), .val (.int p2), .val (.ref u2), .val (.ref u8), .val (.int (1 : Int32)), .val (.int (3 : Int32)), .unset, .unset, .unset]) rfl ?_
        refine XS.iloadN X145.here hx rfl (hb hby at_135) rfl ?_
        refine X145.ldcInt hx hown (mvT hZ (hw _ (List.mem_of_getElem? (i := 44) rfl))) (g := (mkF m 136 #[.val (.int p0), .val (.int p1), .val (.int p2), .val (.ref u2), .val (.ref u8), .val (.int (1 : Int32)), .val (.int (3 : Int32)), .unset, .unset, .unset] [(.int p2)])) rfl (hb hby at_136) _ ?_
        refine XS.iand X145.here hx rfl (hb hby at_138) rfl ?_
        refine XS.istore X145.here hx rfl (hb hby at_139) rfl (l' := #[.val (.int p0), .val (.int p1), .val (.int p2), .val (.ref u2), .val (.ref u8), .val (.int (1 : Int32)), .val (.int (3 : Int32)), .val (.int (p2 &&& (65535 : Int32))), .unset, .unset]) rfl ?_
        refine XS.iconst X145.here hx rfl (hb hby at_141) ?_
        refine st239 _ ?_
        refine XS.dup X239.here hx rfl (hb hby at_144) rfl rfl ?_
        show Steps p.tables e below (T239.setTop (mkF m 145 #[.val (.int p0), .val (.int p1), .val (.int p2), .val (.ref u2), .val (.ref u8), .val (.int (1 : Int32)), .val (.int (3 : Int32)), .val (.int (p2 &&& (65535 : Int32))), .unset, .unset] [(.ref b239), (.ref b239)])) _
        refine XS.iconst X239.here hx rfl (hb hby at_145) ?_
        refine XS.iload X239.here hx rfl (hb hby at_146) rfl ?_
        refine XS.i2dS X239.here hx rfl (hb hby at_148) rfl (i2d_w _) ?_
        refine st242 _ ?_
        refine XS.dup X242.here hx rfl (hb hby at_150) rfl rfl ?_
        refine XS.iconst X242.here hx rfl (hb hby at_151) ?_
        refine XS.iload X242.here hx rfl (hb hby at_152) rfl ?_
        refine XS.iconst X242.here hx rfl (hb hby at_154) ?_
        refine XS.iadd X242.here hx rfl (hb hby at_155) rfl ?_
        refine XS.i2dS X242.here hx rfl (hb hby at_156) rfl (i2d_w _) ?_
        show Steps p.tables e below (T242.setTop (mkF m 157 #[.val (.int p0), .val (.int p1), .val (.int p2), .val (.ref u2), .val (.ref u8), .val (.int (1 : Int32)), .val (.int (3 : Int32)), .val (.int (p2 &&& (65535 : Int32))), .unset, .unset] [(.double (FP.l2d (((p2 &&& (65535 : Int32)) + (1 : Int32)).toInt64))), (.int (1 : Int32)), (.ref b239), (.ref b239)])) _
        refine st245 _ ?_
        refine XS.dup X245.here hx rfl (hb hby at_158) rfl rfl ?_
        refine XS.iconst X245.here hx rfl (hb hby at_159) ?_
        refine XS.iload X245.here hx rfl (hb hby at_160) rfl ?_
        refine XS.iconst X245.here hx rfl (hb hby at_162) ?_
        refine XS.iadd X245.here hx rfl (hb hby at_163) rfl ?_
        refine XS.i2dS X245.here hx rfl (hb hby at_164) rfl (i2d_w _) ?_
        refine st248 _ ?_
        refine XS.dup X248.here hx rfl (hb hby at_166) rfl rfl ?_
        refine XS.iconst X248.here hx rfl (hb hby at_167) ?_
        show Steps p.tables e below (T248.setTop (mkF m 168 #[.val (.int p0), .val (.int p1), .val (.int p2), .val (.ref u2), .val (.ref u8), .val (.int (1 : Int32)), .val (.int (3 : Int32)), .val (.int (p2 &&& (65535 : Int32))), .unset, .unset] [(.int (3 : Int32)), (.ref b239), (.ref b239)])) _
        refine XS.iload X248.here hx rfl (hb hby at_168) rfl ?_
        refine XS.iconst X248.here hx rfl (hb hby at_170) ?_
        refine XS.iadd X248.here hx rfl (hb hby at_171) rfl ?_
        refine XS.i2dS X248.here hx rfl (hb hby at_172) rfl (i2d_w _) ?_
        refine st251 _ ?_
        refine XS.astore X251.here hx rfl (hb hby at_174) rfl rfl (l' := #[.val (.int p0), .val (.int p1), .val (.int p2), .val (.ref u2), .val (.ref u8), .val (.int (1 : Int32)), .val (.int (3 : Int32)), .val (.int (p2 &&& (65535 : Int32))), .val (.ref b239), .unset]) rfl ?_
        refine XS.iload X251.here hx rfl (hb hby at_176) rfl ?_
        refine st252 _ ?_
        refine XS.astore X252.here hx rfl (hb hby at_181) rfl rfl (l' := #[.val (.int p0), .val (.int p1), .val (.int p2), .val (.ref u2), .val (.ref u8), .val (.int (1 : Int32)), .val (.int (3 : Int32)), .val (.int (p2 &&& (65535 : Int32))), .val (.ref b239), .val (.ref u253)]) rfl ?_
        refine XS.iload X252.here hx rfl (hb hby at_183) rfl ?_
        show Steps p.tables e below (T252.setTop (mkF m 185 #[.val (.int p0), .val (.int p1), .val (.int p2), .val (.ref u2), .val (.ref u8), .val (.int (1 : Int32)), .val (.int (3 : Int32)), .val (.int (p2 &&& (65535 : Int32))), .val (.ref b239), .val (.ref u253)] [(.int (1 : Int32))])) _
        refine XS.ifNo X252.here hx rfl (hb hby at_185) rfl ((if0 _ _).trans (feq (by decide)).1) ?_
        refine XS.aload X252.here hx rfl (hb hby at_188) rfl rfl ?_
        refine XS.aload X252.here hx rfl (hb hby at_190) rfl rfl ?_
        refine st263 _ ?_
        refine XS.aload X263.here hx rfl (hb hby at_195) rfl rfl ?_
        refine XS.iload X263.here hx rfl (hb hby at_197) rfl ?_
        refine X263.daload hx (j := (3 : Int32)) (v := (.double (FP.l2d (((p2 &&& (65535 : Int32)) + (3 : Int32)).toInt64)))) (by rw [e263]; exact Ara264.1) (State.isArrayOf_alike hZ.alike Ara264.2.1) Ara264.2.2 hin265 hat266 (g := (mkF m 199 #[.val (.int p0), .val (.int p1), .val (.int p2), .val (.ref u2), .val (.ref u8), .val (.int (1 : Int32)), .val (.int (3 : Int32)), .val (.int (p2 &&& (65535 : Int32))), .val (.ref b239), .val (.ref u253)] [(.int (3 : Int32)), (.ref b239), (.double (FP.l2d (((p2 &&& (65535 : Int32)) + (3 : Int32)).toInt64)))])) rfl rfl (hb hby at_199) _ ?_
        refine XS.dcmpS X263.here hx rfl (hb hby at_200) rfl (dcmpV_self (nn_w rfl) _) ?_
        refine XS.ifNo X263.here hx rfl (hb hby at_201) rfl ((if0 _ _).trans (teq (by decide)).2) ?_
        refine XS.iconst X263.here hx rfl (hb hby at_204) ?_
        show Steps p.tables e below (T263.setTop (mkF m 205 #[.val (.int p0), .val (.int p1), .val (.int p2), .val (.ref u2), .val (.ref u8), .val (.int (1 : Int32)), .val (.int (3 : Int32)), .val (.int (p2 &&& (65535 : Int32))), .val (.ref b239), .val (.ref u253)] [(.int (1 : Int32))])) _
        refine XS.goto X263.here hx rfl (pc0 := 205) (pc' := 209) rfl (hb hby at_205) (by decide) (by decide) ?_
        refine XS.istore X263.here hx rfl (hb hby at_209) rfl (l' := #[.val (.int p0), .val (.int p1), .val (.int p2), .val (.ref u2), .val (.ref u8), .val (.int (1 : Int32)), .val (.int (3 : Int32)), .val (.int (p2 &&& (65535 : Int32))), .val (.ref b239), .val (.ref u253)]) rfl ?_
        refine XS.iload X263.here hx rfl (hb hby at_211) rfl ?_
        exact Steps.refl _
      subst hA₀
      obtain ⟨fs, hr, hrun, hended, hW, hsame⟩ := X263.leave (v := some (.int (1 : Int32))) (fun h => by rw [Bd.returns] at h; cases h)
      refine ⟨_, _, s267.trans ?_, hrun, hended, _, _, rfl, ?_, ⟨_, rfl⟩, hW, hsame.mono (by decide) (by decide)⟩
      · show Steps p.tables e below (T263.setTop (mkF m 213 #[.val (.int p0), .val (.int p1), .val (.int p2), .val (.ref u2), .val (.ref u8), .val (.int (1 : Int32)), .val (.int (3 : Int32)), .val (.int (p2 &&& (65535 : Int32))), .val (.ref b239), .val (.ref u253)] [(.int (1 : Int32))])) _
        exact retN X263 hx (t := .boolean) Bd.returns (by simp) (hb hby at_213) hr
      · show Q0 Z p0 p1 p2 h0 n0 _ T263.heap _
        rw [e263]
        exact ⟨rfl, N263⟩
set_option maxRecDepth 65536 in
set_option maxHeartbeats 40000000 in
theorem comes_1 {Post : Tables → Env → Array Value → State → Outcome → State → Prop} (hpost : ∀ tb e args s v u, (limb_1_1.after args s (.returned v) u = true ∧ limb_1_2.after args s (.returned v) u = true ∧ True) → FrameEnd s (.returned v) u (Jvm.fieldLocs frame_1_writes args s ++ Jvm.arrayLocs frame_1_arrays args s ++ Jvm.staticLocs frame_1_statics s) 24 128 → Post tb e args s (.returned v) u) :
    ArmFor flags0 classFile x code maxLocals ret World_1 tables_1 room_1 Calls_1 rest_1 Pre_1 Post := by
  intro l hfl _ _ p e ha hc hk s m args below hf hA hF happ hP
  obtain ⟨hcalls, hrest, hpre⟩ := hP
  obtain ⟨-, -, -, hnamed, -, -, -, hat⟩ := (Spec.applies_iff hf).mp happ
  obtain ⟨hg, hn⟩ := and_e (Cond.before_iff.mp (show (Jvm.Cond.and given_1 narrow_1).before args s = true from hpre))
  obtain ⟨gc, gk0⟩ := and_e hg
  obtain ⟨ga0, gk1⟩ := and_e gk0
  obtain ⟨ga1, gk2⟩ := and_e gk1
  obtain ⟨w0, w1, w2, rfl⟩ : ∃ w0 w1 w2 : Value, args = #[w0, w1, w2] := by
    have hs : args.size = 3 := by simpa [Cond.value, given_1] using gc
    obtain ⟨L⟩ := args
    match L, hs with
    | [w0, w1, w2], _ => exact ⟨w0, w1, w2, rfl⟩
  have hw := fun d (hd : d ∈ tables_1) => atoms_spec (ws := Jvm.Cond.code x code maxLocals ret :: tables_1) hat d (List.mem_cons_of_mem _ hd)
  have hfit : Fit s := fun {y c} hc i hi => by
    obtain ⟨ha, rfl⟩ := Array.getElem?_eq_some_iff.mp hc
    have q := List.all_eq_true.mp ((Array.all_eq_true_iff_forall_mem.mp hF) _ (Array.getElem_mem ha)) i (List.mem_range.mpr hi)
    simpa [Array.getElem?_eq_getElem hi] using q
  obtain ⟨i0, ei0⟩ := is_v ga0
  obtain rfl : w0 = (.int i0) := Option.some.inj ei0
  obtain ⟨i1, ei1⟩ := is_v ga1
  obtain rfl : w1 = (.int i1) := Option.some.inj ei1
  obtain ⟨i2, ei2⟩ := is_v gk2
  obtain rfl : w2 = (.int i2) := Option.some.inj ei2
  obtain ⟨n, o, h1, h2, h3, _, L, rfl, ⟨rfl, N⟩, hq⟩ := rm0 l s _ hw tables_1 i0 i1 i2 s.heap s.heap.size (Old.start s) p e ha hc hk s m _ below hf ((Spec.applies_iff_loose hf).mp happ).1 ⟨rfl, State.Warmed39.refl s, rfl⟩ trivial
  refine ⟨n, _, h1, h2, h3, hpost _ _ _ _ _ _ ⟨Cond.after_iff.mpr rfl, Cond.after_iff.mpr (eq_i res_at (Term.int_eval (1)) rfl), trivial⟩ ⟨hq.1, hq.2.1, (hq.2.2.sift fun y hy => Or.inr (N y hy)).mono (by decide) (by decide)⟩⟩
theorem main_1_1 : Claimed_1_1 := comes_1 fun _ _ _ _ _ _ h hF => ⟨h.1, hF⟩
theorem main_1_2 : Claimed_1_2 := comes_1 fun _ _ _ _ _ _ h hF => ⟨h.2.1, hF⟩
end Jvm.Pilot.@@N@@
namespace Jvm.Pilot.@@N@@
open Jvm Jvm.ClassFile Sem Op Lib Jvm.Free Jvm.Stand Jvm.Pilot.@@N@@.Jvm.D
/-! MADE BY PROGRAM (witnessworld.py) out of the Statement's table words and the real class files: 10 classes; the members and pool entries that the words name. The judged class is class 1, her method 1. -/
namespace start1
open Jvm.ClassFile
def u (s : String) : CpInfo := .utf8 (stringToUtf16 s)
/-- a pool by its gaps: so many unusable entries, then the entry; so many at the end -/
def gap : Nat → List CpInfo → List CpInfo
  | 0, r => r
  | n + 1, r => .unusable :: gap n r
def poolList (es : List (Nat × CpInfo)) (last : Nat) : List CpInfo := es.foldr (fun e r => gap e.1 (e.2 :: r)) (gap last [])
def pool (es : List (Nat × CpInfo)) (last : Nat) : Array CpInfo := ⟨poolList es last⟩
def fileOf (pool : Array CpInfo) (this : Nat) (attrs : Array Attribute := #[]) (ms : Array MethodInfo := #[]) (fl : Nat := 33) (sup : Nat := 0) (ifs : Array Nat := #[]) (fds : Array FieldInfo := #[]) : ClassFile where
  minorVersion := 0
  majorVersion := 65
  constantPool := pool
  accessFlags := fl
  thisClass := this
  superClass := sup
  interfaces := ifs
  fields := fds
  methods := ms
  attributes := attrs
def plain (name : String) (sup : Option ClassId) : Class where
  name := name
  kind := .ordinary
  loader := none
  accessFlags := 33
  super := sup
  interfaces := #[]
  cf := none
  fields := #[]
  methods := #[]
  instanceTypes := #[]
  staticTypes := #[]
  resolved := #[]
  callSites := []
  init := .initialized
  statics := none
  mirror := none

def pool0 : Array CpInfo := pool [(5, u "<init>"), (0, u "()V"), (1, .class_ 10), (1, u "java/lang/Object"), (85, u "clone"), (0, u "()Ljava/lang/Object;")] 26

def k0c0 : Code := { maxStack := 0, maxLocals := 1, code := object_method_1_code, exceptionTable := #[], attributes := #[] }
def k0m0 : Method := { name := "<init>", desc := "()V", sig := { parameters := [], returnType := none }, accessFlags := 1, code := some k0c0 }
def k0m1 : Method := { name := "clone", desc := "()Ljava/lang/Object;", sig := { parameters := [], returnType := some (.object "java/lang/Object") }, accessFlags := 260, code := none }
/-- java/lang/Object -/
def k0 : Class := { plain "java/lang/Object" none with
  accessFlags := 33
  interfaces := #[]
  cf := some (fileOf pool0 8 #[] #[{ accessFlags := 1, nameIndex := 5, descriptorIndex := 6, attributes := #[] }, { accessFlags := 260, nameIndex := 96, descriptorIndex := 97, attributes := #[] }] 33 0 #[] #[])
  fields := #[]
  methods := #[k0m0, k0m1]
  instanceTypes := #[]
  staticTypes := #[]
  resolved := Array.replicate 124 none
  statics := none }

def pool1 : Array CpInfo := pool [(2, .class_ 4), (1, u "java/lang/Object"), (0, u "<init>"), (0, u "()V"), (0, .methodref 8 9), (0, .class_ 10), (0, .nameAndType 11 12), (0, u "com/example/odds_on_axioms/oddsonaxioms/aleatoric/Distribution"), (0, u "certain"), (0, u "(I)Lcom/example/odds_on_axioms/oddsonaxioms/aleatoric/Distribution;"), (0, .methodref 8 14), (0, .nameAndType 15 16), (0, u "support"), (0, u "()[I"), (0, .methodref 8 18), (0, .nameAndType 19 20), (0, u "probability"), (0, u "(I)D"), (0, .integer 65535), (0, .methodref 8 23), (0, .nameAndType 24 25), (0, u "expectation"), (0, u "([D)D"), (0, .class_ 27), (0, u "com/example/odds_on_axioms/oddsonaxioms/aleatoric/DistributionCertainPinLaw"), (2, u "law"), (0, u "(III)Z")] 7

def k1m0 : Method := { name := "<init>", desc := "()V", sig := { parameters := [], returnType := none }, accessFlags := 1, code := none }
def k1c1 : Code := { maxStack := 5, maxLocals := 10, code := code, exceptionTable := #[], attributes := #[] }
def k1m1 : Method := { name := "law", desc := "(III)Z", sig := { parameters := [.int, .int, .int], returnType := some .boolean }, accessFlags := 9, code := some k1c1 }
/-- com/example/odds_on_axioms/oddsonaxioms/aleatoric/DistributionCertainPinLaw -/
def k1 : Class := { plain "com/example/odds_on_axioms/oddsonaxioms/aleatoric/DistributionCertainPinLaw" (some 0) with
  accessFlags := 49
  interfaces := #[]
  cf := some (fileOf pool1 26 #[] #[{ accessFlags := 1, nameIndex := 5, descriptorIndex := 6, attributes := #[] }, { accessFlags := 9, nameIndex := 30, descriptorIndex := 31, attributes := #[] }] 49 2 #[] #[])
  fields := #[]
  methods := #[k1m0, k1m1]
  instanceTypes := #[]
  staticTypes := #[]
  resolved := Array.replicate 39 none
  statics := none }

def pool2 : Array CpInfo := pool [(1, .methodref 2 3), (0, .class_ 4), (0, .nameAndType 5 6), (0, u "java/lang/Object"), (0, u "<init>"), (0, u "()V"), (0, .fieldref 8 9), (0, .class_ 10), (0, .nameAndType 11 12), (0, u "com/example/odds_on_axioms/oddsonaxioms/aleatoric/Distribution"), (0, u "individuals"), (0, u "[I"), (0, .fieldref 8 14), (0, .nameAndType 15 16), (0, u "probabilities"), (0, u "[D"), (7, .class_ 26), (1, u "java/util/Arrays"), (21, .methodref 8 49), (0, .nameAndType 5 50), (0, u "([I[D)V"), (0, .methodref 24 52), (0, .nameAndType 53 54), (0, u "binarySearch"), (0, u "([II)I"), (0, .methodref 56 57), (0, .class_ 12), (0, .nameAndType 58 59), (0, u "clone"), (0, u "()Ljava/lang/Object;"), (29, u "certain"), (0, u "(I)Lcom/example/odds_on_axioms/oddsonaxioms/aleatoric/Distribution;"), (0, u "expectation"), (0, u "([D)D"), (0, u "probability"), (0, u "(I)D"), (0, u "support"), (0, u "()[I")] 33

def k2c0 : Code := { maxStack := 2, maxLocals := 3, code := prog_6_method_1_code, exceptionTable := #[], attributes := #[] }
def k2m0 : Method := { name := "<init>", desc := "([I[D)V", sig := { parameters := [(.array .int), (.array .double)], returnType := none }, accessFlags := 2, code := some k2c0 }
def k2c1 : Code := { maxStack := 8, maxLocals := 1, code := prog_6_method_3_code, exceptionTable := #[], attributes := #[] }
def k2m1 : Method := { name := "certain", desc := "(I)Lcom/example/odds_on_axioms/oddsonaxioms/aleatoric/Distribution;", sig := { parameters := [.int], returnType := some (.object "com/example/odds_on_axioms/oddsonaxioms/aleatoric/Distribution") }, accessFlags := 8, code := some k2c1 }
def k2c2 : Code := { maxStack := 7, maxLocals := 5, code := prog_6_method_4_code, exceptionTable := #[], attributes := #[] }
def k2m2 : Method := { name := "expectation", desc := "([D)D", sig := { parameters := [(.array .double)], returnType := some .double }, accessFlags := 0, code := some k2c2 }
def k2c3 : Code := { maxStack := 2, maxLocals := 3, code := prog_6_method_5_code, exceptionTable := #[], attributes := #[] }
def k2m3 : Method := { name := "probability", desc := "(I)D", sig := { parameters := [.int], returnType := some .double }, accessFlags := 0, code := some k2c3 }
def k2c4 : Code := { maxStack := 1, maxLocals := 1, code := prog_6_method_6_code, exceptionTable := #[], attributes := #[] }
def k2m4 : Method := { name := "support", desc := "()[I", sig := { parameters := [], returnType := some (.array .int) }, accessFlags := 0, code := some k2c4 }
/-- com/example/odds_on_axioms/oddsonaxioms/aleatoric/Distribution -/
def k2 : Class := { plain "com/example/odds_on_axioms/oddsonaxioms/aleatoric/Distribution" (some 0) with
  accessFlags := 48
  interfaces := #[]
  cf := some (fileOf pool2 8 #[] #[{ accessFlags := 2, nameIndex := 5, descriptorIndex := 50, attributes := #[] }, { accessFlags := 8, nameIndex := 89, descriptorIndex := 90, attributes := #[] }, { accessFlags := 0, nameIndex := 91, descriptorIndex := 92, attributes := #[] }, { accessFlags := 0, nameIndex := 93, descriptorIndex := 94, attributes := #[] }, { accessFlags := 0, nameIndex := 95, descriptorIndex := 96, attributes := #[] }] 48 2 #[] #[{ accessFlags := 18, nameIndex := 11, descriptorIndex := 12, attributes := #[] }, { accessFlags := 18, nameIndex := 15, descriptorIndex := 16, attributes := #[] }])
  fields := #[{ name := "individuals", type := (.array .int), accessFlags := 18, slot := 0, constantValue := 0 }, { name := "probabilities", type := (.array .double), accessFlags := 18, slot := 1, constantValue := 0 }]
  methods := #[k2m0, k2m1, k2m2, k2m3, k2m4]
  instanceTypes := #[(.array .int), (.array .double)]
  staticTypes := #[]
  resolved := Array.replicate 130 none
  statics := none }

def pool3 : Array CpInfo := pool [(1, .class_ 2), (0, u "java/lang/Cloneable"), (0, .class_ 4), (0, u "java/lang/Object")] 2

/-- java/lang/Cloneable -/
def k3 : Class := { plain "java/lang/Cloneable" (some 0) with
  accessFlags := 1537
  interfaces := #[]
  cf := some (fileOf pool3 1 #[] #[] 1537 3 #[] #[])
  fields := #[]
  methods := #[]
  instanceTypes := #[]
  staticTypes := #[]
  resolved := Array.replicate 7 none
  statics := none }

def pool4 : Array CpInfo := pool [(2, .class_ 4), (1, u "java/lang/Object"), (0, u "<init>"), (0, u "()V"), (7, .class_ 16), (1, u "java/util/Arrays"), (57, .class_ 76), (1, u "java/util/Arrays$NaturalOrder"), (36, .class_ 115), (1, u "java/util/Arrays$LegacyMergeSort"), (1, u "Z"), (89, u "binarySearch0"), (1, .methodref 14 210), (0, .nameAndType 207 211), (0, u "([IIII)I"), (163, .class_ 376), (0, u "java/util/Arrays$ArrayList"), (68, u "$assertionsDisabled"), (269, u "MIN_ARRAY_SORT_GRAN"), (0, u "I"), (2, u "INSERTIONSORT_THRESHOLD"), (74, u "binarySearch"), (4, u "([II)I"), (175, .class_ 976), (0, u "java/util/Arrays$ArrayItr")] 52

def k4m0 : Method := { name := "<init>", desc := "()V", sig := { parameters := [], returnType := none }, accessFlags := 2, code := none }
def k4c1 : Code := { maxStack := 4, maxLocals := 2, code := jdk_65_method_57_code, exceptionTable := #[], attributes := #[] }
def k4m1 : Method := { name := "binarySearch", desc := "([II)I", sig := { parameters := [(.array .int), .int], returnType := some .int }, accessFlags := 9, code := some k4c1 }
def k4c2 : Code := { maxStack := 2, maxLocals := 8, code := jdk_65_method_59_code, exceptionTable := #[], attributes := #[] }
def k4m2 : Method := { name := "binarySearch0", desc := "([IIII)I", sig := { parameters := [(.array .int), .int, .int, .int], returnType := some .int }, accessFlags := 10, code := some k4c2 }
/-- java/util/Arrays -/
def k4 : Class := { plain "java/util/Arrays" (some 0) with
  accessFlags := 49
  interfaces := #[]
  cf := some (fileOf pool4 14 #[.nestMembers #[975, 375, 113, 74]] #[{ accessFlags := 2, nameIndex := 5, descriptorIndex := 6, attributes := #[] }, { accessFlags := 9, nameIndex := 794, descriptorIndex := 799, attributes := #[] }, { accessFlags := 10, nameIndex := 207, descriptorIndex := 211, attributes := #[] }] 49 2 #[] #[{ accessFlags := 26, nameIndex := 715, descriptorIndex := 716, attributes := #[] }, { accessFlags := 26, nameIndex := 719, descriptorIndex := 716, attributes := #[] }, { accessFlags := 4120, nameIndex := 445, descriptorIndex := 117, attributes := #[] }])
  fields := #[{ name := "MIN_ARRAY_SORT_GRAN", type := .int, accessFlags := 26, slot := 0, constantValue := 0 }, { name := "INSERTIONSORT_THRESHOLD", type := .int, accessFlags := 26, slot := 1, constantValue := 0 }, { name := "$assertionsDisabled", type := .boolean, accessFlags := 4120, slot := 2, constantValue := 0 }]
  methods := #[k4m0, k4m1, k4m2]
  instanceTypes := #[]
  staticTypes := #[.int, .int, .boolean]
  resolved := Array.replicate 1029 none
  statics := none }

def pool5 : Array CpInfo := pool [(1, u "java/io/Serializable"), (0, .class_ 1), (0, u "java/lang/Object"), (0, .class_ 3)] 3

/-- java/io/Serializable -/
def k5 : Class := { plain "java/io/Serializable" (some 0) with
  accessFlags := 1537
  interfaces := #[]
  cf := some (fileOf pool5 2 #[] #[] 1537 4 #[] #[])
  fields := #[]
  methods := #[]
  instanceTypes := #[]
  staticTypes := #[]
  resolved := Array.replicate 8 none
  statics := none }

/-- the primitive byte -/
def k6 : Class := { plain "byte" none with kind := .primitive 'B', accessFlags := 0x411 }
/-- [B -/
def k7 : Class := { plain "[B" (some 0) with kind := .array 6 .byte, interfaces := #[3, 5], accessFlags := 1041 }

/-- the primitive int -/
def k8 : Class := { plain "int" none with kind := .primitive 'I', accessFlags := 0x411 }
/-- [I -/
def k9 : Class := { plain "[I" (some 0) with kind := .array 8 .int, interfaces := #[3, 5], accessFlags := 1041 }

/-- the primitive double -/
def k10 : Class := { plain "double" none with kind := .primitive 'D', accessFlags := 0x411 }
/-- [D -/
def k11 : Class := { plain "[D" (some 0) with kind := .array 10 .double, interfaces := #[3, 5], accessFlags := 1041 }
def heap : Heap := #[]
def classes : Array Class := #[k0, k1, k2, k3, k4, k5, k6, k7, k8, k9, k10, k11]
def interned : List (Array UInt16 × Addr) := []
def slotsUsed : Nat := 0
def theMethod : MethodId := ⟨1, 1⟩
def args0 : Array Value := #[.int 5, .int 7, .int 9]
def aboutOver (below : List Frame) : State where
  vm := { classes := classes, interned := interned.toArray }
  heap := heap
  slotsUsed := slotsUsed
  threads := #[{ frames := .invoking theMethod args0 :: below }]
def below0 : List Frame := [.native { method := ⟨0, 0⟩, args := #[] }]
def about1 : State := aboutOver below0
def p0 : Program := .bare "" "" ""
def e0 : Env := launch0.env 0 0 0
theorem w_frames : about1.frames = Frame.invoking theMethod args0 :: below0 := rfl
set_option maxRecDepth 65536 in
theorem w_args : argsFit about1.vm theMethod args0 = true := by decide +kernel
set_option maxRecDepth 65536 in
theorem w_heap : heapFits about1 = true := by decide +kernel
set_option maxRecDepth 65536 in
theorem w_runnable : about1.curStatus? = some .runnable := by decide +kernel
set_option maxRecDepth 65536 in
theorem w_alone : about1.alone = true := by decide +kernel
set_option maxRecDepth 65536 in
theorem w_named : about1.methodNamed? x = some theMethod := by decide +kernel
set_option maxRecDepth 65536 in
theorem w_hears : about1.hears theMethod below0 = true := by decide +kernel
set_option maxRecDepth 65536 in
theorem w_ripe : about1.ripe theMethod args0 below0 = true := by decide +kernel
theorem w_running : about1.status = .running := rfl
set_option maxRecDepth 65536 in
theorem w_room : about1.hasRoom e0.platform room_1 = true :=
  launch0.hasRoom_least _ room_1 (by decide +kernel) (by decide +kernel) (by decide +kernel) (by decide +kernel) (by decide +kernel) (by decide +kernel)
theorem allAtoms_all (ts : List Jvm.Cond) (a : Array Jvm.Value) (st : Jvm.State) : (allAtoms ts).before a st = ts.all (fun c => c.before a st) := by
  induction ts with
  | nil => rfl
  | cons c t ih =>
    show (Jvm.Cond.and c (allAtoms t)).before a st = _
    rw [Jvm.Cond.before_and, ih, List.all_cons]
def words1 : List Jvm.Cond := Jvm.Cond.code x code maxLocals ret :: tables_1
/-- a 'code' word, met by the world's own term for the bytes: nothing is compared byte by byte -/
theorem code_word {y : MethodName} {bytes : ByteArray} {mx : Nat} {rt : Option FieldType} {a : Array Value} {s : State} {m : MethodId} {meth : Method} {c : Code} (h1 : s.methodNamed? y = some m) (h2 : s.vm.method? m = some meth) (h3 : meth.code = some c) (h4 : c.code = bytes)
    (h5 : (c.maxLocals == mx && c.exceptionTable.isEmpty && decide (c.maxStack ≤ mostOperands) && decide (meth.sig.returnType = rt) && !meth.locks && decide (parseMethodDescriptor y.desc = some meth.sig)) = true) : (Jvm.Cond.code y bytes mx rt).before a s = true := by
  simp only [Bool.and_eq_true, beq_iff_eq, Bool.not_eq_true', decide_eq_true_eq] at h5
  obtain ⟨⟨⟨⟨⟨g1, g2⟩, g3⟩, g4⟩, g5⟩, g6⟩ := h5
  simp [Cond.before, Cond.holds, Cond.value, h1, h2, h3, h4, g1, g2, g3, g4, g5, g6]
def isCode : Jvm.Cond → Bool
  | .code _ _ _ _ => true
  | _ => false
theorem all_split {L : List Jvm.Cond} {P : Jvm.Cond → Bool} (h1 : L.all (fun c => isCode c || P c) = true) (h2 : ∀ c ∈ L.filter isCode, P c = true) : L.all P = true := by
  refine List.all_eq_true.mpr fun c hc => ?_
  have h := List.all_eq_true.mp h1 c hc
  rcases Bool.eq_false_or_eq_true (isCode c) with hi | hi
  · exact h2 c (List.mem_filter.mpr ⟨hc, hi⟩)
  · simpa [hi] using h
set_option maxRecDepth 65536 in
theorem w_c0 : (Jvm.Cond.code x code maxLocals ret).before args0 about1 = true := code_word (m := ⟨1, 1⟩) (meth := k1m1) (c := k1c1) (by decide +kernel) rfl rfl rfl (by decide +kernel)
set_option maxRecDepth 65536 in
theorem w_c1 : (Jvm.Cond.code ({ cls := "com/example/odds_on_axioms/oddsonaxioms/aleatoric/Distribution", name := "certain", desc := "(I)Lcom/example/odds_on_axioms/oddsonaxioms/aleatoric/Distribution;" } : Jvm.MethodName) prog_6_method_3_code (1 : Nat) (Option.some (Jvm.ClassFile.FieldType.object "com/example/odds_on_axioms/oddsonaxioms/aleatoric/Distribution"))).before args0 about1 = true := code_word (m := ⟨2, 1⟩) (meth := k2m1) (c := k2c1) (by decide +kernel) rfl rfl rfl (by decide +kernel)
set_option maxRecDepth 65536 in
theorem w_c2 : (Jvm.Cond.code ({ cls := "com/example/odds_on_axioms/oddsonaxioms/aleatoric/Distribution", name := "<init>", desc := "([I[D)V" } : Jvm.MethodName) prog_6_method_1_code (3 : Nat) (Option.none : Option Jvm.ClassFile.FieldType)).before args0 about1 = true := code_word (m := ⟨2, 0⟩) (meth := k2m0) (c := k2c0) (by decide +kernel) rfl rfl rfl (by decide +kernel)
set_option maxRecDepth 65536 in
theorem w_c3 : (Jvm.Cond.code ({ cls := "java/lang/Object", name := "<init>", desc := "()V" } : Jvm.MethodName) object_method_1_code (1 : Nat) (Option.none : Option Jvm.ClassFile.FieldType)).before args0 about1 = true := code_word (m := ⟨0, 0⟩) (meth := k0m0) (c := k0c0) (by decide +kernel) rfl rfl rfl (by decide +kernel)
set_option maxRecDepth 65536 in
theorem w_c4 : (Jvm.Cond.code ({ cls := "com/example/odds_on_axioms/oddsonaxioms/aleatoric/Distribution", name := "support", desc := "()[I" } : Jvm.MethodName) prog_6_method_6_code (1 : Nat) (Option.some (Jvm.ClassFile.FieldType.array Jvm.ClassFile.FieldType.int))).before args0 about1 = true := code_word (m := ⟨2, 4⟩) (meth := k2m4) (c := k2c4) (by decide +kernel) rfl rfl rfl (by decide +kernel)
set_option maxRecDepth 65536 in
theorem w_c5 : (Jvm.Cond.code ({ cls := "com/example/odds_on_axioms/oddsonaxioms/aleatoric/Distribution", name := "probability", desc := "(I)D" } : Jvm.MethodName) prog_6_method_5_code (3 : Nat) (Option.some Jvm.ClassFile.FieldType.double)).before args0 about1 = true := code_word (m := ⟨2, 3⟩) (meth := k2m3) (c := k2c3) (by decide +kernel) rfl rfl rfl (by decide +kernel)
set_option maxRecDepth 65536 in
theorem w_c6 : (Jvm.Cond.code ({ cls := "java/util/Arrays", name := "binarySearch", desc := "([II)I" } : Jvm.MethodName) jdk_65_method_57_code (2 : Nat) (Option.some Jvm.ClassFile.FieldType.int)).before args0 about1 = true := code_word (m := ⟨4, 1⟩) (meth := k4m1) (c := k4c1) (by decide +kernel) rfl rfl rfl (by decide +kernel)
set_option maxRecDepth 65536 in
theorem w_c7 : (Jvm.Cond.code ({ cls := "java/util/Arrays", name := "binarySearch0", desc := "([IIII)I" } : Jvm.MethodName) jdk_65_method_59_code (8 : Nat) (Option.some Jvm.ClassFile.FieldType.int)).before args0 about1 = true := code_word (m := ⟨4, 2⟩) (meth := k4m2) (c := k4c2) (by decide +kernel) rfl rfl rfl (by decide +kernel)
set_option maxRecDepth 65536 in
theorem w_c8 : (Jvm.Cond.code ({ cls := "com/example/odds_on_axioms/oddsonaxioms/aleatoric/Distribution", name := "expectation", desc := "([D)D" } : Jvm.MethodName) prog_6_method_4_code (5 : Nat) (Option.some Jvm.ClassFile.FieldType.double)).before args0 about1 = true := code_word (m := ⟨2, 2⟩) (meth := k2m2) (c := k2c2) (by decide +kernel) rfl rfl rfl (by decide +kernel)
def codes1 : List Jvm.Cond := [Jvm.Cond.code x code maxLocals ret, Jvm.Cond.code ({ cls := "com/example/odds_on_axioms/oddsonaxioms/aleatoric/Distribution", name := "certain", desc := "(I)Lcom/example/odds_on_axioms/oddsonaxioms/aleatoric/Distribution;" } : Jvm.MethodName) prog_6_method_3_code (1 : Nat) (Option.some (Jvm.ClassFile.FieldType.object "com/example/odds_on_axioms/oddsonaxioms/aleatoric/Distribution")), Jvm.Cond.code ({ cls := "com/example/odds_on_axioms/oddsonaxioms/aleatoric/Distribution", name := "<init>", desc := "([I[D)V" } : Jvm.MethodName) prog_6_method_1_code (3 : Nat) (Option.none : Option Jvm.ClassFile.FieldType), Jvm.Cond.code ({ cls := "java/lang/Object", name := "<init>", desc := "()V" } : Jvm.MethodName) object_method_1_code (1 : Nat) (Option.none : Option Jvm.ClassFile.FieldType), Jvm.Cond.code ({ cls := "com/example/odds_on_axioms/oddsonaxioms/aleatoric/Distribution", name := "support", desc := "()[I" } : Jvm.MethodName) prog_6_method_6_code (1 : Nat) (Option.some (Jvm.ClassFile.FieldType.array Jvm.ClassFile.FieldType.int)), Jvm.Cond.code ({ cls := "com/example/odds_on_axioms/oddsonaxioms/aleatoric/Distribution", name := "probability", desc := "(I)D" } : Jvm.MethodName) prog_6_method_5_code (3 : Nat) (Option.some Jvm.ClassFile.FieldType.double), Jvm.Cond.code ({ cls := "java/util/Arrays", name := "binarySearch", desc := "([II)I" } : Jvm.MethodName) jdk_65_method_57_code (2 : Nat) (Option.some Jvm.ClassFile.FieldType.int), Jvm.Cond.code ({ cls := "java/util/Arrays", name := "binarySearch0", desc := "([IIII)I" } : Jvm.MethodName) jdk_65_method_59_code (8 : Nat) (Option.some Jvm.ClassFile.FieldType.int), Jvm.Cond.code ({ cls := "com/example/odds_on_axioms/oddsonaxioms/aleatoric/Distribution", name := "expectation", desc := "([D)D" } : Jvm.MethodName) prog_6_method_4_code (5 : Nat) (Option.some Jvm.ClassFile.FieldType.double)]
set_option maxRecDepth 65536 in
theorem codes_eq : words1.filter isCode = codes1 := rfl
theorem w_codes : ∀ c ∈ words1.filter isCode, c.before args0 about1 = true := by
  rw [codes_eq]
  intro c hc
  simp only [codes1, List.mem_cons, List.not_mem_nil, or_false] at hc
  rcases hc with rfl | rfl | rfl | rfl | rfl | rfl | rfl | rfl | rfl
  · exact w_c0
  · exact w_c1
  · exact w_c2
  · exact w_c3
  · exact w_c4
  · exact w_c5
  · exact w_c6
  · exact w_c7
  · exact w_c8
set_option maxRecDepth 65536 in
theorem w_t1 : (words1.take 24).all (fun c => isCode c || c.before args0 about1) = true := by decide +kernel
set_option maxRecDepth 65536 in
theorem w_t2 : ((words1.drop 24).take 24).all (fun c => isCode c || c.before args0 about1) = true := by decide +kernel
set_option maxRecDepth 65536 in
theorem w_t3 : ((words1.drop 24).drop 24).all (fun c => isCode c || c.before args0 about1) = true := by decide +kernel
theorem w_tables : (allAtoms (Jvm.Cond.code x code maxLocals ret :: tables_1)).before args0 about1 = true := by
  rw [allAtoms_all]
  show words1.all (fun c => c.before args0 about1) = true
  refine all_split ?_ w_codes
  rw [← List.take_append_drop 24 words1, List.all_append, w_t1, ← List.take_append_drop 24 (words1.drop 24), List.all_append, w_t2, w_t3]
  rfl
set_option maxRecDepth 65536 in
theorem w_case : (Jvm.Cond.and given_1 narrow_1).before args0 about1 = true := by decide +kernel
theorem w_applies : (headSpec (Jvm.Cond.code x code maxLocals ret :: tables_1) room_1).applies x e0.platform about1 = true :=
  (Spec.applies_iff w_frames).mpr ⟨w_running, w_runnable, w_alone, w_named, w_hears, w_ripe, w_room, w_tables⟩
theorem atStart : AtStart classFile x code maxLocals ret World_1 tables_1 room_1 Calls_1 rest_1 Pre_1 launch0 p0 e0 about1 theMethod args0 below0 :=
  ⟨lists_1, trivial, launch0.admits_env _ _ _, launch0.least_env, fairChoices_fair.cas, fairChoices_fair.clock, w_frames, w_args, w_heap, w_applies, trivial, trivial, w_case⟩
end start1
theorem witness_1 : WitnessClaimed_1 := ⟨start1.p0, start1.e0, start1.about1, start1.theMethod, start1.args0, start1.below0, start1.atStart⟩
end Jvm.Pilot.@@N@@
