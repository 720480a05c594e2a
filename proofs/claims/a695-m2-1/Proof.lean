import JvmDerived
import JvmDerived.Pilot.@@N@@Statement
import JvmDerived.Pilot.@@N@@Code
set_option linter.unusedVariables false
set_option linter.unusedSimpArgs false
namespace Jvm.RoadKit
open Sem ClassFile Op Lib Jvm.Stand Jvm.Free Jvm.LawKit
section New
variable {p : Program} {l : Launch} {e : Env} {R : Room} {s : State} {m : MethodId} {args : Array Value} {below : List Frame} {meth : Method} {c : Code} {T : State} {locs : List Loc} {cells slots : Nat}
theorem retI (X : Stand p l e R s m args below meth c T locs cells slots) (hx : p.tables.exec = Jvm.exec) {pc : Nat} {Ls : Array Slot} {z : Int32} {rest : List Value} (hret : meth.sig.returnType = some .int) (hd : decode c.code pc = .ok (.ireturn, 1)) {fs : List Frame}
    (hl : ∀ (f : JFrame) (acts : List Action), f.method = m → f.locked = none → f.entered = [] → (doReturn e (T.setTop f) acts (some (.int z))).1 = T.setFrames fs) : Steps p.tables e below (T.setTop (mkF m pc Ls (.int z :: rest))) (T.setFrames fs) := by
  have hm' : T.vm.method? m = some meth := X.method'
  have hn : narrow .int (.int z) = .int z := rfl
  show Steps p.tables e below (T.setTop { method := m, pc := pc, locals := Ls, stack := _ :: rest, locked := none }) _
  jvm_step X.here [X.here.top, hx, hd, hm', hret, hn]
  first | (intro acts; rw [hl _ acts rfl rfl rfl]) | rw [hl _ _ rfl rfl rfl]
  exact Steps.refl _
end New
end Jvm.RoadKit
namespace Jvm.Pilot.@@N@@
open Jvm Jvm.ClassFile Sem Op Lib Jvm.Free Jvm.Stand Jvm.LawKit Jvm.RoadKit Bundle Jvm.Pilot.@@N@@.Jvm.D
abbrev nm0 : MethodName := ⟨"java/util/AbstractCollection", "<init>", "()V"⟩
abbrev nm1 : MethodName := ⟨"java/util/AbstractList", "<init>", "()V"⟩
abbrev nm2 : MethodName := ⟨"java/util/ArrayList", "<init>", "()V"⟩
abbrev nm3 : MethodName := ⟨"java/lang/Math", "max", "(II)I"⟩
abbrev nm4 : MethodName := ⟨"java/util/ArrayList", "grow", "(I)[Ljava/lang/Object;"⟩
abbrev nm5 : MethodName := ⟨"java/util/ArrayList", "grow", "()[Ljava/lang/Object;"⟩
abbrev nm6 : MethodName := ⟨"java/util/ArrayList", "add", "(Ljava/lang/Object;[Ljava/lang/Object;I)V"⟩
abbrev nm7 : MethodName := ⟨"java/util/ArrayList", "add", "(Ljava/lang/Object;)Z"⟩
abbrev nm8 : MethodName := ⟨"java/util/ArrayList", "size", "()I"⟩
abbrev nm9 : MethodName := ⟨"jdk/internal/util/Preconditions", "checkIndex", "(IILjava/util/function/BiFunction;)I"⟩
abbrev nm10 : MethodName := ⟨"java/util/Objects", "checkIndex", "(II)I"⟩
abbrev nm11 : MethodName := ⟨"java/util/ArrayList", "elementData", "(I)Ljava/lang/Object;"⟩
abbrev nm12 : MethodName := ⟨"java/util/ArrayList", "get", "(I)Ljava/lang/Object;"⟩
abbrev nm13 : MethodName := ⟨"java/lang/Record", "<init>", "()V"⟩
abbrev nm14 : MethodName := ⟨"com/example/libprox/libprox/RankingModel$QueryTerm", "<init>", "(Ljava/lang/String;JZ)V"⟩
abbrev nm15 : MethodName := ⟨"com/example/libprox/libprox/RankingModel$QueryTerm", "collectionFrequency", "()J"⟩
abbrev nm16 : MethodName := ⟨"com/example/libprox/libprox/KldPriorsPinLaw", "check", "(DJJJ)Z"⟩
abbrev nm17 : MethodName := ⟨"com/example/libprox/libprox/Kld", "priors", "(DLjava/util/List;J)[D"⟩
theorem wk3 {a0 : Array Value} {Z : State} (hw : ∀ d ∈ tables_1, d.before a0 Z = true) : (Jvm.Cond.initialized "java/util/ArrayList").before a0 Z = true := hw _ (List.mem_of_getElem? (i := 3) rfl)
theorem wk45 {a0 : Array Value} {Z : State} (hw : ∀ d ∈ tables_1, d.before a0 Z = true) : (Jvm.Cond.initialized "com/example/libprox/libprox/RankingModel$QueryTerm").before a0 Z = true := hw _ (List.mem_of_getElem? (i := 45) rfl)
theorem wk94 {a0 : Array Value} {Z : State} (hw : ∀ d ∈ tables_1, d.before a0 Z = true) : (Jvm.Cond.methodLink "java/util/ArrayList" (79 : Nat) ({ cls := "java/lang/Math", name := "max", desc := "(II)I" } : Jvm.MethodName)).before a0 Z = true := hw _ (List.mem_of_getElem? (i := 94) rfl)
theorem wk95 {a0 : Array Value} {Z : State} (hw : ∀ d ∈ tables_1, d.before a0 Z = true) : (Jvm.Cond.static ({ cls := "java/lang/Math", name := "max", desc := "(II)I" } : Jvm.MethodName)).before a0 Z = true := hw _ (List.mem_of_getElem? (i := 95) rfl)
theorem wk96 {a0 : Array Value} {Z : State} (hw : ∀ d ∈ tables_1, d.before a0 Z = true) : (Jvm.Cond.initialized "java/lang/Math").before a0 Z = true := hw _ (List.mem_of_getElem? (i := 96) rfl)
theorem wk97 {a0 : Array Value} {Z : State} (hw : ∀ d ∈ tables_1, d.before a0 Z = true) : (Jvm.Cond.code ({ cls := "java/lang/Math", name := "max", desc := "(II)I" } : Jvm.MethodName) jdk_29_method_65_code (2 : Nat) (Option.some Jvm.ClassFile.FieldType.int)).before a0 Z = true := hw _ (List.mem_of_getElem? (i := 97) rfl)
theorem wk109 {a0 : Array Value} {Z : State} (hw : ∀ d ∈ tables_1, d.before a0 Z = true) : (Jvm.Cond.methodLink "java/util/ArrayList" (118 : Nat) ({ cls := "java/util/Objects", name := "checkIndex", desc := "(II)I" } : Jvm.MethodName)).before a0 Z = true := hw _ (List.mem_of_getElem? (i := 109) rfl)
theorem wk110 {a0 : Array Value} {Z : State} (hw : ∀ d ∈ tables_1, d.before a0 Z = true) : (Jvm.Cond.static ({ cls := "java/util/Objects", name := "checkIndex", desc := "(II)I" } : Jvm.MethodName)).before a0 Z = true := hw _ (List.mem_of_getElem? (i := 110) rfl)
theorem wk111 {a0 : Array Value} {Z : State} (hw : ∀ d ∈ tables_1, d.before a0 Z = true) : (Jvm.Cond.initialized "java/util/Objects").before a0 Z = true := hw _ (List.mem_of_getElem? (i := 111) rfl)
theorem wk112 {a0 : Array Value} {Z : State} (hw : ∀ d ∈ tables_1, d.before a0 Z = true) : (Jvm.Cond.code ({ cls := "java/util/Objects", name := "checkIndex", desc := "(II)I" } : Jvm.MethodName) jdk_31_method_17_code (2 : Nat) (Option.some Jvm.ClassFile.FieldType.int)).before a0 Z = true := hw _ (List.mem_of_getElem? (i := 112) rfl)
theorem wk113 {a0 : Array Value} {Z : State} (hw : ∀ d ∈ tables_1, d.before a0 Z = true) : (Jvm.Cond.methodLink "java/util/Objects" (105 : Nat) ({ cls := "jdk/internal/util/Preconditions", name := "checkIndex", desc := "(IILjava/util/function/BiFunction;)I" } : Jvm.MethodName)).before a0 Z = true := hw _ (List.mem_of_getElem? (i := 113) rfl)
theorem wk114 {a0 : Array Value} {Z : State} (hw : ∀ d ∈ tables_1, d.before a0 Z = true) : (Jvm.Cond.static ({ cls := "jdk/internal/util/Preconditions", name := "checkIndex", desc := "(IILjava/util/function/BiFunction;)I" } : Jvm.MethodName)).before a0 Z = true := hw _ (List.mem_of_getElem? (i := 114) rfl)
theorem wk115 {a0 : Array Value} {Z : State} (hw : ∀ d ∈ tables_1, d.before a0 Z = true) : (Jvm.Cond.initialized "jdk/internal/util/Preconditions").before a0 Z = true := hw _ (List.mem_of_getElem? (i := 115) rfl)
theorem wk116 {a0 : Array Value} {Z : State} (hw : ∀ d ∈ tables_1, d.before a0 Z = true) : (Jvm.Cond.code ({ cls := "jdk/internal/util/Preconditions", name := "checkIndex", desc := "(IILjava/util/function/BiFunction;)I" } : Jvm.MethodName) jdk_41_method_11_code (3 : Nat) (Option.some Jvm.ClassFile.FieldType.int)).before a0 Z = true := hw _ (List.mem_of_getElem? (i := 116) rfl)
theorem wk117 {a0 : Array Value} {Z : State} (hw : ∀ d ∈ tables_1, d.before a0 Z = true) : (Jvm.Cond.methodLink "java/util/ArrayList" (123 : Nat) ({ cls := "java/util/ArrayList", name := "elementData", desc := "(I)Ljava/lang/Object;" } : Jvm.MethodName)).before a0 Z = true := hw _ (List.mem_of_getElem? (i := 117) rfl)
theorem wk118 {a0 : Array Value} {Z : State} (hw : ∀ d ∈ tables_1, d.before a0 Z = true) : (Jvm.Cond.declares ({ cls := "java/util/ArrayList", name := "elementData", desc := "(I)Ljava/lang/Object;" } : Jvm.MethodName)).before a0 Z = true := hw _ (List.mem_of_getElem? (i := 118) rfl)
theorem wk119 {a0 : Array Value} {Z : State} (hw : ∀ d ∈ tables_1, d.before a0 Z = true) : (Jvm.Cond.instanceMethod ({ cls := "java/util/ArrayList", name := "elementData", desc := "(I)Ljava/lang/Object;" } : Jvm.MethodName)).before a0 Z = true := hw _ (List.mem_of_getElem? (i := 119) rfl)
theorem wk120 {a0 : Array Value} {Z : State} (hw : ∀ d ∈ tables_1, d.before a0 Z = true) : (Jvm.Cond.selects "java/util/ArrayList" ({ cls := "java/util/ArrayList", name := "elementData", desc := "(I)Ljava/lang/Object;" } : Jvm.MethodName) ({ cls := "java/util/ArrayList", name := "elementData", desc := "(I)Ljava/lang/Object;" } : Jvm.MethodName)).before a0 Z = true := hw _ (List.mem_of_getElem? (i := 120) rfl)
theorem wk121 {a0 : Array Value} {Z : State} (hw : ∀ d ∈ tables_1, d.before a0 Z = true) : (Jvm.Cond.code ({ cls := "java/util/ArrayList", name := "elementData", desc := "(I)Ljava/lang/Object;" } : Jvm.MethodName) jdk_38_method_18_code (2 : Nat) (Option.some (Jvm.ClassFile.FieldType.object "java/lang/Object"))).before a0 Z = true := hw _ (List.mem_of_getElem? (i := 121) rfl)
theorem wk124 {a0 : Array Value} {Z : State} (hw : ∀ d ∈ tables_1, d.before a0 Z = true) : (Jvm.Cond.methodLink "com/example/libprox/libprox/Kld" (30 : Nat) ({ cls := "com/example/libprox/libprox/RankingModel$QueryTerm", name := "collectionFrequency", desc := "()J" } : Jvm.MethodName)).before a0 Z = true := hw _ (List.mem_of_getElem? (i := 124) rfl)
theorem wk125 {a0 : Array Value} {Z : State} (hw : ∀ d ∈ tables_1, d.before a0 Z = true) : (Jvm.Cond.declares ({ cls := "com/example/libprox/libprox/RankingModel$QueryTerm", name := "collectionFrequency", desc := "()J" } : Jvm.MethodName)).before a0 Z = true := hw _ (List.mem_of_getElem? (i := 125) rfl)
theorem wk126 {a0 : Array Value} {Z : State} (hw : ∀ d ∈ tables_1, d.before a0 Z = true) : (Jvm.Cond.instanceMethod ({ cls := "com/example/libprox/libprox/RankingModel$QueryTerm", name := "collectionFrequency", desc := "()J" } : Jvm.MethodName)).before a0 Z = true := hw _ (List.mem_of_getElem? (i := 126) rfl)
theorem wk127 {a0 : Array Value} {Z : State} (hw : ∀ d ∈ tables_1, d.before a0 Z = true) : (Jvm.Cond.selects "com/example/libprox/libprox/RankingModel$QueryTerm" ({ cls := "com/example/libprox/libprox/RankingModel$QueryTerm", name := "collectionFrequency", desc := "()J" } : Jvm.MethodName) ({ cls := "com/example/libprox/libprox/RankingModel$QueryTerm", name := "collectionFrequency", desc := "()J" } : Jvm.MethodName)).before a0 Z = true := hw _ (List.mem_of_getElem? (i := 127) rfl)
theorem wk128 {a0 : Array Value} {Z : State} (hw : ∀ d ∈ tables_1, d.before a0 Z = true) : (Jvm.Cond.code ({ cls := "com/example/libprox/libprox/RankingModel$QueryTerm", name := "collectionFrequency", desc := "()J" } : Jvm.MethodName) prog_47_method_6_code (1 : Nat) (Option.some Jvm.ClassFile.FieldType.long)).before a0 Z = true := hw _ (List.mem_of_getElem? (i := 128) rfl)
theorem wk129 {a0 : Array Value} {Z : State} (hw : ∀ d ∈ tables_1, d.before a0 Z = true) : (Jvm.Cond.methodLink "com/example/libprox/libprox/KldPriorsPinLaw" (35 : Nat) ({ cls := "com/example/libprox/libprox/KldPriorsPinLaw", name := "check", desc := "(DJJJ)Z" } : Jvm.MethodName)).before a0 Z = true := hw _ (List.mem_of_getElem? (i := 129) rfl)
theorem wk130 {a0 : Array Value} {Z : State} (hw : ∀ d ∈ tables_1, d.before a0 Z = true) : (Jvm.Cond.static ({ cls := "com/example/libprox/libprox/KldPriorsPinLaw", name := "check", desc := "(DJJJ)Z" } : Jvm.MethodName)).before a0 Z = true := hw _ (List.mem_of_getElem? (i := 130) rfl)
theorem wk131 {a0 : Array Value} {Z : State} (hw : ∀ d ∈ tables_1, d.before a0 Z = true) : (Jvm.Cond.initialized "com/example/libprox/libprox/KldPriorsPinLaw").before a0 Z = true := hw _ (List.mem_of_getElem? (i := 131) rfl)
theorem wk132 {a0 : Array Value} {Z : State} (hw : ∀ d ∈ tables_1, d.before a0 Z = true) : (Jvm.Cond.code ({ cls := "com/example/libprox/libprox/KldPriorsPinLaw", name := "check", desc := "(DJJJ)Z" } : Jvm.MethodName) method_3_code (8 : Nat) (Option.some Jvm.ClassFile.FieldType.boolean)).before a0 Z = true := hw _ (List.mem_of_getElem? (i := 132) rfl)
theorem own_callP {p : Program} {l : Launch} {e : Env} {R : Room} {s : State} {m : MethodId} {args : Array Value} {below : List Frame} {meth : Method} {c : Code} {T Z : State} {locs : List Loc} {cells slots : Nat} {a0 : Array Value} {h : Heap} {n0 : Nat} (X : Stand p l e R s m args below meth c T locs cells slots) (hx : p.tables.exec = Jvm.exec) (hZ : Z.Warmed39 s.vm) {own : String} {index : Nat} {y : MethodName} {bytes : ByteArray} {maxL : Nat} {ret : Option FieldType} {rm : Room} {rv : Value} {argsL rest : List Value} {W : Nat}
    (hown : s.vm.findClass own = some m.cls) (w1 : (Jvm.Cond.methodLink own index y).before a0 Z = true) (w2 : (Jvm.Cond.static y).before a0 Z = true) (w3 : (Jvm.Cond.initialized y.cls).before a0 Z = true) (w4 : (Jvm.Cond.code y bytes maxL ret).before a0 Z = true) (hy : y.cls ≠ "java/lang/invoke/MethodHandle" ∧ y.cls ≠ "java/lang/invoke/VarHandle")
    (hM : MetFree l y (head1 [Jvm.Cond.code y bytes maxL ret] rm) (fun a U => a = argsL.toArray ∧ Z.Warmed39 U.vm ∧ U.heap = h) (fun _ _ _ _ _ => True) (fun _ U o U' => ∃ v L, o = .returned v ∧ (v = some rv ∧ Fr n0 L ∧ U'.heap = h) ∧ FrameEnd U o U' L rm.cells rm.slots))
    (eT : T.heap = h) (N : Fr n0 locs) (hf : rm.frames + 1 ≤ R.frames) (hl : W + (maxL + 11) + rm.locals ≤ R.locals) (hc : cells + rm.cells ≤ R.cells) (hsl : slots + rm.slots ≤ R.slots)
    {g : JFrame} (hg : g.method = m) (hsize : g.locals.size = c.maxLocals) (hlen : ∀ sig, parseMethodDescriptor y.desc = some sig → argsL.length = sig.parameters.length) (hstack : g.stack = argsL.reverse ++ rest) (hW : 2 * g.monitorRoom + (rest.map fun v => v.category).sum ≤ W) (hdg : decode c.code g.pc = .ok (.invokestatic index, 3)) :
    ∃ T' L, Stand p l e R s m args below meth c T' L (cells + rm.cells) (slots + rm.slots) ∧ T'.heap = h ∧ Fr n0 L ∧ ∀ target, Steps p.tables e below (T'.setTop { g with pc := g.pc + 3, stack := rv :: rest }) target → Steps p.tables e below (T.setTop g) target := by
  obtain ⟨_, _, ⟨T', L', k', n'⟩, -, X', ⟨Lc, hQ, l1, y1, z1⟩, st⟩ := Jvm.LawKit.callS X hx (y := y) hown (mvT hZ w1) (mvT hZ w2) (mvT hZ w3) (mvT hZ w4) hy (backOf (W := W) (Q := fun v hh L => v = some rv ∧ Fr n0 L ∧ hh = h) hM hZ w4 w3 hf hl) hg hsize (argsL := argsL) (rest := rest) hlen hstack hW hdg (fun _ _ => ⟨rfl, eT, hc, hsl⟩)
  dsimp only [Pt.U, Pt.locs, Pt.cells, Pt.slots] at X' l1 y1 z1 st hQ
  subst l1 y1 z1
  obtain ⟨rfl, Nq, e'⟩ := hQ
  exact ⟨T', _, X', e', Fr.app N Nq, st⟩
theorem own_callVP {p : Program} {l : Launch} {e : Env} {R : Room} {s : State} {m : MethodId} {args : Array Value} {below : List Frame} {meth : Method} {c : Code} {T Z : State} {locs : List Loc} {cells slots : Nat} {a0 : Array Value} {h : Heap} {n0 : Nat} (X : Stand p l e R s m args below meth c T locs cells slots) (hx : p.tables.exec = Jvm.exec) (hZ : Z.Warmed39 s.vm) {own C : String} {index : Nat} {y : MethodName} {bytes : ByteArray} {maxL : Nat} {ret : Option FieldType} {rm : Room} {rv : Value} {argsL rest : List Value} {W : Nat} {a : Addr}
    (hown : s.vm.findClass own = some m.cls) (w1 : (Jvm.Cond.methodLink own index y).before a0 Z = true) (w2 : (Jvm.Cond.declares y).before a0 Z = true) (w5 : (Jvm.Cond.selects C y y).before a0 Z = true) (w6 : (Jvm.Cond.instanceMethod y).before a0 Z = true) (hy : y.cls ≠ "java/lang/invoke/MethodHandle" ∧ y.cls ≠ "java/lang/invoke/VarHandle") (w3 : (Jvm.Cond.initialized y.cls).before a0 Z = true) (w4 : (Jvm.Cond.code y bytes maxL ret).before a0 Z = true)
    (hM : MetFree l y (head1 [Jvm.Cond.code y bytes maxL ret] rm) (fun a' U => a' = (Value.ref a :: argsL).toArray ∧ Z.Warmed39 U.vm ∧ U.heap = h) (fun _ _ _ _ _ => True) (fun _ U o U' => ∃ v L, o = .returned v ∧ (v = some rv ∧ Fr n0 L ∧ U'.heap = h) ∧ FrameEnd U o U' L rm.cells rm.slots))
    (eT : T.heap = h) (N : Fr n0 locs) (hf : rm.frames + 1 ≤ R.frames) (hl : W + (maxL + 11) + rm.locals ≤ R.locals) (hc : cells + rm.cells ≤ R.cells) (hsl : slots + rm.slots ≤ R.slots) (E : Exa Z h a C)
    {g : JFrame} (hg : g.method = m) (hsize : g.locals.size = c.maxLocals) (hlen : ∀ sig, parseMethodDescriptor y.desc = some sig → argsL.length = sig.parameters.length) (hstack : g.stack = argsL.reverse ++ .ref a :: rest) (hW : 2 * g.monitorRoom + (rest.map fun v => v.category).sum ≤ W) (hdg : decode c.code g.pc = .ok (.invokevirtual index, 3)) :
    ∃ T' L, Stand p l e R s m args below meth c T' L (cells + rm.cells) (slots + rm.slots) ∧ T'.heap = h ∧ Fr n0 L ∧ ∀ target, Steps p.tables e below (T'.setTop { g with pc := g.pc + 3, stack := rv :: rest }) target → Steps p.tables e below (T.setTop g) target := by
  obtain ⟨cq, kq, qa, qb, qc⟩ := isOf hZ eT E
  obtain ⟨_, _, ⟨T', L', k', n'⟩, -, X', ⟨Lc, hQ, l1, y1, z1⟩, st⟩ := X.virtualBack hx (y := y) (z := y) hown (mvT hZ w1) (mvT hZ w2) (notFace_of_selects (args := #[]) (mvT hZ w5)) (mvT hZ w5) (mvT hZ w6) hy (backOf (W := W) (Q := fun v hh L => v = some rv ∧ Fr n0 L ∧ hh = h) hM hZ w4 w3 hf hl) qa qc hg hsize (Steps.refl _) (argsL := argsL) (rest := rest) hlen hstack hW hdg (fun _ _ => ⟨rfl, eT, hc, hsl⟩)
  dsimp only [Pt.U, Pt.locs, Pt.cells, Pt.slots] at X' l1 y1 z1 st hQ
  subst l1 y1 z1
  obtain ⟨rfl, Nq, e'⟩ := hQ
  exact ⟨T', _, X', e', Fr.app N Nq, fun target k => st.trans k⟩
theorem own_k0 : (0 : Int32).toInt = 0 := rfl
theorem own_k1 : (1 : Int32).toInt = 1 := rfl
theorem own_k2 : (2 : Int32).toInt = 2 := rfl
theorem own_k3 : (3 : Int32).toInt = 3 := rfl
theorem own_and3 (p : Int32) : (p &&& (3 : Int32)) = (0 : Int32) ∨ (p &&& (3 : Int32)) = (1 : Int32) ∨ (p &&& (3 : Int32)) = (2 : Int32) ∨ (p &&& (3 : Int32)) = (3 : Int32) := by
  have h1 := c_mask p 3 2 (by decide) (by decide)
  simp only [← Int32.toInt_inj, own_k0, own_k1, own_k2, own_k3]
  omega
theorem own_wS {Z : State} {a0 : Array Value} (hw : ∀ d ∈ tables_1, d.before a0 Z = true) : ∀ a ∈ Bundle.stringAtoms, a.before a0 Z = true := by
  intro a ha
  simp only [Bundle.stringAtoms, List.mem_cons, List.not_mem_nil, or_false] at ha
  rcases ha with rfl | rfl | rfl | rfl | rfl | rfl | rfl
  · exact (hw _ (List.mem_of_getElem? (i := 47) rfl))
  · exact (hw _ (List.mem_of_getElem? (i := 48) rfl))
  · exact (hw _ (List.mem_of_getElem? (i := 49) rfl))
  · exact (hw _ (List.mem_of_getElem? (i := 50) rfl))
  · exact (hw _ (List.mem_of_getElem? (i := 51) rfl))
  · exact (hw _ (List.mem_of_getElem? (i := 52) rfl))
  · exact (hw _ (List.mem_of_getElem? (i := 53) rfl))
theorem own_eq_int {a : Term} {n : Int32} {args : Array Value} {s : State} (h : (Jvm.Cond.eq a (.int n)).value args s none s [] = some true) : a.eval args s none [] s = some (.int n) := by
  obtain ⟨x, y, e1, e2, -, k⟩ := cmp_v (Or.inl h)
  cases (Term.int_eval n).symm.trans e2
  obtain ⟨z, rfl⟩ := k
  have q := gotT (Cond.eq_ints e1 e2) h
  rw [e1, q]
theorem own_eq_ref {a b : Term} {y : Addr} {args : Array Value} {s : State} (h : (Jvm.Cond.eq a b).value args s none s [] = some true) (hb : b.eval args s none [] s = some (.ref y)) : a.eval args s none [] s = some (.ref y) := by
  obtain ⟨x, y', e1, e2, -, k⟩ := cmp_v (Or.inl h)
  cases hb.symm.trans e2
  have q := gotT (eq_R e1 e2 k.2 rfl) h
  rw [e1, q]
theorem own_len {args : Array Value} {s : State} {t : Term} {a : Addr} {c : Cell} {ty : FieldType} {n : Int32} (ht : t.eval args s none [] s = some (.ref a)) (A : Arr s s.heap a c ty) (h : (Term.length t).eval args s none [] s = some (.int n)) : c.slots.size < 2 ^ 31 ∧ c.slots.size.toInt32 = n := by
  have ha := Arr.fin (U := s) (State.Warmed39.refl s).alike A
  by_cases hl : c.slots.size < 2 ^ 31
  · exact ⟨hl, Value.int.inj (Option.some.inj ((len_f ht ha hl).symm.trans h))⟩
  · simp [Term.eval, ht, ha, hl] at h
section Pow
open Jvm.FP Jvm.FP.Core Jvm.Free.Fl
theorem own_pow (a L : Int64) (k : Nat) (hk : k ≤ 62) (hL : Core.val64 (FP.l2d L) = .fin false (2 ^ 52) ((k : Int) - 52)) (h1 : 1 ≤ a.toInt) (h2 : a.toInt < 9007199254740992) : FP.dmul (FP.ddiv (FP.l2d a) (FP.l2d L)) (FP.l2d L) = FP.l2d a := by
  obtain ⟨s, c, q, e⟩ := Core.l2d_fin a
  have hf := Core.val64_fits (FP.l2d a)
  have hw := Core.l2d_whole (a := a) ⟨by omega, by omega⟩
  rw [e] at hf hw
  obtain ⟨f1, f2, f3, f4⟩ := hf
  have hp : b64.p = 53 := rfl
  have hqm : b64.qmin = -1074 := Core.qmin_b64
  have hqx : b64.qmax = 971 := by decide
  have hw' : Jvm.FP.Core.signed s (c * 2 ^ q.toNat) = a.toInt * ((2 ^ (-q).toNat : Nat) : Int) := hw
  have hq : -53 < q := by
    refine Int.lt_of_not_ge fun hge => ?_
    have e0 : q.toNat = 0 := by omega
    rw [e0, Nat.pow_zero, Nat.mul_one] at hw'
    have g1 : (Jvm.FP.Core.signed s c) ≤ (c : Int) := by cases s <;> simp [Jvm.FP.Core.signed] <;> omega
    have g2 : 2 ^ 53 ≤ 2 ^ (-q).toNat := Nat.pow_le_pow_right (by decide) (by omega)
    have g3 : ((2 ^ (-q).toNat : Nat) : Int) ≤ a.toInt * ((2 ^ (-q).toNat : Nat) : Int) := by
      have := Int.mul_le_mul_of_nonneg_right h1 (Int.natCast_nonneg (2 ^ (-q).toNat))
      simpa using this
    rw [hp] at f1
    omega
  have ht : b64.tails ≤ c := by
    rcases f4 with g | g
    · omega
    · exact g
  have fit2 : Jvm.FP.Core.fits b64 (.fin s c (q - k)) := ⟨f1, by omega, by omega, Or.inr ht⟩
  have v1 : Core.val64 (FP.ddiv (FP.l2d a) (FP.l2d L)) = .fin s c (q - k) := by
    rw [Core.val64_ddiv, e, hL]
    have hb : (s != false) = s := by cases s <;> rfl
    simp only [Jvm.FP.Core.quotient, hb]
    rw [if_neg (by decide)]
    refine Core.roundRatio_exact Core.good_b64 (by decide) fit2 ?_
    rw [show (q - ((k : Int) - 52) - (q - k)).toNat = 52 by omega, show (q - (k : Int) - (q - ((k : Int) - 52))).toNat = 0 by omega, Nat.pow_zero, Nat.mul_one]
  refine (Core.val64_inj (a := FP.l2d a) (by rw [e]; exact fun z => nomatch z) ?_).symm
  rw [Core.val64_dmul, v1, hL, e]
  have hb : (s != false) = s := by cases s <;> rfl
  simp only [Jvm.FP.Core.exactProduct, hb]
  symm
  show Jvm.FP.Core.roundRatio b64 s (c * 2 ^ 52) 1 (q - k + ((k : Int) - 52)) = _
  refine Core.roundRatio_exact Core.good_b64 (by decide) ⟨f1, f2, f3, f4⟩ ?_
  rw [show (q - (k : Int) + ((k : Int) - 52) - q).toNat = 0 by omega, show (q - (q - (k : Int) + ((k : Int) - 52))).toNat = 52 by omega, Nat.pow_zero, Nat.mul_one, Nat.mul_one]
theorem own_powL : ∀ k : Fin 63, Core.val64 (FP.l2d ((1 : Int64) <<< ((Int32.ofNat k.val) &&& 0x3f).toInt64)) = .fin false (2 ^ 52) ((k.val : Int) - 52) := by decide +kernel
theorem own_sh (p : Int32) : ∃ k : Fin 63, ((p &&& (63 : Int32)) % (63 : Int32)) = Int32.ofNat k.val := by
  have h1 := c_mask p 63 6 (by decide) (by decide)
  have h2 := (c_irem (p &&& 63) 63 63 rfl).1 (by omega)
  refine ⟨⟨((p &&& (63 : Int32)) % (63 : Int32)).toInt.toNat, by omega⟩, ?_⟩
  apply Int32.toInt_inj.mp
  rw [Int32.toInt_ofNat_of_lt (by show ((p &&& (63 : Int32)) % (63 : Int32)).toInt.toNat < 2 ^ 31; omega)]
  show _ = ((((p &&& (63 : Int32)) % (63 : Int32)).toInt.toNat : Nat) : Int)
  omega
theorem own_lenp (p : Int32) : ∃ k : Nat, k ≤ 62 ∧ Core.val64 (FP.l2d ((1 : Int64) <<< (((p &&& (63 : Int32)) % (63 : Int32)) &&& 0x3f).toInt64)) = .fin false (2 ^ 52) ((k : Int) - 52) := by
  obtain ⟨k, e⟩ := own_sh p
  rw [e]
  exact ⟨k.val, by omega, own_powL k⟩
theorem own_nz (L : Int64) (k : Nat) (hL : Core.val64 (FP.l2d L) = .fin false (2 ^ 52) ((k : Int) - 52)) (a : Int64) : NoNaN64 (FP.ddiv (FP.l2d a) (FP.l2d L)) := by
  refine ddiv_out (nn_w rfl) (l2d_fin L) ?_
  have h0 : L ≠ 0 := fun z => by rw [z] at hL; revert hL; rw [show Core.val64 (FP.l2d 0) = .fin false 0 b64.qmin by decide +kernel]; intro h; cases h
  have := Core.l2d_ne_zero h0
  exact (nz64_iff _).mpr (Core.l2d_ne_zero h0)
theorem own_mc (m c : Int64) (h1 : 1 ≤ m.toInt) (h2 : m.toInt ≤ 1024) (h3 : 1 ≤ c.toInt) (h4 : c.toInt ≤ 1099511627776) : FP.dmul (FP.l2d m) (FP.l2d c) = FP.l2d (m * c) ∧ 1 ≤ (m * c).toInt ∧ (m * c).toInt < 9007199254740992 := by
  have h5 : m.toInt * c.toInt ≤ 1024 * 1099511627776 := Int.mul_le_mul h2 h4 (by omega) (by omega)
  have h6 : 1 * 1 ≤ m.toInt * c.toInt := Int.mul_le_mul h1 h3 (by omega) (by omega)
  have e : (m * c).toInt = m.toInt * c.toInt := by
    rw [Int64.toInt_mul]; exact Int.bmod_eq_of_le (by omega) (by omega)
  refine ⟨dmul_w ⟨by omega, by omega⟩ ⟨by omega, by omega⟩ (fun z => by rw [z] at h1; exact absurd h1 (by decide)) (fun z => by rw [z] at h3; exact absurd h3 (by decide)) (by omega) (by omega), by omega, by omega⟩
theorem own_m (p : Int32) : 1 ≤ (((p &&& (1023 : Int32)) + (1 : Int32)).toInt64).toInt ∧ (((p &&& (1023 : Int32)) + (1 : Int32)).toInt64).toInt ≤ 1024 := by
  rw [c_i2l]
  have h1 := c_mask p 1023 10 (by decide) (by decide)
  have h2 := c_iadd (p &&& (1023 : Int32)) 1
  have h3 := rng32 ((p &&& (1023 : Int32)) + (1 : Int32))
  have k1 : (1 : Int32).toInt = 1 := rfl
  omega
theorem own_c (p : Int64) : 1 ≤ ((p &&& (1099511627775 : Int64)) + (1 : Int64)).toInt ∧ ((p &&& (1099511627775 : Int64)) + (1 : Int64)).toInt ≤ 1099511627776 := by
  have h1 := c_maskL p 1099511627775 40 (by decide) (by decide)
  have e : ((p &&& (1099511627775 : Int64)) + (1 : Int64)).toInt = (p &&& (1099511627775 : Int64)).toInt + 1 := by
    rw [Int64.toInt_add, show (1 : Int64).toInt = 1 from rfl]; exact Int.bmod_eq_of_le (by omega) (by omega)
  omega
end Pow
theorem d3_0 : decode jdk_22_method_1_code 0 = .ok (.aload_n 0, 1) := by decide +kernel
theorem d3_1 : decode jdk_22_method_1_code 1 = .ok (.invokespecial 1, 3) := by decide +kernel
theorem d3_4 : decode jdk_22_method_1_code 4 = .ok (.return_, 1) := by decide +kernel
theorem pn_3 : plainName "java/util/AbstractCollection" = true := by first | (simp [plainName, overriddenIn]; done) | decide +kernel
theorem ef_rmalac (m : MethodId) (p0 : Addr) : entryFrame m #[(.ref p0)] 1 = mkF m 0 #[.val (.ref p0)] [] := by first | (simp [entryFrame, mkF, argsToLocals, Value.category]; done) | rfl
def Qalac (Z : State) (p0 : Addr) (h0 : Heap) (n0 : Nat) (v : Option Value) (h : Heap) (L : List Loc) : Prop := v = none ∧ Fr n0 L ∧ h = h0
set_option maxRecDepth 65536 in
set_option maxHeartbeats 40000000 in
theorem rmalac (l : Launch) (Z : State) (a0 : Array Value) (hw : ∀ d ∈ tables_1, d.before a0 Z = true) (ws : List Jvm.Cond) (p0 : Addr) (h0 : Heap) (n0 : Nat) (O0 : Old Z n0 h0) :
    MetFree l nm0 (head1 (Jvm.Cond.code nm0 jdk_22_method_1_code 1 none :: ws) ({ frames := 1, cells := 0, slots := 0, locals := 12 } : Room)) (fun a U => a = #[(.ref p0)] ∧ Z.Warmed39 U.vm ∧ U.heap = h0) (fun _ _ _ _ _ => True) (fun _ U o U' => ∃ v L, o = .returned v ∧ Qalac Z p0 h0 n0 v U'.heap L ∧ FrameEnd U o U' L ({ frames := 1, cells := 0, slots := 0, locals := 12 } : Room).cells ({ frames := 1, cells := 0, slots := 0, locals := 12 } : Room).slots) := by
  refine MetFree.of_bodySF (plainFor_of_name pn_3) hisR ?_
  intro p e s m args below meth c s₁ Bd hml0 hP hK
  obtain ⟨rfl, hZ, hh⟩ := hP
  have hx := Bd.exec
  have hby := Bd.bytes
  have hml : c.maxLocals = 1 := hml0
  have hown : s.vm.findClass "java/util/AbstractCollection" = some m.cls := findClass_of_methodNamed Bd.named
  have X0 : Stand p l e ({ frames := 1, cells := 0, slots := 0, locals := 12 } : Room) s m #[(.ref p0)] below meth c s₁ [] 0 0 := Stand.of_body Bd
  have e0 : s₁.heap = h0 := by rw [← hh, Bd.state]; rfl
  have N0 := Fr.nil n0
  have s0 : Steps p.tables e below (s₁.setTop (entryFrame m #[(.ref p0)] 1)) (s₁.setTop (mkF m 0 #[.val (.ref p0)] [])) := castTop (ef_rmalac m p0) (Steps.refl _)
  obtain ⟨A₀, hA₀⟩ : ∃ z, z = (s₁.setTop (entryFrame m #[(.ref p0)] 1)) := ⟨_, rfl⟩
  rw [← hA₀] at s0
  obtain ⟨T1, X1, e1, st1⟩ := initO X0 hx hZ hown (hw _ (List.mem_of_getElem? (i := 19) rfl)) (hw _ (List.mem_of_getElem? (i := 20) rfl)) (hw _ (List.mem_of_getElem? (i := 21) rfl)) e0 (g := (mkF m 1 #[.val (.ref p0)] [(.ref p0)])) rfl (by rw [hml]; rfl) rfl (hb hby d3_1) (by decide) (W := 0) (by show 2 * 0 + _ ≤ _; exact Nat.le_of_eq rfl) (by decide)
  have s2 : Steps p.tables e below A₀ (T1.setTop (mkF m 4 #[.val (.ref p0)] [])) := by
    refine s0.trans ?_
    refine XS.aloadN X0.here hx rfl (hb hby d3_0) rfl rfl ?_
    refine st1 _ ?_
    exact Steps.refl _
  subst hA₀
  obtain ⟨fs, hr, hrun, hended, hW, hsame⟩ := X1.leave (v := none) (fun _ => rfl)
  refine ⟨_, _, s2.trans ?_, hrun, hended, _, _, rfl, ?_, ⟨_, rfl⟩, hW, hsame.mono (by decide) (by decide)⟩
  · show Steps p.tables e below (T1.setTop (mkF m 4 #[.val (.ref p0)] [])) _
    exact X1.returnOut hx Bd.returns (hb hby d3_4) hr
  · show Qalac Z p0 h0 n0 _ T1.heap _
    rw [e1]
    exact ⟨rfl, N0, rfl⟩
theorem d2_0 : decode jdk_39_method_1_code 0 = .ok (.aload_n 0, 1) := by decide +kernel
theorem d2_1 : decode jdk_39_method_1_code 1 = .ok (.invokespecial 1, 3) := by decide +kernel
theorem d2_4 : decode jdk_39_method_1_code 4 = .ok (.aload_n 0, 1) := by decide +kernel
theorem d2_5 : decode jdk_39_method_1_code 5 = .ok (.iconst 0, 1) := by decide +kernel
theorem d2_6 : decode jdk_39_method_1_code 6 = .ok (.putfield 7, 3) := by decide +kernel
theorem d2_9 : decode jdk_39_method_1_code 9 = .ok (.return_, 1) := by decide +kernel
theorem pn_2 : plainName "java/util/AbstractList" = true := by first | (simp [plainName, overriddenIn]; done) | decide +kernel
theorem pd_rmalab_0 : parseMethodDescriptor "()V" = some ⟨[], none⟩ := by decide +kernel
theorem ef_rmalab (m : MethodId) (p0 : Addr) : entryFrame m #[(.ref p0)] 1 = mkF m 0 #[.val (.ref p0)] [] := by first | (simp [entryFrame, mkF, argsToLocals, Value.category]; done) | rfl
def Qalab (Z : State) (p0 : Addr) (h0 : Heap) (n0 : Nat) (v : Option Value) (h : Heap) (L : List Loc) : Prop := v = none ∧ Fr n0 L ∧ Keep h0 h [p0] ∧ (Exa Z h p0 "java/util/ArrayList") ∧ (Fld Z h p0 "java/util/ArrayList" "elementData" "[Ljava/lang/Object;" .null) ∧ (Fld Z h p0 "java/util/ArrayList" "size" "I" (.int (0 : Int32))) ∧ (Fld Z h p0 "java/util/AbstractList" "modCount" "I" (.int (0 : Int32)))
set_option maxRecDepth 65536 in
set_option maxHeartbeats 40000000 in
theorem rmalab (l : Launch) (Z : State) (a0 : Array Value) (hw : ∀ d ∈ tables_1, d.before a0 Z = true) (ws : List Jvm.Cond) (p0 : Addr) (h0 : Heap) (n0 : Nat) (O0 : Old Z n0 h0) (F0_ : Exa Z h0 p0 "java/util/ArrayList") (F1_ : Fld Z h0 p0 "java/util/ArrayList" "elementData" "[Ljava/lang/Object;" .null) (F2_ : Fld Z h0 p0 "java/util/ArrayList" "size" "I" (.int (0 : Int32))) (F3_ : Fld Z h0 p0 "java/util/AbstractList" "modCount" "I" (.int (0 : Int32))) (F4_ : n0 ≤ p0) :
    MetFree l nm1 (head1 (Jvm.Cond.code nm1 jdk_39_method_1_code 1 none :: ws) ({ frames := 2, cells := 0, slots := 0, locals := 24 } : Room)) (fun a U => a = #[(.ref p0)] ∧ Z.Warmed39 U.vm ∧ U.heap = h0) (fun _ _ _ _ _ => True) (fun _ U o U' => ∃ v L, o = .returned v ∧ Qalab Z p0 h0 n0 v U'.heap L ∧ FrameEnd U o U' L ({ frames := 2, cells := 0, slots := 0, locals := 24 } : Room).cells ({ frames := 2, cells := 0, slots := 0, locals := 24 } : Room).slots) := by
  refine MetFree.of_bodySF (plainFor_of_name pn_2) hisR ?_
  intro p e s m args below meth c s₁ Bd hml0 hP hK
  obtain ⟨rfl, hZ, hh⟩ := hP
  have hx := Bd.exec
  have hby := Bd.bytes
  have hml : c.maxLocals = 1 := hml0
  have hown : s.vm.findClass "java/util/AbstractList" = some m.cls := findClass_of_methodNamed Bd.named
  have X0 : Stand p l e ({ frames := 2, cells := 0, slots := 0, locals := 24 } : Room) s m #[(.ref p0)] below meth c s₁ [] 0 0 := Stand.of_body Bd
  have e0 : s₁.heap = h0 := by rw [← hh, Bd.state]; rfl
  have N0 := Fr.nil n0
  have s0 : Steps p.tables e below (s₁.setTop (entryFrame m #[(.ref p0)] 1)) (s₁.setTop (mkF m 0 #[.val (.ref p0)] [])) := castTop (ef_rmalab m p0) (Steps.refl _)
  obtain ⟨A₀, hA₀⟩ : ∃ z, z = (s₁.setTop (entryFrame m #[(.ref p0)] 1)) := ⟨_, rfl⟩
  rw [← hA₀] at s0
  obtain ⟨_, _, ⟨T1, L1, k1, n1⟩, -, X1, ⟨Lc1, hQ1, l1, y1, z1⟩, st1⟩ := X0.specialBack hx (y := (⟨"java/util/AbstractCollection", "<init>", "()V"⟩ : MethodName)) rfl hown (mvT hZ (hw _ (List.mem_of_getElem? (i := 13) rfl))) (mvT hZ (hw _ (List.mem_of_getElem? (i := 14) rfl))) (mvT hZ (hw _ (List.mem_of_getElem? (i := 18) rfl))) (by decide) (backOf (W := 0) (rmalac l Z a0 hw [] p0 h0 n0 O0 ) hZ (hw _ (List.mem_of_getElem? (i := 18) rfl)) (hw _ (List.mem_of_getElem? (i := 17) rfl)) (by decide) (by decide)) (g := (mkF m 1 #[.val (.ref p0)] [(.ref p0)])) rfl (by rw [hml]; rfl) (Steps.refl _) (a := p0) (argsL := []) (rest := []) (lenOf pd_rmalab_0 rfl) rfl (by show 2 * 0 + _ ≤ _; exact Nat.le_of_eq rfl) (hb hby d2_1) (fun _ _ => ⟨rfl, e0, (by decide : 0 + 0 ≤ _), (by decide : 0 + 0 ≤ _)⟩)
  dsimp only [Pt.U, Pt.locs, Pt.cells, Pt.slots] at X1 l1 y1 z1 st1 hQ1
  subst l1 y1 z1
  obtain ⟨rfl, Nq1, e1⟩ := hQ1
  have N1 := Fr.app N0 Nq1
  obtain ⟨T2, h2, X2, e2, W2, st2⟩ := putF X1 hx hZ hown (host := "") (Or.inl (hw _ (List.mem_of_getElem? (i := 22) rfl))) Via.refl e1 F3_ F0_ (Or.inl (hw _ (List.mem_of_getElem? (i := 23) rfl))) (hw _ (List.mem_of_getElem? (i := 2) rfl)) (ty := .int) (by decide) rfl rfl (g := (mkF m 6 #[.val (.ref p0)] [(.int (0 : Int32)), (.ref p0)])) rfl rfl (hb hby d2_6)
  have Fw2 := F3_.same W2
  have O2 := O0.wr W2 F4_
  have K2 : Keep h0 h2 [p0] := (Keep.refl h0 [p0]).wr W2 (Or.inl (List.mem_of_getElem? (i := 0) rfl))
  have N2 := Fr.snoc X2 N1 F4_
  have s3 : Steps p.tables e below A₀ (T2.setTop (mkF m 9 #[.val (.ref p0)] [])) := by
    refine s0.trans ?_
    refine XS.aloadN X0.here hx rfl (hb hby d2_0) rfl rfl ?_
    refine st1.trans ?_
    refine XS.aloadN X1.here hx rfl (hb hby d2_4) rfl rfl ?_
    refine XS.iconst X1.here hx rfl (hb hby d2_5) ?_
    refine st2 _ ?_
    exact Steps.refl _
  subst hA₀
  have c4 : Exa Z h2 p0 "java/util/ArrayList" := (F0_.wr W2)
  have c5 : Fld Z h2 p0 "java/util/ArrayList" "elementData" "[Ljava/lang/Object;" .null := (F1_.other W2 (Or.inr (slot_ne (Or.inl (hw _ (List.mem_of_getElem? (i := 26) rfl))) (Or.inl (hw _ (List.mem_of_getElem? (i := 23) rfl))) (by decide) (t := (.array (.object "java/lang/Object"))) (t' := .int) (by decide) (by decide))))
  have c6 : Fld Z h2 p0 "java/util/ArrayList" "size" "I" (.int (0 : Int32)) := (F2_.other W2 (Or.inr (slot_ne (Or.inl (hw _ (List.mem_of_getElem? (i := 41) rfl))) (Or.inl (hw _ (List.mem_of_getElem? (i := 23) rfl))) (by decide) (t := .int) (t' := .int) (by decide) (by decide))))
  obtain ⟨fs, hr, hrun, hended, hW, hsame⟩ := X2.leave (v := none) (fun _ => rfl)
  refine ⟨_, _, s3.trans ?_, hrun, hended, _, _, rfl, ?_, ⟨_, rfl⟩, hW, hsame.mono (by decide) (by decide)⟩
  · show Steps p.tables e below (T2.setTop (mkF m 9 #[.val (.ref p0)] [])) _
    exact X2.returnOut hx Bd.returns (hb hby d2_9) hr
  · show Qalab Z p0 h0 n0 _ T2.heap _
    rw [e2]
    exact ⟨rfl, N2, K2, c4, c5, c6, Fw2⟩
theorem d1_0 : decode jdk_38_method_2_code 0 = .ok (.aload_n 0, 1) := by decide +kernel
theorem d1_1 : decode jdk_38_method_2_code 1 = .ok (.invokespecial 1, 3) := by decide +kernel
theorem d1_4 : decode jdk_38_method_2_code 4 = .ok (.aload_n 0, 1) := by decide +kernel
theorem d1_5 : decode jdk_38_method_2_code 5 = .ok (.getstatic 39, 3) := by decide +kernel
theorem d1_8 : decode jdk_38_method_2_code 8 = .ok (.putfield 9, 3) := by decide +kernel
theorem d1_11 : decode jdk_38_method_2_code 11 = .ok (.return_, 1) := by decide +kernel
theorem pn_1 : plainName "java/util/ArrayList" = true := by first | (simp [plainName, overriddenIn]; done) | decide +kernel
theorem pd_rmalin_0 : parseMethodDescriptor "()V" = some ⟨[], none⟩ := by decide +kernel
theorem ef_rmalin (m : MethodId) (p0 : Addr) : entryFrame m #[(.ref p0)] 1 = mkF m 0 #[.val (.ref p0)] [] := by first | (simp [entryFrame, mkF, argsToLocals, Value.category]; done) | rfl
def Qalin (Z : State) (p0 : Addr) (dc : Addr) (h0 : Heap) (n0 : Nat) (v : Option Value) (h : Heap) (L : List Loc) : Prop := v = none ∧ Fr n0 L ∧ Keep h0 h [p0] ∧ (Exa Z h p0 "java/util/ArrayList") ∧ (Fld Z h p0 "java/util/ArrayList" "elementData" "[Ljava/lang/Object;" (.ref dc)) ∧ (Fld Z h p0 "java/util/ArrayList" "size" "I" (.int (0 : Int32))) ∧ (Fld Z h p0 "java/util/AbstractList" "modCount" "I" (.int (0 : Int32)))
set_option maxRecDepth 65536 in
set_option maxHeartbeats 40000000 in
theorem rmalin (l : Launch) (Z : State) (a0 : Array Value) (hw : ∀ d ∈ tables_1, d.before a0 Z = true) (ws : List Jvm.Cond) (p0 : Addr) (dc : Addr) (h0 : Heap) (n0 : Nat) (O0 : Old Z n0 h0) (F0_ : Exa Z h0 p0 "java/util/ArrayList") (F1_ : Fld Z h0 p0 "java/util/ArrayList" "elementData" "[Ljava/lang/Object;" .null) (F2_ : Fld Z h0 p0 "java/util/ArrayList" "size" "I" (.int (0 : Int32))) (F3_ : Fld Z h0 p0 "java/util/AbstractList" "modCount" "I" (.int (0 : Int32))) (F4_ : n0 ≤ p0) (F5_ : Sta Z Z.heap "java/util/ArrayList" "DEFAULTCAPACITY_EMPTY_ELEMENTDATA" "[Ljava/lang/Object;" (.ref dc)) :
    MetFree l nm2 (head1 (Jvm.Cond.code nm2 jdk_38_method_2_code 1 none :: ws) ({ frames := 3, cells := 0, slots := 0, locals := 36 } : Room)) (fun a U => a = #[(.ref p0)] ∧ Z.Warmed39 U.vm ∧ U.heap = h0) (fun _ _ _ _ _ => True) (fun _ U o U' => ∃ v L, o = .returned v ∧ Qalin Z p0 dc h0 n0 v U'.heap L ∧ FrameEnd U o U' L ({ frames := 3, cells := 0, slots := 0, locals := 36 } : Room).cells ({ frames := 3, cells := 0, slots := 0, locals := 36 } : Room).slots) := by
  refine MetFree.of_bodySF (plainFor_of_name pn_1) hisR ?_
  intro p e s m args below meth c s₁ Bd hml0 hP hK
  obtain ⟨rfl, hZ, hh⟩ := hP
  have hx := Bd.exec
  have hby := Bd.bytes
  have hml : c.maxLocals = 1 := hml0
  have hown : s.vm.findClass "java/util/ArrayList" = some m.cls := findClass_of_methodNamed Bd.named
  have X0 : Stand p l e ({ frames := 3, cells := 0, slots := 0, locals := 36 } : Room) s m #[(.ref p0)] below meth c s₁ [] 0 0 := Stand.of_body Bd
  have e0 : s₁.heap = h0 := by rw [← hh, Bd.state]; rfl
  have N0 := Fr.nil n0
  have s0 : Steps p.tables e below (s₁.setTop (entryFrame m #[(.ref p0)] 1)) (s₁.setTop (mkF m 0 #[.val (.ref p0)] [])) := castTop (ef_rmalin m p0) (Steps.refl _)
  obtain ⟨A₀, hA₀⟩ : ∃ z, z = (s₁.setTop (entryFrame m #[(.ref p0)] 1)) := ⟨_, rfl⟩
  rw [← hA₀] at s0
  obtain ⟨_, _, ⟨T1, L1, k1, n1⟩, -, X1, ⟨Lc1, hQ1, l1, y1, z1⟩, st1⟩ := X0.specialBack hx (y := (⟨"java/util/AbstractList", "<init>", "()V"⟩ : MethodName)) rfl hown (mvT hZ (hw _ (List.mem_of_getElem? (i := 7) rfl))) (mvT hZ (hw _ (List.mem_of_getElem? (i := 8) rfl))) (mvT hZ (hw _ (List.mem_of_getElem? (i := 12) rfl))) (by decide) (backOf (W := 0) (rmalab l Z a0 hw [] p0 h0 n0 O0 F0_ F1_ F2_ F3_ F4_) hZ (hw _ (List.mem_of_getElem? (i := 12) rfl)) (hw _ (List.mem_of_getElem? (i := 11) rfl)) (by decide) (by decide)) (g := (mkF m 1 #[.val (.ref p0)] [(.ref p0)])) rfl (by rw [hml]; rfl) (Steps.refl _) (a := p0) (argsL := []) (rest := []) (lenOf pd_rmalin_0 rfl) rfl (by show 2 * 0 + _ ≤ _; exact Nat.le_of_eq rfl) (hb hby d1_1) (fun _ _ => ⟨rfl, e0, (by decide : 0 + 0 ≤ _), (by decide : 0 + 0 ≤ _)⟩)
  dsimp only [Pt.U, Pt.locs, Pt.cells, Pt.slots] at X1 l1 y1 z1 st1 hQ1
  subst l1 y1 z1
  obtain ⟨rfl, Nq1, Kc1, f1_0, f1_1, f1_2, f1_3⟩ := hQ1
  have N1 := Fr.app N0 Nq1
  have K1 : Keep h0 T1.heap [p0] := (Keep.refl h0 [p0]).trans Kc1 (allS (Or.inl (List.mem_of_getElem? (i := 0) rfl)) all0)
  have O1 := O0.keep Kc1 (allS F4_ all0)
  obtain ⟨T2, X2, e2, st2⟩ := getS2 X1 hx hZ hown (host := "") (Or.inl (hw _ (List.mem_of_getElem? (i := 24) rfl))) Via.refl (rfl : T1.heap = T1.heap) (F5_.ext O1.2) (g := (mkF m 5 #[.val (.ref p0)] [(.ref p0)])) rfl (hb hby d1_5)
  obtain ⟨T3, h3, X3, e3, W3, st3⟩ := putF X2 hx hZ hown (host := "") (Or.inl (hw _ (List.mem_of_getElem? (i := 25) rfl))) Via.refl e2 f1_1 f1_0 (Or.inl (hw _ (List.mem_of_getElem? (i := 26) rfl))) (hw _ (List.mem_of_getElem? (i := 2) rfl)) (ty := (.array (.object "java/lang/Object"))) (by decide) rfl rfl (g := (mkF m 8 #[.val (.ref p0)] [(.ref dc), (.ref p0)])) rfl rfl (hb hby d1_8)
  have Fw3 := f1_1.same W3
  have O3 := O1.wr W3 F4_
  have K3 : Keep h0 h3 [p0] := K1.wr W3 (Or.inl (List.mem_of_getElem? (i := 0) rfl))
  have N3 := Fr.snoc X3 N1 F4_
  have s4 : Steps p.tables e below A₀ (T3.setTop (mkF m 11 #[.val (.ref p0)] [])) := by
    refine s0.trans ?_
    refine XS.aloadN X0.here hx rfl (hb hby d1_0) rfl rfl ?_
    refine st1.trans ?_
    refine XS.aloadN X1.here hx rfl (hb hby d1_4) rfl rfl ?_
    refine st2 _ ?_
    refine st3 _ ?_
    exact Steps.refl _
  subst hA₀
  have c5 : Exa Z h3 p0 "java/util/ArrayList" := (f1_0.wr W3)
  have c6 : Fld Z h3 p0 "java/util/ArrayList" "size" "I" (.int (0 : Int32)) := (f1_2.other W3 (Or.inr (slot_ne (Or.inl (hw _ (List.mem_of_getElem? (i := 41) rfl))) (Or.inl (hw _ (List.mem_of_getElem? (i := 26) rfl))) (by decide) (t := .int) (t' := (.array (.object "java/lang/Object"))) (by decide) (by decide))))
  have c7 : Fld Z h3 p0 "java/util/AbstractList" "modCount" "I" (.int (0 : Int32)) := (f1_3.other W3 (Or.inr (slot_ne (Or.inl (hw _ (List.mem_of_getElem? (i := 23) rfl))) (Or.inl (hw _ (List.mem_of_getElem? (i := 26) rfl))) (by decide) (t := .int) (t' := (.array (.object "java/lang/Object"))) (by decide) (by decide))))
  obtain ⟨fs, hr, hrun, hended, hW, hsame⟩ := X3.leave (v := none) (fun _ => rfl)
  refine ⟨_, _, s4.trans ?_, hrun, hended, _, _, rfl, ?_, ⟨_, rfl⟩, hW, hsame.mono (by decide) (by decide)⟩
  · show Steps p.tables e below (T3.setTop (mkF m 11 #[.val (.ref p0)] [])) _
    exact X3.returnOut hx Bd.returns (hb hby d1_11) hr
  · show Qalin Z p0 dc h0 n0 _ T3.heap _
    rw [e3]
    exact ⟨rfl, N3, K3, c5, Fw3, c6, c7⟩
theorem d13_0 : decode jdk_29_method_65_code 0 = .ok (.iload_n 0, 1) := by decide +kernel
theorem d13_1 : decode jdk_29_method_65_code 1 = .ok (.iload_n 1, 1) := by decide +kernel
theorem d13_2 : decode jdk_29_method_65_code 2 = .ok (.if_icmp .lt 7, 3) := by decide +kernel
theorem d13_5 : decode jdk_29_method_65_code 5 = .ok (.iload_n 0, 1) := by decide +kernel
theorem d13_6 : decode jdk_29_method_65_code 6 = .ok (.goto 4, 3) := by decide +kernel
theorem d13_10 : decode jdk_29_method_65_code 10 = .ok (.ireturn, 1) := by decide +kernel
theorem ef_rmalmx (m : MethodId)  : entryFrame m #[(.int (10 : Int32)), (.int (1 : Int32))] 2 = mkF m 0 #[.val (.int (10 : Int32)), .val (.int (1 : Int32))] [] := by first | (simp [entryFrame, mkF, argsToLocals, Value.category]; done) | rfl
def Qalmx (Z : State)  (h0 : Heap) (n0 : Nat) (v : Option Value) (h : Heap) (L : List Loc) : Prop := v = some (.int (10 : Int32)) ∧ Fr n0 L ∧ h = h0
set_option maxRecDepth 65536 in
set_option maxHeartbeats 40000000 in
theorem rmalmx (l : Launch) (Z : State) (a0 : Array Value) (hw : ∀ d ∈ tables_1, d.before a0 Z = true) (ws : List Jvm.Cond)  (h0 : Heap) (n0 : Nat) (O0 : Old Z n0 h0) :
    MetFree l nm3 (head1 (Jvm.Cond.code nm3 jdk_29_method_65_code 2 (some .int) :: ws) ({ frames := 0, cells := 0, slots := 0, locals := 0 } : Room)) (fun a U => a = #[(.int (10 : Int32)), (.int (1 : Int32))] ∧ Z.Warmed39 U.vm ∧ U.heap = h0) (fun _ _ _ _ _ => True) (fun _ U o U' => ∃ v L, o = .returned v ∧ Qalmx Z  h0 n0 v U'.heap L ∧ FrameEnd U o U' L ({ frames := 0, cells := 0, slots := 0, locals := 0 } : Room).cells ({ frames := 0, cells := 0, slots := 0, locals := 0 } : Room).slots) := by
  refine MetFree.of_bodySF (Jvm.Free.JP.mathPlain rfl (by decide +kernel)) hisR ?_
  intro p e s m args below meth c s₁ Bd hml0 hP hK
  obtain ⟨rfl, hZ, hh⟩ := hP
  have hx := Bd.exec
  have hby := Bd.bytes
  have hml : c.maxLocals = 2 := hml0
  have hown : s.vm.findClass "java/lang/Math" = some m.cls := findClass_of_methodNamed Bd.named
  have X0 : Stand p l e ({ frames := 0, cells := 0, slots := 0, locals := 0 } : Room) s m #[(.int (10 : Int32)), (.int (1 : Int32))] below meth c s₁ [] 0 0 := Stand.of_body Bd
  have e0 : s₁.heap = h0 := by rw [← hh, Bd.state]; rfl
  have N0 := Fr.nil n0
  have s0 : Steps p.tables e below (s₁.setTop (entryFrame m #[(.int (10 : Int32)), (.int (1 : Int32))] 2)) (s₁.setTop (mkF m 0 #[.val (.int (10 : Int32)), .val (.int (1 : Int32))] [])) := castTop (ef_rmalmx m ) (Steps.refl _)
  obtain ⟨A₀, hA₀⟩ : ∃ z, z = (s₁.setTop (entryFrame m #[(.int (10 : Int32)), (.int (1 : Int32))] 2)) := ⟨_, rfl⟩
  rw [← hA₀] at s0
  have s1 : Steps p.tables e below A₀ (s₁.setTop (mkF m 10 #[.val (.int (10 : Int32)), .val (.int (1 : Int32))] [(.int (10 : Int32))])) := by
    refine s0.trans ?_
    refine XS.iloadN X0.here hx rfl (hb hby d13_0) rfl ?_
    refine XS.iloadN X0.here hx rfl (hb hby d13_1) rfl ?_
    refine XS.icmpNo X0.here hx rfl (hb hby d13_2) rfl (flt (by decide)).1 ?_
    refine XS.iloadN X0.here hx rfl (hb hby d13_5) rfl ?_
    refine XS.goto X0.here hx rfl (pc0 := 6) (pc' := 10) rfl (hb hby d13_6) (by decide) (by decide) ?_
    exact Steps.refl _
  subst hA₀
  obtain ⟨fs, hr, hrun, hended, hW, hsame⟩ := X0.leave (v := some (.int (10 : Int32))) (fun h => by rw [Bd.returns] at h; cases h)
  refine ⟨_, _, s1.trans ?_, hrun, hended, _, _, rfl, ?_, ⟨_, rfl⟩, hW, hsame.mono (by decide) (by decide)⟩
  · show Steps p.tables e below (s₁.setTop (mkF m 10 #[.val (.int (10 : Int32)), .val (.int (1 : Int32))] [(.int (10 : Int32))])) _
    exact retI X0 hx Bd.returns (hb hby d13_10) hr
  · show Qalmx Z  h0 n0 _ s₁.heap _
    rw [e0]
    exact ⟨rfl, N0, rfl⟩
theorem d12_0 : decode jdk_38_method_6_code 0 = .ok (.aload_n 0, 1) := by decide +kernel
theorem d12_1 : decode jdk_38_method_6_code 1 = .ok (.getfield 9, 3) := by decide +kernel
theorem d12_4 : decode jdk_38_method_6_code 4 = .ok (.arraylength, 1) := by decide +kernel
theorem d12_5 : decode jdk_38_method_6_code 5 = .ok (.istore_n 2, 1) := by decide +kernel
theorem d12_6 : decode jdk_38_method_6_code 6 = .ok (.iload_n 2, 1) := by decide +kernel
theorem d12_7 : decode jdk_38_method_6_code 7 = .ok (.ifCond .gt 13, 3) := by decide +kernel
theorem d12_10 : decode jdk_38_method_6_code 10 = .ok (.aload_n 0, 1) := by decide +kernel
theorem d12_11 : decode jdk_38_method_6_code 11 = .ok (.getfield 9, 3) := by decide +kernel
theorem d12_14 : decode jdk_38_method_6_code 14 = .ok (.getstatic 39, 3) := by decide +kernel
theorem d12_17 : decode jdk_38_method_6_code 17 = .ok (.if_acmp .eq 28, 3) := by decide +kernel
theorem d12_45 : decode jdk_38_method_6_code 45 = .ok (.aload_n 0, 1) := by decide +kernel
theorem d12_46 : decode jdk_38_method_6_code 46 = .ok (.bipush 10, 2) := by decide +kernel
theorem d12_48 : decode jdk_38_method_6_code 48 = .ok (.iload_n 1, 1) := by decide +kernel
theorem d12_49 : decode jdk_38_method_6_code 49 = .ok (.invokestatic 79, 3) := by decide +kernel
theorem d12_52 : decode jdk_38_method_6_code 52 = .ok (.anewarray 7, 3) := by decide +kernel
theorem d12_55 : decode jdk_38_method_6_code 55 = .ok (.dup_x1, 1) := by decide +kernel
theorem d12_56 : decode jdk_38_method_6_code 56 = .ok (.putfield 9, 3) := by decide +kernel
theorem d12_59 : decode jdk_38_method_6_code 59 = .ok (.areturn, 1) := by decide +kernel
theorem pd_rmalg1_0 : parseMethodDescriptor "(II)I" = some ⟨[.int, .int], some .int⟩ := by decide +kernel
theorem ef_rmalg1 (m : MethodId) (p0 : Addr) : entryFrame m #[(.ref p0), (.int (1 : Int32))] 4 = mkF m 0 #[.val (.ref p0), .val (.int (1 : Int32)), .unset, .unset] [] := by first | (simp [entryFrame, mkF, argsToLocals, Value.category]; done) | rfl
def Qalg1 (Z : State) (p0 : Addr) (dc : Addr) (kd : ClassId) (mc : Int32) (h0 : Heap) (n0 : Nat) (v : Option Value) (h : Heap) (L : List Loc) : Prop := ∃ ar : Addr, ∃ ka : ClassId, v = some (.ref ar) ∧ Fr n0 L ∧ Keep h0 h [p0] ∧ (Exa Z h p0 "java/util/ArrayList") ∧ (Fld Z h p0 "java/util/ArrayList" "elementData" "[Ljava/lang/Object;" (.ref ar)) ∧ (Fld Z h p0 "java/util/ArrayList" "size" "I" (.int (0 : Int32))) ∧ (Fld Z h p0 "java/util/AbstractList" "modCount" "I" (.int mc)) ∧ (Arv Z h ar ka (.object "java/lang/Object") (10 : Int32) [.null, .null, .null, .null, .null, .null, .null, .null, .null, .null] .null) ∧ (Ovr Z ka "java/lang/Object") ∧ (h0.size ≤ ar)
set_option maxRecDepth 65536 in
set_option maxHeartbeats 40000000 in
theorem rmalg1 (l : Launch) (Z : State) (a0 : Array Value) (hw : ∀ d ∈ tables_1, d.before a0 Z = true) (ws : List Jvm.Cond) (p0 : Addr) (dc : Addr) (kd : ClassId) (mc : Int32) (h0 : Heap) (n0 : Nat) (O0 : Old Z n0 h0) (F0_ : Exa Z h0 p0 "java/util/ArrayList") (F1_ : Fld Z h0 p0 "java/util/ArrayList" "elementData" "[Ljava/lang/Object;" (.ref dc)) (F2_ : Fld Z h0 p0 "java/util/ArrayList" "size" "I" (.int (0 : Int32))) (F3_ : Fld Z h0 p0 "java/util/AbstractList" "modCount" "I" (.int mc)) (F4_ : n0 ≤ p0) (F5_ : Sta Z Z.heap "java/util/ArrayList" "DEFAULTCAPACITY_EMPTY_ELEMENTDATA" "[Ljava/lang/Object;" (.ref dc)) (F6_ : Arv Z Z.heap dc kd (.object "java/lang/Object") (0 : Int32) [] .null) :
    MetFree l nm4 (head1 (Jvm.Cond.code nm4 jdk_38_method_6_code 4 (some (.array (.object "java/lang/Object"))) :: ws) ({ frames := 1, cells := 1, slots := 10, locals := 14 } : Room)) (fun a U => a = #[(.ref p0), (.int (1 : Int32))] ∧ Z.Warmed39 U.vm ∧ U.heap = h0) (fun _ _ _ _ _ => True) (fun _ U o U' => ∃ v L, o = .returned v ∧ Qalg1 Z p0 dc kd mc h0 n0 v U'.heap L ∧ FrameEnd U o U' L ({ frames := 1, cells := 1, slots := 10, locals := 14 } : Room).cells ({ frames := 1, cells := 1, slots := 10, locals := 14 } : Room).slots) := by
  refine MetFree.of_bodySF (plainFor_of_name pn_1) hisR ?_
  intro p e s m args below meth c s₁ Bd hml0 hP hK
  obtain ⟨rfl, hZ, hh⟩ := hP
  have hx := Bd.exec
  have hby := Bd.bytes
  have hml : c.maxLocals = 4 := hml0
  have hown : s.vm.findClass "java/util/ArrayList" = some m.cls := findClass_of_methodNamed Bd.named
  have X0 : Stand p l e ({ frames := 1, cells := 1, slots := 10, locals := 14 } : Room) s m #[(.ref p0), (.int (1 : Int32))] below meth c s₁ [] 0 0 := Stand.of_body Bd
  have e0 : s₁.heap = h0 := by rw [← hh, Bd.state]; rfl
  have N0 := Fr.nil n0
  have s0 : Steps p.tables e below (s₁.setTop (entryFrame m #[(.ref p0), (.int (1 : Int32))] 4)) (s₁.setTop (mkF m 0 #[.val (.ref p0), .val (.int (1 : Int32)), .unset, .unset] [])) := castTop (ef_rmalg1 m p0) (Steps.refl _)
  obtain ⟨A₀, hA₀⟩ : ∃ z, z = (s₁.setTop (entryFrame m #[(.ref p0), (.int (1 : Int32))] 4)) := ⟨_, rfl⟩
  rw [← hA₀] at s0
  obtain ⟨T1, X1, e1, st1⟩ := getF X0 hx hZ hown (host := "") (Or.inl (hw _ (List.mem_of_getElem? (i := 25) rfl))) Via.refl e0 F1_ (g := (mkF m 1 #[.val (.ref p0), .val (.int (1 : Int32)), .unset, .unset] [(.ref p0)])) rfl rfl (hb hby d12_1)
  obtain ⟨cla2, Ara2, qa2, Sa2, Za2, Ha2, Ga2⟩ := id (F6_.ext O0.2)
  obtain ⟨T3, X3, e3, st3⟩ := getF X1 hx hZ hown (host := "") (Or.inl (hw _ (List.mem_of_getElem? (i := 25) rfl))) Via.refl e1 F1_ (g := (mkF m 11 #[.val (.ref p0), .val (.int (1 : Int32)), .val (.int (0 : Int32)), .unset] [(.ref p0)])) rfl rfl (hb hby d12_11)
  obtain ⟨T4, X4, e4, st4⟩ := getS2 X3 hx hZ hown (host := "") (Or.inl (hw _ (List.mem_of_getElem? (i := 24) rfl))) Via.refl e3 (F5_.ext O0.2) (g := (mkF m 14 #[.val (.ref p0), .val (.int (1 : Int32)), .val (.int (0 : Int32)), .unset] [(.ref dc)])) rfl (hb hby d12_14)
  obtain ⟨T5, L5, X5, e5, N5, st5⟩ := own_callP X4 hx hZ hown (wk94 hw) (wk95 hw) (wk96 hw) (wk97 hw) (by decide) (rmalmx l Z a0 hw []  h0 n0 O0 ) e4 N0 (W := 1) (by decide) (by decide) (by decide) (by decide) (g := (mkF m 49 #[.val (.ref p0), .val (.int (1 : Int32)), .val (.int (0 : Int32)), .unset] [(.int (1 : Int32)), (.int (10 : Int32)), (.ref p0)])) rfl (by rw [hml]; rfl) (argsL := [(.int (10 : Int32)), (.int (1 : Int32))]) (rest := [(.ref p0)]) (lenOf pd_rmalg1_0 rfl) rfl (by show 2 * 0 + _ ≤ _; exact Nat.le_of_eq rfl) (hb hby d12_49)
  obtain ⟨T6, h6, k6, X6, e6, E6, A6, Ov6, st6⟩ := newR X5 hx hZ hown (hw _ (List.mem_of_getElem? (i := 98) rfl)) (hw _ (List.mem_of_getElem? (i := 99) rfl)) e5 (g := (mkF m 52 #[.val (.ref p0), .val (.int (1 : Int32)), .val (.int (0 : Int32)), .unset] [(.int (10 : Int32)), (.ref p0)])) rfl (hb hby d12_52) rfl (by decide) (cap := 10) (by decide) (by decide) (by decide) (by decide)
  obtain ⟨b6, g6⟩ : ∃ z, z = h0.size := ⟨_, rfl⟩
  rw [← g6] at A6 st6
  have ne_p0_b6 : p0 ≠ b6 := Nat.ne_of_lt (Nat.lt_of_lt_of_le F0_.lt (Nat.le_of_eq g6.symm))
  have g_b6 : n0 ≤ b6 := Nat.le_trans (Nat.le_of_eq O0.1.symm) (Nat.le_trans O0.2.1 (Nat.le_of_eq g6.symm))
  have sz_b6 : h0.size ≤ b6 := Nat.le_trans (Keep.refl h0 [p0]).1 (Nat.le_of_eq g6.symm)
  have O6 := O0.ext E6
  have K6 : Keep h0 h6 [p0] := (Keep.refl h0 [p0]).ext E6
  have V6 : Arv Z h6 b6 k6 (.object "java/lang/Object") (10 : Int32) [.null, .null, .null, .null, .null, .null, .null, .null, .null, .null] .null := (Arv.new A6 (by decide)).pad (pad_rep [] .null 10)
  have c7 : Exa Z h6 p0 "java/util/ArrayList" := (F0_.ext E6)
  have c8 : Fld Z h6 p0 "java/util/ArrayList" "elementData" "[Ljava/lang/Object;" (.ref dc) := (F1_.ext E6)
  obtain ⟨T9, h9, X9, e9, W9, st9⟩ := putF X6 hx hZ hown (host := "") (Or.inl (hw _ (List.mem_of_getElem? (i := 25) rfl))) Via.refl e6 c8 c7 (Or.inl (hw _ (List.mem_of_getElem? (i := 26) rfl))) (hw _ (List.mem_of_getElem? (i := 2) rfl)) (ty := (.array (.object "java/lang/Object"))) (by decide) rfl rfl (g := (mkF m 56 #[.val (.ref p0), .val (.int (1 : Int32)), .val (.int (0 : Int32)), .unset] [(.ref b6), (.ref p0), (.ref b6)])) rfl rfl (hb hby d12_56)
  have Fw9 := c8.same W9
  have O9 := O6.wr W9 F4_
  have K9 : Keep h0 h9 [p0] := K6.wr W9 (Or.inl (List.mem_of_getElem? (i := 0) rfl))
  have N9 := Fr.snoc X9 N5 F4_
  have s10 : Steps p.tables e below A₀ (T9.setTop (mkF m 59 #[.val (.ref p0), .val (.int (1 : Int32)), .val (.int (0 : Int32)), .unset] [(.ref b6)])) := by
    refine s0.trans ?_
    refine XS.aloadN X0.here hx rfl (hb hby d12_0) rfl rfl ?_
    refine st1 _ ?_
    refine X1.arraylength hx (by rw [e1]; exact Ara2.1) (State.isArrayOf_alike hZ.alike Ara2.2.1) (g := (mkF m 4 #[.val (.ref p0), .val (.int (1 : Int32)), .unset, .unset] [(.ref dc)])) rfl rfl (hb hby d12_4) _ ?_
    rw [len_of Sa2 Za2]
    show Steps p.tables e below (T1.setTop (mkF m 5 #[.val (.ref p0), .val (.int (1 : Int32)), .unset, .unset] [(.int (0 : Int32))])) _
    refine XS.istoreN X1.here hx rfl (hb hby d12_5) rfl (l' := #[.val (.ref p0), .val (.int (1 : Int32)), .val (.int (0 : Int32)), .unset]) rfl ?_
    refine XS.iloadN X1.here hx rfl (hb hby d12_6) rfl ?_
    refine XS.ifNo X1.here hx rfl (hb hby d12_7) rfl ((if0 _ _).trans (flt (by decide)).2.2.1) ?_
    refine XS.aloadN X1.here hx rfl (hb hby d12_10) rfl rfl ?_
    refine st3 _ ?_
    refine st4 _ ?_
    refine Jvm.RoadKit.acmp (g := (mkF m 17 #[.val (.ref p0), .val (.int (1 : Int32)), .val (.int (0 : Int32)), .unset] [(.ref dc), (.ref dc)])) X4 hx rfl rfl rfl (pc0 := 17) (pc' := 45) (same := true) rfl (hb hby d12_17) rfl (decide_eq_true (congrArg Value.ref rfl)) (by decide) (by decide) ?_
    refine XS.aloadN X4.here hx rfl (hb hby d12_45) rfl rfl ?_
    refine XS.bipush X4.here hx rfl (hb hby d12_46) ?_
    refine XS.iloadN X4.here hx rfl (hb hby d12_48) rfl ?_
    show Steps p.tables e below (T4.setTop (mkF m 49 #[.val (.ref p0), .val (.int (1 : Int32)), .val (.int (0 : Int32)), .unset] [(.int (1 : Int32)), (.int (10 : Int32)), (.ref p0)])) _
    refine st5 _ ?_
    refine st6 _ ?_
    refine XS.dupX1 X6.here hx rfl (hb hby d12_55) rfl rfl rfl ?_
    refine st9 _ ?_
    exact Steps.refl _
  subst hA₀
  have c11 : Exa Z h9 p0 "java/util/ArrayList" := (c7.wr W9)
  have c12 : Fld Z h9 p0 "java/util/ArrayList" "size" "I" (.int (0 : Int32)) := ((F2_.ext E6).other W9 (Or.inr (slot_ne (Or.inl (hw _ (List.mem_of_getElem? (i := 41) rfl))) (Or.inl (hw _ (List.mem_of_getElem? (i := 26) rfl))) (by decide) (t := .int) (t' := (.array (.object "java/lang/Object"))) (by decide) (by decide))))
  have c13 : Fld Z h9 p0 "java/util/AbstractList" "modCount" "I" (.int mc) := ((F3_.ext E6).other W9 (Or.inr (slot_ne (Or.inl (hw _ (List.mem_of_getElem? (i := 23) rfl))) (Or.inl (hw _ (List.mem_of_getElem? (i := 26) rfl))) (by decide) (t := .int) (t' := (.array (.object "java/lang/Object"))) (by decide) (by decide))))
  have c14 : Arv Z h9 b6 k6 (.object "java/lang/Object") (10 : Int32) [.null, .null, .null, .null, .null, .null, .null, .null, .null, .null] .null := (V6.other W9 (Ne.symm ne_p0_b6))
  obtain ⟨fs, hr, hrun, hended, hW, hsame⟩ := X9.leave (v := some (.ref b6)) (fun h => by rw [Bd.returns] at h; cases h)
  refine ⟨_, _, s10.trans ?_, hrun, hended, _, _, rfl, ?_, ⟨_, rfl⟩, hW, hsame.mono (by decide) (by decide)⟩
  · show Steps p.tables e below (T9.setTop (mkF m 59 #[.val (.ref p0), .val (.int (1 : Int32)), .val (.int (0 : Int32)), .unset] [(.ref b6)])) _
    jvm_step X9.here [X9.here.top, hx, (hb hby d12_59), X9.method', Bd.returns, Value.isRef, FieldType.isReference]
    first | (intro acts; rw [hr _ acts rfl rfl rfl]) | rw [hr _ _ rfl rfl rfl]
    exact Steps.refl _
  · show Qalg1 Z p0 dc kd mc h0 n0 _ T9.heap _
    rw [e9]
    exact ⟨b6, k6, rfl, N9, K9, c11, Fw9, c12, c13, c14, Ov6, sz_b6⟩
theorem d11_0 : decode jdk_38_method_7_code 0 = .ok (.aload_n 0, 1) := by decide +kernel
theorem d11_1 : decode jdk_38_method_7_code 1 = .ok (.aload_n 0, 1) := by decide +kernel
theorem d11_2 : decode jdk_38_method_7_code 2 = .ok (.getfield 48, 3) := by decide +kernel
theorem d11_5 : decode jdk_38_method_7_code 5 = .ok (.iconst 1, 1) := by decide +kernel
theorem d11_6 : decode jdk_38_method_7_code 6 = .ok (.iadd, 1) := by decide +kernel
theorem d11_7 : decode jdk_38_method_7_code 7 = .ok (.invokevirtual 69, 3) := by decide +kernel
theorem d11_10 : decode jdk_38_method_7_code 10 = .ok (.areturn, 1) := by decide +kernel
theorem pd_rmalg0_0 : parseMethodDescriptor "(I)[Ljava/lang/Object;" = some ⟨[.int], some (.array (.object "java/lang/Object"))⟩ := by decide +kernel
theorem ef_rmalg0 (m : MethodId) (p0 : Addr) : entryFrame m #[(.ref p0)] 1 = mkF m 0 #[.val (.ref p0)] [] := by first | (simp [entryFrame, mkF, argsToLocals, Value.category]; done) | rfl
def Qalg0 (Z : State) (p0 : Addr) (dc : Addr) (kd : ClassId) (mc : Int32) (h0 : Heap) (n0 : Nat) (v : Option Value) (h : Heap) (L : List Loc) : Prop := ∃ ar : Addr, ∃ ka : ClassId, v = some (.ref ar) ∧ Fr n0 L ∧ Keep h0 h [p0] ∧ (Exa Z h p0 "java/util/ArrayList") ∧ (Fld Z h p0 "java/util/ArrayList" "elementData" "[Ljava/lang/Object;" (.ref ar)) ∧ (Fld Z h p0 "java/util/ArrayList" "size" "I" (.int (0 : Int32))) ∧ (Fld Z h p0 "java/util/AbstractList" "modCount" "I" (.int mc)) ∧ (Arv Z h ar ka (.object "java/lang/Object") (10 : Int32) [.null, .null, .null, .null, .null, .null, .null, .null, .null, .null] .null) ∧ (Ovr Z ka "java/lang/Object") ∧ (h0.size ≤ ar)
set_option maxRecDepth 65536 in
set_option maxHeartbeats 40000000 in
theorem rmalg0 (l : Launch) (Z : State) (a0 : Array Value) (hw : ∀ d ∈ tables_1, d.before a0 Z = true) (ws : List Jvm.Cond) (p0 : Addr) (dc : Addr) (kd : ClassId) (mc : Int32) (h0 : Heap) (n0 : Nat) (O0 : Old Z n0 h0) (F0_ : Exa Z h0 p0 "java/util/ArrayList") (F1_ : Fld Z h0 p0 "java/util/ArrayList" "elementData" "[Ljava/lang/Object;" (.ref dc)) (F2_ : Fld Z h0 p0 "java/util/ArrayList" "size" "I" (.int (0 : Int32))) (F3_ : Fld Z h0 p0 "java/util/AbstractList" "modCount" "I" (.int mc)) (F4_ : n0 ≤ p0) (F5_ : Sta Z Z.heap "java/util/ArrayList" "DEFAULTCAPACITY_EMPTY_ELEMENTDATA" "[Ljava/lang/Object;" (.ref dc)) (F6_ : Arv Z Z.heap dc kd (.object "java/lang/Object") (0 : Int32) [] .null) :
    MetFree l nm5 (head1 (Jvm.Cond.code nm5 jdk_38_method_7_code 1 (some (.array (.object "java/lang/Object"))) :: ws) ({ frames := 2, cells := 1, slots := 10, locals := 29 } : Room)) (fun a U => a = #[(.ref p0)] ∧ Z.Warmed39 U.vm ∧ U.heap = h0) (fun _ _ _ _ _ => True) (fun _ U o U' => ∃ v L, o = .returned v ∧ Qalg0 Z p0 dc kd mc h0 n0 v U'.heap L ∧ FrameEnd U o U' L ({ frames := 2, cells := 1, slots := 10, locals := 29 } : Room).cells ({ frames := 2, cells := 1, slots := 10, locals := 29 } : Room).slots) := by
  refine MetFree.of_bodySF (plainFor_of_name pn_1) hisR ?_
  intro p e s m args below meth c s₁ Bd hml0 hP hK
  obtain ⟨rfl, hZ, hh⟩ := hP
  have hx := Bd.exec
  have hby := Bd.bytes
  have hml : c.maxLocals = 1 := hml0
  have hown : s.vm.findClass "java/util/ArrayList" = some m.cls := findClass_of_methodNamed Bd.named
  have X0 : Stand p l e ({ frames := 2, cells := 1, slots := 10, locals := 29 } : Room) s m #[(.ref p0)] below meth c s₁ [] 0 0 := Stand.of_body Bd
  have e0 : s₁.heap = h0 := by rw [← hh, Bd.state]; rfl
  have N0 := Fr.nil n0
  have s0 : Steps p.tables e below (s₁.setTop (entryFrame m #[(.ref p0)] 1)) (s₁.setTop (mkF m 0 #[.val (.ref p0)] [])) := castTop (ef_rmalg0 m p0) (Steps.refl _)
  obtain ⟨A₀, hA₀⟩ : ∃ z, z = (s₁.setTop (entryFrame m #[(.ref p0)] 1)) := ⟨_, rfl⟩
  rw [← hA₀] at s0
  obtain ⟨T1, X1, e1, st1⟩ := getF X0 hx hZ hown (host := "") (Or.inl (hw _ (List.mem_of_getElem? (i := 40) rfl))) Via.refl e0 F2_ (g := (mkF m 2 #[.val (.ref p0)] [(.ref p0), (.ref p0)])) rfl rfl (hb hby d11_2)
  obtain ⟨cq2, q2, q2'⟩ := F0_.cell
  obtain ⟨_, _, ⟨T2, L2, k2, n2⟩, -, X2, ⟨Lc2, hQ2, l2, y2, z2⟩, st2⟩ := X1.privateBack hx (y := (⟨"java/util/ArrayList", "grow", "(I)[Ljava/lang/Object;"⟩ : MethodName)) hown (mvT hZ (hw _ (List.mem_of_getElem? (i := 89) rfl))) (mvT hZ (hw _ (List.mem_of_getElem? (i := 90) rfl))) (mvT hZ (hw _ (List.mem_of_getElem? (i := 92) rfl))) (Cond.privateMethod_at (mvP hZ (hw _ (List.mem_of_getElem? (i := 91) rfl)) (args := #[]))) (mvT hZ (hw _ (List.mem_of_getElem? (i := 93) rfl))) (by decide) (backOf (W := 0) (rmalg1 l Z a0 hw [] p0 dc kd mc h0 n0 O0 F0_ F1_ F2_ F3_ F4_ F5_ F6_) hZ (hw _ (List.mem_of_getElem? (i := 93) rfl)) (hw _ (List.mem_of_getElem? (i := 3) rfl)) (by decide) (by decide)) (g := (mkF m 7 #[.val (.ref p0)] [(.int (1 : Int32)), (.ref p0)])) rfl (by rw [hml]; rfl) (Steps.refl _) (a := p0) (by rw [e1]; exact q2) q2' (argsL := [(.int (1 : Int32))]) (rest := []) (lenOf pd_rmalg0_0 rfl) rfl (by show 2 * 0 + _ ≤ _; exact Nat.le_of_eq rfl) (hb hby d11_7) (fun _ _ => ⟨rfl, e1, (by decide : 0 + 1 ≤ _), (by decide : 0 + 10 ≤ _)⟩)
  dsimp only [Pt.U, Pt.locs, Pt.cells, Pt.slots] at X2 l2 y2 z2 st2 hQ2
  subst l2 y2 z2
  obtain ⟨u3, u4, rfl, Nq2, Kc2, f2_0, f2_1, f2_2, f2_3, f2_4, f2_5, f2_6⟩ := hQ2
  have N2 := Fr.app N0 Nq2
  have ne_p0_u3 : p0 ≠ u3 := Nat.ne_of_lt (Nat.lt_of_lt_of_le F0_.lt f2_6)
  have g_u3 : n0 ≤ u3 := Nat.le_trans (Nat.le_of_eq O0.1.symm) (Nat.le_trans O0.2.1 f2_6)
  have sz_u3 : h0.size ≤ u3 := Nat.le_trans (Keep.refl h0 [p0]).1 f2_6
  have K2 : Keep h0 T2.heap [p0] := (Keep.refl h0 [p0]).trans Kc2 (allS (Or.inl (List.mem_of_getElem? (i := 0) rfl)) all0)
  have O2 := O0.keep Kc2 (allS F4_ all0)
  have s5 : Steps p.tables e below A₀ (T2.setTop (mkF m 10 #[.val (.ref p0)] [(.ref u3)])) := by
    refine s0.trans ?_
    refine XS.aloadN X0.here hx rfl (hb hby d11_0) rfl rfl ?_
    refine XS.aloadN X0.here hx rfl (hb hby d11_1) rfl rfl ?_
    refine st1 _ ?_
    refine XS.iconst X1.here hx rfl (hb hby d11_5) ?_
    refine XS.iadd X1.here hx rfl (hb hby d11_6) rfl ?_
    refine st2.trans ?_
    exact Steps.refl _
  subst hA₀
  obtain ⟨fs, hr, hrun, hended, hW, hsame⟩ := X2.leave (v := some (.ref u3)) (fun h => by rw [Bd.returns] at h; cases h)
  refine ⟨_, _, s5.trans ?_, hrun, hended, _, _, rfl, ?_, ⟨_, rfl⟩, hW, hsame.mono (by decide) (by decide)⟩
  · show Steps p.tables e below (T2.setTop (mkF m 10 #[.val (.ref p0)] [(.ref u3)])) _
    jvm_step X2.here [X2.here.top, hx, (hb hby d11_10), X2.method', Bd.returns, Value.isRef, FieldType.isReference]
    first | (intro acts; rw [hr _ acts rfl rfl rfl]) | rw [hr _ _ rfl rfl rfl]
    exact Steps.refl _
  · show Qalg0 Z p0 dc kd mc h0 n0 _ T2.heap _
    exact ⟨u3, u4, rfl, N2, K2, f2_0, f2_1, f2_2, f2_3, f2_4, f2_5, sz_u3⟩
theorem d10_0 : decode jdk_38_method_24_code 0 = .ok (.iload_n 3, 1) := by decide +kernel
theorem d10_1 : decode jdk_38_method_24_code 1 = .ok (.aload_n 2, 1) := by decide +kernel
theorem d10_2 : decode jdk_38_method_24_code 2 = .ok (.arraylength, 1) := by decide +kernel
theorem d10_3 : decode jdk_38_method_24_code 3 = .ok (.if_icmp .ne 8, 3) := by decide +kernel
theorem d10_6 : decode jdk_38_method_24_code 6 = .ok (.aload_n 0, 1) := by decide +kernel
theorem d10_7 : decode jdk_38_method_24_code 7 = .ok (.invokevirtual 129, 3) := by decide +kernel
theorem d10_10 : decode jdk_38_method_24_code 10 = .ok (.astore_n 2, 1) := by decide +kernel
theorem d10_11 : decode jdk_38_method_24_code 11 = .ok (.aload_n 2, 1) := by decide +kernel
theorem d10_12 : decode jdk_38_method_24_code 12 = .ok (.iload_n 3, 1) := by decide +kernel
theorem d10_13 : decode jdk_38_method_24_code 13 = .ok (.aload_n 1, 1) := by decide +kernel
theorem d10_14 : decode jdk_38_method_24_code 14 = .ok (.aastore, 1) := by decide +kernel
theorem d10_15 : decode jdk_38_method_24_code 15 = .ok (.aload_n 0, 1) := by decide +kernel
theorem d10_16 : decode jdk_38_method_24_code 16 = .ok (.iload_n 3, 1) := by decide +kernel
theorem d10_17 : decode jdk_38_method_24_code 17 = .ok (.iconst 1, 1) := by decide +kernel
theorem d10_18 : decode jdk_38_method_24_code 18 = .ok (.iadd, 1) := by decide +kernel
theorem d10_19 : decode jdk_38_method_24_code 19 = .ok (.putfield 48, 3) := by decide +kernel
theorem d10_22 : decode jdk_38_method_24_code 22 = .ok (.return_, 1) := by decide +kernel
theorem pd_rmala3_0_0 : parseMethodDescriptor "()[Ljava/lang/Object;" = some ⟨[], some (.array (.object "java/lang/Object"))⟩ := by decide +kernel
theorem ef_rmala3_0 (m : MethodId) (p0 : Addr) (p1 : Addr) (p2 : Addr) : entryFrame m #[(.ref p0), (.ref p1), (.ref p2), (.int (0 : Int32))] 4 = mkF m 0 #[.val (.ref p0), .val (.ref p1), .val (.ref p2), .val (.int (0 : Int32))] [] := by first | (simp [entryFrame, mkF, argsToLocals, Value.category]; done) | rfl
def Qala3_0 (Z : State) (p0 : Addr) (p1 : Addr) (p2 : Addr) (kd : ClassId) (mc : Int32) (h0 : Heap) (n0 : Nat) (v : Option Value) (h : Heap) (L : List Loc) : Prop := ∃ ar : Addr, ∃ ka : ClassId, v = none ∧ Fr n0 L ∧ Keep h0 h [p0] ∧ (Exa Z h p0 "java/util/ArrayList") ∧ (Fld Z h p0 "java/util/ArrayList" "elementData" "[Ljava/lang/Object;" (.ref ar)) ∧ (Fld Z h p0 "java/util/ArrayList" "size" "I" (.int (1 : Int32))) ∧ (Fld Z h p0 "java/util/AbstractList" "modCount" "I" (.int mc)) ∧ (Arv Z h ar ka (.object "java/lang/Object") (10 : Int32) [(.ref p1), .null, .null, .null, .null, .null, .null, .null, .null, .null] .null) ∧ (Ovr Z ka "java/lang/Object") ∧ (h0.size ≤ ar) ∧ (p0 ≠ ar)
set_option maxRecDepth 65536 in
set_option maxHeartbeats 40000000 in
theorem rmala3_0 (l : Launch) (Z : State) (a0 : Array Value) (hw : ∀ d ∈ tables_1, d.before a0 Z = true) (ws : List Jvm.Cond) (p0 : Addr) (p1 : Addr) (p2 : Addr) (kd : ClassId) (mc : Int32) (h0 : Heap) (n0 : Nat) (O0 : Old Z n0 h0) (F0_ : Exa Z h0 p0 "java/util/ArrayList") (F1_ : Fld Z h0 p0 "java/util/ArrayList" "elementData" "[Ljava/lang/Object;" (.ref p2)) (F2_ : Fld Z h0 p0 "java/util/ArrayList" "size" "I" (.int (0 : Int32))) (F3_ : Fld Z h0 p0 "java/util/AbstractList" "modCount" "I" (.int mc)) (F4_ : n0 ≤ p0) (F5_ : Sta Z Z.heap "java/util/ArrayList" "DEFAULTCAPACITY_EMPTY_ELEMENTDATA" "[Ljava/lang/Object;" (.ref p2)) (F6_ : Arv Z Z.heap p2 kd (.object "java/lang/Object") (0 : Int32) [] .null) (F7_ : Exa Z h0 p1 "com/example/libprox/libprox/RankingModel$QueryTerm") :
    MetFree l nm6 (head1 (Jvm.Cond.code nm6 jdk_38_method_24_code 4 none :: ws) ({ frames := 3, cells := 1, slots := 10, locals := 41 } : Room)) (fun a U => a = #[(.ref p0), (.ref p1), (.ref p2), (.int (0 : Int32))] ∧ Z.Warmed39 U.vm ∧ U.heap = h0) (fun _ _ _ _ _ => True) (fun _ U o U' => ∃ v L, o = .returned v ∧ Qala3_0 Z p0 p1 p2 kd mc h0 n0 v U'.heap L ∧ FrameEnd U o U' L ({ frames := 3, cells := 1, slots := 10, locals := 41 } : Room).cells ({ frames := 3, cells := 1, slots := 10, locals := 41 } : Room).slots) := by
  refine MetFree.of_bodySF (plainFor_of_name pn_1) hisR ?_
  intro p e s m args below meth c s₁ Bd hml0 hP hK
  obtain ⟨rfl, hZ, hh⟩ := hP
  have hx := Bd.exec
  have hby := Bd.bytes
  have hml : c.maxLocals = 4 := hml0
  have hown : s.vm.findClass "java/util/ArrayList" = some m.cls := findClass_of_methodNamed Bd.named
  have X0 : Stand p l e ({ frames := 3, cells := 1, slots := 10, locals := 41 } : Room) s m #[(.ref p0), (.ref p1), (.ref p2), (.int (0 : Int32))] below meth c s₁ [] 0 0 := Stand.of_body Bd
  have e0 : s₁.heap = h0 := by rw [← hh, Bd.state]; rfl
  have N0 := Fr.nil n0
  have s0 : Steps p.tables e below (s₁.setTop (entryFrame m #[(.ref p0), (.ref p1), (.ref p2), (.int (0 : Int32))] 4)) (s₁.setTop (mkF m 0 #[.val (.ref p0), .val (.ref p1), .val (.ref p2), .val (.int (0 : Int32))] [])) := castTop (ef_rmala3_0 m p0 p1 p2) (Steps.refl _)
  obtain ⟨A₀, hA₀⟩ : ∃ z, z = (s₁.setTop (entryFrame m #[(.ref p0), (.ref p1), (.ref p2), (.int (0 : Int32))] 4)) := ⟨_, rfl⟩
  rw [← hA₀] at s0
  obtain ⟨cla1, Ara1, qa1, Sa1, Za1, Ha1, Ga1⟩ := id (F6_.ext O0.2)
  obtain ⟨cq2, q2, q2'⟩ := F0_.cell
  obtain ⟨_, _, ⟨T2, L2, k2, n2⟩, -, X2, ⟨Lc2, hQ2, l2, y2, z2⟩, st2⟩ := X0.privateBack hx (y := (⟨"java/util/ArrayList", "grow", "()[Ljava/lang/Object;"⟩ : MethodName)) hown (mvT hZ (hw _ (List.mem_of_getElem? (i := 84) rfl))) (mvT hZ (hw _ (List.mem_of_getElem? (i := 85) rfl))) (mvT hZ (hw _ (List.mem_of_getElem? (i := 87) rfl))) (Cond.privateMethod_at (mvP hZ (hw _ (List.mem_of_getElem? (i := 86) rfl)) (args := #[]))) (mvT hZ (hw _ (List.mem_of_getElem? (i := 88) rfl))) (by decide) (backOf (W := 0) (rmalg0 l Z a0 hw [] p0 p2 kd mc h0 n0 O0 F0_ F1_ F2_ F3_ F4_ F5_ F6_) hZ (hw _ (List.mem_of_getElem? (i := 88) rfl)) (hw _ (List.mem_of_getElem? (i := 3) rfl)) (by decide) (by decide)) (g := (mkF m 7 #[.val (.ref p0), .val (.ref p1), .val (.ref p2), .val (.int (0 : Int32))] [(.ref p0)])) rfl (by rw [hml]; rfl) (Steps.refl _) (a := p0) (by rw [e0]; exact q2) q2' (argsL := []) (rest := []) (lenOf pd_rmala3_0_0 rfl) rfl (by show 2 * 0 + _ ≤ _; exact Nat.le_of_eq rfl) (hb hby d10_7) (fun _ _ => ⟨rfl, e0, (by decide : 0 + 1 ≤ _), (by decide : 0 + 10 ≤ _)⟩)
  dsimp only [Pt.U, Pt.locs, Pt.cells, Pt.slots] at X2 l2 y2 z2 st2 hQ2
  subst l2 y2 z2
  obtain ⟨u3, u4, rfl, Nq2, Kc2, f2_0, f2_1, f2_2, f2_3, f2_4, f2_5, f2_6⟩ := hQ2
  have N2 := Fr.app N0 Nq2
  have ne_p0_u3 : p0 ≠ u3 := Nat.ne_of_lt (Nat.lt_of_lt_of_le F0_.lt f2_6)
  have ne_p1_u3 : p1 ≠ u3 := Nat.ne_of_lt (Nat.lt_of_lt_of_le F7_.lt f2_6)
  have g_u3 : n0 ≤ u3 := Nat.le_trans (Nat.le_of_eq O0.1.symm) (Nat.le_trans O0.2.1 f2_6)
  have sz_u3 : h0.size ≤ u3 := Nat.le_trans (Keep.refl h0 [p0]).1 f2_6
  have K2 : Keep h0 T2.heap [p0] := (Keep.refl h0 [p0]).trans Kc2 (allS (Or.inl (List.mem_of_getElem? (i := 0) rfl)) all0)
  have O2 := O0.keep Kc2 (allS F4_ all0)
  obtain ⟨cla5, Ara5, qa5, Sa5, Za5, Ha5, Ga5⟩ := id f2_4
  have hin6 : ¬ ((0 : Int32) < 0 ∨ cla5.slots.size ≤ ((0 : Int32)).toNatClampNeg) := inb_of Sa5 ⟨by decide, by decide⟩
  have c7 : Exa Z T2.heap p1 "com/example/libprox/libprox/RankingModel$QueryTerm" := (F7_.keep Kc2)
  obtain ⟨T8, h8, X8, e8, W8, st8⟩ := stR X2 hx hZ (rfl : T2.heap = T2.heap) Ara5 (j := (0 : Int32)) hin6 rfl (Sto.ofV Ara5 qa5 f2_5 (Ins.of_exa c7 (hw _ (List.mem_of_getElem? (i := 100) rfl)))) (g := (mkF m 14 #[.val (.ref p0), .val (.ref p1), .val (.ref u3), .val (.int (0 : Int32))] [(.ref p1), (.int (0 : Int32)), (.ref u3)])) rfl rfl (hb hby d10_14)
  have O8 := O2.wr W8 g_u3
  have K8 : Keep h0 h8 [p0] := K2.wr W8 (Or.inr sz_u3)
  have N8 := Fr.snoc X8 N2 g_u3
  have V8 : Arv Z h8 u3 u4 (.object "java/lang/Object") (10 : Int32) [(.ref p1), .null, .null, .null, .null, .null, .null, .null, .null, .null] .null := Arv.set Ara5 qa5 Sa5 Za5 Ha5 Ga5 rfl W8 0 rfl (Nat.le_of_ble_eq_true rfl)
  have c9 : Exa Z h8 p0 "java/util/ArrayList" := (f2_0.wr W8)
  have c10 : Fld Z h8 p0 "java/util/ArrayList" "size" "I" (.int (0 : Int32)) := (f2_2.other W8 (Or.inl ne_p0_u3))
  obtain ⟨T11, h11, X11, e11, W11, st11⟩ := putF X8 hx hZ hown (host := "") (Or.inl (hw _ (List.mem_of_getElem? (i := 40) rfl))) Via.refl e8 c10 c9 (Or.inl (hw _ (List.mem_of_getElem? (i := 41) rfl))) (hw _ (List.mem_of_getElem? (i := 2) rfl)) (ty := .int) (by decide) rfl rfl (g := (mkF m 19 #[.val (.ref p0), .val (.ref p1), .val (.ref u3), .val (.int (0 : Int32))] [(.int (1 : Int32)), (.ref p0)])) rfl rfl (hb hby d10_19)
  have Fw11 := c10.same W11
  have O11 := O8.wr W11 F4_
  have K11 : Keep h0 h11 [p0] := K8.wr W11 (Or.inl (List.mem_of_getElem? (i := 0) rfl))
  have N11 := Fr.snoc X11 N8 F4_
  have s12 : Steps p.tables e below A₀ (T11.setTop (mkF m 22 #[.val (.ref p0), .val (.ref p1), .val (.ref u3), .val (.int (0 : Int32))] [])) := by
    refine s0.trans ?_
    refine XS.iloadN X0.here hx rfl (hb hby d10_0) rfl ?_
    refine XS.aloadN X0.here hx rfl (hb hby d10_1) rfl rfl ?_
    refine X0.arraylength hx (by rw [e0]; exact Ara1.1) (State.isArrayOf_alike hZ.alike Ara1.2.1) (g := (mkF m 2 #[.val (.ref p0), .val (.ref p1), .val (.ref p2), .val (.int (0 : Int32))] [(.ref p2), (.int (0 : Int32))])) rfl rfl (hb hby d10_2) _ ?_
    rw [len_of Sa1 Za1]
    show Steps p.tables e below (s₁.setTop (mkF m 3 #[.val (.ref p0), .val (.ref p1), .val (.ref p2), .val (.int (0 : Int32))] [(.int (0 : Int32)), (.int (0 : Int32))])) _
    refine XS.icmpNo X0.here hx rfl (hb hby d10_3) rfl (teq (by decide)).2 ?_
    refine XS.aloadN X0.here hx rfl (hb hby d10_6) rfl rfl ?_
    refine st2.trans ?_
    refine XS.astoreN X2.here hx rfl (hb hby d10_10) rfl rfl (l' := #[.val (.ref p0), .val (.ref p1), .val (.ref u3), .val (.int (0 : Int32))]) rfl ?_
    refine XS.aloadN X2.here hx rfl (hb hby d10_11) rfl rfl ?_
    refine XS.iloadN X2.here hx rfl (hb hby d10_12) rfl ?_
    refine XS.aloadN X2.here hx rfl (hb hby d10_13) rfl rfl ?_
    refine st8 _ ?_
    refine XS.aloadN X8.here hx rfl (hb hby d10_15) rfl rfl ?_
    refine XS.iloadN X8.here hx rfl (hb hby d10_16) rfl ?_
    show Steps p.tables e below (T8.setTop (mkF m 17 #[.val (.ref p0), .val (.ref p1), .val (.ref u3), .val (.int (0 : Int32))] [(.int (0 : Int32)), (.ref p0)])) _
    refine XS.iconst X8.here hx rfl (hb hby d10_17) ?_
    refine XS.iadd X8.here hx rfl (hb hby d10_18) rfl ?_
    refine st11 _ ?_
    exact Steps.refl _
  subst hA₀
  have c13 : Exa Z h11 p0 "java/util/ArrayList" := (c9.wr W11)
  have c14 : Fld Z h11 p0 "java/util/ArrayList" "elementData" "[Ljava/lang/Object;" (.ref u3) := ((f2_1.other W8 (Or.inl ne_p0_u3)).other W11 (Or.inr (slot_ne (Or.inl (hw _ (List.mem_of_getElem? (i := 26) rfl))) (Or.inl (hw _ (List.mem_of_getElem? (i := 41) rfl))) (by decide) (t := (.array (.object "java/lang/Object"))) (t' := .int) (by decide) (by decide))))
  have c15 : Fld Z h11 p0 "java/util/AbstractList" "modCount" "I" (.int mc) := ((f2_3.other W8 (Or.inl ne_p0_u3)).other W11 (Or.inr (slot_ne (Or.inl (hw _ (List.mem_of_getElem? (i := 23) rfl))) (Or.inl (hw _ (List.mem_of_getElem? (i := 41) rfl))) (by decide) (t := .int) (t' := .int) (by decide) (by decide))))
  have c16 : Arv Z h11 u3 u4 (.object "java/lang/Object") (10 : Int32) [(.ref p1), .null, .null, .null, .null, .null, .null, .null, .null, .null] .null := (V8.other W11 (Ne.symm ne_p0_u3))
  obtain ⟨fs, hr, hrun, hended, hW, hsame⟩ := X11.leave (v := none) (fun _ => rfl)
  refine ⟨_, _, s12.trans ?_, hrun, hended, _, _, rfl, ?_, ⟨_, rfl⟩, hW, hsame.mono (by decide) (by decide)⟩
  · show Steps p.tables e below (T11.setTop (mkF m 22 #[.val (.ref p0), .val (.ref p1), .val (.ref u3), .val (.int (0 : Int32))] [])) _
    exact X11.returnOut hx Bd.returns (hb hby d10_22) hr
  · show Qala3_0 Z p0 p1 p2 kd mc h0 n0 _ T11.heap _
    rw [e11]
    exact ⟨u3, u4, rfl, N11, K11, c13, c14, Fw11, c15, c16, f2_5, sz_u3, ne_p0_u3⟩
theorem d9_0 : decode jdk_38_method_25_code 0 = .ok (.aload_n 0, 1) := by decide +kernel
theorem d9_1 : decode jdk_38_method_25_code 1 = .ok (.dup, 1) := by decide +kernel
theorem d9_2 : decode jdk_38_method_25_code 2 = .ok (.getfield 63, 3) := by decide +kernel
theorem d9_5 : decode jdk_38_method_25_code 5 = .ok (.iconst 1, 1) := by decide +kernel
theorem d9_6 : decode jdk_38_method_25_code 6 = .ok (.iadd, 1) := by decide +kernel
theorem d9_7 : decode jdk_38_method_25_code 7 = .ok (.putfield 63, 3) := by decide +kernel
theorem d9_10 : decode jdk_38_method_25_code 10 = .ok (.aload_n 0, 1) := by decide +kernel
theorem d9_11 : decode jdk_38_method_25_code 11 = .ok (.aload_n 1, 1) := by decide +kernel
theorem d9_12 : decode jdk_38_method_25_code 12 = .ok (.aload_n 0, 1) := by decide +kernel
theorem d9_13 : decode jdk_38_method_25_code 13 = .ok (.getfield 9, 3) := by decide +kernel
theorem d9_16 : decode jdk_38_method_25_code 16 = .ok (.aload_n 0, 1) := by decide +kernel
theorem d9_17 : decode jdk_38_method_25_code 17 = .ok (.getfield 48, 3) := by decide +kernel
theorem d9_20 : decode jdk_38_method_25_code 20 = .ok (.invokevirtual 131, 3) := by decide +kernel
theorem d9_23 : decode jdk_38_method_25_code 23 = .ok (.iconst 1, 1) := by decide +kernel
theorem d9_24 : decode jdk_38_method_25_code 24 = .ok (.ireturn, 1) := by decide +kernel
theorem pd_rmala_0_0 : parseMethodDescriptor "(Ljava/lang/Object;[Ljava/lang/Object;I)V" = some ⟨[(.object "java/lang/Object"), (.array (.object "java/lang/Object")), .int], none⟩ := by decide +kernel
theorem ef_rmala_0 (m : MethodId) (p0 : Addr) (p1 : Addr) : entryFrame m #[(.ref p0), (.ref p1)] 2 = mkF m 0 #[.val (.ref p0), .val (.ref p1)] [] := by first | (simp [entryFrame, mkF, argsToLocals, Value.category]; done) | rfl
def Qala_0 (Z : State) (p0 : Addr) (p1 : Addr) (dc : Addr) (kd : ClassId) (mc : Int32) (h0 : Heap) (n0 : Nat) (v : Option Value) (h : Heap) (L : List Loc) : Prop := ∃ ar : Addr, ∃ ka : ClassId, v = some (.int (1 : Int32)) ∧ Fr n0 L ∧ Keep h0 h [p0] ∧ (Exa Z h p0 "java/util/ArrayList") ∧ (Fld Z h p0 "java/util/ArrayList" "elementData" "[Ljava/lang/Object;" (.ref ar)) ∧ (Fld Z h p0 "java/util/ArrayList" "size" "I" (.int (1 : Int32))) ∧ (Fld Z h p0 "java/util/AbstractList" "modCount" "I" (.int (mc + (1 : Int32)))) ∧ (Arv Z h ar ka (.object "java/lang/Object") (10 : Int32) [(.ref p1), .null, .null, .null, .null, .null, .null, .null, .null, .null] .null) ∧ (Ovr Z ka "java/lang/Object") ∧ (h0.size ≤ ar) ∧ (p0 ≠ ar)
set_option maxRecDepth 65536 in
set_option maxHeartbeats 40000000 in
theorem rmala_0 (l : Launch) (Z : State) (a0 : Array Value) (hw : ∀ d ∈ tables_1, d.before a0 Z = true) (ws : List Jvm.Cond) (p0 : Addr) (p1 : Addr) (dc : Addr) (kd : ClassId) (mc : Int32) (h0 : Heap) (n0 : Nat) (O0 : Old Z n0 h0) (F0_ : Exa Z h0 p0 "java/util/ArrayList") (F1_ : Fld Z h0 p0 "java/util/ArrayList" "elementData" "[Ljava/lang/Object;" (.ref dc)) (F2_ : Fld Z h0 p0 "java/util/ArrayList" "size" "I" (.int (0 : Int32))) (F3_ : Fld Z h0 p0 "java/util/AbstractList" "modCount" "I" (.int mc)) (F4_ : n0 ≤ p0) (F5_ : Sta Z Z.heap "java/util/ArrayList" "DEFAULTCAPACITY_EMPTY_ELEMENTDATA" "[Ljava/lang/Object;" (.ref dc)) (F6_ : Arv Z Z.heap dc kd (.object "java/lang/Object") (0 : Int32) [] .null) (F7_ : Exa Z h0 p1 "com/example/libprox/libprox/RankingModel$QueryTerm") :
    MetFree l nm7 (head1 (Jvm.Cond.code nm7 jdk_38_method_25_code 2 (some .boolean) :: ws) ({ frames := 4, cells := 1, slots := 10, locals := 56 } : Room)) (fun a U => a = #[(.ref p0), (.ref p1)] ∧ Z.Warmed39 U.vm ∧ U.heap = h0) (fun _ _ _ _ _ => True) (fun _ U o U' => ∃ v L, o = .returned v ∧ Qala_0 Z p0 p1 dc kd mc h0 n0 v U'.heap L ∧ FrameEnd U o U' L ({ frames := 4, cells := 1, slots := 10, locals := 56 } : Room).cells ({ frames := 4, cells := 1, slots := 10, locals := 56 } : Room).slots) := by
  refine MetFree.of_bodySF (plainFor_of_name pn_1) hisR ?_
  intro p e s m args below meth c s₁ Bd hml0 hP hK
  obtain ⟨rfl, hZ, hh⟩ := hP
  have hx := Bd.exec
  have hby := Bd.bytes
  have hml : c.maxLocals = 2 := hml0
  have hown : s.vm.findClass "java/util/ArrayList" = some m.cls := findClass_of_methodNamed Bd.named
  have X0 : Stand p l e ({ frames := 4, cells := 1, slots := 10, locals := 56 } : Room) s m #[(.ref p0), (.ref p1)] below meth c s₁ [] 0 0 := Stand.of_body Bd
  have e0 : s₁.heap = h0 := by rw [← hh, Bd.state]; rfl
  have N0 := Fr.nil n0
  have s0 : Steps p.tables e below (s₁.setTop (entryFrame m #[(.ref p0), (.ref p1)] 2)) (s₁.setTop (mkF m 0 #[.val (.ref p0), .val (.ref p1)] [])) := castTop (ef_rmala_0 m p0 p1) (Steps.refl _)
  obtain ⟨A₀, hA₀⟩ : ∃ z, z = (s₁.setTop (entryFrame m #[(.ref p0), (.ref p1)] 2)) := ⟨_, rfl⟩
  rw [← hA₀] at s0
  obtain ⟨T1, X1, e1, st1⟩ := getF X0 hx hZ hown (host := "") (Or.inl (hw _ (List.mem_of_getElem? (i := 77) rfl))) (Via.of (hw _ (List.mem_of_getElem? (i := 78) rfl))) e0 F3_ (g := (mkF m 2 #[.val (.ref p0), .val (.ref p1)] [(.ref p0), (.ref p0)])) rfl rfl (hb hby d9_2)
  obtain ⟨T2, h2, X2, e2, W2, st2⟩ := putF X1 hx hZ hown (host := "") (Or.inl (hw _ (List.mem_of_getElem? (i := 77) rfl))) (Via.of (hw _ (List.mem_of_getElem? (i := 78) rfl))) e1 F3_ F0_ (Or.inl (hw _ (List.mem_of_getElem? (i := 23) rfl))) (hw _ (List.mem_of_getElem? (i := 2) rfl)) (ty := .int) (by decide) rfl rfl (g := (mkF m 7 #[.val (.ref p0), .val (.ref p1)] [(.int (mc + (1 : Int32))), (.ref p0)])) rfl rfl (hb hby d9_7)
  have Fw2 := F3_.same W2
  have O2 := O0.wr W2 F4_
  have K2 : Keep h0 h2 [p0] := (Keep.refl h0 [p0]).wr W2 (Or.inl (List.mem_of_getElem? (i := 0) rfl))
  have N2 := Fr.snoc X2 N0 F4_
  have c3 : Fld Z h2 p0 "java/util/ArrayList" "elementData" "[Ljava/lang/Object;" (.ref dc) := (F1_.other W2 (Or.inr (slot_ne (Or.inl (hw _ (List.mem_of_getElem? (i := 26) rfl))) (Or.inl (hw _ (List.mem_of_getElem? (i := 23) rfl))) (by decide) (t := (.array (.object "java/lang/Object"))) (t' := .int) (by decide) (by decide))))
  obtain ⟨T4, X4, e4, st4⟩ := getF X2 hx hZ hown (host := "") (Or.inl (hw _ (List.mem_of_getElem? (i := 25) rfl))) Via.refl e2 c3 (g := (mkF m 13 #[.val (.ref p0), .val (.ref p1)] [(.ref p0), (.ref p1), (.ref p0)])) rfl rfl (hb hby d9_13)
  have c5 : Fld Z h2 p0 "java/util/ArrayList" "size" "I" (.int (0 : Int32)) := (F2_.other W2 (Or.inr (slot_ne (Or.inl (hw _ (List.mem_of_getElem? (i := 41) rfl))) (Or.inl (hw _ (List.mem_of_getElem? (i := 23) rfl))) (by decide) (t := .int) (t' := .int) (by decide) (by decide))))
  obtain ⟨T6, X6, e6, st6⟩ := getF X4 hx hZ hown (host := "") (Or.inl (hw _ (List.mem_of_getElem? (i := 40) rfl))) Via.refl e4 c5 (g := (mkF m 17 #[.val (.ref p0), .val (.ref p1)] [(.ref p0), (.ref dc), (.ref p1), (.ref p0)])) rfl rfl (hb hby d9_17)
  have c7 : Exa Z h2 p0 "java/util/ArrayList" := (F0_.wr W2)
  have c8 : Exa Z h2 p1 "com/example/libprox/libprox/RankingModel$QueryTerm" := (F7_.wr W2)
  obtain ⟨cq9, q9, q9'⟩ := c7.cell
  obtain ⟨_, _, ⟨T9, L9, k9, n9⟩, -, X9, ⟨Lc9, hQ9, l9, y9, z9⟩, st9⟩ := X6.privateBack hx (y := (⟨"java/util/ArrayList", "add", "(Ljava/lang/Object;[Ljava/lang/Object;I)V"⟩ : MethodName)) hown (mvT hZ (hw _ (List.mem_of_getElem? (i := 79) rfl))) (mvT hZ (hw _ (List.mem_of_getElem? (i := 80) rfl))) (mvT hZ (hw _ (List.mem_of_getElem? (i := 82) rfl))) (Cond.privateMethod_at (mvP hZ (hw _ (List.mem_of_getElem? (i := 81) rfl)) (args := #[]))) (mvT hZ (hw _ (List.mem_of_getElem? (i := 83) rfl))) (by decide) (backOf (W := 0) (rmala3_0 l Z a0 hw [] p0 p1 dc kd (mc + (1 : Int32)) h2 n0 O2 c7 c3 c5 Fw2 F4_ F5_ F6_ c8) hZ (hw _ (List.mem_of_getElem? (i := 83) rfl)) (hw _ (List.mem_of_getElem? (i := 3) rfl)) (by decide) (by decide)) (g := (mkF m 20 #[.val (.ref p0), .val (.ref p1)] [(.int (0 : Int32)), (.ref dc), (.ref p1), (.ref p0)])) rfl (by rw [hml]; rfl) (Steps.refl _) (a := p0) (by rw [e6]; exact q9) q9' (argsL := [(.ref p1), (.ref dc), (.int (0 : Int32))]) (rest := []) (lenOf pd_rmala_0_0 rfl) rfl (by show 2 * 0 + _ ≤ _; exact Nat.le_of_eq rfl) (hb hby d9_20) (fun _ _ => ⟨rfl, e6, (by decide : 0 + 1 ≤ _), (by decide : 0 + 10 ≤ _)⟩)
  dsimp only [Pt.U, Pt.locs, Pt.cells, Pt.slots] at X9 l9 y9 z9 st9 hQ9
  subst l9 y9 z9
  obtain ⟨u10, u11, rfl, Nq9, Kc9, f9_0, f9_1, f9_2, f9_3, f9_4, f9_5, f9_6, f9_7⟩ := hQ9
  have N9 := Fr.app N2 Nq9
  have ne_p0_u10 : p0 ≠ u10 := Nat.ne_of_lt (Nat.lt_of_lt_of_le c7.lt f9_6)
  have ne_p1_u10 : p1 ≠ u10 := Nat.ne_of_lt (Nat.lt_of_lt_of_le c8.lt f9_6)
  have g_u10 : n0 ≤ u10 := Nat.le_trans (Nat.le_of_eq O2.1.symm) (Nat.le_trans O2.2.1 f9_6)
  have sz_u10 : h0.size ≤ u10 := Nat.le_trans K2.1 f9_6
  have K9 : Keep h0 T9.heap [p0] := K2.trans Kc9 (allS (Or.inl (List.mem_of_getElem? (i := 0) rfl)) all0)
  have O9 := O2.keep Kc9 (allS F4_ all0)
  have s12 : Steps p.tables e below A₀ (T9.setTop (mkF m 24 #[.val (.ref p0), .val (.ref p1)] [(.int (1 : Int32))])) := by
    refine s0.trans ?_
    refine XS.aloadN X0.here hx rfl (hb hby d9_0) rfl rfl ?_
    refine XS.dup X0.here hx rfl (hb hby d9_1) rfl rfl ?_
    refine st1 _ ?_
    refine XS.iconst X1.here hx rfl (hb hby d9_5) ?_
    refine XS.iadd X1.here hx rfl (hb hby d9_6) rfl ?_
    refine st2 _ ?_
    refine XS.aloadN X2.here hx rfl (hb hby d9_10) rfl rfl ?_
    refine XS.aloadN X2.here hx rfl (hb hby d9_11) rfl rfl ?_
    show Steps p.tables e below (T2.setTop (mkF m 12 #[.val (.ref p0), .val (.ref p1)] [(.ref p1), (.ref p0)])) _
    refine XS.aloadN X2.here hx rfl (hb hby d9_12) rfl rfl ?_
    refine st4 _ ?_
    refine XS.aloadN X4.here hx rfl (hb hby d9_16) rfl rfl ?_
    refine st6 _ ?_
    refine st9.trans ?_
    refine XS.iconst X9.here hx rfl (hb hby d9_23) ?_
    exact Steps.refl _
  subst hA₀
  obtain ⟨fs, hr, hrun, hended, hW, hsame⟩ := X9.leave (v := some (.int (1 : Int32))) (fun h => by rw [Bd.returns] at h; cases h)
  refine ⟨_, _, s12.trans ?_, hrun, hended, _, _, rfl, ?_, ⟨_, rfl⟩, hW, hsame.mono (by decide) (by decide)⟩
  · show Steps p.tables e below (T9.setTop (mkF m 24 #[.val (.ref p0), .val (.ref p1)] [(.int (1 : Int32))])) _
    exact retN X9 hx (t := .boolean) Bd.returns (by simp) (hb hby d9_24) hr
  · show Qala_0 Z p0 p1 dc kd mc h0 n0 _ T9.heap _
    exact ⟨u10, u11, rfl, N9, K9, f9_0, f9_1, f9_2, f9_3, f9_4, f9_5, sz_u10, f9_7⟩
theorem ef_rmala3_1 (m : MethodId) (p0 : Addr) (p1 : Addr) (p2 : Addr) : entryFrame m #[(.ref p0), (.ref p1), (.ref p2), (.int (1 : Int32))] 4 = mkF m 0 #[.val (.ref p0), .val (.ref p1), .val (.ref p2), .val (.int (1 : Int32))] [] := by first | (simp [entryFrame, mkF, argsToLocals, Value.category]; done) | rfl
def Qala3_1 (Z : State) (p0 : Addr) (p1 : Addr) (p2 : Addr) (x0 : Addr) (ka : ClassId) (mc : Int32) (h0 : Heap) (n0 : Nat) (v : Option Value) (h : Heap) (L : List Loc) : Prop := v = none ∧ Fr n0 L ∧ Keep h0 h [p0, p2] ∧ (Exa Z h p0 "java/util/ArrayList") ∧ (Fld Z h p0 "java/util/ArrayList" "elementData" "[Ljava/lang/Object;" (.ref p2)) ∧ (Fld Z h p0 "java/util/ArrayList" "size" "I" (.int (2 : Int32))) ∧ (Fld Z h p0 "java/util/AbstractList" "modCount" "I" (.int mc)) ∧ (Arv Z h p2 ka (.object "java/lang/Object") (10 : Int32) [(.ref x0), (.ref p1), .null, .null, .null, .null, .null, .null, .null, .null] .null)
set_option maxRecDepth 65536 in
set_option maxHeartbeats 40000000 in
theorem rmala3_1 (l : Launch) (Z : State) (a0 : Array Value) (hw : ∀ d ∈ tables_1, d.before a0 Z = true) (ws : List Jvm.Cond) (p0 : Addr) (p1 : Addr) (p2 : Addr) (x0 : Addr) (ka : ClassId) (mc : Int32) (h0 : Heap) (n0 : Nat) (O0 : Old Z n0 h0) (F0_ : Exa Z h0 p0 "java/util/ArrayList") (F1_ : Fld Z h0 p0 "java/util/ArrayList" "elementData" "[Ljava/lang/Object;" (.ref p2)) (F2_ : Fld Z h0 p0 "java/util/ArrayList" "size" "I" (.int (1 : Int32))) (F3_ : Fld Z h0 p0 "java/util/AbstractList" "modCount" "I" (.int mc)) (F4_ : Arv Z h0 p2 ka (.object "java/lang/Object") (10 : Int32) [(.ref x0), .null, .null, .null, .null, .null, .null, .null, .null, .null] .null) (F5_ : Ovr Z ka "java/lang/Object") (F6_ : n0 ≤ p0) (F7_ : n0 ≤ p2) (F8_ : p0 ≠ p2) (F9_ : Exa Z h0 p1 "com/example/libprox/libprox/RankingModel$QueryTerm") :
    MetFree l nm6 (head1 (Jvm.Cond.code nm6 jdk_38_method_24_code 4 none :: ws) ({ frames := 0, cells := 0, slots := 0, locals := 0 } : Room)) (fun a U => a = #[(.ref p0), (.ref p1), (.ref p2), (.int (1 : Int32))] ∧ Z.Warmed39 U.vm ∧ U.heap = h0) (fun _ _ _ _ _ => True) (fun _ U o U' => ∃ v L, o = .returned v ∧ Qala3_1 Z p0 p1 p2 x0 ka mc h0 n0 v U'.heap L ∧ FrameEnd U o U' L ({ frames := 0, cells := 0, slots := 0, locals := 0 } : Room).cells ({ frames := 0, cells := 0, slots := 0, locals := 0 } : Room).slots) := by
  refine MetFree.of_bodySF (plainFor_of_name pn_1) hisR ?_
  intro p e s m args below meth c s₁ Bd hml0 hP hK
  obtain ⟨rfl, hZ, hh⟩ := hP
  have hx := Bd.exec
  have hby := Bd.bytes
  have hml : c.maxLocals = 4 := hml0
  have hown : s.vm.findClass "java/util/ArrayList" = some m.cls := findClass_of_methodNamed Bd.named
  have X0 : Stand p l e ({ frames := 0, cells := 0, slots := 0, locals := 0 } : Room) s m #[(.ref p0), (.ref p1), (.ref p2), (.int (1 : Int32))] below meth c s₁ [] 0 0 := Stand.of_body Bd
  have e0 : s₁.heap = h0 := by rw [← hh, Bd.state]; rfl
  have N0 := Fr.nil n0
  have s0 : Steps p.tables e below (s₁.setTop (entryFrame m #[(.ref p0), (.ref p1), (.ref p2), (.int (1 : Int32))] 4)) (s₁.setTop (mkF m 0 #[.val (.ref p0), .val (.ref p1), .val (.ref p2), .val (.int (1 : Int32))] [])) := castTop (ef_rmala3_1 m p0 p1 p2) (Steps.refl _)
  obtain ⟨A₀, hA₀⟩ : ∃ z, z = (s₁.setTop (entryFrame m #[(.ref p0), (.ref p1), (.ref p2), (.int (1 : Int32))] 4)) := ⟨_, rfl⟩
  rw [← hA₀] at s0
  obtain ⟨cla1, Ara1, qa1, Sa1, Za1, Ha1, Ga1⟩ := id F4_
  have hin2 : ¬ ((1 : Int32) < 0 ∨ cla1.slots.size ≤ ((1 : Int32)).toNatClampNeg) := inb_of Sa1 ⟨by decide, by decide⟩
  obtain ⟨T3, h3, X3, e3, W3, st3⟩ := stR X0 hx hZ e0 Ara1 (j := (1 : Int32)) hin2 rfl (Sto.ofV Ara1 qa1 F5_ (Ins.of_exa F9_ (hw _ (List.mem_of_getElem? (i := 100) rfl)))) (g := (mkF m 14 #[.val (.ref p0), .val (.ref p1), .val (.ref p2), .val (.int (1 : Int32))] [(.ref p1), (.int (1 : Int32)), (.ref p2)])) rfl rfl (hb hby d10_14)
  have O3 := O0.wr W3 F7_
  have K3 : Keep h0 h3 [p0, p2] := (Keep.refl h0 [p0, p2]).wr W3 (Or.inl (List.mem_of_getElem? (i := 1) rfl))
  have N3 := Fr.snoc X3 N0 F7_
  have V3 : Arv Z h3 p2 ka (.object "java/lang/Object") (10 : Int32) [(.ref x0), (.ref p1), .null, .null, .null, .null, .null, .null, .null, .null] .null := Arv.set Ara1 qa1 Sa1 Za1 Ha1 Ga1 rfl W3 1 rfl (Nat.le_of_ble_eq_true rfl)
  have c4 : Exa Z h3 p0 "java/util/ArrayList" := (F0_.wr W3)
  have c5 : Fld Z h3 p0 "java/util/ArrayList" "size" "I" (.int (1 : Int32)) := (F2_.other W3 (Or.inl F8_))
  obtain ⟨T6, h6, X6, e6, W6, st6⟩ := putF X3 hx hZ hown (host := "") (Or.inl (hw _ (List.mem_of_getElem? (i := 40) rfl))) Via.refl e3 c5 c4 (Or.inl (hw _ (List.mem_of_getElem? (i := 41) rfl))) (hw _ (List.mem_of_getElem? (i := 2) rfl)) (ty := .int) (by decide) rfl rfl (g := (mkF m 19 #[.val (.ref p0), .val (.ref p1), .val (.ref p2), .val (.int (1 : Int32))] [(.int (2 : Int32)), (.ref p0)])) rfl rfl (hb hby d10_19)
  have Fw6 := c5.same W6
  have O6 := O3.wr W6 F6_
  have K6 : Keep h0 h6 [p0, p2] := K3.wr W6 (Or.inl (List.mem_of_getElem? (i := 0) rfl))
  have N6 := Fr.snoc X6 N3 F6_
  have s7 : Steps p.tables e below A₀ (T6.setTop (mkF m 22 #[.val (.ref p0), .val (.ref p1), .val (.ref p2), .val (.int (1 : Int32))] [])) := by
    refine s0.trans ?_
    refine XS.iloadN X0.here hx rfl (hb hby d10_0) rfl ?_
    refine XS.aloadN X0.here hx rfl (hb hby d10_1) rfl rfl ?_
    refine X0.arraylength hx (by rw [e0]; exact Ara1.1) (State.isArrayOf_alike hZ.alike Ara1.2.1) (g := (mkF m 2 #[.val (.ref p0), .val (.ref p1), .val (.ref p2), .val (.int (1 : Int32))] [(.ref p2), (.int (1 : Int32))])) rfl rfl (hb hby d10_2) _ ?_
    rw [len_of Sa1 Za1]
    show Steps p.tables e below (s₁.setTop (mkF m 3 #[.val (.ref p0), .val (.ref p1), .val (.ref p2), .val (.int (1 : Int32))] [(.int (10 : Int32)), (.int (1 : Int32))])) _
    refine XS.icmpYes X0.here hx rfl (pc0 := 3) (pc' := 11) rfl (hb hby d10_3) rfl (feq (by decide)).2 (by decide) (by decide) ?_
    refine XS.aloadN X0.here hx rfl (hb hby d10_11) rfl rfl ?_
    refine XS.iloadN X0.here hx rfl (hb hby d10_12) rfl ?_
    refine XS.aloadN X0.here hx rfl (hb hby d10_13) rfl rfl ?_
    refine st3 _ ?_
    refine XS.aloadN X3.here hx rfl (hb hby d10_15) rfl rfl ?_
    refine XS.iloadN X3.here hx rfl (hb hby d10_16) rfl ?_
    refine XS.iconst X3.here hx rfl (hb hby d10_17) ?_
    refine XS.iadd X3.here hx rfl (hb hby d10_18) rfl ?_
    refine st6 _ ?_
    exact Steps.refl _
  subst hA₀
  have c8 : Exa Z h6 p0 "java/util/ArrayList" := (c4.wr W6)
  have c9 : Fld Z h6 p0 "java/util/ArrayList" "elementData" "[Ljava/lang/Object;" (.ref p2) := ((F1_.other W3 (Or.inl F8_)).other W6 (Or.inr (slot_ne (Or.inl (hw _ (List.mem_of_getElem? (i := 26) rfl))) (Or.inl (hw _ (List.mem_of_getElem? (i := 41) rfl))) (by decide) (t := (.array (.object "java/lang/Object"))) (t' := .int) (by decide) (by decide))))
  have c10 : Fld Z h6 p0 "java/util/AbstractList" "modCount" "I" (.int mc) := ((F3_.other W3 (Or.inl F8_)).other W6 (Or.inr (slot_ne (Or.inl (hw _ (List.mem_of_getElem? (i := 23) rfl))) (Or.inl (hw _ (List.mem_of_getElem? (i := 41) rfl))) (by decide) (t := .int) (t' := .int) (by decide) (by decide))))
  have c11 : Arv Z h6 p2 ka (.object "java/lang/Object") (10 : Int32) [(.ref x0), (.ref p1), .null, .null, .null, .null, .null, .null, .null, .null] .null := (V3.other W6 (Ne.symm F8_))
  obtain ⟨fs, hr, hrun, hended, hW, hsame⟩ := X6.leave (v := none) (fun _ => rfl)
  refine ⟨_, _, s7.trans ?_, hrun, hended, _, _, rfl, ?_, ⟨_, rfl⟩, hW, hsame.mono (by decide) (by decide)⟩
  · show Steps p.tables e below (T6.setTop (mkF m 22 #[.val (.ref p0), .val (.ref p1), .val (.ref p2), .val (.int (1 : Int32))] [])) _
    exact X6.returnOut hx Bd.returns (hb hby d10_22) hr
  · show Qala3_1 Z p0 p1 p2 x0 ka mc h0 n0 _ T6.heap _
    rw [e6]
    exact ⟨rfl, N6, K6, c8, c9, Fw6, c10, c11⟩
theorem pd_rmala_1_0 : parseMethodDescriptor "(Ljava/lang/Object;[Ljava/lang/Object;I)V" = some ⟨[(.object "java/lang/Object"), (.array (.object "java/lang/Object")), .int], none⟩ := by decide +kernel
theorem ef_rmala_1 (m : MethodId) (p0 : Addr) (p1 : Addr) : entryFrame m #[(.ref p0), (.ref p1)] 2 = mkF m 0 #[.val (.ref p0), .val (.ref p1)] [] := by first | (simp [entryFrame, mkF, argsToLocals, Value.category]; done) | rfl
def Qala_1 (Z : State) (p0 : Addr) (p1 : Addr) (ed : Addr) (x0 : Addr) (ka : ClassId) (mc : Int32) (h0 : Heap) (n0 : Nat) (v : Option Value) (h : Heap) (L : List Loc) : Prop := v = some (.int (1 : Int32)) ∧ Fr n0 L ∧ Keep h0 h [p0, ed] ∧ (Exa Z h p0 "java/util/ArrayList") ∧ (Fld Z h p0 "java/util/ArrayList" "elementData" "[Ljava/lang/Object;" (.ref ed)) ∧ (Fld Z h p0 "java/util/ArrayList" "size" "I" (.int (2 : Int32))) ∧ (Fld Z h p0 "java/util/AbstractList" "modCount" "I" (.int (mc + (1 : Int32)))) ∧ (Arv Z h ed ka (.object "java/lang/Object") (10 : Int32) [(.ref x0), (.ref p1), .null, .null, .null, .null, .null, .null, .null, .null] .null)
set_option maxRecDepth 65536 in
set_option maxHeartbeats 40000000 in
theorem rmala_1 (l : Launch) (Z : State) (a0 : Array Value) (hw : ∀ d ∈ tables_1, d.before a0 Z = true) (ws : List Jvm.Cond) (p0 : Addr) (p1 : Addr) (ed : Addr) (x0 : Addr) (ka : ClassId) (mc : Int32) (h0 : Heap) (n0 : Nat) (O0 : Old Z n0 h0) (F0_ : Exa Z h0 p0 "java/util/ArrayList") (F1_ : Fld Z h0 p0 "java/util/ArrayList" "elementData" "[Ljava/lang/Object;" (.ref ed)) (F2_ : Fld Z h0 p0 "java/util/ArrayList" "size" "I" (.int (1 : Int32))) (F3_ : Fld Z h0 p0 "java/util/AbstractList" "modCount" "I" (.int mc)) (F4_ : Arv Z h0 ed ka (.object "java/lang/Object") (10 : Int32) [(.ref x0), .null, .null, .null, .null, .null, .null, .null, .null, .null] .null) (F5_ : Ovr Z ka "java/lang/Object") (F6_ : n0 ≤ p0) (F7_ : n0 ≤ ed) (F8_ : p0 ≠ ed) (F9_ : Exa Z h0 p1 "com/example/libprox/libprox/RankingModel$QueryTerm") :
    MetFree l nm7 (head1 (Jvm.Cond.code nm7 jdk_38_method_25_code 2 (some .boolean) :: ws) ({ frames := 1, cells := 0, slots := 0, locals := 15 } : Room)) (fun a U => a = #[(.ref p0), (.ref p1)] ∧ Z.Warmed39 U.vm ∧ U.heap = h0) (fun _ _ _ _ _ => True) (fun _ U o U' => ∃ v L, o = .returned v ∧ Qala_1 Z p0 p1 ed x0 ka mc h0 n0 v U'.heap L ∧ FrameEnd U o U' L ({ frames := 1, cells := 0, slots := 0, locals := 15 } : Room).cells ({ frames := 1, cells := 0, slots := 0, locals := 15 } : Room).slots) := by
  refine MetFree.of_bodySF (plainFor_of_name pn_1) hisR ?_
  intro p e s m args below meth c s₁ Bd hml0 hP hK
  obtain ⟨rfl, hZ, hh⟩ := hP
  have hx := Bd.exec
  have hby := Bd.bytes
  have hml : c.maxLocals = 2 := hml0
  have hown : s.vm.findClass "java/util/ArrayList" = some m.cls := findClass_of_methodNamed Bd.named
  have X0 : Stand p l e ({ frames := 1, cells := 0, slots := 0, locals := 15 } : Room) s m #[(.ref p0), (.ref p1)] below meth c s₁ [] 0 0 := Stand.of_body Bd
  have e0 : s₁.heap = h0 := by rw [← hh, Bd.state]; rfl
  have N0 := Fr.nil n0
  have s0 : Steps p.tables e below (s₁.setTop (entryFrame m #[(.ref p0), (.ref p1)] 2)) (s₁.setTop (mkF m 0 #[.val (.ref p0), .val (.ref p1)] [])) := castTop (ef_rmala_1 m p0 p1) (Steps.refl _)
  obtain ⟨A₀, hA₀⟩ : ∃ z, z = (s₁.setTop (entryFrame m #[(.ref p0), (.ref p1)] 2)) := ⟨_, rfl⟩
  rw [← hA₀] at s0
  obtain ⟨T1, X1, e1, st1⟩ := getF X0 hx hZ hown (host := "") (Or.inl (hw _ (List.mem_of_getElem? (i := 77) rfl))) (Via.of (hw _ (List.mem_of_getElem? (i := 78) rfl))) e0 F3_ (g := (mkF m 2 #[.val (.ref p0), .val (.ref p1)] [(.ref p0), (.ref p0)])) rfl rfl (hb hby d9_2)
  obtain ⟨T2, h2, X2, e2, W2, st2⟩ := putF X1 hx hZ hown (host := "") (Or.inl (hw _ (List.mem_of_getElem? (i := 77) rfl))) (Via.of (hw _ (List.mem_of_getElem? (i := 78) rfl))) e1 F3_ F0_ (Or.inl (hw _ (List.mem_of_getElem? (i := 23) rfl))) (hw _ (List.mem_of_getElem? (i := 2) rfl)) (ty := .int) (by decide) rfl rfl (g := (mkF m 7 #[.val (.ref p0), .val (.ref p1)] [(.int (mc + (1 : Int32))), (.ref p0)])) rfl rfl (hb hby d9_7)
  have Fw2 := F3_.same W2
  have O2 := O0.wr W2 F6_
  have K2 : Keep h0 h2 [p0, ed] := (Keep.refl h0 [p0, ed]).wr W2 (Or.inl (List.mem_of_getElem? (i := 0) rfl))
  have N2 := Fr.snoc X2 N0 F6_
  have c3 : Fld Z h2 p0 "java/util/ArrayList" "elementData" "[Ljava/lang/Object;" (.ref ed) := (F1_.other W2 (Or.inr (slot_ne (Or.inl (hw _ (List.mem_of_getElem? (i := 26) rfl))) (Or.inl (hw _ (List.mem_of_getElem? (i := 23) rfl))) (by decide) (t := (.array (.object "java/lang/Object"))) (t' := .int) (by decide) (by decide))))
  obtain ⟨T4, X4, e4, st4⟩ := getF X2 hx hZ hown (host := "") (Or.inl (hw _ (List.mem_of_getElem? (i := 25) rfl))) Via.refl e2 c3 (g := (mkF m 13 #[.val (.ref p0), .val (.ref p1)] [(.ref p0), (.ref p1), (.ref p0)])) rfl rfl (hb hby d9_13)
  have c5 : Fld Z h2 p0 "java/util/ArrayList" "size" "I" (.int (1 : Int32)) := (F2_.other W2 (Or.inr (slot_ne (Or.inl (hw _ (List.mem_of_getElem? (i := 41) rfl))) (Or.inl (hw _ (List.mem_of_getElem? (i := 23) rfl))) (by decide) (t := .int) (t' := .int) (by decide) (by decide))))
  obtain ⟨T6, X6, e6, st6⟩ := getF X4 hx hZ hown (host := "") (Or.inl (hw _ (List.mem_of_getElem? (i := 40) rfl))) Via.refl e4 c5 (g := (mkF m 17 #[.val (.ref p0), .val (.ref p1)] [(.ref p0), (.ref ed), (.ref p1), (.ref p0)])) rfl rfl (hb hby d9_17)
  have c7 : Exa Z h2 p0 "java/util/ArrayList" := (F0_.wr W2)
  have c8 : Arv Z h2 ed ka (.object "java/lang/Object") (10 : Int32) [(.ref x0), .null, .null, .null, .null, .null, .null, .null, .null, .null] .null := (F4_.other W2 (Ne.symm F8_))
  have c9 : Exa Z h2 p1 "com/example/libprox/libprox/RankingModel$QueryTerm" := (F9_.wr W2)
  obtain ⟨cq10, q10, q10'⟩ := c7.cell
  obtain ⟨_, _, ⟨T10, L10, k10, n10⟩, -, X10, ⟨Lc10, hQ10, l10, y10, z10⟩, st10⟩ := X6.privateBack hx (y := (⟨"java/util/ArrayList", "add", "(Ljava/lang/Object;[Ljava/lang/Object;I)V"⟩ : MethodName)) hown (mvT hZ (hw _ (List.mem_of_getElem? (i := 79) rfl))) (mvT hZ (hw _ (List.mem_of_getElem? (i := 80) rfl))) (mvT hZ (hw _ (List.mem_of_getElem? (i := 82) rfl))) (Cond.privateMethod_at (mvP hZ (hw _ (List.mem_of_getElem? (i := 81) rfl)) (args := #[]))) (mvT hZ (hw _ (List.mem_of_getElem? (i := 83) rfl))) (by decide) (backOf (W := 0) (rmala3_1 l Z a0 hw [] p0 p1 ed x0 ka (mc + (1 : Int32)) h2 n0 O2 c7 c3 c5 Fw2 c8 F5_ F6_ F7_ F8_ c9) hZ (hw _ (List.mem_of_getElem? (i := 83) rfl)) (hw _ (List.mem_of_getElem? (i := 3) rfl)) (by decide) (by decide)) (g := (mkF m 20 #[.val (.ref p0), .val (.ref p1)] [(.int (1 : Int32)), (.ref ed), (.ref p1), (.ref p0)])) rfl (by rw [hml]; rfl) (Steps.refl _) (a := p0) (by rw [e6]; exact q10) q10' (argsL := [(.ref p1), (.ref ed), (.int (1 : Int32))]) (rest := []) (lenOf pd_rmala_1_0 rfl) rfl (by show 2 * 0 + _ ≤ _; exact Nat.le_of_eq rfl) (hb hby d9_20) (fun _ _ => ⟨rfl, e6, (by decide : 0 + 0 ≤ _), (by decide : 0 + 0 ≤ _)⟩)
  dsimp only [Pt.U, Pt.locs, Pt.cells, Pt.slots] at X10 l10 y10 z10 st10 hQ10
  subst l10 y10 z10
  obtain ⟨rfl, Nq10, Kc10, f10_0, f10_1, f10_2, f10_3, f10_4⟩ := hQ10
  have N10 := Fr.app N2 Nq10
  have K10 : Keep h0 T10.heap [p0, ed] := K2.trans Kc10 (allS (Or.inl (List.mem_of_getElem? (i := 0) rfl)) (allS (Or.inl (List.mem_of_getElem? (i := 1) rfl)) all0))
  have O10 := O2.keep Kc10 (allS F6_ (allS F7_ all0))
  have s11 : Steps p.tables e below A₀ (T10.setTop (mkF m 24 #[.val (.ref p0), .val (.ref p1)] [(.int (1 : Int32))])) := by
    refine s0.trans ?_
    refine XS.aloadN X0.here hx rfl (hb hby d9_0) rfl rfl ?_
    refine XS.dup X0.here hx rfl (hb hby d9_1) rfl rfl ?_
    refine st1 _ ?_
    refine XS.iconst X1.here hx rfl (hb hby d9_5) ?_
    refine XS.iadd X1.here hx rfl (hb hby d9_6) rfl ?_
    refine st2 _ ?_
    refine XS.aloadN X2.here hx rfl (hb hby d9_10) rfl rfl ?_
    refine XS.aloadN X2.here hx rfl (hb hby d9_11) rfl rfl ?_
    show Steps p.tables e below (T2.setTop (mkF m 12 #[.val (.ref p0), .val (.ref p1)] [(.ref p1), (.ref p0)])) _
    refine XS.aloadN X2.here hx rfl (hb hby d9_12) rfl rfl ?_
    refine st4 _ ?_
    refine XS.aloadN X4.here hx rfl (hb hby d9_16) rfl rfl ?_
    refine st6 _ ?_
    refine st10.trans ?_
    refine XS.iconst X10.here hx rfl (hb hby d9_23) ?_
    exact Steps.refl _
  subst hA₀
  obtain ⟨fs, hr, hrun, hended, hW, hsame⟩ := X10.leave (v := some (.int (1 : Int32))) (fun h => by rw [Bd.returns] at h; cases h)
  refine ⟨_, _, s11.trans ?_, hrun, hended, _, _, rfl, ?_, ⟨_, rfl⟩, hW, hsame.mono (by decide) (by decide)⟩
  · show Steps p.tables e below (T10.setTop (mkF m 24 #[.val (.ref p0), .val (.ref p1)] [(.int (1 : Int32))])) _
    exact retN X10 hx (t := .boolean) Bd.returns (by simp) (hb hby d9_24) hr
  · show Qala_1 Z p0 p1 ed x0 ka mc h0 n0 _ T10.heap _
    exact ⟨rfl, N10, K10, f10_0, f10_1, f10_2, f10_3, f10_4⟩
theorem ef_rmala3_2 (m : MethodId) (p0 : Addr) (p1 : Addr) (p2 : Addr) : entryFrame m #[(.ref p0), (.ref p1), (.ref p2), (.int (2 : Int32))] 4 = mkF m 0 #[.val (.ref p0), .val (.ref p1), .val (.ref p2), .val (.int (2 : Int32))] [] := by first | (simp [entryFrame, mkF, argsToLocals, Value.category]; done) | rfl
def Qala3_2 (Z : State) (p0 : Addr) (p1 : Addr) (p2 : Addr) (x0 : Addr) (x1 : Addr) (ka : ClassId) (mc : Int32) (h0 : Heap) (n0 : Nat) (v : Option Value) (h : Heap) (L : List Loc) : Prop := v = none ∧ Fr n0 L ∧ Keep h0 h [p0, p2] ∧ (Exa Z h p0 "java/util/ArrayList") ∧ (Fld Z h p0 "java/util/ArrayList" "elementData" "[Ljava/lang/Object;" (.ref p2)) ∧ (Fld Z h p0 "java/util/ArrayList" "size" "I" (.int (3 : Int32))) ∧ (Fld Z h p0 "java/util/AbstractList" "modCount" "I" (.int mc)) ∧ (Arv Z h p2 ka (.object "java/lang/Object") (10 : Int32) [(.ref x0), (.ref x1), (.ref p1), .null, .null, .null, .null, .null, .null, .null] .null)
set_option maxRecDepth 65536 in
set_option maxHeartbeats 40000000 in
theorem rmala3_2 (l : Launch) (Z : State) (a0 : Array Value) (hw : ∀ d ∈ tables_1, d.before a0 Z = true) (ws : List Jvm.Cond) (p0 : Addr) (p1 : Addr) (p2 : Addr) (x0 : Addr) (x1 : Addr) (ka : ClassId) (mc : Int32) (h0 : Heap) (n0 : Nat) (O0 : Old Z n0 h0) (F0_ : Exa Z h0 p0 "java/util/ArrayList") (F1_ : Fld Z h0 p0 "java/util/ArrayList" "elementData" "[Ljava/lang/Object;" (.ref p2)) (F2_ : Fld Z h0 p0 "java/util/ArrayList" "size" "I" (.int (2 : Int32))) (F3_ : Fld Z h0 p0 "java/util/AbstractList" "modCount" "I" (.int mc)) (F4_ : Arv Z h0 p2 ka (.object "java/lang/Object") (10 : Int32) [(.ref x0), (.ref x1), .null, .null, .null, .null, .null, .null, .null, .null] .null) (F5_ : Ovr Z ka "java/lang/Object") (F6_ : n0 ≤ p0) (F7_ : n0 ≤ p2) (F8_ : p0 ≠ p2) (F9_ : Exa Z h0 p1 "com/example/libprox/libprox/RankingModel$QueryTerm") :
    MetFree l nm6 (head1 (Jvm.Cond.code nm6 jdk_38_method_24_code 4 none :: ws) ({ frames := 0, cells := 0, slots := 0, locals := 0 } : Room)) (fun a U => a = #[(.ref p0), (.ref p1), (.ref p2), (.int (2 : Int32))] ∧ Z.Warmed39 U.vm ∧ U.heap = h0) (fun _ _ _ _ _ => True) (fun _ U o U' => ∃ v L, o = .returned v ∧ Qala3_2 Z p0 p1 p2 x0 x1 ka mc h0 n0 v U'.heap L ∧ FrameEnd U o U' L ({ frames := 0, cells := 0, slots := 0, locals := 0 } : Room).cells ({ frames := 0, cells := 0, slots := 0, locals := 0 } : Room).slots) := by
  refine MetFree.of_bodySF (plainFor_of_name pn_1) hisR ?_
  intro p e s m args below meth c s₁ Bd hml0 hP hK
  obtain ⟨rfl, hZ, hh⟩ := hP
  have hx := Bd.exec
  have hby := Bd.bytes
  have hml : c.maxLocals = 4 := hml0
  have hown : s.vm.findClass "java/util/ArrayList" = some m.cls := findClass_of_methodNamed Bd.named
  have X0 : Stand p l e ({ frames := 0, cells := 0, slots := 0, locals := 0 } : Room) s m #[(.ref p0), (.ref p1), (.ref p2), (.int (2 : Int32))] below meth c s₁ [] 0 0 := Stand.of_body Bd
  have e0 : s₁.heap = h0 := by rw [← hh, Bd.state]; rfl
  have N0 := Fr.nil n0
  have s0 : Steps p.tables e below (s₁.setTop (entryFrame m #[(.ref p0), (.ref p1), (.ref p2), (.int (2 : Int32))] 4)) (s₁.setTop (mkF m 0 #[.val (.ref p0), .val (.ref p1), .val (.ref p2), .val (.int (2 : Int32))] [])) := castTop (ef_rmala3_2 m p0 p1 p2) (Steps.refl _)
  obtain ⟨A₀, hA₀⟩ : ∃ z, z = (s₁.setTop (entryFrame m #[(.ref p0), (.ref p1), (.ref p2), (.int (2 : Int32))] 4)) := ⟨_, rfl⟩
  rw [← hA₀] at s0
  obtain ⟨cla1, Ara1, qa1, Sa1, Za1, Ha1, Ga1⟩ := id F4_
  have hin2 : ¬ ((2 : Int32) < 0 ∨ cla1.slots.size ≤ ((2 : Int32)).toNatClampNeg) := inb_of Sa1 ⟨by decide, by decide⟩
  obtain ⟨T3, h3, X3, e3, W3, st3⟩ := stR X0 hx hZ e0 Ara1 (j := (2 : Int32)) hin2 rfl (Sto.ofV Ara1 qa1 F5_ (Ins.of_exa F9_ (hw _ (List.mem_of_getElem? (i := 100) rfl)))) (g := (mkF m 14 #[.val (.ref p0), .val (.ref p1), .val (.ref p2), .val (.int (2 : Int32))] [(.ref p1), (.int (2 : Int32)), (.ref p2)])) rfl rfl (hb hby d10_14)
  have O3 := O0.wr W3 F7_
  have K3 : Keep h0 h3 [p0, p2] := (Keep.refl h0 [p0, p2]).wr W3 (Or.inl (List.mem_of_getElem? (i := 1) rfl))
  have N3 := Fr.snoc X3 N0 F7_
  have V3 : Arv Z h3 p2 ka (.object "java/lang/Object") (10 : Int32) [(.ref x0), (.ref x1), (.ref p1), .null, .null, .null, .null, .null, .null, .null] .null := Arv.set Ara1 qa1 Sa1 Za1 Ha1 Ga1 rfl W3 2 rfl (Nat.le_of_ble_eq_true rfl)
  have c4 : Exa Z h3 p0 "java/util/ArrayList" := (F0_.wr W3)
  have c5 : Fld Z h3 p0 "java/util/ArrayList" "size" "I" (.int (2 : Int32)) := (F2_.other W3 (Or.inl F8_))
  obtain ⟨T6, h6, X6, e6, W6, st6⟩ := putF X3 hx hZ hown (host := "") (Or.inl (hw _ (List.mem_of_getElem? (i := 40) rfl))) Via.refl e3 c5 c4 (Or.inl (hw _ (List.mem_of_getElem? (i := 41) rfl))) (hw _ (List.mem_of_getElem? (i := 2) rfl)) (ty := .int) (by decide) rfl rfl (g := (mkF m 19 #[.val (.ref p0), .val (.ref p1), .val (.ref p2), .val (.int (2 : Int32))] [(.int (3 : Int32)), (.ref p0)])) rfl rfl (hb hby d10_19)
  have Fw6 := c5.same W6
  have O6 := O3.wr W6 F6_
  have K6 : Keep h0 h6 [p0, p2] := K3.wr W6 (Or.inl (List.mem_of_getElem? (i := 0) rfl))
  have N6 := Fr.snoc X6 N3 F6_
  have s7 : Steps p.tables e below A₀ (T6.setTop (mkF m 22 #[.val (.ref p0), .val (.ref p1), .val (.ref p2), .val (.int (2 : Int32))] [])) := by
    refine s0.trans ?_
    refine XS.iloadN X0.here hx rfl (hb hby d10_0) rfl ?_
    refine XS.aloadN X0.here hx rfl (hb hby d10_1) rfl rfl ?_
    refine X0.arraylength hx (by rw [e0]; exact Ara1.1) (State.isArrayOf_alike hZ.alike Ara1.2.1) (g := (mkF m 2 #[.val (.ref p0), .val (.ref p1), .val (.ref p2), .val (.int (2 : Int32))] [(.ref p2), (.int (2 : Int32))])) rfl rfl (hb hby d10_2) _ ?_
    rw [len_of Sa1 Za1]
    show Steps p.tables e below (s₁.setTop (mkF m 3 #[.val (.ref p0), .val (.ref p1), .val (.ref p2), .val (.int (2 : Int32))] [(.int (10 : Int32)), (.int (2 : Int32))])) _
    refine XS.icmpYes X0.here hx rfl (pc0 := 3) (pc' := 11) rfl (hb hby d10_3) rfl (feq (by decide)).2 (by decide) (by decide) ?_
    refine XS.aloadN X0.here hx rfl (hb hby d10_11) rfl rfl ?_
    refine XS.iloadN X0.here hx rfl (hb hby d10_12) rfl ?_
    refine XS.aloadN X0.here hx rfl (hb hby d10_13) rfl rfl ?_
    refine st3 _ ?_
    refine XS.aloadN X3.here hx rfl (hb hby d10_15) rfl rfl ?_
    refine XS.iloadN X3.here hx rfl (hb hby d10_16) rfl ?_
    refine XS.iconst X3.here hx rfl (hb hby d10_17) ?_
    refine XS.iadd X3.here hx rfl (hb hby d10_18) rfl ?_
    refine st6 _ ?_
    exact Steps.refl _
  subst hA₀
  have c8 : Exa Z h6 p0 "java/util/ArrayList" := (c4.wr W6)
  have c9 : Fld Z h6 p0 "java/util/ArrayList" "elementData" "[Ljava/lang/Object;" (.ref p2) := ((F1_.other W3 (Or.inl F8_)).other W6 (Or.inr (slot_ne (Or.inl (hw _ (List.mem_of_getElem? (i := 26) rfl))) (Or.inl (hw _ (List.mem_of_getElem? (i := 41) rfl))) (by decide) (t := (.array (.object "java/lang/Object"))) (t' := .int) (by decide) (by decide))))
  have c10 : Fld Z h6 p0 "java/util/AbstractList" "modCount" "I" (.int mc) := ((F3_.other W3 (Or.inl F8_)).other W6 (Or.inr (slot_ne (Or.inl (hw _ (List.mem_of_getElem? (i := 23) rfl))) (Or.inl (hw _ (List.mem_of_getElem? (i := 41) rfl))) (by decide) (t := .int) (t' := .int) (by decide) (by decide))))
  have c11 : Arv Z h6 p2 ka (.object "java/lang/Object") (10 : Int32) [(.ref x0), (.ref x1), (.ref p1), .null, .null, .null, .null, .null, .null, .null] .null := (V3.other W6 (Ne.symm F8_))
  obtain ⟨fs, hr, hrun, hended, hW, hsame⟩ := X6.leave (v := none) (fun _ => rfl)
  refine ⟨_, _, s7.trans ?_, hrun, hended, _, _, rfl, ?_, ⟨_, rfl⟩, hW, hsame.mono (by decide) (by decide)⟩
  · show Steps p.tables e below (T6.setTop (mkF m 22 #[.val (.ref p0), .val (.ref p1), .val (.ref p2), .val (.int (2 : Int32))] [])) _
    exact X6.returnOut hx Bd.returns (hb hby d10_22) hr
  · show Qala3_2 Z p0 p1 p2 x0 x1 ka mc h0 n0 _ T6.heap _
    rw [e6]
    exact ⟨rfl, N6, K6, c8, c9, Fw6, c10, c11⟩
theorem pd_rmala_2_0 : parseMethodDescriptor "(Ljava/lang/Object;[Ljava/lang/Object;I)V" = some ⟨[(.object "java/lang/Object"), (.array (.object "java/lang/Object")), .int], none⟩ := by decide +kernel
theorem ef_rmala_2 (m : MethodId) (p0 : Addr) (p1 : Addr) : entryFrame m #[(.ref p0), (.ref p1)] 2 = mkF m 0 #[.val (.ref p0), .val (.ref p1)] [] := by first | (simp [entryFrame, mkF, argsToLocals, Value.category]; done) | rfl
def Qala_2 (Z : State) (p0 : Addr) (p1 : Addr) (ed : Addr) (x0 : Addr) (x1 : Addr) (ka : ClassId) (mc : Int32) (h0 : Heap) (n0 : Nat) (v : Option Value) (h : Heap) (L : List Loc) : Prop := v = some (.int (1 : Int32)) ∧ Fr n0 L ∧ Keep h0 h [p0, ed] ∧ (Exa Z h p0 "java/util/ArrayList") ∧ (Fld Z h p0 "java/util/ArrayList" "elementData" "[Ljava/lang/Object;" (.ref ed)) ∧ (Fld Z h p0 "java/util/ArrayList" "size" "I" (.int (3 : Int32))) ∧ (Fld Z h p0 "java/util/AbstractList" "modCount" "I" (.int (mc + (1 : Int32)))) ∧ (Arv Z h ed ka (.object "java/lang/Object") (10 : Int32) [(.ref x0), (.ref x1), (.ref p1), .null, .null, .null, .null, .null, .null, .null] .null)
set_option maxRecDepth 65536 in
set_option maxHeartbeats 40000000 in
theorem rmala_2 (l : Launch) (Z : State) (a0 : Array Value) (hw : ∀ d ∈ tables_1, d.before a0 Z = true) (ws : List Jvm.Cond) (p0 : Addr) (p1 : Addr) (ed : Addr) (x0 : Addr) (x1 : Addr) (ka : ClassId) (mc : Int32) (h0 : Heap) (n0 : Nat) (O0 : Old Z n0 h0) (F0_ : Exa Z h0 p0 "java/util/ArrayList") (F1_ : Fld Z h0 p0 "java/util/ArrayList" "elementData" "[Ljava/lang/Object;" (.ref ed)) (F2_ : Fld Z h0 p0 "java/util/ArrayList" "size" "I" (.int (2 : Int32))) (F3_ : Fld Z h0 p0 "java/util/AbstractList" "modCount" "I" (.int mc)) (F4_ : Arv Z h0 ed ka (.object "java/lang/Object") (10 : Int32) [(.ref x0), (.ref x1), .null, .null, .null, .null, .null, .null, .null, .null] .null) (F5_ : Ovr Z ka "java/lang/Object") (F6_ : n0 ≤ p0) (F7_ : n0 ≤ ed) (F8_ : p0 ≠ ed) (F9_ : Exa Z h0 p1 "com/example/libprox/libprox/RankingModel$QueryTerm") :
    MetFree l nm7 (head1 (Jvm.Cond.code nm7 jdk_38_method_25_code 2 (some .boolean) :: ws) ({ frames := 1, cells := 0, slots := 0, locals := 15 } : Room)) (fun a U => a = #[(.ref p0), (.ref p1)] ∧ Z.Warmed39 U.vm ∧ U.heap = h0) (fun _ _ _ _ _ => True) (fun _ U o U' => ∃ v L, o = .returned v ∧ Qala_2 Z p0 p1 ed x0 x1 ka mc h0 n0 v U'.heap L ∧ FrameEnd U o U' L ({ frames := 1, cells := 0, slots := 0, locals := 15 } : Room).cells ({ frames := 1, cells := 0, slots := 0, locals := 15 } : Room).slots) := by
  refine MetFree.of_bodySF (plainFor_of_name pn_1) hisR ?_
  intro p e s m args below meth c s₁ Bd hml0 hP hK
  obtain ⟨rfl, hZ, hh⟩ := hP
  have hx := Bd.exec
  have hby := Bd.bytes
  have hml : c.maxLocals = 2 := hml0
  have hown : s.vm.findClass "java/util/ArrayList" = some m.cls := findClass_of_methodNamed Bd.named
  have X0 : Stand p l e ({ frames := 1, cells := 0, slots := 0, locals := 15 } : Room) s m #[(.ref p0), (.ref p1)] below meth c s₁ [] 0 0 := Stand.of_body Bd
  have e0 : s₁.heap = h0 := by rw [← hh, Bd.state]; rfl
  have N0 := Fr.nil n0
  have s0 : Steps p.tables e below (s₁.setTop (entryFrame m #[(.ref p0), (.ref p1)] 2)) (s₁.setTop (mkF m 0 #[.val (.ref p0), .val (.ref p1)] [])) := castTop (ef_rmala_2 m p0 p1) (Steps.refl _)
  obtain ⟨A₀, hA₀⟩ : ∃ z, z = (s₁.setTop (entryFrame m #[(.ref p0), (.ref p1)] 2)) := ⟨_, rfl⟩
  rw [← hA₀] at s0
  obtain ⟨T1, X1, e1, st1⟩ := getF X0 hx hZ hown (host := "") (Or.inl (hw _ (List.mem_of_getElem? (i := 77) rfl))) (Via.of (hw _ (List.mem_of_getElem? (i := 78) rfl))) e0 F3_ (g := (mkF m 2 #[.val (.ref p0), .val (.ref p1)] [(.ref p0), (.ref p0)])) rfl rfl (hb hby d9_2)
  obtain ⟨T2, h2, X2, e2, W2, st2⟩ := putF X1 hx hZ hown (host := "") (Or.inl (hw _ (List.mem_of_getElem? (i := 77) rfl))) (Via.of (hw _ (List.mem_of_getElem? (i := 78) rfl))) e1 F3_ F0_ (Or.inl (hw _ (List.mem_of_getElem? (i := 23) rfl))) (hw _ (List.mem_of_getElem? (i := 2) rfl)) (ty := .int) (by decide) rfl rfl (g := (mkF m 7 #[.val (.ref p0), .val (.ref p1)] [(.int (mc + (1 : Int32))), (.ref p0)])) rfl rfl (hb hby d9_7)
  have Fw2 := F3_.same W2
  have O2 := O0.wr W2 F6_
  have K2 : Keep h0 h2 [p0, ed] := (Keep.refl h0 [p0, ed]).wr W2 (Or.inl (List.mem_of_getElem? (i := 0) rfl))
  have N2 := Fr.snoc X2 N0 F6_
  have c3 : Fld Z h2 p0 "java/util/ArrayList" "elementData" "[Ljava/lang/Object;" (.ref ed) := (F1_.other W2 (Or.inr (slot_ne (Or.inl (hw _ (List.mem_of_getElem? (i := 26) rfl))) (Or.inl (hw _ (List.mem_of_getElem? (i := 23) rfl))) (by decide) (t := (.array (.object "java/lang/Object"))) (t' := .int) (by decide) (by decide))))
  obtain ⟨T4, X4, e4, st4⟩ := getF X2 hx hZ hown (host := "") (Or.inl (hw _ (List.mem_of_getElem? (i := 25) rfl))) Via.refl e2 c3 (g := (mkF m 13 #[.val (.ref p0), .val (.ref p1)] [(.ref p0), (.ref p1), (.ref p0)])) rfl rfl (hb hby d9_13)
  have c5 : Fld Z h2 p0 "java/util/ArrayList" "size" "I" (.int (2 : Int32)) := (F2_.other W2 (Or.inr (slot_ne (Or.inl (hw _ (List.mem_of_getElem? (i := 41) rfl))) (Or.inl (hw _ (List.mem_of_getElem? (i := 23) rfl))) (by decide) (t := .int) (t' := .int) (by decide) (by decide))))
  obtain ⟨T6, X6, e6, st6⟩ := getF X4 hx hZ hown (host := "") (Or.inl (hw _ (List.mem_of_getElem? (i := 40) rfl))) Via.refl e4 c5 (g := (mkF m 17 #[.val (.ref p0), .val (.ref p1)] [(.ref p0), (.ref ed), (.ref p1), (.ref p0)])) rfl rfl (hb hby d9_17)
  have c7 : Exa Z h2 p0 "java/util/ArrayList" := (F0_.wr W2)
  have c8 : Arv Z h2 ed ka (.object "java/lang/Object") (10 : Int32) [(.ref x0), (.ref x1), .null, .null, .null, .null, .null, .null, .null, .null] .null := (F4_.other W2 (Ne.symm F8_))
  have c9 : Exa Z h2 p1 "com/example/libprox/libprox/RankingModel$QueryTerm" := (F9_.wr W2)
  obtain ⟨cq10, q10, q10'⟩ := c7.cell
  obtain ⟨_, _, ⟨T10, L10, k10, n10⟩, -, X10, ⟨Lc10, hQ10, l10, y10, z10⟩, st10⟩ := X6.privateBack hx (y := (⟨"java/util/ArrayList", "add", "(Ljava/lang/Object;[Ljava/lang/Object;I)V"⟩ : MethodName)) hown (mvT hZ (hw _ (List.mem_of_getElem? (i := 79) rfl))) (mvT hZ (hw _ (List.mem_of_getElem? (i := 80) rfl))) (mvT hZ (hw _ (List.mem_of_getElem? (i := 82) rfl))) (Cond.privateMethod_at (mvP hZ (hw _ (List.mem_of_getElem? (i := 81) rfl)) (args := #[]))) (mvT hZ (hw _ (List.mem_of_getElem? (i := 83) rfl))) (by decide) (backOf (W := 0) (rmala3_2 l Z a0 hw [] p0 p1 ed x0 x1 ka (mc + (1 : Int32)) h2 n0 O2 c7 c3 c5 Fw2 c8 F5_ F6_ F7_ F8_ c9) hZ (hw _ (List.mem_of_getElem? (i := 83) rfl)) (hw _ (List.mem_of_getElem? (i := 3) rfl)) (by decide) (by decide)) (g := (mkF m 20 #[.val (.ref p0), .val (.ref p1)] [(.int (2 : Int32)), (.ref ed), (.ref p1), (.ref p0)])) rfl (by rw [hml]; rfl) (Steps.refl _) (a := p0) (by rw [e6]; exact q10) q10' (argsL := [(.ref p1), (.ref ed), (.int (2 : Int32))]) (rest := []) (lenOf pd_rmala_2_0 rfl) rfl (by show 2 * 0 + _ ≤ _; exact Nat.le_of_eq rfl) (hb hby d9_20) (fun _ _ => ⟨rfl, e6, (by decide : 0 + 0 ≤ _), (by decide : 0 + 0 ≤ _)⟩)
  dsimp only [Pt.U, Pt.locs, Pt.cells, Pt.slots] at X10 l10 y10 z10 st10 hQ10
  subst l10 y10 z10
  obtain ⟨rfl, Nq10, Kc10, f10_0, f10_1, f10_2, f10_3, f10_4⟩ := hQ10
  have N10 := Fr.app N2 Nq10
  have K10 : Keep h0 T10.heap [p0, ed] := K2.trans Kc10 (allS (Or.inl (List.mem_of_getElem? (i := 0) rfl)) (allS (Or.inl (List.mem_of_getElem? (i := 1) rfl)) all0))
  have O10 := O2.keep Kc10 (allS F6_ (allS F7_ all0))
  have s11 : Steps p.tables e below A₀ (T10.setTop (mkF m 24 #[.val (.ref p0), .val (.ref p1)] [(.int (1 : Int32))])) := by
    refine s0.trans ?_
    refine XS.aloadN X0.here hx rfl (hb hby d9_0) rfl rfl ?_
    refine XS.dup X0.here hx rfl (hb hby d9_1) rfl rfl ?_
    refine st1 _ ?_
    refine XS.iconst X1.here hx rfl (hb hby d9_5) ?_
    refine XS.iadd X1.here hx rfl (hb hby d9_6) rfl ?_
    refine st2 _ ?_
    refine XS.aloadN X2.here hx rfl (hb hby d9_10) rfl rfl ?_
    refine XS.aloadN X2.here hx rfl (hb hby d9_11) rfl rfl ?_
    show Steps p.tables e below (T2.setTop (mkF m 12 #[.val (.ref p0), .val (.ref p1)] [(.ref p1), (.ref p0)])) _
    refine XS.aloadN X2.here hx rfl (hb hby d9_12) rfl rfl ?_
    refine st4 _ ?_
    refine XS.aloadN X4.here hx rfl (hb hby d9_16) rfl rfl ?_
    refine st6 _ ?_
    refine st10.trans ?_
    refine XS.iconst X10.here hx rfl (hb hby d9_23) ?_
    exact Steps.refl _
  subst hA₀
  obtain ⟨fs, hr, hrun, hended, hW, hsame⟩ := X10.leave (v := some (.int (1 : Int32))) (fun h => by rw [Bd.returns] at h; cases h)
  refine ⟨_, _, s11.trans ?_, hrun, hended, _, _, rfl, ?_, ⟨_, rfl⟩, hW, hsame.mono (by decide) (by decide)⟩
  · show Steps p.tables e below (T10.setTop (mkF m 24 #[.val (.ref p0), .val (.ref p1)] [(.int (1 : Int32))])) _
    exact retN X10 hx (t := .boolean) Bd.returns (by simp) (hb hby d9_24) hr
  · show Qala_2 Z p0 p1 ed x0 x1 ka mc h0 n0 _ T10.heap _
    exact ⟨rfl, N10, K10, f10_0, f10_1, f10_2, f10_3, f10_4⟩
theorem d6_0 : decode jdk_38_method_8_code 0 = .ok (.aload_n 0, 1) := by decide +kernel
theorem d6_1 : decode jdk_38_method_8_code 1 = .ok (.getfield 48, 3) := by decide +kernel
theorem d6_4 : decode jdk_38_method_8_code 4 = .ok (.ireturn, 1) := by decide +kernel
theorem ef_rmalsz_0 (m : MethodId) (p0 : Addr) : entryFrame m #[(.ref p0)] 1 = mkF m 0 #[.val (.ref p0)] [] := by first | (simp [entryFrame, mkF, argsToLocals, Value.category]; done) | rfl
def Qalsz_0 (Z : State) (p0 : Addr) (h0 : Heap) (n0 : Nat) (v : Option Value) (h : Heap) (L : List Loc) : Prop := v = some (.int (0 : Int32)) ∧ Fr n0 L ∧ h = h0
set_option maxRecDepth 65536 in
set_option maxHeartbeats 40000000 in
theorem rmalsz_0 (l : Launch) (Z : State) (a0 : Array Value) (hw : ∀ d ∈ tables_1, d.before a0 Z = true) (ws : List Jvm.Cond) (p0 : Addr) (h0 : Heap) (n0 : Nat) (O0 : Old Z n0 h0) (F0_ : Exa Z h0 p0 "java/util/ArrayList") (F1_ : Fld Z h0 p0 "java/util/ArrayList" "size" "I" (.int (0 : Int32))) :
    MetFree l nm8 (head1 (Jvm.Cond.code nm8 jdk_38_method_8_code 1 (some .int) :: ws) ({ frames := 0, cells := 0, slots := 0, locals := 0 } : Room)) (fun a U => a = #[(.ref p0)] ∧ Z.Warmed39 U.vm ∧ U.heap = h0) (fun _ _ _ _ _ => True) (fun _ U o U' => ∃ v L, o = .returned v ∧ Qalsz_0 Z p0 h0 n0 v U'.heap L ∧ FrameEnd U o U' L ({ frames := 0, cells := 0, slots := 0, locals := 0 } : Room).cells ({ frames := 0, cells := 0, slots := 0, locals := 0 } : Room).slots) := by
  refine MetFree.of_bodySF (plainFor_of_name pn_1) hisR ?_
  intro p e s m args below meth c s₁ Bd hml0 hP hK
  obtain ⟨rfl, hZ, hh⟩ := hP
  have hx := Bd.exec
  have hby := Bd.bytes
  have hml : c.maxLocals = 1 := hml0
  have hown : s.vm.findClass "java/util/ArrayList" = some m.cls := findClass_of_methodNamed Bd.named
  have X0 : Stand p l e ({ frames := 0, cells := 0, slots := 0, locals := 0 } : Room) s m #[(.ref p0)] below meth c s₁ [] 0 0 := Stand.of_body Bd
  have e0 : s₁.heap = h0 := by rw [← hh, Bd.state]; rfl
  have N0 := Fr.nil n0
  have s0 : Steps p.tables e below (s₁.setTop (entryFrame m #[(.ref p0)] 1)) (s₁.setTop (mkF m 0 #[.val (.ref p0)] [])) := castTop (ef_rmalsz_0 m p0) (Steps.refl _)
  obtain ⟨A₀, hA₀⟩ : ∃ z, z = (s₁.setTop (entryFrame m #[(.ref p0)] 1)) := ⟨_, rfl⟩
  rw [← hA₀] at s0
  obtain ⟨T1, X1, e1, st1⟩ := getF X0 hx hZ hown (host := "") (Or.inl (hw _ (List.mem_of_getElem? (i := 40) rfl))) Via.refl e0 F1_ (g := (mkF m 1 #[.val (.ref p0)] [(.ref p0)])) rfl rfl (hb hby d6_1)
  have s2 : Steps p.tables e below A₀ (T1.setTop (mkF m 4 #[.val (.ref p0)] [(.int (0 : Int32))])) := by
    refine s0.trans ?_
    refine XS.aloadN X0.here hx rfl (hb hby d6_0) rfl rfl ?_
    refine st1 _ ?_
    exact Steps.refl _
  subst hA₀
  obtain ⟨fs, hr, hrun, hended, hW, hsame⟩ := X1.leave (v := some (.int (0 : Int32))) (fun h => by rw [Bd.returns] at h; cases h)
  refine ⟨_, _, s2.trans ?_, hrun, hended, _, _, rfl, ?_, ⟨_, rfl⟩, hW, hsame.mono (by decide) (by decide)⟩
  · show Steps p.tables e below (T1.setTop (mkF m 4 #[.val (.ref p0)] [(.int (0 : Int32))])) _
    exact retI X1 hx Bd.returns (hb hby d6_4) hr
  · show Qalsz_0 Z p0 h0 n0 _ T1.heap _
    rw [e1]
    exact ⟨rfl, N0, rfl⟩
theorem ef_rmalsz_1 (m : MethodId) (p0 : Addr) : entryFrame m #[(.ref p0)] 1 = mkF m 0 #[.val (.ref p0)] [] := by first | (simp [entryFrame, mkF, argsToLocals, Value.category]; done) | rfl
def Qalsz_1 (Z : State) (p0 : Addr) (h0 : Heap) (n0 : Nat) (v : Option Value) (h : Heap) (L : List Loc) : Prop := v = some (.int (1 : Int32)) ∧ Fr n0 L ∧ h = h0
set_option maxRecDepth 65536 in
set_option maxHeartbeats 40000000 in
theorem rmalsz_1 (l : Launch) (Z : State) (a0 : Array Value) (hw : ∀ d ∈ tables_1, d.before a0 Z = true) (ws : List Jvm.Cond) (p0 : Addr) (h0 : Heap) (n0 : Nat) (O0 : Old Z n0 h0) (F0_ : Exa Z h0 p0 "java/util/ArrayList") (F1_ : Fld Z h0 p0 "java/util/ArrayList" "size" "I" (.int (1 : Int32))) :
    MetFree l nm8 (head1 (Jvm.Cond.code nm8 jdk_38_method_8_code 1 (some .int) :: ws) ({ frames := 0, cells := 0, slots := 0, locals := 0 } : Room)) (fun a U => a = #[(.ref p0)] ∧ Z.Warmed39 U.vm ∧ U.heap = h0) (fun _ _ _ _ _ => True) (fun _ U o U' => ∃ v L, o = .returned v ∧ Qalsz_1 Z p0 h0 n0 v U'.heap L ∧ FrameEnd U o U' L ({ frames := 0, cells := 0, slots := 0, locals := 0 } : Room).cells ({ frames := 0, cells := 0, slots := 0, locals := 0 } : Room).slots) := by
  refine MetFree.of_bodySF (plainFor_of_name pn_1) hisR ?_
  intro p e s m args below meth c s₁ Bd hml0 hP hK
  obtain ⟨rfl, hZ, hh⟩ := hP
  have hx := Bd.exec
  have hby := Bd.bytes
  have hml : c.maxLocals = 1 := hml0
  have hown : s.vm.findClass "java/util/ArrayList" = some m.cls := findClass_of_methodNamed Bd.named
  have X0 : Stand p l e ({ frames := 0, cells := 0, slots := 0, locals := 0 } : Room) s m #[(.ref p0)] below meth c s₁ [] 0 0 := Stand.of_body Bd
  have e0 : s₁.heap = h0 := by rw [← hh, Bd.state]; rfl
  have N0 := Fr.nil n0
  have s0 : Steps p.tables e below (s₁.setTop (entryFrame m #[(.ref p0)] 1)) (s₁.setTop (mkF m 0 #[.val (.ref p0)] [])) := castTop (ef_rmalsz_1 m p0) (Steps.refl _)
  obtain ⟨A₀, hA₀⟩ : ∃ z, z = (s₁.setTop (entryFrame m #[(.ref p0)] 1)) := ⟨_, rfl⟩
  rw [← hA₀] at s0
  obtain ⟨T1, X1, e1, st1⟩ := getF X0 hx hZ hown (host := "") (Or.inl (hw _ (List.mem_of_getElem? (i := 40) rfl))) Via.refl e0 F1_ (g := (mkF m 1 #[.val (.ref p0)] [(.ref p0)])) rfl rfl (hb hby d6_1)
  have s2 : Steps p.tables e below A₀ (T1.setTop (mkF m 4 #[.val (.ref p0)] [(.int (1 : Int32))])) := by
    refine s0.trans ?_
    refine XS.aloadN X0.here hx rfl (hb hby d6_0) rfl rfl ?_
    refine st1 _ ?_
    exact Steps.refl _
  subst hA₀
  obtain ⟨fs, hr, hrun, hended, hW, hsame⟩ := X1.leave (v := some (.int (1 : Int32))) (fun h => by rw [Bd.returns] at h; cases h)
  refine ⟨_, _, s2.trans ?_, hrun, hended, _, _, rfl, ?_, ⟨_, rfl⟩, hW, hsame.mono (by decide) (by decide)⟩
  · show Steps p.tables e below (T1.setTop (mkF m 4 #[.val (.ref p0)] [(.int (1 : Int32))])) _
    exact retI X1 hx Bd.returns (hb hby d6_4) hr
  · show Qalsz_1 Z p0 h0 n0 _ T1.heap _
    rw [e1]
    exact ⟨rfl, N0, rfl⟩
theorem ef_rmalsz_2 (m : MethodId) (p0 : Addr) : entryFrame m #[(.ref p0)] 1 = mkF m 0 #[.val (.ref p0)] [] := by first | (simp [entryFrame, mkF, argsToLocals, Value.category]; done) | rfl
def Qalsz_2 (Z : State) (p0 : Addr) (h0 : Heap) (n0 : Nat) (v : Option Value) (h : Heap) (L : List Loc) : Prop := v = some (.int (2 : Int32)) ∧ Fr n0 L ∧ h = h0
set_option maxRecDepth 65536 in
set_option maxHeartbeats 40000000 in
theorem rmalsz_2 (l : Launch) (Z : State) (a0 : Array Value) (hw : ∀ d ∈ tables_1, d.before a0 Z = true) (ws : List Jvm.Cond) (p0 : Addr) (h0 : Heap) (n0 : Nat) (O0 : Old Z n0 h0) (F0_ : Exa Z h0 p0 "java/util/ArrayList") (F1_ : Fld Z h0 p0 "java/util/ArrayList" "size" "I" (.int (2 : Int32))) :
    MetFree l nm8 (head1 (Jvm.Cond.code nm8 jdk_38_method_8_code 1 (some .int) :: ws) ({ frames := 0, cells := 0, slots := 0, locals := 0 } : Room)) (fun a U => a = #[(.ref p0)] ∧ Z.Warmed39 U.vm ∧ U.heap = h0) (fun _ _ _ _ _ => True) (fun _ U o U' => ∃ v L, o = .returned v ∧ Qalsz_2 Z p0 h0 n0 v U'.heap L ∧ FrameEnd U o U' L ({ frames := 0, cells := 0, slots := 0, locals := 0 } : Room).cells ({ frames := 0, cells := 0, slots := 0, locals := 0 } : Room).slots) := by
  refine MetFree.of_bodySF (plainFor_of_name pn_1) hisR ?_
  intro p e s m args below meth c s₁ Bd hml0 hP hK
  obtain ⟨rfl, hZ, hh⟩ := hP
  have hx := Bd.exec
  have hby := Bd.bytes
  have hml : c.maxLocals = 1 := hml0
  have hown : s.vm.findClass "java/util/ArrayList" = some m.cls := findClass_of_methodNamed Bd.named
  have X0 : Stand p l e ({ frames := 0, cells := 0, slots := 0, locals := 0 } : Room) s m #[(.ref p0)] below meth c s₁ [] 0 0 := Stand.of_body Bd
  have e0 : s₁.heap = h0 := by rw [← hh, Bd.state]; rfl
  have N0 := Fr.nil n0
  have s0 : Steps p.tables e below (s₁.setTop (entryFrame m #[(.ref p0)] 1)) (s₁.setTop (mkF m 0 #[.val (.ref p0)] [])) := castTop (ef_rmalsz_2 m p0) (Steps.refl _)
  obtain ⟨A₀, hA₀⟩ : ∃ z, z = (s₁.setTop (entryFrame m #[(.ref p0)] 1)) := ⟨_, rfl⟩
  rw [← hA₀] at s0
  obtain ⟨T1, X1, e1, st1⟩ := getF X0 hx hZ hown (host := "") (Or.inl (hw _ (List.mem_of_getElem? (i := 40) rfl))) Via.refl e0 F1_ (g := (mkF m 1 #[.val (.ref p0)] [(.ref p0)])) rfl rfl (hb hby d6_1)
  have s2 : Steps p.tables e below A₀ (T1.setTop (mkF m 4 #[.val (.ref p0)] [(.int (2 : Int32))])) := by
    refine s0.trans ?_
    refine XS.aloadN X0.here hx rfl (hb hby d6_0) rfl rfl ?_
    refine st1 _ ?_
    exact Steps.refl _
  subst hA₀
  obtain ⟨fs, hr, hrun, hended, hW, hsame⟩ := X1.leave (v := some (.int (2 : Int32))) (fun h => by rw [Bd.returns] at h; cases h)
  refine ⟨_, _, s2.trans ?_, hrun, hended, _, _, rfl, ?_, ⟨_, rfl⟩, hW, hsame.mono (by decide) (by decide)⟩
  · show Steps p.tables e below (T1.setTop (mkF m 4 #[.val (.ref p0)] [(.int (2 : Int32))])) _
    exact retI X1 hx Bd.returns (hb hby d6_4) hr
  · show Qalsz_2 Z p0 h0 n0 _ T1.heap _
    rw [e1]
    exact ⟨rfl, N0, rfl⟩
theorem ef_rmalsz_3 (m : MethodId) (p0 : Addr) : entryFrame m #[(.ref p0)] 1 = mkF m 0 #[.val (.ref p0)] [] := by first | (simp [entryFrame, mkF, argsToLocals, Value.category]; done) | rfl
def Qalsz_3 (Z : State) (p0 : Addr) (h0 : Heap) (n0 : Nat) (v : Option Value) (h : Heap) (L : List Loc) : Prop := v = some (.int (3 : Int32)) ∧ Fr n0 L ∧ h = h0
set_option maxRecDepth 65536 in
set_option maxHeartbeats 40000000 in
theorem rmalsz_3 (l : Launch) (Z : State) (a0 : Array Value) (hw : ∀ d ∈ tables_1, d.before a0 Z = true) (ws : List Jvm.Cond) (p0 : Addr) (h0 : Heap) (n0 : Nat) (O0 : Old Z n0 h0) (F0_ : Exa Z h0 p0 "java/util/ArrayList") (F1_ : Fld Z h0 p0 "java/util/ArrayList" "size" "I" (.int (3 : Int32))) :
    MetFree l nm8 (head1 (Jvm.Cond.code nm8 jdk_38_method_8_code 1 (some .int) :: ws) ({ frames := 0, cells := 0, slots := 0, locals := 0 } : Room)) (fun a U => a = #[(.ref p0)] ∧ Z.Warmed39 U.vm ∧ U.heap = h0) (fun _ _ _ _ _ => True) (fun _ U o U' => ∃ v L, o = .returned v ∧ Qalsz_3 Z p0 h0 n0 v U'.heap L ∧ FrameEnd U o U' L ({ frames := 0, cells := 0, slots := 0, locals := 0 } : Room).cells ({ frames := 0, cells := 0, slots := 0, locals := 0 } : Room).slots) := by
  refine MetFree.of_bodySF (plainFor_of_name pn_1) hisR ?_
  intro p e s m args below meth c s₁ Bd hml0 hP hK
  obtain ⟨rfl, hZ, hh⟩ := hP
  have hx := Bd.exec
  have hby := Bd.bytes
  have hml : c.maxLocals = 1 := hml0
  have hown : s.vm.findClass "java/util/ArrayList" = some m.cls := findClass_of_methodNamed Bd.named
  have X0 : Stand p l e ({ frames := 0, cells := 0, slots := 0, locals := 0 } : Room) s m #[(.ref p0)] below meth c s₁ [] 0 0 := Stand.of_body Bd
  have e0 : s₁.heap = h0 := by rw [← hh, Bd.state]; rfl
  have N0 := Fr.nil n0
  have s0 : Steps p.tables e below (s₁.setTop (entryFrame m #[(.ref p0)] 1)) (s₁.setTop (mkF m 0 #[.val (.ref p0)] [])) := castTop (ef_rmalsz_3 m p0) (Steps.refl _)
  obtain ⟨A₀, hA₀⟩ : ∃ z, z = (s₁.setTop (entryFrame m #[(.ref p0)] 1)) := ⟨_, rfl⟩
  rw [← hA₀] at s0
  obtain ⟨T1, X1, e1, st1⟩ := getF X0 hx hZ hown (host := "") (Or.inl (hw _ (List.mem_of_getElem? (i := 40) rfl))) Via.refl e0 F1_ (g := (mkF m 1 #[.val (.ref p0)] [(.ref p0)])) rfl rfl (hb hby d6_1)
  have s2 : Steps p.tables e below A₀ (T1.setTop (mkF m 4 #[.val (.ref p0)] [(.int (3 : Int32))])) := by
    refine s0.trans ?_
    refine XS.aloadN X0.here hx rfl (hb hby d6_0) rfl rfl ?_
    refine st1 _ ?_
    exact Steps.refl _
  subst hA₀
  obtain ⟨fs, hr, hrun, hended, hW, hsame⟩ := X1.leave (v := some (.int (3 : Int32))) (fun h => by rw [Bd.returns] at h; cases h)
  refine ⟨_, _, s2.trans ?_, hrun, hended, _, _, rfl, ?_, ⟨_, rfl⟩, hW, hsame.mono (by decide) (by decide)⟩
  · show Steps p.tables e below (T1.setTop (mkF m 4 #[.val (.ref p0)] [(.int (3 : Int32))])) _
    exact retI X1 hx Bd.returns (hb hby d6_4) hr
  · show Qalsz_3 Z p0 h0 n0 _ T1.heap _
    rw [e1]
    exact ⟨rfl, N0, rfl⟩
theorem d16_0 : decode jdk_41_method_11_code 0 = .ok (.iload_n 0, 1) := by decide +kernel
theorem d16_1 : decode jdk_41_method_11_code 1 = .ok (.ifCond .lt 8, 3) := by decide +kernel
theorem d16_4 : decode jdk_41_method_11_code 4 = .ok (.iload_n 0, 1) := by decide +kernel
theorem d16_5 : decode jdk_41_method_11_code 5 = .ok (.iload_n 1, 1) := by decide +kernel
theorem d16_6 : decode jdk_41_method_11_code 6 = .ok (.if_icmp .lt 10, 3) := by decide +kernel
theorem d16_16 : decode jdk_41_method_11_code 16 = .ok (.iload_n 0, 1) := by decide +kernel
theorem d16_17 : decode jdk_41_method_11_code 17 = .ok (.ireturn, 1) := by decide +kernel
theorem pn_16 : plainName "jdk/internal/util/Preconditions" = true := by first | (simp [plainName, overriddenIn]; done) | decide +kernel
theorem ef_rmalpc_1_0 (m : MethodId)  : entryFrame m #[(.int (0 : Int32)), (.int (1 : Int32)), .null] 3 = mkF m 0 #[.val (.int (0 : Int32)), .val (.int (1 : Int32)), .val .null] [] := by first | (simp [entryFrame, mkF, argsToLocals, Value.category]; done) | rfl
def Qalpc_1_0 (Z : State)  (h0 : Heap) (n0 : Nat) (v : Option Value) (h : Heap) (L : List Loc) : Prop := v = some (.int (0 : Int32)) ∧ Fr n0 L ∧ h = h0
set_option maxRecDepth 65536 in
set_option maxHeartbeats 40000000 in
theorem rmalpc_1_0 (l : Launch) (Z : State) (a0 : Array Value) (hw : ∀ d ∈ tables_1, d.before a0 Z = true) (ws : List Jvm.Cond)  (h0 : Heap) (n0 : Nat) (O0 : Old Z n0 h0) :
    MetFree l nm9 (head1 (Jvm.Cond.code nm9 jdk_41_method_11_code 3 (some .int) :: ws) ({ frames := 0, cells := 0, slots := 0, locals := 0 } : Room)) (fun a U => a = #[(.int (0 : Int32)), (.int (1 : Int32)), .null] ∧ Z.Warmed39 U.vm ∧ U.heap = h0) (fun _ _ _ _ _ => True) (fun _ U o U' => ∃ v L, o = .returned v ∧ Qalpc_1_0 Z  h0 n0 v U'.heap L ∧ FrameEnd U o U' L ({ frames := 0, cells := 0, slots := 0, locals := 0 } : Room).cells ({ frames := 0, cells := 0, slots := 0, locals := 0 } : Room).slots) := by
  refine MetFree.of_bodySF (plainFor_of_name pn_16) hisR ?_
  intro p e s m args below meth c s₁ Bd hml0 hP hK
  obtain ⟨rfl, hZ, hh⟩ := hP
  have hx := Bd.exec
  have hby := Bd.bytes
  have hml : c.maxLocals = 3 := hml0
  have hown : s.vm.findClass "jdk/internal/util/Preconditions" = some m.cls := findClass_of_methodNamed Bd.named
  have X0 : Stand p l e ({ frames := 0, cells := 0, slots := 0, locals := 0 } : Room) s m #[(.int (0 : Int32)), (.int (1 : Int32)), .null] below meth c s₁ [] 0 0 := Stand.of_body Bd
  have e0 : s₁.heap = h0 := by rw [← hh, Bd.state]; rfl
  have N0 := Fr.nil n0
  have s0 : Steps p.tables e below (s₁.setTop (entryFrame m #[(.int (0 : Int32)), (.int (1 : Int32)), .null] 3)) (s₁.setTop (mkF m 0 #[.val (.int (0 : Int32)), .val (.int (1 : Int32)), .val .null] [])) := castTop (ef_rmalpc_1_0 m ) (Steps.refl _)
  obtain ⟨A₀, hA₀⟩ : ∃ z, z = (s₁.setTop (entryFrame m #[(.int (0 : Int32)), (.int (1 : Int32)), .null] 3)) := ⟨_, rfl⟩
  rw [← hA₀] at s0
  have s1 : Steps p.tables e below A₀ (s₁.setTop (mkF m 17 #[.val (.int (0 : Int32)), .val (.int (1 : Int32)), .val .null] [(.int (0 : Int32))])) := by
    refine s0.trans ?_
    refine XS.iloadN X0.here hx rfl (hb hby d16_0) rfl ?_
    refine XS.ifNo X0.here hx rfl (hb hby d16_1) rfl ((if0 _ _).trans (flt (by decide)).1) ?_
    refine XS.iloadN X0.here hx rfl (hb hby d16_4) rfl ?_
    refine XS.iloadN X0.here hx rfl (hb hby d16_5) rfl ?_
    refine XS.icmpYes X0.here hx rfl (pc0 := 6) (pc' := 16) rfl (hb hby d16_6) rfl (tlt (by decide)).1 (by decide) (by decide) ?_
    refine XS.iloadN X0.here hx rfl (hb hby d16_16) rfl ?_
    exact Steps.refl _
  subst hA₀
  obtain ⟨fs, hr, hrun, hended, hW, hsame⟩ := X0.leave (v := some (.int (0 : Int32))) (fun h => by rw [Bd.returns] at h; cases h)
  refine ⟨_, _, s1.trans ?_, hrun, hended, _, _, rfl, ?_, ⟨_, rfl⟩, hW, hsame.mono (by decide) (by decide)⟩
  · show Steps p.tables e below (s₁.setTop (mkF m 17 #[.val (.int (0 : Int32)), .val (.int (1 : Int32)), .val .null] [(.int (0 : Int32))])) _
    exact retI X0 hx Bd.returns (hb hby d16_17) hr
  · show Qalpc_1_0 Z  h0 n0 _ s₁.heap _
    rw [e0]
    exact ⟨rfl, N0, rfl⟩
theorem d15_0 : decode jdk_31_method_17_code 0 = .ok (.iload_n 0, 1) := by decide +kernel
theorem d15_1 : decode jdk_31_method_17_code 1 = .ok (.iload_n 1, 1) := by decide +kernel
theorem d15_2 : decode jdk_31_method_17_code 2 = .ok (.aconst_null, 1) := by decide +kernel
theorem d15_3 : decode jdk_31_method_17_code 3 = .ok (.invokestatic 105, 3) := by decide +kernel
theorem d15_6 : decode jdk_31_method_17_code 6 = .ok (.ireturn, 1) := by decide +kernel
theorem pn_15 : plainName "java/util/Objects" = true := by first | (simp [plainName, overriddenIn]; done) | decide +kernel
theorem pd_rmalci_1_0_0 : parseMethodDescriptor "(IILjava/util/function/BiFunction;)I" = some ⟨[.int, .int, (.object "java/util/function/BiFunction")], some .int⟩ := by decide +kernel
theorem ef_rmalci_1_0 (m : MethodId)  : entryFrame m #[(.int (0 : Int32)), (.int (1 : Int32))] 2 = mkF m 0 #[.val (.int (0 : Int32)), .val (.int (1 : Int32))] [] := by first | (simp [entryFrame, mkF, argsToLocals, Value.category]; done) | rfl
def Qalci_1_0 (Z : State)  (h0 : Heap) (n0 : Nat) (v : Option Value) (h : Heap) (L : List Loc) : Prop := v = some (.int (0 : Int32)) ∧ Fr n0 L ∧ h = h0
set_option maxRecDepth 65536 in
set_option maxHeartbeats 40000000 in
theorem rmalci_1_0 (l : Launch) (Z : State) (a0 : Array Value) (hw : ∀ d ∈ tables_1, d.before a0 Z = true) (ws : List Jvm.Cond)  (h0 : Heap) (n0 : Nat) (O0 : Old Z n0 h0) :
    MetFree l nm10 (head1 (Jvm.Cond.code nm10 jdk_31_method_17_code 2 (some .int) :: ws) ({ frames := 1, cells := 0, slots := 0, locals := 14 } : Room)) (fun a U => a = #[(.int (0 : Int32)), (.int (1 : Int32))] ∧ Z.Warmed39 U.vm ∧ U.heap = h0) (fun _ _ _ _ _ => True) (fun _ U o U' => ∃ v L, o = .returned v ∧ Qalci_1_0 Z  h0 n0 v U'.heap L ∧ FrameEnd U o U' L ({ frames := 1, cells := 0, slots := 0, locals := 14 } : Room).cells ({ frames := 1, cells := 0, slots := 0, locals := 14 } : Room).slots) := by
  refine MetFree.of_bodySF (plainFor_of_name pn_15) hisR ?_
  intro p e s m args below meth c s₁ Bd hml0 hP hK
  obtain ⟨rfl, hZ, hh⟩ := hP
  have hx := Bd.exec
  have hby := Bd.bytes
  have hml : c.maxLocals = 2 := hml0
  have hown : s.vm.findClass "java/util/Objects" = some m.cls := findClass_of_methodNamed Bd.named
  have X0 : Stand p l e ({ frames := 1, cells := 0, slots := 0, locals := 14 } : Room) s m #[(.int (0 : Int32)), (.int (1 : Int32))] below meth c s₁ [] 0 0 := Stand.of_body Bd
  have e0 : s₁.heap = h0 := by rw [← hh, Bd.state]; rfl
  have N0 := Fr.nil n0
  have s0 : Steps p.tables e below (s₁.setTop (entryFrame m #[(.int (0 : Int32)), (.int (1 : Int32))] 2)) (s₁.setTop (mkF m 0 #[.val (.int (0 : Int32)), .val (.int (1 : Int32))] [])) := castTop (ef_rmalci_1_0 m ) (Steps.refl _)
  obtain ⟨A₀, hA₀⟩ : ∃ z, z = (s₁.setTop (entryFrame m #[(.int (0 : Int32)), (.int (1 : Int32))] 2)) := ⟨_, rfl⟩
  rw [← hA₀] at s0
  obtain ⟨T1, L1, X1, e1, N1, st1⟩ := own_callP X0 hx hZ hown (wk113 hw) (wk114 hw) (wk115 hw) (wk116 hw) (by decide) (rmalpc_1_0 l Z a0 hw []  h0 n0 O0 ) e0 N0 (W := 0) (by decide) (by decide) (by decide) (by decide) (g := (mkF m 3 #[.val (.int (0 : Int32)), .val (.int (1 : Int32))] [.null, (.int (1 : Int32)), (.int (0 : Int32))])) rfl (by rw [hml]; rfl) (argsL := [(.int (0 : Int32)), (.int (1 : Int32)), .null]) (rest := []) (lenOf pd_rmalci_1_0_0 rfl) rfl (by show 2 * 0 + _ ≤ _; exact Nat.le_of_eq rfl) (hb hby d15_3)
  have s2 : Steps p.tables e below A₀ (T1.setTop (mkF m 6 #[.val (.int (0 : Int32)), .val (.int (1 : Int32))] [(.int (0 : Int32))])) := by
    refine s0.trans ?_
    refine XS.iloadN X0.here hx rfl (hb hby d15_0) rfl ?_
    refine XS.iloadN X0.here hx rfl (hb hby d15_1) rfl ?_
    refine XS.aconstNull X0.here hx rfl (hb hby d15_2) ?_
    refine st1 _ ?_
    exact Steps.refl _
  subst hA₀
  obtain ⟨fs, hr, hrun, hended, hW, hsame⟩ := X1.leave (v := some (.int (0 : Int32))) (fun h => by rw [Bd.returns] at h; cases h)
  refine ⟨_, _, s2.trans ?_, hrun, hended, _, _, rfl, ?_, ⟨_, rfl⟩, hW, hsame.mono (by decide) (by decide)⟩
  · show Steps p.tables e below (T1.setTop (mkF m 6 #[.val (.int (0 : Int32)), .val (.int (1 : Int32))] [(.int (0 : Int32))])) _
    exact retI X1 hx Bd.returns (hb hby d15_6) hr
  · show Qalci_1_0 Z  h0 n0 _ T1.heap _
    rw [e1]
    exact ⟨rfl, N1, rfl⟩
theorem d17_0 : decode jdk_38_method_18_code 0 = .ok (.aload_n 0, 1) := by decide +kernel
theorem d17_1 : decode jdk_38_method_18_code 1 = .ok (.getfield 9, 3) := by decide +kernel
theorem d17_4 : decode jdk_38_method_18_code 4 = .ok (.iload_n 1, 1) := by decide +kernel
theorem d17_5 : decode jdk_38_method_18_code 5 = .ok (.aaload, 1) := by decide +kernel
theorem d17_6 : decode jdk_38_method_18_code 6 = .ok (.areturn, 1) := by decide +kernel
theorem ef_rmalel_1_0 (m : MethodId) (p0 : Addr) : entryFrame m #[(.ref p0), (.int (0 : Int32))] 2 = mkF m 0 #[.val (.ref p0), .val (.int (0 : Int32))] [] := by first | (simp [entryFrame, mkF, argsToLocals, Value.category]; done) | rfl
def Qalel_1_0 (Z : State) (p0 : Addr) (ed : Addr) (x0 : Addr) (ka : ClassId) (h0 : Heap) (n0 : Nat) (v : Option Value) (h : Heap) (L : List Loc) : Prop := v = some (.ref x0) ∧ Fr n0 L ∧ h = h0
set_option maxRecDepth 65536 in
set_option maxHeartbeats 40000000 in
theorem rmalel_1_0 (l : Launch) (Z : State) (a0 : Array Value) (hw : ∀ d ∈ tables_1, d.before a0 Z = true) (ws : List Jvm.Cond) (p0 : Addr) (ed : Addr) (x0 : Addr) (ka : ClassId) (h0 : Heap) (n0 : Nat) (O0 : Old Z n0 h0) (F0_ : Exa Z h0 p0 "java/util/ArrayList") (F1_ : Fld Z h0 p0 "java/util/ArrayList" "elementData" "[Ljava/lang/Object;" (.ref ed)) (F2_ : Arv Z h0 ed ka (.object "java/lang/Object") (10 : Int32) [(.ref x0), .null, .null, .null, .null, .null, .null, .null, .null, .null] .null) :
    MetFree l nm11 (head1 (Jvm.Cond.code nm11 jdk_38_method_18_code 2 (some (.object "java/lang/Object")) :: ws) ({ frames := 0, cells := 0, slots := 0, locals := 0 } : Room)) (fun a U => a = #[(.ref p0), (.int (0 : Int32))] ∧ Z.Warmed39 U.vm ∧ U.heap = h0) (fun _ _ _ _ _ => True) (fun _ U o U' => ∃ v L, o = .returned v ∧ Qalel_1_0 Z p0 ed x0 ka h0 n0 v U'.heap L ∧ FrameEnd U o U' L ({ frames := 0, cells := 0, slots := 0, locals := 0 } : Room).cells ({ frames := 0, cells := 0, slots := 0, locals := 0 } : Room).slots) := by
  refine MetFree.of_bodySF (plainFor_of_name pn_1) hisR ?_
  intro p e s m args below meth c s₁ Bd hml0 hP hK
  obtain ⟨rfl, hZ, hh⟩ := hP
  have hx := Bd.exec
  have hby := Bd.bytes
  have hml : c.maxLocals = 2 := hml0
  have hown : s.vm.findClass "java/util/ArrayList" = some m.cls := findClass_of_methodNamed Bd.named
  have X0 : Stand p l e ({ frames := 0, cells := 0, slots := 0, locals := 0 } : Room) s m #[(.ref p0), (.int (0 : Int32))] below meth c s₁ [] 0 0 := Stand.of_body Bd
  have e0 : s₁.heap = h0 := by rw [← hh, Bd.state]; rfl
  have N0 := Fr.nil n0
  have s0 : Steps p.tables e below (s₁.setTop (entryFrame m #[(.ref p0), (.int (0 : Int32))] 2)) (s₁.setTop (mkF m 0 #[.val (.ref p0), .val (.int (0 : Int32))] [])) := castTop (ef_rmalel_1_0 m p0) (Steps.refl _)
  obtain ⟨A₀, hA₀⟩ : ∃ z, z = (s₁.setTop (entryFrame m #[(.ref p0), (.int (0 : Int32))] 2)) := ⟨_, rfl⟩
  rw [← hA₀] at s0
  obtain ⟨T1, X1, e1, st1⟩ := getF X0 hx hZ hown (host := "") (Or.inl (hw _ (List.mem_of_getElem? (i := 25) rfl))) Via.refl e0 F1_ (g := (mkF m 1 #[.val (.ref p0), .val (.int (0 : Int32))] [(.ref p0)])) rfl rfl (hb hby d17_1)
  obtain ⟨cla2, Ara2, qa2, Sa2, Za2, Ha2, Ga2⟩ := id F2_
  have hin3 : ¬ ((0 : Int32) < 0 ∨ cla2.slots.size ≤ ((0 : Int32)).toNatClampNeg) := inb_of Sa2 ⟨by decide, by decide⟩
  have hat4 : cla2.slots[((0 : Int32)).toNatClampNeg]? = some (.ref x0) := Has.at Ha2 hin3 rfl
  have s5 : Steps p.tables e below A₀ (T1.setTop (mkF m 6 #[.val (.ref p0), .val (.int (0 : Int32))] [(.ref x0)])) := by
    refine s0.trans ?_
    refine XS.aloadN X0.here hx rfl (hb hby d17_0) rfl rfl ?_
    refine st1 _ ?_
    refine XS.iloadN X1.here hx rfl (hb hby d17_4) rfl ?_
    refine X1.aaload hx (j := (0 : Int32)) (v := (.ref x0)) (by rw [e1]; exact Ara2.1) (State.isArrayOf_alike hZ.alike Ara2.2.1) rfl Ara2.2.2 hin3 hat4 (g := (mkF m 5 #[.val (.ref p0), .val (.int (0 : Int32))] [(.int (0 : Int32)), (.ref ed)])) rfl rfl (hb hby d17_5) _ ?_
    exact Steps.refl _
  subst hA₀
  obtain ⟨fs, hr, hrun, hended, hW, hsame⟩ := X1.leave (v := some (.ref x0)) (fun h => by rw [Bd.returns] at h; cases h)
  refine ⟨_, _, s5.trans ?_, hrun, hended, _, _, rfl, ?_, ⟨_, rfl⟩, hW, hsame.mono (by decide) (by decide)⟩
  · show Steps p.tables e below (T1.setTop (mkF m 6 #[.val (.ref p0), .val (.int (0 : Int32))] [(.ref x0)])) _
    jvm_step X1.here [X1.here.top, hx, (hb hby d17_6), X1.method', Bd.returns, Value.isRef, FieldType.isReference]
    first | (intro acts; rw [hr _ acts rfl rfl rfl]) | rw [hr _ _ rfl rfl rfl]
    exact Steps.refl _
  · show Qalel_1_0 Z p0 ed x0 ka h0 n0 _ T1.heap _
    rw [e1]
    exact ⟨rfl, N0, rfl⟩
theorem d14_0 : decode jdk_38_method_20_code 0 = .ok (.iload_n 1, 1) := by decide +kernel
theorem d14_1 : decode jdk_38_method_20_code 1 = .ok (.aload_n 0, 1) := by decide +kernel
theorem d14_2 : decode jdk_38_method_20_code 2 = .ok (.getfield 48, 3) := by decide +kernel
theorem d14_5 : decode jdk_38_method_20_code 5 = .ok (.invokestatic 118, 3) := by decide +kernel
theorem d14_8 : decode jdk_38_method_20_code 8 = .ok (.pop, 1) := by decide +kernel
theorem d14_9 : decode jdk_38_method_20_code 9 = .ok (.aload_n 0, 1) := by decide +kernel
theorem d14_10 : decode jdk_38_method_20_code 10 = .ok (.iload_n 1, 1) := by decide +kernel
theorem d14_11 : decode jdk_38_method_20_code 11 = .ok (.invokevirtual 123, 3) := by decide +kernel
theorem d14_14 : decode jdk_38_method_20_code 14 = .ok (.areturn, 1) := by decide +kernel
theorem pd_rmalgt_1_0_0 : parseMethodDescriptor "(II)I" = some ⟨[.int, .int], some .int⟩ := by decide +kernel
theorem pd_rmalgt_1_0_1 : parseMethodDescriptor "(I)Ljava/lang/Object;" = some ⟨[.int], some (.object "java/lang/Object")⟩ := by decide +kernel
theorem ef_rmalgt_1_0 (m : MethodId) (p0 : Addr) : entryFrame m #[(.ref p0), (.int (0 : Int32))] 2 = mkF m 0 #[.val (.ref p0), .val (.int (0 : Int32))] [] := by first | (simp [entryFrame, mkF, argsToLocals, Value.category]; done) | rfl
def Qalgt_1_0 (Z : State) (p0 : Addr) (ed : Addr) (x0 : Addr) (ka : ClassId) (h0 : Heap) (n0 : Nat) (v : Option Value) (h : Heap) (L : List Loc) : Prop := v = some (.ref x0) ∧ Fr n0 L ∧ h = h0
set_option maxRecDepth 65536 in
set_option maxHeartbeats 40000000 in
theorem rmalgt_1_0 (l : Launch) (Z : State) (a0 : Array Value) (hw : ∀ d ∈ tables_1, d.before a0 Z = true) (ws : List Jvm.Cond) (p0 : Addr) (ed : Addr) (x0 : Addr) (ka : ClassId) (h0 : Heap) (n0 : Nat) (O0 : Old Z n0 h0) (F0_ : Exa Z h0 p0 "java/util/ArrayList") (F1_ : Fld Z h0 p0 "java/util/ArrayList" "size" "I" (.int (1 : Int32))) (F2_ : Fld Z h0 p0 "java/util/ArrayList" "elementData" "[Ljava/lang/Object;" (.ref ed)) (F3_ : Arv Z h0 ed ka (.object "java/lang/Object") (10 : Int32) [(.ref x0), .null, .null, .null, .null, .null, .null, .null, .null, .null] .null) :
    MetFree l nm12 (head1 (Jvm.Cond.code nm12 jdk_38_method_20_code 2 (some (.object "java/lang/Object")) :: ws) ({ frames := 2, cells := 0, slots := 0, locals := 27 } : Room)) (fun a U => a = #[(.ref p0), (.int (0 : Int32))] ∧ Z.Warmed39 U.vm ∧ U.heap = h0) (fun _ _ _ _ _ => True) (fun _ U o U' => ∃ v L, o = .returned v ∧ Qalgt_1_0 Z p0 ed x0 ka h0 n0 v U'.heap L ∧ FrameEnd U o U' L ({ frames := 2, cells := 0, slots := 0, locals := 27 } : Room).cells ({ frames := 2, cells := 0, slots := 0, locals := 27 } : Room).slots) := by
  refine MetFree.of_bodySF (plainFor_of_name pn_1) hisR ?_
  intro p e s m args below meth c s₁ Bd hml0 hP hK
  obtain ⟨rfl, hZ, hh⟩ := hP
  have hx := Bd.exec
  have hby := Bd.bytes
  have hml : c.maxLocals = 2 := hml0
  have hown : s.vm.findClass "java/util/ArrayList" = some m.cls := findClass_of_methodNamed Bd.named
  have X0 : Stand p l e ({ frames := 2, cells := 0, slots := 0, locals := 27 } : Room) s m #[(.ref p0), (.int (0 : Int32))] below meth c s₁ [] 0 0 := Stand.of_body Bd
  have e0 : s₁.heap = h0 := by rw [← hh, Bd.state]; rfl
  have N0 := Fr.nil n0
  have s0 : Steps p.tables e below (s₁.setTop (entryFrame m #[(.ref p0), (.int (0 : Int32))] 2)) (s₁.setTop (mkF m 0 #[.val (.ref p0), .val (.int (0 : Int32))] [])) := castTop (ef_rmalgt_1_0 m p0) (Steps.refl _)
  obtain ⟨A₀, hA₀⟩ : ∃ z, z = (s₁.setTop (entryFrame m #[(.ref p0), (.int (0 : Int32))] 2)) := ⟨_, rfl⟩
  rw [← hA₀] at s0
  obtain ⟨T1, X1, e1, st1⟩ := getF X0 hx hZ hown (host := "") (Or.inl (hw _ (List.mem_of_getElem? (i := 40) rfl))) Via.refl e0 F1_ (g := (mkF m 2 #[.val (.ref p0), .val (.int (0 : Int32))] [(.ref p0), (.int (0 : Int32))])) rfl rfl (hb hby d14_2)
  obtain ⟨T2, L2, X2, e2, N2, st2⟩ := own_callP X1 hx hZ hown (wk109 hw) (wk110 hw) (wk111 hw) (wk112 hw) (by decide) (rmalci_1_0 l Z a0 hw []  h0 n0 O0 ) e1 N0 (W := 0) (by decide) (by decide) (by decide) (by decide) (g := (mkF m 5 #[.val (.ref p0), .val (.int (0 : Int32))] [(.int (1 : Int32)), (.int (0 : Int32))])) rfl (by rw [hml]; rfl) (argsL := [(.int (0 : Int32)), (.int (1 : Int32))]) (rest := []) (lenOf pd_rmalgt_1_0_0 rfl) rfl (by show 2 * 0 + _ ≤ _; exact Nat.le_of_eq rfl) (hb hby d14_5)
  obtain ⟨T3, L3, X3, e3, N3, st3⟩ := own_callVP X2 hx hZ hown (wk117 hw) (wk118 hw) (wk120 hw) (wk119 hw) (by decide) (wk3 hw) (wk121 hw) (rmalel_1_0 l Z a0 hw [] p0 ed x0 ka h0 n0 O0 F0_ F2_ F3_) e2 N2 (W := 0) (by decide) (by decide) (by decide) (by decide) F0_ (g := (mkF m 11 #[.val (.ref p0), .val (.int (0 : Int32))] [(.int (0 : Int32)), (.ref p0)])) rfl (by rw [hml]; rfl) (argsL := [(.int (0 : Int32))]) (rest := []) (lenOf pd_rmalgt_1_0_1 rfl) rfl (by show 2 * 0 + _ ≤ _; exact Nat.le_of_eq rfl) (hb hby d14_11)
  have s4 : Steps p.tables e below A₀ (T3.setTop (mkF m 14 #[.val (.ref p0), .val (.int (0 : Int32))] [(.ref x0)])) := by
    refine s0.trans ?_
    refine XS.iloadN X0.here hx rfl (hb hby d14_0) rfl ?_
    refine XS.aloadN X0.here hx rfl (hb hby d14_1) rfl rfl ?_
    refine st1 _ ?_
    refine st2 _ ?_
    refine XS.pop X2.here hx rfl (hb hby d14_8) rfl rfl ?_
    refine XS.aloadN X2.here hx rfl (hb hby d14_9) rfl rfl ?_
    refine XS.iloadN X2.here hx rfl (hb hby d14_10) rfl ?_
    refine st3 _ ?_
    exact Steps.refl _
  subst hA₀
  obtain ⟨fs, hr, hrun, hended, hW, hsame⟩ := X3.leave (v := some (.ref x0)) (fun h => by rw [Bd.returns] at h; cases h)
  refine ⟨_, _, s4.trans ?_, hrun, hended, _, _, rfl, ?_, ⟨_, rfl⟩, hW, hsame.mono (by decide) (by decide)⟩
  · show Steps p.tables e below (T3.setTop (mkF m 14 #[.val (.ref p0), .val (.int (0 : Int32))] [(.ref x0)])) _
    jvm_step X3.here [X3.here.top, hx, (hb hby d14_14), X3.method', Bd.returns, Value.isRef, FieldType.isReference]
    first | (intro acts; rw [hr _ acts rfl rfl rfl]) | rw [hr _ _ rfl rfl rfl]
    exact Steps.refl _
  · show Qalgt_1_0 Z p0 ed x0 ka h0 n0 _ T3.heap _
    rw [e3]
    exact ⟨rfl, N3, rfl⟩
theorem ef_rmalpc_2_0 (m : MethodId)  : entryFrame m #[(.int (0 : Int32)), (.int (2 : Int32)), .null] 3 = mkF m 0 #[.val (.int (0 : Int32)), .val (.int (2 : Int32)), .val .null] [] := by first | (simp [entryFrame, mkF, argsToLocals, Value.category]; done) | rfl
def Qalpc_2_0 (Z : State)  (h0 : Heap) (n0 : Nat) (v : Option Value) (h : Heap) (L : List Loc) : Prop := v = some (.int (0 : Int32)) ∧ Fr n0 L ∧ h = h0
set_option maxRecDepth 65536 in
set_option maxHeartbeats 40000000 in
theorem rmalpc_2_0 (l : Launch) (Z : State) (a0 : Array Value) (hw : ∀ d ∈ tables_1, d.before a0 Z = true) (ws : List Jvm.Cond)  (h0 : Heap) (n0 : Nat) (O0 : Old Z n0 h0) :
    MetFree l nm9 (head1 (Jvm.Cond.code nm9 jdk_41_method_11_code 3 (some .int) :: ws) ({ frames := 0, cells := 0, slots := 0, locals := 0 } : Room)) (fun a U => a = #[(.int (0 : Int32)), (.int (2 : Int32)), .null] ∧ Z.Warmed39 U.vm ∧ U.heap = h0) (fun _ _ _ _ _ => True) (fun _ U o U' => ∃ v L, o = .returned v ∧ Qalpc_2_0 Z  h0 n0 v U'.heap L ∧ FrameEnd U o U' L ({ frames := 0, cells := 0, slots := 0, locals := 0 } : Room).cells ({ frames := 0, cells := 0, slots := 0, locals := 0 } : Room).slots) := by
  refine MetFree.of_bodySF (plainFor_of_name pn_16) hisR ?_
  intro p e s m args below meth c s₁ Bd hml0 hP hK
  obtain ⟨rfl, hZ, hh⟩ := hP
  have hx := Bd.exec
  have hby := Bd.bytes
  have hml : c.maxLocals = 3 := hml0
  have hown : s.vm.findClass "jdk/internal/util/Preconditions" = some m.cls := findClass_of_methodNamed Bd.named
  have X0 : Stand p l e ({ frames := 0, cells := 0, slots := 0, locals := 0 } : Room) s m #[(.int (0 : Int32)), (.int (2 : Int32)), .null] below meth c s₁ [] 0 0 := Stand.of_body Bd
  have e0 : s₁.heap = h0 := by rw [← hh, Bd.state]; rfl
  have N0 := Fr.nil n0
  have s0 : Steps p.tables e below (s₁.setTop (entryFrame m #[(.int (0 : Int32)), (.int (2 : Int32)), .null] 3)) (s₁.setTop (mkF m 0 #[.val (.int (0 : Int32)), .val (.int (2 : Int32)), .val .null] [])) := castTop (ef_rmalpc_2_0 m ) (Steps.refl _)
  obtain ⟨A₀, hA₀⟩ : ∃ z, z = (s₁.setTop (entryFrame m #[(.int (0 : Int32)), (.int (2 : Int32)), .null] 3)) := ⟨_, rfl⟩
  rw [← hA₀] at s0
  have s1 : Steps p.tables e below A₀ (s₁.setTop (mkF m 17 #[.val (.int (0 : Int32)), .val (.int (2 : Int32)), .val .null] [(.int (0 : Int32))])) := by
    refine s0.trans ?_
    refine XS.iloadN X0.here hx rfl (hb hby d16_0) rfl ?_
    refine XS.ifNo X0.here hx rfl (hb hby d16_1) rfl ((if0 _ _).trans (flt (by decide)).1) ?_
    refine XS.iloadN X0.here hx rfl (hb hby d16_4) rfl ?_
    refine XS.iloadN X0.here hx rfl (hb hby d16_5) rfl ?_
    refine XS.icmpYes X0.here hx rfl (pc0 := 6) (pc' := 16) rfl (hb hby d16_6) rfl (tlt (by decide)).1 (by decide) (by decide) ?_
    refine XS.iloadN X0.here hx rfl (hb hby d16_16) rfl ?_
    exact Steps.refl _
  subst hA₀
  obtain ⟨fs, hr, hrun, hended, hW, hsame⟩ := X0.leave (v := some (.int (0 : Int32))) (fun h => by rw [Bd.returns] at h; cases h)
  refine ⟨_, _, s1.trans ?_, hrun, hended, _, _, rfl, ?_, ⟨_, rfl⟩, hW, hsame.mono (by decide) (by decide)⟩
  · show Steps p.tables e below (s₁.setTop (mkF m 17 #[.val (.int (0 : Int32)), .val (.int (2 : Int32)), .val .null] [(.int (0 : Int32))])) _
    exact retI X0 hx Bd.returns (hb hby d16_17) hr
  · show Qalpc_2_0 Z  h0 n0 _ s₁.heap _
    rw [e0]
    exact ⟨rfl, N0, rfl⟩
theorem pd_rmalci_2_0_0 : parseMethodDescriptor "(IILjava/util/function/BiFunction;)I" = some ⟨[.int, .int, (.object "java/util/function/BiFunction")], some .int⟩ := by decide +kernel
theorem ef_rmalci_2_0 (m : MethodId)  : entryFrame m #[(.int (0 : Int32)), (.int (2 : Int32))] 2 = mkF m 0 #[.val (.int (0 : Int32)), .val (.int (2 : Int32))] [] := by first | (simp [entryFrame, mkF, argsToLocals, Value.category]; done) | rfl
def Qalci_2_0 (Z : State)  (h0 : Heap) (n0 : Nat) (v : Option Value) (h : Heap) (L : List Loc) : Prop := v = some (.int (0 : Int32)) ∧ Fr n0 L ∧ h = h0
set_option maxRecDepth 65536 in
set_option maxHeartbeats 40000000 in
theorem rmalci_2_0 (l : Launch) (Z : State) (a0 : Array Value) (hw : ∀ d ∈ tables_1, d.before a0 Z = true) (ws : List Jvm.Cond)  (h0 : Heap) (n0 : Nat) (O0 : Old Z n0 h0) :
    MetFree l nm10 (head1 (Jvm.Cond.code nm10 jdk_31_method_17_code 2 (some .int) :: ws) ({ frames := 1, cells := 0, slots := 0, locals := 14 } : Room)) (fun a U => a = #[(.int (0 : Int32)), (.int (2 : Int32))] ∧ Z.Warmed39 U.vm ∧ U.heap = h0) (fun _ _ _ _ _ => True) (fun _ U o U' => ∃ v L, o = .returned v ∧ Qalci_2_0 Z  h0 n0 v U'.heap L ∧ FrameEnd U o U' L ({ frames := 1, cells := 0, slots := 0, locals := 14 } : Room).cells ({ frames := 1, cells := 0, slots := 0, locals := 14 } : Room).slots) := by
  refine MetFree.of_bodySF (plainFor_of_name pn_15) hisR ?_
  intro p e s m args below meth c s₁ Bd hml0 hP hK
  obtain ⟨rfl, hZ, hh⟩ := hP
  have hx := Bd.exec
  have hby := Bd.bytes
  have hml : c.maxLocals = 2 := hml0
  have hown : s.vm.findClass "java/util/Objects" = some m.cls := findClass_of_methodNamed Bd.named
  have X0 : Stand p l e ({ frames := 1, cells := 0, slots := 0, locals := 14 } : Room) s m #[(.int (0 : Int32)), (.int (2 : Int32))] below meth c s₁ [] 0 0 := Stand.of_body Bd
  have e0 : s₁.heap = h0 := by rw [← hh, Bd.state]; rfl
  have N0 := Fr.nil n0
  have s0 : Steps p.tables e below (s₁.setTop (entryFrame m #[(.int (0 : Int32)), (.int (2 : Int32))] 2)) (s₁.setTop (mkF m 0 #[.val (.int (0 : Int32)), .val (.int (2 : Int32))] [])) := castTop (ef_rmalci_2_0 m ) (Steps.refl _)
  obtain ⟨A₀, hA₀⟩ : ∃ z, z = (s₁.setTop (entryFrame m #[(.int (0 : Int32)), (.int (2 : Int32))] 2)) := ⟨_, rfl⟩
  rw [← hA₀] at s0
  obtain ⟨T1, L1, X1, e1, N1, st1⟩ := own_callP X0 hx hZ hown (wk113 hw) (wk114 hw) (wk115 hw) (wk116 hw) (by decide) (rmalpc_2_0 l Z a0 hw []  h0 n0 O0 ) e0 N0 (W := 0) (by decide) (by decide) (by decide) (by decide) (g := (mkF m 3 #[.val (.int (0 : Int32)), .val (.int (2 : Int32))] [.null, (.int (2 : Int32)), (.int (0 : Int32))])) rfl (by rw [hml]; rfl) (argsL := [(.int (0 : Int32)), (.int (2 : Int32)), .null]) (rest := []) (lenOf pd_rmalci_2_0_0 rfl) rfl (by show 2 * 0 + _ ≤ _; exact Nat.le_of_eq rfl) (hb hby d15_3)
  have s2 : Steps p.tables e below A₀ (T1.setTop (mkF m 6 #[.val (.int (0 : Int32)), .val (.int (2 : Int32))] [(.int (0 : Int32))])) := by
    refine s0.trans ?_
    refine XS.iloadN X0.here hx rfl (hb hby d15_0) rfl ?_
    refine XS.iloadN X0.here hx rfl (hb hby d15_1) rfl ?_
    refine XS.aconstNull X0.here hx rfl (hb hby d15_2) ?_
    refine st1 _ ?_
    exact Steps.refl _
  subst hA₀
  obtain ⟨fs, hr, hrun, hended, hW, hsame⟩ := X1.leave (v := some (.int (0 : Int32))) (fun h => by rw [Bd.returns] at h; cases h)
  refine ⟨_, _, s2.trans ?_, hrun, hended, _, _, rfl, ?_, ⟨_, rfl⟩, hW, hsame.mono (by decide) (by decide)⟩
  · show Steps p.tables e below (T1.setTop (mkF m 6 #[.val (.int (0 : Int32)), .val (.int (2 : Int32))] [(.int (0 : Int32))])) _
    exact retI X1 hx Bd.returns (hb hby d15_6) hr
  · show Qalci_2_0 Z  h0 n0 _ T1.heap _
    rw [e1]
    exact ⟨rfl, N1, rfl⟩
theorem ef_rmalel_2_0 (m : MethodId) (p0 : Addr) : entryFrame m #[(.ref p0), (.int (0 : Int32))] 2 = mkF m 0 #[.val (.ref p0), .val (.int (0 : Int32))] [] := by first | (simp [entryFrame, mkF, argsToLocals, Value.category]; done) | rfl
def Qalel_2_0 (Z : State) (p0 : Addr) (ed : Addr) (x0 : Addr) (x1 : Addr) (ka : ClassId) (h0 : Heap) (n0 : Nat) (v : Option Value) (h : Heap) (L : List Loc) : Prop := v = some (.ref x0) ∧ Fr n0 L ∧ h = h0
set_option maxRecDepth 65536 in
set_option maxHeartbeats 40000000 in
theorem rmalel_2_0 (l : Launch) (Z : State) (a0 : Array Value) (hw : ∀ d ∈ tables_1, d.before a0 Z = true) (ws : List Jvm.Cond) (p0 : Addr) (ed : Addr) (x0 : Addr) (x1 : Addr) (ka : ClassId) (h0 : Heap) (n0 : Nat) (O0 : Old Z n0 h0) (F0_ : Exa Z h0 p0 "java/util/ArrayList") (F1_ : Fld Z h0 p0 "java/util/ArrayList" "elementData" "[Ljava/lang/Object;" (.ref ed)) (F2_ : Arv Z h0 ed ka (.object "java/lang/Object") (10 : Int32) [(.ref x0), (.ref x1), .null, .null, .null, .null, .null, .null, .null, .null] .null) :
    MetFree l nm11 (head1 (Jvm.Cond.code nm11 jdk_38_method_18_code 2 (some (.object "java/lang/Object")) :: ws) ({ frames := 0, cells := 0, slots := 0, locals := 0 } : Room)) (fun a U => a = #[(.ref p0), (.int (0 : Int32))] ∧ Z.Warmed39 U.vm ∧ U.heap = h0) (fun _ _ _ _ _ => True) (fun _ U o U' => ∃ v L, o = .returned v ∧ Qalel_2_0 Z p0 ed x0 x1 ka h0 n0 v U'.heap L ∧ FrameEnd U o U' L ({ frames := 0, cells := 0, slots := 0, locals := 0 } : Room).cells ({ frames := 0, cells := 0, slots := 0, locals := 0 } : Room).slots) := by
  refine MetFree.of_bodySF (plainFor_of_name pn_1) hisR ?_
  intro p e s m args below meth c s₁ Bd hml0 hP hK
  obtain ⟨rfl, hZ, hh⟩ := hP
  have hx := Bd.exec
  have hby := Bd.bytes
  have hml : c.maxLocals = 2 := hml0
  have hown : s.vm.findClass "java/util/ArrayList" = some m.cls := findClass_of_methodNamed Bd.named
  have X0 : Stand p l e ({ frames := 0, cells := 0, slots := 0, locals := 0 } : Room) s m #[(.ref p0), (.int (0 : Int32))] below meth c s₁ [] 0 0 := Stand.of_body Bd
  have e0 : s₁.heap = h0 := by rw [← hh, Bd.state]; rfl
  have N0 := Fr.nil n0
  have s0 : Steps p.tables e below (s₁.setTop (entryFrame m #[(.ref p0), (.int (0 : Int32))] 2)) (s₁.setTop (mkF m 0 #[.val (.ref p0), .val (.int (0 : Int32))] [])) := castTop (ef_rmalel_2_0 m p0) (Steps.refl _)
  obtain ⟨A₀, hA₀⟩ : ∃ z, z = (s₁.setTop (entryFrame m #[(.ref p0), (.int (0 : Int32))] 2)) := ⟨_, rfl⟩
  rw [← hA₀] at s0
  obtain ⟨T1, X1, e1, st1⟩ := getF X0 hx hZ hown (host := "") (Or.inl (hw _ (List.mem_of_getElem? (i := 25) rfl))) Via.refl e0 F1_ (g := (mkF m 1 #[.val (.ref p0), .val (.int (0 : Int32))] [(.ref p0)])) rfl rfl (hb hby d17_1)
  obtain ⟨cla2, Ara2, qa2, Sa2, Za2, Ha2, Ga2⟩ := id F2_
  have hin3 : ¬ ((0 : Int32) < 0 ∨ cla2.slots.size ≤ ((0 : Int32)).toNatClampNeg) := inb_of Sa2 ⟨by decide, by decide⟩
  have hat4 : cla2.slots[((0 : Int32)).toNatClampNeg]? = some (.ref x0) := Has.at Ha2 hin3 rfl
  have s5 : Steps p.tables e below A₀ (T1.setTop (mkF m 6 #[.val (.ref p0), .val (.int (0 : Int32))] [(.ref x0)])) := by
    refine s0.trans ?_
    refine XS.aloadN X0.here hx rfl (hb hby d17_0) rfl rfl ?_
    refine st1 _ ?_
    refine XS.iloadN X1.here hx rfl (hb hby d17_4) rfl ?_
    refine X1.aaload hx (j := (0 : Int32)) (v := (.ref x0)) (by rw [e1]; exact Ara2.1) (State.isArrayOf_alike hZ.alike Ara2.2.1) rfl Ara2.2.2 hin3 hat4 (g := (mkF m 5 #[.val (.ref p0), .val (.int (0 : Int32))] [(.int (0 : Int32)), (.ref ed)])) rfl rfl (hb hby d17_5) _ ?_
    exact Steps.refl _
  subst hA₀
  obtain ⟨fs, hr, hrun, hended, hW, hsame⟩ := X1.leave (v := some (.ref x0)) (fun h => by rw [Bd.returns] at h; cases h)
  refine ⟨_, _, s5.trans ?_, hrun, hended, _, _, rfl, ?_, ⟨_, rfl⟩, hW, hsame.mono (by decide) (by decide)⟩
  · show Steps p.tables e below (T1.setTop (mkF m 6 #[.val (.ref p0), .val (.int (0 : Int32))] [(.ref x0)])) _
    jvm_step X1.here [X1.here.top, hx, (hb hby d17_6), X1.method', Bd.returns, Value.isRef, FieldType.isReference]
    first | (intro acts; rw [hr _ acts rfl rfl rfl]) | rw [hr _ _ rfl rfl rfl]
    exact Steps.refl _
  · show Qalel_2_0 Z p0 ed x0 x1 ka h0 n0 _ T1.heap _
    rw [e1]
    exact ⟨rfl, N0, rfl⟩
theorem pd_rmalgt_2_0_0 : parseMethodDescriptor "(II)I" = some ⟨[.int, .int], some .int⟩ := by decide +kernel
theorem pd_rmalgt_2_0_1 : parseMethodDescriptor "(I)Ljava/lang/Object;" = some ⟨[.int], some (.object "java/lang/Object")⟩ := by decide +kernel
theorem ef_rmalgt_2_0 (m : MethodId) (p0 : Addr) : entryFrame m #[(.ref p0), (.int (0 : Int32))] 2 = mkF m 0 #[.val (.ref p0), .val (.int (0 : Int32))] [] := by first | (simp [entryFrame, mkF, argsToLocals, Value.category]; done) | rfl
def Qalgt_2_0 (Z : State) (p0 : Addr) (ed : Addr) (x0 : Addr) (x1 : Addr) (ka : ClassId) (h0 : Heap) (n0 : Nat) (v : Option Value) (h : Heap) (L : List Loc) : Prop := v = some (.ref x0) ∧ Fr n0 L ∧ h = h0
set_option maxRecDepth 65536 in
set_option maxHeartbeats 40000000 in
theorem rmalgt_2_0 (l : Launch) (Z : State) (a0 : Array Value) (hw : ∀ d ∈ tables_1, d.before a0 Z = true) (ws : List Jvm.Cond) (p0 : Addr) (ed : Addr) (x0 : Addr) (x1 : Addr) (ka : ClassId) (h0 : Heap) (n0 : Nat) (O0 : Old Z n0 h0) (F0_ : Exa Z h0 p0 "java/util/ArrayList") (F1_ : Fld Z h0 p0 "java/util/ArrayList" "size" "I" (.int (2 : Int32))) (F2_ : Fld Z h0 p0 "java/util/ArrayList" "elementData" "[Ljava/lang/Object;" (.ref ed)) (F3_ : Arv Z h0 ed ka (.object "java/lang/Object") (10 : Int32) [(.ref x0), (.ref x1), .null, .null, .null, .null, .null, .null, .null, .null] .null) :
    MetFree l nm12 (head1 (Jvm.Cond.code nm12 jdk_38_method_20_code 2 (some (.object "java/lang/Object")) :: ws) ({ frames := 2, cells := 0, slots := 0, locals := 27 } : Room)) (fun a U => a = #[(.ref p0), (.int (0 : Int32))] ∧ Z.Warmed39 U.vm ∧ U.heap = h0) (fun _ _ _ _ _ => True) (fun _ U o U' => ∃ v L, o = .returned v ∧ Qalgt_2_0 Z p0 ed x0 x1 ka h0 n0 v U'.heap L ∧ FrameEnd U o U' L ({ frames := 2, cells := 0, slots := 0, locals := 27 } : Room).cells ({ frames := 2, cells := 0, slots := 0, locals := 27 } : Room).slots) := by
  refine MetFree.of_bodySF (plainFor_of_name pn_1) hisR ?_
  intro p e s m args below meth c s₁ Bd hml0 hP hK
  obtain ⟨rfl, hZ, hh⟩ := hP
  have hx := Bd.exec
  have hby := Bd.bytes
  have hml : c.maxLocals = 2 := hml0
  have hown : s.vm.findClass "java/util/ArrayList" = some m.cls := findClass_of_methodNamed Bd.named
  have X0 : Stand p l e ({ frames := 2, cells := 0, slots := 0, locals := 27 } : Room) s m #[(.ref p0), (.int (0 : Int32))] below meth c s₁ [] 0 0 := Stand.of_body Bd
  have e0 : s₁.heap = h0 := by rw [← hh, Bd.state]; rfl
  have N0 := Fr.nil n0
  have s0 : Steps p.tables e below (s₁.setTop (entryFrame m #[(.ref p0), (.int (0 : Int32))] 2)) (s₁.setTop (mkF m 0 #[.val (.ref p0), .val (.int (0 : Int32))] [])) := castTop (ef_rmalgt_2_0 m p0) (Steps.refl _)
  obtain ⟨A₀, hA₀⟩ : ∃ z, z = (s₁.setTop (entryFrame m #[(.ref p0), (.int (0 : Int32))] 2)) := ⟨_, rfl⟩
  rw [← hA₀] at s0
  obtain ⟨T1, X1, e1, st1⟩ := getF X0 hx hZ hown (host := "") (Or.inl (hw _ (List.mem_of_getElem? (i := 40) rfl))) Via.refl e0 F1_ (g := (mkF m 2 #[.val (.ref p0), .val (.int (0 : Int32))] [(.ref p0), (.int (0 : Int32))])) rfl rfl (hb hby d14_2)
  obtain ⟨T2, L2, X2, e2, N2, st2⟩ := own_callP X1 hx hZ hown (wk109 hw) (wk110 hw) (wk111 hw) (wk112 hw) (by decide) (rmalci_2_0 l Z a0 hw []  h0 n0 O0 ) e1 N0 (W := 0) (by decide) (by decide) (by decide) (by decide) (g := (mkF m 5 #[.val (.ref p0), .val (.int (0 : Int32))] [(.int (2 : Int32)), (.int (0 : Int32))])) rfl (by rw [hml]; rfl) (argsL := [(.int (0 : Int32)), (.int (2 : Int32))]) (rest := []) (lenOf pd_rmalgt_2_0_0 rfl) rfl (by show 2 * 0 + _ ≤ _; exact Nat.le_of_eq rfl) (hb hby d14_5)
  obtain ⟨T3, L3, X3, e3, N3, st3⟩ := own_callVP X2 hx hZ hown (wk117 hw) (wk118 hw) (wk120 hw) (wk119 hw) (by decide) (wk3 hw) (wk121 hw) (rmalel_2_0 l Z a0 hw [] p0 ed x0 x1 ka h0 n0 O0 F0_ F2_ F3_) e2 N2 (W := 0) (by decide) (by decide) (by decide) (by decide) F0_ (g := (mkF m 11 #[.val (.ref p0), .val (.int (0 : Int32))] [(.int (0 : Int32)), (.ref p0)])) rfl (by rw [hml]; rfl) (argsL := [(.int (0 : Int32))]) (rest := []) (lenOf pd_rmalgt_2_0_1 rfl) rfl (by show 2 * 0 + _ ≤ _; exact Nat.le_of_eq rfl) (hb hby d14_11)
  have s4 : Steps p.tables e below A₀ (T3.setTop (mkF m 14 #[.val (.ref p0), .val (.int (0 : Int32))] [(.ref x0)])) := by
    refine s0.trans ?_
    refine XS.iloadN X0.here hx rfl (hb hby d14_0) rfl ?_
    refine XS.aloadN X0.here hx rfl (hb hby d14_1) rfl rfl ?_
    refine st1 _ ?_
    refine st2 _ ?_
    refine XS.pop X2.here hx rfl (hb hby d14_8) rfl rfl ?_
    refine XS.aloadN X2.here hx rfl (hb hby d14_9) rfl rfl ?_
    refine XS.iloadN X2.here hx rfl (hb hby d14_10) rfl ?_
    refine st3 _ ?_
    exact Steps.refl _
  subst hA₀
  obtain ⟨fs, hr, hrun, hended, hW, hsame⟩ := X3.leave (v := some (.ref x0)) (fun h => by rw [Bd.returns] at h; cases h)
  refine ⟨_, _, s4.trans ?_, hrun, hended, _, _, rfl, ?_, ⟨_, rfl⟩, hW, hsame.mono (by decide) (by decide)⟩
  · show Steps p.tables e below (T3.setTop (mkF m 14 #[.val (.ref p0), .val (.int (0 : Int32))] [(.ref x0)])) _
    jvm_step X3.here [X3.here.top, hx, (hb hby d14_14), X3.method', Bd.returns, Value.isRef, FieldType.isReference]
    first | (intro acts; rw [hr _ acts rfl rfl rfl]) | rw [hr _ _ rfl rfl rfl]
    exact Steps.refl _
  · show Qalgt_2_0 Z p0 ed x0 x1 ka h0 n0 _ T3.heap _
    rw [e3]
    exact ⟨rfl, N3, rfl⟩
theorem ef_rmalpc_2_1 (m : MethodId)  : entryFrame m #[(.int (1 : Int32)), (.int (2 : Int32)), .null] 3 = mkF m 0 #[.val (.int (1 : Int32)), .val (.int (2 : Int32)), .val .null] [] := by first | (simp [entryFrame, mkF, argsToLocals, Value.category]; done) | rfl
def Qalpc_2_1 (Z : State)  (h0 : Heap) (n0 : Nat) (v : Option Value) (h : Heap) (L : List Loc) : Prop := v = some (.int (1 : Int32)) ∧ Fr n0 L ∧ h = h0
set_option maxRecDepth 65536 in
set_option maxHeartbeats 40000000 in
theorem rmalpc_2_1 (l : Launch) (Z : State) (a0 : Array Value) (hw : ∀ d ∈ tables_1, d.before a0 Z = true) (ws : List Jvm.Cond)  (h0 : Heap) (n0 : Nat) (O0 : Old Z n0 h0) :
    MetFree l nm9 (head1 (Jvm.Cond.code nm9 jdk_41_method_11_code 3 (some .int) :: ws) ({ frames := 0, cells := 0, slots := 0, locals := 0 } : Room)) (fun a U => a = #[(.int (1 : Int32)), (.int (2 : Int32)), .null] ∧ Z.Warmed39 U.vm ∧ U.heap = h0) (fun _ _ _ _ _ => True) (fun _ U o U' => ∃ v L, o = .returned v ∧ Qalpc_2_1 Z  h0 n0 v U'.heap L ∧ FrameEnd U o U' L ({ frames := 0, cells := 0, slots := 0, locals := 0 } : Room).cells ({ frames := 0, cells := 0, slots := 0, locals := 0 } : Room).slots) := by
  refine MetFree.of_bodySF (plainFor_of_name pn_16) hisR ?_
  intro p e s m args below meth c s₁ Bd hml0 hP hK
  obtain ⟨rfl, hZ, hh⟩ := hP
  have hx := Bd.exec
  have hby := Bd.bytes
  have hml : c.maxLocals = 3 := hml0
  have hown : s.vm.findClass "jdk/internal/util/Preconditions" = some m.cls := findClass_of_methodNamed Bd.named
  have X0 : Stand p l e ({ frames := 0, cells := 0, slots := 0, locals := 0 } : Room) s m #[(.int (1 : Int32)), (.int (2 : Int32)), .null] below meth c s₁ [] 0 0 := Stand.of_body Bd
  have e0 : s₁.heap = h0 := by rw [← hh, Bd.state]; rfl
  have N0 := Fr.nil n0
  have s0 : Steps p.tables e below (s₁.setTop (entryFrame m #[(.int (1 : Int32)), (.int (2 : Int32)), .null] 3)) (s₁.setTop (mkF m 0 #[.val (.int (1 : Int32)), .val (.int (2 : Int32)), .val .null] [])) := castTop (ef_rmalpc_2_1 m ) (Steps.refl _)
  obtain ⟨A₀, hA₀⟩ : ∃ z, z = (s₁.setTop (entryFrame m #[(.int (1 : Int32)), (.int (2 : Int32)), .null] 3)) := ⟨_, rfl⟩
  rw [← hA₀] at s0
  have s1 : Steps p.tables e below A₀ (s₁.setTop (mkF m 17 #[.val (.int (1 : Int32)), .val (.int (2 : Int32)), .val .null] [(.int (1 : Int32))])) := by
    refine s0.trans ?_
    refine XS.iloadN X0.here hx rfl (hb hby d16_0) rfl ?_
    refine XS.ifNo X0.here hx rfl (hb hby d16_1) rfl ((if0 _ _).trans (flt (by decide)).1) ?_
    refine XS.iloadN X0.here hx rfl (hb hby d16_4) rfl ?_
    refine XS.iloadN X0.here hx rfl (hb hby d16_5) rfl ?_
    refine XS.icmpYes X0.here hx rfl (pc0 := 6) (pc' := 16) rfl (hb hby d16_6) rfl (tlt (by decide)).1 (by decide) (by decide) ?_
    refine XS.iloadN X0.here hx rfl (hb hby d16_16) rfl ?_
    exact Steps.refl _
  subst hA₀
  obtain ⟨fs, hr, hrun, hended, hW, hsame⟩ := X0.leave (v := some (.int (1 : Int32))) (fun h => by rw [Bd.returns] at h; cases h)
  refine ⟨_, _, s1.trans ?_, hrun, hended, _, _, rfl, ?_, ⟨_, rfl⟩, hW, hsame.mono (by decide) (by decide)⟩
  · show Steps p.tables e below (s₁.setTop (mkF m 17 #[.val (.int (1 : Int32)), .val (.int (2 : Int32)), .val .null] [(.int (1 : Int32))])) _
    exact retI X0 hx Bd.returns (hb hby d16_17) hr
  · show Qalpc_2_1 Z  h0 n0 _ s₁.heap _
    rw [e0]
    exact ⟨rfl, N0, rfl⟩
theorem pd_rmalci_2_1_0 : parseMethodDescriptor "(IILjava/util/function/BiFunction;)I" = some ⟨[.int, .int, (.object "java/util/function/BiFunction")], some .int⟩ := by decide +kernel
theorem ef_rmalci_2_1 (m : MethodId)  : entryFrame m #[(.int (1 : Int32)), (.int (2 : Int32))] 2 = mkF m 0 #[.val (.int (1 : Int32)), .val (.int (2 : Int32))] [] := by first | (simp [entryFrame, mkF, argsToLocals, Value.category]; done) | rfl
def Qalci_2_1 (Z : State)  (h0 : Heap) (n0 : Nat) (v : Option Value) (h : Heap) (L : List Loc) : Prop := v = some (.int (1 : Int32)) ∧ Fr n0 L ∧ h = h0
set_option maxRecDepth 65536 in
set_option maxHeartbeats 40000000 in
theorem rmalci_2_1 (l : Launch) (Z : State) (a0 : Array Value) (hw : ∀ d ∈ tables_1, d.before a0 Z = true) (ws : List Jvm.Cond)  (h0 : Heap) (n0 : Nat) (O0 : Old Z n0 h0) :
    MetFree l nm10 (head1 (Jvm.Cond.code nm10 jdk_31_method_17_code 2 (some .int) :: ws) ({ frames := 1, cells := 0, slots := 0, locals := 14 } : Room)) (fun a U => a = #[(.int (1 : Int32)), (.int (2 : Int32))] ∧ Z.Warmed39 U.vm ∧ U.heap = h0) (fun _ _ _ _ _ => True) (fun _ U o U' => ∃ v L, o = .returned v ∧ Qalci_2_1 Z  h0 n0 v U'.heap L ∧ FrameEnd U o U' L ({ frames := 1, cells := 0, slots := 0, locals := 14 } : Room).cells ({ frames := 1, cells := 0, slots := 0, locals := 14 } : Room).slots) := by
  refine MetFree.of_bodySF (plainFor_of_name pn_15) hisR ?_
  intro p e s m args below meth c s₁ Bd hml0 hP hK
  obtain ⟨rfl, hZ, hh⟩ := hP
  have hx := Bd.exec
  have hby := Bd.bytes
  have hml : c.maxLocals = 2 := hml0
  have hown : s.vm.findClass "java/util/Objects" = some m.cls := findClass_of_methodNamed Bd.named
  have X0 : Stand p l e ({ frames := 1, cells := 0, slots := 0, locals := 14 } : Room) s m #[(.int (1 : Int32)), (.int (2 : Int32))] below meth c s₁ [] 0 0 := Stand.of_body Bd
  have e0 : s₁.heap = h0 := by rw [← hh, Bd.state]; rfl
  have N0 := Fr.nil n0
  have s0 : Steps p.tables e below (s₁.setTop (entryFrame m #[(.int (1 : Int32)), (.int (2 : Int32))] 2)) (s₁.setTop (mkF m 0 #[.val (.int (1 : Int32)), .val (.int (2 : Int32))] [])) := castTop (ef_rmalci_2_1 m ) (Steps.refl _)
  obtain ⟨A₀, hA₀⟩ : ∃ z, z = (s₁.setTop (entryFrame m #[(.int (1 : Int32)), (.int (2 : Int32))] 2)) := ⟨_, rfl⟩
  rw [← hA₀] at s0
  obtain ⟨T1, L1, X1, e1, N1, st1⟩ := own_callP X0 hx hZ hown (wk113 hw) (wk114 hw) (wk115 hw) (wk116 hw) (by decide) (rmalpc_2_1 l Z a0 hw []  h0 n0 O0 ) e0 N0 (W := 0) (by decide) (by decide) (by decide) (by decide) (g := (mkF m 3 #[.val (.int (1 : Int32)), .val (.int (2 : Int32))] [.null, (.int (2 : Int32)), (.int (1 : Int32))])) rfl (by rw [hml]; rfl) (argsL := [(.int (1 : Int32)), (.int (2 : Int32)), .null]) (rest := []) (lenOf pd_rmalci_2_1_0 rfl) rfl (by show 2 * 0 + _ ≤ _; exact Nat.le_of_eq rfl) (hb hby d15_3)
  have s2 : Steps p.tables e below A₀ (T1.setTop (mkF m 6 #[.val (.int (1 : Int32)), .val (.int (2 : Int32))] [(.int (1 : Int32))])) := by
    refine s0.trans ?_
    refine XS.iloadN X0.here hx rfl (hb hby d15_0) rfl ?_
    refine XS.iloadN X0.here hx rfl (hb hby d15_1) rfl ?_
    refine XS.aconstNull X0.here hx rfl (hb hby d15_2) ?_
    refine st1 _ ?_
    exact Steps.refl _
  subst hA₀
  obtain ⟨fs, hr, hrun, hended, hW, hsame⟩ := X1.leave (v := some (.int (1 : Int32))) (fun h => by rw [Bd.returns] at h; cases h)
  refine ⟨_, _, s2.trans ?_, hrun, hended, _, _, rfl, ?_, ⟨_, rfl⟩, hW, hsame.mono (by decide) (by decide)⟩
  · show Steps p.tables e below (T1.setTop (mkF m 6 #[.val (.int (1 : Int32)), .val (.int (2 : Int32))] [(.int (1 : Int32))])) _
    exact retI X1 hx Bd.returns (hb hby d15_6) hr
  · show Qalci_2_1 Z  h0 n0 _ T1.heap _
    rw [e1]
    exact ⟨rfl, N1, rfl⟩
theorem ef_rmalel_2_1 (m : MethodId) (p0 : Addr) : entryFrame m #[(.ref p0), (.int (1 : Int32))] 2 = mkF m 0 #[.val (.ref p0), .val (.int (1 : Int32))] [] := by first | (simp [entryFrame, mkF, argsToLocals, Value.category]; done) | rfl
def Qalel_2_1 (Z : State) (p0 : Addr) (ed : Addr) (x0 : Addr) (x1 : Addr) (ka : ClassId) (h0 : Heap) (n0 : Nat) (v : Option Value) (h : Heap) (L : List Loc) : Prop := v = some (.ref x1) ∧ Fr n0 L ∧ h = h0
set_option maxRecDepth 65536 in
set_option maxHeartbeats 40000000 in
theorem rmalel_2_1 (l : Launch) (Z : State) (a0 : Array Value) (hw : ∀ d ∈ tables_1, d.before a0 Z = true) (ws : List Jvm.Cond) (p0 : Addr) (ed : Addr) (x0 : Addr) (x1 : Addr) (ka : ClassId) (h0 : Heap) (n0 : Nat) (O0 : Old Z n0 h0) (F0_ : Exa Z h0 p0 "java/util/ArrayList") (F1_ : Fld Z h0 p0 "java/util/ArrayList" "elementData" "[Ljava/lang/Object;" (.ref ed)) (F2_ : Arv Z h0 ed ka (.object "java/lang/Object") (10 : Int32) [(.ref x0), (.ref x1), .null, .null, .null, .null, .null, .null, .null, .null] .null) :
    MetFree l nm11 (head1 (Jvm.Cond.code nm11 jdk_38_method_18_code 2 (some (.object "java/lang/Object")) :: ws) ({ frames := 0, cells := 0, slots := 0, locals := 0 } : Room)) (fun a U => a = #[(.ref p0), (.int (1 : Int32))] ∧ Z.Warmed39 U.vm ∧ U.heap = h0) (fun _ _ _ _ _ => True) (fun _ U o U' => ∃ v L, o = .returned v ∧ Qalel_2_1 Z p0 ed x0 x1 ka h0 n0 v U'.heap L ∧ FrameEnd U o U' L ({ frames := 0, cells := 0, slots := 0, locals := 0 } : Room).cells ({ frames := 0, cells := 0, slots := 0, locals := 0 } : Room).slots) := by
  refine MetFree.of_bodySF (plainFor_of_name pn_1) hisR ?_
  intro p e s m args below meth c s₁ Bd hml0 hP hK
  obtain ⟨rfl, hZ, hh⟩ := hP
  have hx := Bd.exec
  have hby := Bd.bytes
  have hml : c.maxLocals = 2 := hml0
  have hown : s.vm.findClass "java/util/ArrayList" = some m.cls := findClass_of_methodNamed Bd.named
  have X0 : Stand p l e ({ frames := 0, cells := 0, slots := 0, locals := 0 } : Room) s m #[(.ref p0), (.int (1 : Int32))] below meth c s₁ [] 0 0 := Stand.of_body Bd
  have e0 : s₁.heap = h0 := by rw [← hh, Bd.state]; rfl
  have N0 := Fr.nil n0
  have s0 : Steps p.tables e below (s₁.setTop (entryFrame m #[(.ref p0), (.int (1 : Int32))] 2)) (s₁.setTop (mkF m 0 #[.val (.ref p0), .val (.int (1 : Int32))] [])) := castTop (ef_rmalel_2_1 m p0) (Steps.refl _)
  obtain ⟨A₀, hA₀⟩ : ∃ z, z = (s₁.setTop (entryFrame m #[(.ref p0), (.int (1 : Int32))] 2)) := ⟨_, rfl⟩
  rw [← hA₀] at s0
  obtain ⟨T1, X1, e1, st1⟩ := getF X0 hx hZ hown (host := "") (Or.inl (hw _ (List.mem_of_getElem? (i := 25) rfl))) Via.refl e0 F1_ (g := (mkF m 1 #[.val (.ref p0), .val (.int (1 : Int32))] [(.ref p0)])) rfl rfl (hb hby d17_1)
  obtain ⟨cla2, Ara2, qa2, Sa2, Za2, Ha2, Ga2⟩ := id F2_
  have hin3 : ¬ ((1 : Int32) < 0 ∨ cla2.slots.size ≤ ((1 : Int32)).toNatClampNeg) := inb_of Sa2 ⟨by decide, by decide⟩
  have hat4 : cla2.slots[((1 : Int32)).toNatClampNeg]? = some (.ref x1) := Has.at Ha2 hin3 rfl
  have s5 : Steps p.tables e below A₀ (T1.setTop (mkF m 6 #[.val (.ref p0), .val (.int (1 : Int32))] [(.ref x1)])) := by
    refine s0.trans ?_
    refine XS.aloadN X0.here hx rfl (hb hby d17_0) rfl rfl ?_
    refine st1 _ ?_
    refine XS.iloadN X1.here hx rfl (hb hby d17_4) rfl ?_
    refine X1.aaload hx (j := (1 : Int32)) (v := (.ref x1)) (by rw [e1]; exact Ara2.1) (State.isArrayOf_alike hZ.alike Ara2.2.1) rfl Ara2.2.2 hin3 hat4 (g := (mkF m 5 #[.val (.ref p0), .val (.int (1 : Int32))] [(.int (1 : Int32)), (.ref ed)])) rfl rfl (hb hby d17_5) _ ?_
    exact Steps.refl _
  subst hA₀
  obtain ⟨fs, hr, hrun, hended, hW, hsame⟩ := X1.leave (v := some (.ref x1)) (fun h => by rw [Bd.returns] at h; cases h)
  refine ⟨_, _, s5.trans ?_, hrun, hended, _, _, rfl, ?_, ⟨_, rfl⟩, hW, hsame.mono (by decide) (by decide)⟩
  · show Steps p.tables e below (T1.setTop (mkF m 6 #[.val (.ref p0), .val (.int (1 : Int32))] [(.ref x1)])) _
    jvm_step X1.here [X1.here.top, hx, (hb hby d17_6), X1.method', Bd.returns, Value.isRef, FieldType.isReference]
    first | (intro acts; rw [hr _ acts rfl rfl rfl]) | rw [hr _ _ rfl rfl rfl]
    exact Steps.refl _
  · show Qalel_2_1 Z p0 ed x0 x1 ka h0 n0 _ T1.heap _
    rw [e1]
    exact ⟨rfl, N0, rfl⟩
theorem pd_rmalgt_2_1_0 : parseMethodDescriptor "(II)I" = some ⟨[.int, .int], some .int⟩ := by decide +kernel
theorem pd_rmalgt_2_1_1 : parseMethodDescriptor "(I)Ljava/lang/Object;" = some ⟨[.int], some (.object "java/lang/Object")⟩ := by decide +kernel
theorem ef_rmalgt_2_1 (m : MethodId) (p0 : Addr) : entryFrame m #[(.ref p0), (.int (1 : Int32))] 2 = mkF m 0 #[.val (.ref p0), .val (.int (1 : Int32))] [] := by first | (simp [entryFrame, mkF, argsToLocals, Value.category]; done) | rfl
def Qalgt_2_1 (Z : State) (p0 : Addr) (ed : Addr) (x0 : Addr) (x1 : Addr) (ka : ClassId) (h0 : Heap) (n0 : Nat) (v : Option Value) (h : Heap) (L : List Loc) : Prop := v = some (.ref x1) ∧ Fr n0 L ∧ h = h0
set_option maxRecDepth 65536 in
set_option maxHeartbeats 40000000 in
theorem rmalgt_2_1 (l : Launch) (Z : State) (a0 : Array Value) (hw : ∀ d ∈ tables_1, d.before a0 Z = true) (ws : List Jvm.Cond) (p0 : Addr) (ed : Addr) (x0 : Addr) (x1 : Addr) (ka : ClassId) (h0 : Heap) (n0 : Nat) (O0 : Old Z n0 h0) (F0_ : Exa Z h0 p0 "java/util/ArrayList") (F1_ : Fld Z h0 p0 "java/util/ArrayList" "size" "I" (.int (2 : Int32))) (F2_ : Fld Z h0 p0 "java/util/ArrayList" "elementData" "[Ljava/lang/Object;" (.ref ed)) (F3_ : Arv Z h0 ed ka (.object "java/lang/Object") (10 : Int32) [(.ref x0), (.ref x1), .null, .null, .null, .null, .null, .null, .null, .null] .null) :
    MetFree l nm12 (head1 (Jvm.Cond.code nm12 jdk_38_method_20_code 2 (some (.object "java/lang/Object")) :: ws) ({ frames := 2, cells := 0, slots := 0, locals := 27 } : Room)) (fun a U => a = #[(.ref p0), (.int (1 : Int32))] ∧ Z.Warmed39 U.vm ∧ U.heap = h0) (fun _ _ _ _ _ => True) (fun _ U o U' => ∃ v L, o = .returned v ∧ Qalgt_2_1 Z p0 ed x0 x1 ka h0 n0 v U'.heap L ∧ FrameEnd U o U' L ({ frames := 2, cells := 0, slots := 0, locals := 27 } : Room).cells ({ frames := 2, cells := 0, slots := 0, locals := 27 } : Room).slots) := by
  refine MetFree.of_bodySF (plainFor_of_name pn_1) hisR ?_
  intro p e s m args below meth c s₁ Bd hml0 hP hK
  obtain ⟨rfl, hZ, hh⟩ := hP
  have hx := Bd.exec
  have hby := Bd.bytes
  have hml : c.maxLocals = 2 := hml0
  have hown : s.vm.findClass "java/util/ArrayList" = some m.cls := findClass_of_methodNamed Bd.named
  have X0 : Stand p l e ({ frames := 2, cells := 0, slots := 0, locals := 27 } : Room) s m #[(.ref p0), (.int (1 : Int32))] below meth c s₁ [] 0 0 := Stand.of_body Bd
  have e0 : s₁.heap = h0 := by rw [← hh, Bd.state]; rfl
  have N0 := Fr.nil n0
  have s0 : Steps p.tables e below (s₁.setTop (entryFrame m #[(.ref p0), (.int (1 : Int32))] 2)) (s₁.setTop (mkF m 0 #[.val (.ref p0), .val (.int (1 : Int32))] [])) := castTop (ef_rmalgt_2_1 m p0) (Steps.refl _)
  obtain ⟨A₀, hA₀⟩ : ∃ z, z = (s₁.setTop (entryFrame m #[(.ref p0), (.int (1 : Int32))] 2)) := ⟨_, rfl⟩
  rw [← hA₀] at s0
  obtain ⟨T1, X1, e1, st1⟩ := getF X0 hx hZ hown (host := "") (Or.inl (hw _ (List.mem_of_getElem? (i := 40) rfl))) Via.refl e0 F1_ (g := (mkF m 2 #[.val (.ref p0), .val (.int (1 : Int32))] [(.ref p0), (.int (1 : Int32))])) rfl rfl (hb hby d14_2)
  obtain ⟨T2, L2, X2, e2, N2, st2⟩ := own_callP X1 hx hZ hown (wk109 hw) (wk110 hw) (wk111 hw) (wk112 hw) (by decide) (rmalci_2_1 l Z a0 hw []  h0 n0 O0 ) e1 N0 (W := 0) (by decide) (by decide) (by decide) (by decide) (g := (mkF m 5 #[.val (.ref p0), .val (.int (1 : Int32))] [(.int (2 : Int32)), (.int (1 : Int32))])) rfl (by rw [hml]; rfl) (argsL := [(.int (1 : Int32)), (.int (2 : Int32))]) (rest := []) (lenOf pd_rmalgt_2_1_0 rfl) rfl (by show 2 * 0 + _ ≤ _; exact Nat.le_of_eq rfl) (hb hby d14_5)
  obtain ⟨T3, L3, X3, e3, N3, st3⟩ := own_callVP X2 hx hZ hown (wk117 hw) (wk118 hw) (wk120 hw) (wk119 hw) (by decide) (wk3 hw) (wk121 hw) (rmalel_2_1 l Z a0 hw [] p0 ed x0 x1 ka h0 n0 O0 F0_ F2_ F3_) e2 N2 (W := 0) (by decide) (by decide) (by decide) (by decide) F0_ (g := (mkF m 11 #[.val (.ref p0), .val (.int (1 : Int32))] [(.int (1 : Int32)), (.ref p0)])) rfl (by rw [hml]; rfl) (argsL := [(.int (1 : Int32))]) (rest := []) (lenOf pd_rmalgt_2_1_1 rfl) rfl (by show 2 * 0 + _ ≤ _; exact Nat.le_of_eq rfl) (hb hby d14_11)
  have s4 : Steps p.tables e below A₀ (T3.setTop (mkF m 14 #[.val (.ref p0), .val (.int (1 : Int32))] [(.ref x1)])) := by
    refine s0.trans ?_
    refine XS.iloadN X0.here hx rfl (hb hby d14_0) rfl ?_
    refine XS.aloadN X0.here hx rfl (hb hby d14_1) rfl rfl ?_
    refine st1 _ ?_
    refine st2 _ ?_
    refine XS.pop X2.here hx rfl (hb hby d14_8) rfl rfl ?_
    refine XS.aloadN X2.here hx rfl (hb hby d14_9) rfl rfl ?_
    refine XS.iloadN X2.here hx rfl (hb hby d14_10) rfl ?_
    refine st3 _ ?_
    exact Steps.refl _
  subst hA₀
  obtain ⟨fs, hr, hrun, hended, hW, hsame⟩ := X3.leave (v := some (.ref x1)) (fun h => by rw [Bd.returns] at h; cases h)
  refine ⟨_, _, s4.trans ?_, hrun, hended, _, _, rfl, ?_, ⟨_, rfl⟩, hW, hsame.mono (by decide) (by decide)⟩
  · show Steps p.tables e below (T3.setTop (mkF m 14 #[.val (.ref p0), .val (.int (1 : Int32))] [(.ref x1)])) _
    jvm_step X3.here [X3.here.top, hx, (hb hby d14_14), X3.method', Bd.returns, Value.isRef, FieldType.isReference]
    first | (intro acts; rw [hr _ acts rfl rfl rfl]) | rw [hr _ _ rfl rfl rfl]
    exact Steps.refl _
  · show Qalgt_2_1 Z p0 ed x0 x1 ka h0 n0 _ T3.heap _
    rw [e3]
    exact ⟨rfl, N3, rfl⟩
theorem ef_rmalpc_3_0 (m : MethodId)  : entryFrame m #[(.int (0 : Int32)), (.int (3 : Int32)), .null] 3 = mkF m 0 #[.val (.int (0 : Int32)), .val (.int (3 : Int32)), .val .null] [] := by first | (simp [entryFrame, mkF, argsToLocals, Value.category]; done) | rfl
def Qalpc_3_0 (Z : State)  (h0 : Heap) (n0 : Nat) (v : Option Value) (h : Heap) (L : List Loc) : Prop := v = some (.int (0 : Int32)) ∧ Fr n0 L ∧ h = h0
set_option maxRecDepth 65536 in
set_option maxHeartbeats 40000000 in
theorem rmalpc_3_0 (l : Launch) (Z : State) (a0 : Array Value) (hw : ∀ d ∈ tables_1, d.before a0 Z = true) (ws : List Jvm.Cond)  (h0 : Heap) (n0 : Nat) (O0 : Old Z n0 h0) :
    MetFree l nm9 (head1 (Jvm.Cond.code nm9 jdk_41_method_11_code 3 (some .int) :: ws) ({ frames := 0, cells := 0, slots := 0, locals := 0 } : Room)) (fun a U => a = #[(.int (0 : Int32)), (.int (3 : Int32)), .null] ∧ Z.Warmed39 U.vm ∧ U.heap = h0) (fun _ _ _ _ _ => True) (fun _ U o U' => ∃ v L, o = .returned v ∧ Qalpc_3_0 Z  h0 n0 v U'.heap L ∧ FrameEnd U o U' L ({ frames := 0, cells := 0, slots := 0, locals := 0 } : Room).cells ({ frames := 0, cells := 0, slots := 0, locals := 0 } : Room).slots) := by
  refine MetFree.of_bodySF (plainFor_of_name pn_16) hisR ?_
  intro p e s m args below meth c s₁ Bd hml0 hP hK
  obtain ⟨rfl, hZ, hh⟩ := hP
  have hx := Bd.exec
  have hby := Bd.bytes
  have hml : c.maxLocals = 3 := hml0
  have hown : s.vm.findClass "jdk/internal/util/Preconditions" = some m.cls := findClass_of_methodNamed Bd.named
  have X0 : Stand p l e ({ frames := 0, cells := 0, slots := 0, locals := 0 } : Room) s m #[(.int (0 : Int32)), (.int (3 : Int32)), .null] below meth c s₁ [] 0 0 := Stand.of_body Bd
  have e0 : s₁.heap = h0 := by rw [← hh, Bd.state]; rfl
  have N0 := Fr.nil n0
  have s0 : Steps p.tables e below (s₁.setTop (entryFrame m #[(.int (0 : Int32)), (.int (3 : Int32)), .null] 3)) (s₁.setTop (mkF m 0 #[.val (.int (0 : Int32)), .val (.int (3 : Int32)), .val .null] [])) := castTop (ef_rmalpc_3_0 m ) (Steps.refl _)
  obtain ⟨A₀, hA₀⟩ : ∃ z, z = (s₁.setTop (entryFrame m #[(.int (0 : Int32)), (.int (3 : Int32)), .null] 3)) := ⟨_, rfl⟩
  rw [← hA₀] at s0
  have s1 : Steps p.tables e below A₀ (s₁.setTop (mkF m 17 #[.val (.int (0 : Int32)), .val (.int (3 : Int32)), .val .null] [(.int (0 : Int32))])) := by
    refine s0.trans ?_
    refine XS.iloadN X0.here hx rfl (hb hby d16_0) rfl ?_
    refine XS.ifNo X0.here hx rfl (hb hby d16_1) rfl ((if0 _ _).trans (flt (by decide)).1) ?_
    refine XS.iloadN X0.here hx rfl (hb hby d16_4) rfl ?_
    refine XS.iloadN X0.here hx rfl (hb hby d16_5) rfl ?_
    refine XS.icmpYes X0.here hx rfl (pc0 := 6) (pc' := 16) rfl (hb hby d16_6) rfl (tlt (by decide)).1 (by decide) (by decide) ?_
    refine XS.iloadN X0.here hx rfl (hb hby d16_16) rfl ?_
    exact Steps.refl _
  subst hA₀
  obtain ⟨fs, hr, hrun, hended, hW, hsame⟩ := X0.leave (v := some (.int (0 : Int32))) (fun h => by rw [Bd.returns] at h; cases h)
  refine ⟨_, _, s1.trans ?_, hrun, hended, _, _, rfl, ?_, ⟨_, rfl⟩, hW, hsame.mono (by decide) (by decide)⟩
  · show Steps p.tables e below (s₁.setTop (mkF m 17 #[.val (.int (0 : Int32)), .val (.int (3 : Int32)), .val .null] [(.int (0 : Int32))])) _
    exact retI X0 hx Bd.returns (hb hby d16_17) hr
  · show Qalpc_3_0 Z  h0 n0 _ s₁.heap _
    rw [e0]
    exact ⟨rfl, N0, rfl⟩
theorem pd_rmalci_3_0_0 : parseMethodDescriptor "(IILjava/util/function/BiFunction;)I" = some ⟨[.int, .int, (.object "java/util/function/BiFunction")], some .int⟩ := by decide +kernel
theorem ef_rmalci_3_0 (m : MethodId)  : entryFrame m #[(.int (0 : Int32)), (.int (3 : Int32))] 2 = mkF m 0 #[.val (.int (0 : Int32)), .val (.int (3 : Int32))] [] := by first | (simp [entryFrame, mkF, argsToLocals, Value.category]; done) | rfl
def Qalci_3_0 (Z : State)  (h0 : Heap) (n0 : Nat) (v : Option Value) (h : Heap) (L : List Loc) : Prop := v = some (.int (0 : Int32)) ∧ Fr n0 L ∧ h = h0
set_option maxRecDepth 65536 in
set_option maxHeartbeats 40000000 in
theorem rmalci_3_0 (l : Launch) (Z : State) (a0 : Array Value) (hw : ∀ d ∈ tables_1, d.before a0 Z = true) (ws : List Jvm.Cond)  (h0 : Heap) (n0 : Nat) (O0 : Old Z n0 h0) :
    MetFree l nm10 (head1 (Jvm.Cond.code nm10 jdk_31_method_17_code 2 (some .int) :: ws) ({ frames := 1, cells := 0, slots := 0, locals := 14 } : Room)) (fun a U => a = #[(.int (0 : Int32)), (.int (3 : Int32))] ∧ Z.Warmed39 U.vm ∧ U.heap = h0) (fun _ _ _ _ _ => True) (fun _ U o U' => ∃ v L, o = .returned v ∧ Qalci_3_0 Z  h0 n0 v U'.heap L ∧ FrameEnd U o U' L ({ frames := 1, cells := 0, slots := 0, locals := 14 } : Room).cells ({ frames := 1, cells := 0, slots := 0, locals := 14 } : Room).slots) := by
  refine MetFree.of_bodySF (plainFor_of_name pn_15) hisR ?_
  intro p e s m args below meth c s₁ Bd hml0 hP hK
  obtain ⟨rfl, hZ, hh⟩ := hP
  have hx := Bd.exec
  have hby := Bd.bytes
  have hml : c.maxLocals = 2 := hml0
  have hown : s.vm.findClass "java/util/Objects" = some m.cls := findClass_of_methodNamed Bd.named
  have X0 : Stand p l e ({ frames := 1, cells := 0, slots := 0, locals := 14 } : Room) s m #[(.int (0 : Int32)), (.int (3 : Int32))] below meth c s₁ [] 0 0 := Stand.of_body Bd
  have e0 : s₁.heap = h0 := by rw [← hh, Bd.state]; rfl
  have N0 := Fr.nil n0
  have s0 : Steps p.tables e below (s₁.setTop (entryFrame m #[(.int (0 : Int32)), (.int (3 : Int32))] 2)) (s₁.setTop (mkF m 0 #[.val (.int (0 : Int32)), .val (.int (3 : Int32))] [])) := castTop (ef_rmalci_3_0 m ) (Steps.refl _)
  obtain ⟨A₀, hA₀⟩ : ∃ z, z = (s₁.setTop (entryFrame m #[(.int (0 : Int32)), (.int (3 : Int32))] 2)) := ⟨_, rfl⟩
  rw [← hA₀] at s0
  obtain ⟨T1, L1, X1, e1, N1, st1⟩ := own_callP X0 hx hZ hown (wk113 hw) (wk114 hw) (wk115 hw) (wk116 hw) (by decide) (rmalpc_3_0 l Z a0 hw []  h0 n0 O0 ) e0 N0 (W := 0) (by decide) (by decide) (by decide) (by decide) (g := (mkF m 3 #[.val (.int (0 : Int32)), .val (.int (3 : Int32))] [.null, (.int (3 : Int32)), (.int (0 : Int32))])) rfl (by rw [hml]; rfl) (argsL := [(.int (0 : Int32)), (.int (3 : Int32)), .null]) (rest := []) (lenOf pd_rmalci_3_0_0 rfl) rfl (by show 2 * 0 + _ ≤ _; exact Nat.le_of_eq rfl) (hb hby d15_3)
  have s2 : Steps p.tables e below A₀ (T1.setTop (mkF m 6 #[.val (.int (0 : Int32)), .val (.int (3 : Int32))] [(.int (0 : Int32))])) := by
    refine s0.trans ?_
    refine XS.iloadN X0.here hx rfl (hb hby d15_0) rfl ?_
    refine XS.iloadN X0.here hx rfl (hb hby d15_1) rfl ?_
    refine XS.aconstNull X0.here hx rfl (hb hby d15_2) ?_
    refine st1 _ ?_
    exact Steps.refl _
  subst hA₀
  obtain ⟨fs, hr, hrun, hended, hW, hsame⟩ := X1.leave (v := some (.int (0 : Int32))) (fun h => by rw [Bd.returns] at h; cases h)
  refine ⟨_, _, s2.trans ?_, hrun, hended, _, _, rfl, ?_, ⟨_, rfl⟩, hW, hsame.mono (by decide) (by decide)⟩
  · show Steps p.tables e below (T1.setTop (mkF m 6 #[.val (.int (0 : Int32)), .val (.int (3 : Int32))] [(.int (0 : Int32))])) _
    exact retI X1 hx Bd.returns (hb hby d15_6) hr
  · show Qalci_3_0 Z  h0 n0 _ T1.heap _
    rw [e1]
    exact ⟨rfl, N1, rfl⟩
theorem ef_rmalel_3_0 (m : MethodId) (p0 : Addr) : entryFrame m #[(.ref p0), (.int (0 : Int32))] 2 = mkF m 0 #[.val (.ref p0), .val (.int (0 : Int32))] [] := by first | (simp [entryFrame, mkF, argsToLocals, Value.category]; done) | rfl
def Qalel_3_0 (Z : State) (p0 : Addr) (ed : Addr) (x0 : Addr) (x1 : Addr) (x2 : Addr) (ka : ClassId) (h0 : Heap) (n0 : Nat) (v : Option Value) (h : Heap) (L : List Loc) : Prop := v = some (.ref x0) ∧ Fr n0 L ∧ h = h0
set_option maxRecDepth 65536 in
set_option maxHeartbeats 40000000 in
theorem rmalel_3_0 (l : Launch) (Z : State) (a0 : Array Value) (hw : ∀ d ∈ tables_1, d.before a0 Z = true) (ws : List Jvm.Cond) (p0 : Addr) (ed : Addr) (x0 : Addr) (x1 : Addr) (x2 : Addr) (ka : ClassId) (h0 : Heap) (n0 : Nat) (O0 : Old Z n0 h0) (F0_ : Exa Z h0 p0 "java/util/ArrayList") (F1_ : Fld Z h0 p0 "java/util/ArrayList" "elementData" "[Ljava/lang/Object;" (.ref ed)) (F2_ : Arv Z h0 ed ka (.object "java/lang/Object") (10 : Int32) [(.ref x0), (.ref x1), (.ref x2), .null, .null, .null, .null, .null, .null, .null] .null) :
    MetFree l nm11 (head1 (Jvm.Cond.code nm11 jdk_38_method_18_code 2 (some (.object "java/lang/Object")) :: ws) ({ frames := 0, cells := 0, slots := 0, locals := 0 } : Room)) (fun a U => a = #[(.ref p0), (.int (0 : Int32))] ∧ Z.Warmed39 U.vm ∧ U.heap = h0) (fun _ _ _ _ _ => True) (fun _ U o U' => ∃ v L, o = .returned v ∧ Qalel_3_0 Z p0 ed x0 x1 x2 ka h0 n0 v U'.heap L ∧ FrameEnd U o U' L ({ frames := 0, cells := 0, slots := 0, locals := 0 } : Room).cells ({ frames := 0, cells := 0, slots := 0, locals := 0 } : Room).slots) := by
  refine MetFree.of_bodySF (plainFor_of_name pn_1) hisR ?_
  intro p e s m args below meth c s₁ Bd hml0 hP hK
  obtain ⟨rfl, hZ, hh⟩ := hP
  have hx := Bd.exec
  have hby := Bd.bytes
  have hml : c.maxLocals = 2 := hml0
  have hown : s.vm.findClass "java/util/ArrayList" = some m.cls := findClass_of_methodNamed Bd.named
  have X0 : Stand p l e ({ frames := 0, cells := 0, slots := 0, locals := 0 } : Room) s m #[(.ref p0), (.int (0 : Int32))] below meth c s₁ [] 0 0 := Stand.of_body Bd
  have e0 : s₁.heap = h0 := by rw [← hh, Bd.state]; rfl
  have N0 := Fr.nil n0
  have s0 : Steps p.tables e below (s₁.setTop (entryFrame m #[(.ref p0), (.int (0 : Int32))] 2)) (s₁.setTop (mkF m 0 #[.val (.ref p0), .val (.int (0 : Int32))] [])) := castTop (ef_rmalel_3_0 m p0) (Steps.refl _)
  obtain ⟨A₀, hA₀⟩ : ∃ z, z = (s₁.setTop (entryFrame m #[(.ref p0), (.int (0 : Int32))] 2)) := ⟨_, rfl⟩
  rw [← hA₀] at s0
  obtain ⟨T1, X1, e1, st1⟩ := getF X0 hx hZ hown (host := "") (Or.inl (hw _ (List.mem_of_getElem? (i := 25) rfl))) Via.refl e0 F1_ (g := (mkF m 1 #[.val (.ref p0), .val (.int (0 : Int32))] [(.ref p0)])) rfl rfl (hb hby d17_1)
  obtain ⟨cla2, Ara2, qa2, Sa2, Za2, Ha2, Ga2⟩ := id F2_
  have hin3 : ¬ ((0 : Int32) < 0 ∨ cla2.slots.size ≤ ((0 : Int32)).toNatClampNeg) := inb_of Sa2 ⟨by decide, by decide⟩
  have hat4 : cla2.slots[((0 : Int32)).toNatClampNeg]? = some (.ref x0) := Has.at Ha2 hin3 rfl
  have s5 : Steps p.tables e below A₀ (T1.setTop (mkF m 6 #[.val (.ref p0), .val (.int (0 : Int32))] [(.ref x0)])) := by
    refine s0.trans ?_
    refine XS.aloadN X0.here hx rfl (hb hby d17_0) rfl rfl ?_
    refine st1 _ ?_
    refine XS.iloadN X1.here hx rfl (hb hby d17_4) rfl ?_
    refine X1.aaload hx (j := (0 : Int32)) (v := (.ref x0)) (by rw [e1]; exact Ara2.1) (State.isArrayOf_alike hZ.alike Ara2.2.1) rfl Ara2.2.2 hin3 hat4 (g := (mkF m 5 #[.val (.ref p0), .val (.int (0 : Int32))] [(.int (0 : Int32)), (.ref ed)])) rfl rfl (hb hby d17_5) _ ?_
    exact Steps.refl _
  subst hA₀
  obtain ⟨fs, hr, hrun, hended, hW, hsame⟩ := X1.leave (v := some (.ref x0)) (fun h => by rw [Bd.returns] at h; cases h)
  refine ⟨_, _, s5.trans ?_, hrun, hended, _, _, rfl, ?_, ⟨_, rfl⟩, hW, hsame.mono (by decide) (by decide)⟩
  · show Steps p.tables e below (T1.setTop (mkF m 6 #[.val (.ref p0), .val (.int (0 : Int32))] [(.ref x0)])) _
    jvm_step X1.here [X1.here.top, hx, (hb hby d17_6), X1.method', Bd.returns, Value.isRef, FieldType.isReference]
    first | (intro acts; rw [hr _ acts rfl rfl rfl]) | rw [hr _ _ rfl rfl rfl]
    exact Steps.refl _
  · show Qalel_3_0 Z p0 ed x0 x1 x2 ka h0 n0 _ T1.heap _
    rw [e1]
    exact ⟨rfl, N0, rfl⟩
theorem pd_rmalgt_3_0_0 : parseMethodDescriptor "(II)I" = some ⟨[.int, .int], some .int⟩ := by decide +kernel
theorem pd_rmalgt_3_0_1 : parseMethodDescriptor "(I)Ljava/lang/Object;" = some ⟨[.int], some (.object "java/lang/Object")⟩ := by decide +kernel
theorem ef_rmalgt_3_0 (m : MethodId) (p0 : Addr) : entryFrame m #[(.ref p0), (.int (0 : Int32))] 2 = mkF m 0 #[.val (.ref p0), .val (.int (0 : Int32))] [] := by first | (simp [entryFrame, mkF, argsToLocals, Value.category]; done) | rfl
def Qalgt_3_0 (Z : State) (p0 : Addr) (ed : Addr) (x0 : Addr) (x1 : Addr) (x2 : Addr) (ka : ClassId) (h0 : Heap) (n0 : Nat) (v : Option Value) (h : Heap) (L : List Loc) : Prop := v = some (.ref x0) ∧ Fr n0 L ∧ h = h0
set_option maxRecDepth 65536 in
set_option maxHeartbeats 40000000 in
theorem rmalgt_3_0 (l : Launch) (Z : State) (a0 : Array Value) (hw : ∀ d ∈ tables_1, d.before a0 Z = true) (ws : List Jvm.Cond) (p0 : Addr) (ed : Addr) (x0 : Addr) (x1 : Addr) (x2 : Addr) (ka : ClassId) (h0 : Heap) (n0 : Nat) (O0 : Old Z n0 h0) (F0_ : Exa Z h0 p0 "java/util/ArrayList") (F1_ : Fld Z h0 p0 "java/util/ArrayList" "size" "I" (.int (3 : Int32))) (F2_ : Fld Z h0 p0 "java/util/ArrayList" "elementData" "[Ljava/lang/Object;" (.ref ed)) (F3_ : Arv Z h0 ed ka (.object "java/lang/Object") (10 : Int32) [(.ref x0), (.ref x1), (.ref x2), .null, .null, .null, .null, .null, .null, .null] .null) :
    MetFree l nm12 (head1 (Jvm.Cond.code nm12 jdk_38_method_20_code 2 (some (.object "java/lang/Object")) :: ws) ({ frames := 2, cells := 0, slots := 0, locals := 27 } : Room)) (fun a U => a = #[(.ref p0), (.int (0 : Int32))] ∧ Z.Warmed39 U.vm ∧ U.heap = h0) (fun _ _ _ _ _ => True) (fun _ U o U' => ∃ v L, o = .returned v ∧ Qalgt_3_0 Z p0 ed x0 x1 x2 ka h0 n0 v U'.heap L ∧ FrameEnd U o U' L ({ frames := 2, cells := 0, slots := 0, locals := 27 } : Room).cells ({ frames := 2, cells := 0, slots := 0, locals := 27 } : Room).slots) := by
  refine MetFree.of_bodySF (plainFor_of_name pn_1) hisR ?_
  intro p e s m args below meth c s₁ Bd hml0 hP hK
  obtain ⟨rfl, hZ, hh⟩ := hP
  have hx := Bd.exec
  have hby := Bd.bytes
  have hml : c.maxLocals = 2 := hml0
  have hown : s.vm.findClass "java/util/ArrayList" = some m.cls := findClass_of_methodNamed Bd.named
  have X0 : Stand p l e ({ frames := 2, cells := 0, slots := 0, locals := 27 } : Room) s m #[(.ref p0), (.int (0 : Int32))] below meth c s₁ [] 0 0 := Stand.of_body Bd
  have e0 : s₁.heap = h0 := by rw [← hh, Bd.state]; rfl
  have N0 := Fr.nil n0
  have s0 : Steps p.tables e below (s₁.setTop (entryFrame m #[(.ref p0), (.int (0 : Int32))] 2)) (s₁.setTop (mkF m 0 #[.val (.ref p0), .val (.int (0 : Int32))] [])) := castTop (ef_rmalgt_3_0 m p0) (Steps.refl _)
  obtain ⟨A₀, hA₀⟩ : ∃ z, z = (s₁.setTop (entryFrame m #[(.ref p0), (.int (0 : Int32))] 2)) := ⟨_, rfl⟩
  rw [← hA₀] at s0
  obtain ⟨T1, X1, e1, st1⟩ := getF X0 hx hZ hown (host := "") (Or.inl (hw _ (List.mem_of_getElem? (i := 40) rfl))) Via.refl e0 F1_ (g := (mkF m 2 #[.val (.ref p0), .val (.int (0 : Int32))] [(.ref p0), (.int (0 : Int32))])) rfl rfl (hb hby d14_2)
  obtain ⟨T2, L2, X2, e2, N2, st2⟩ := own_callP X1 hx hZ hown (wk109 hw) (wk110 hw) (wk111 hw) (wk112 hw) (by decide) (rmalci_3_0 l Z a0 hw []  h0 n0 O0 ) e1 N0 (W := 0) (by decide) (by decide) (by decide) (by decide) (g := (mkF m 5 #[.val (.ref p0), .val (.int (0 : Int32))] [(.int (3 : Int32)), (.int (0 : Int32))])) rfl (by rw [hml]; rfl) (argsL := [(.int (0 : Int32)), (.int (3 : Int32))]) (rest := []) (lenOf pd_rmalgt_3_0_0 rfl) rfl (by show 2 * 0 + _ ≤ _; exact Nat.le_of_eq rfl) (hb hby d14_5)
  obtain ⟨T3, L3, X3, e3, N3, st3⟩ := own_callVP X2 hx hZ hown (wk117 hw) (wk118 hw) (wk120 hw) (wk119 hw) (by decide) (wk3 hw) (wk121 hw) (rmalel_3_0 l Z a0 hw [] p0 ed x0 x1 x2 ka h0 n0 O0 F0_ F2_ F3_) e2 N2 (W := 0) (by decide) (by decide) (by decide) (by decide) F0_ (g := (mkF m 11 #[.val (.ref p0), .val (.int (0 : Int32))] [(.int (0 : Int32)), (.ref p0)])) rfl (by rw [hml]; rfl) (argsL := [(.int (0 : Int32))]) (rest := []) (lenOf pd_rmalgt_3_0_1 rfl) rfl (by show 2 * 0 + _ ≤ _; exact Nat.le_of_eq rfl) (hb hby d14_11)
  have s4 : Steps p.tables e below A₀ (T3.setTop (mkF m 14 #[.val (.ref p0), .val (.int (0 : Int32))] [(.ref x0)])) := by
    refine s0.trans ?_
    refine XS.iloadN X0.here hx rfl (hb hby d14_0) rfl ?_
    refine XS.aloadN X0.here hx rfl (hb hby d14_1) rfl rfl ?_
    refine st1 _ ?_
    refine st2 _ ?_
    refine XS.pop X2.here hx rfl (hb hby d14_8) rfl rfl ?_
    refine XS.aloadN X2.here hx rfl (hb hby d14_9) rfl rfl ?_
    refine XS.iloadN X2.here hx rfl (hb hby d14_10) rfl ?_
    refine st3 _ ?_
    exact Steps.refl _
  subst hA₀
  obtain ⟨fs, hr, hrun, hended, hW, hsame⟩ := X3.leave (v := some (.ref x0)) (fun h => by rw [Bd.returns] at h; cases h)
  refine ⟨_, _, s4.trans ?_, hrun, hended, _, _, rfl, ?_, ⟨_, rfl⟩, hW, hsame.mono (by decide) (by decide)⟩
  · show Steps p.tables e below (T3.setTop (mkF m 14 #[.val (.ref p0), .val (.int (0 : Int32))] [(.ref x0)])) _
    jvm_step X3.here [X3.here.top, hx, (hb hby d14_14), X3.method', Bd.returns, Value.isRef, FieldType.isReference]
    first | (intro acts; rw [hr _ acts rfl rfl rfl]) | rw [hr _ _ rfl rfl rfl]
    exact Steps.refl _
  · show Qalgt_3_0 Z p0 ed x0 x1 x2 ka h0 n0 _ T3.heap _
    rw [e3]
    exact ⟨rfl, N3, rfl⟩
theorem ef_rmalpc_3_1 (m : MethodId)  : entryFrame m #[(.int (1 : Int32)), (.int (3 : Int32)), .null] 3 = mkF m 0 #[.val (.int (1 : Int32)), .val (.int (3 : Int32)), .val .null] [] := by first | (simp [entryFrame, mkF, argsToLocals, Value.category]; done) | rfl
def Qalpc_3_1 (Z : State)  (h0 : Heap) (n0 : Nat) (v : Option Value) (h : Heap) (L : List Loc) : Prop := v = some (.int (1 : Int32)) ∧ Fr n0 L ∧ h = h0
set_option maxRecDepth 65536 in
set_option maxHeartbeats 40000000 in
theorem rmalpc_3_1 (l : Launch) (Z : State) (a0 : Array Value) (hw : ∀ d ∈ tables_1, d.before a0 Z = true) (ws : List Jvm.Cond)  (h0 : Heap) (n0 : Nat) (O0 : Old Z n0 h0) :
    MetFree l nm9 (head1 (Jvm.Cond.code nm9 jdk_41_method_11_code 3 (some .int) :: ws) ({ frames := 0, cells := 0, slots := 0, locals := 0 } : Room)) (fun a U => a = #[(.int (1 : Int32)), (.int (3 : Int32)), .null] ∧ Z.Warmed39 U.vm ∧ U.heap = h0) (fun _ _ _ _ _ => True) (fun _ U o U' => ∃ v L, o = .returned v ∧ Qalpc_3_1 Z  h0 n0 v U'.heap L ∧ FrameEnd U o U' L ({ frames := 0, cells := 0, slots := 0, locals := 0 } : Room).cells ({ frames := 0, cells := 0, slots := 0, locals := 0 } : Room).slots) := by
  refine MetFree.of_bodySF (plainFor_of_name pn_16) hisR ?_
  intro p e s m args below meth c s₁ Bd hml0 hP hK
  obtain ⟨rfl, hZ, hh⟩ := hP
  have hx := Bd.exec
  have hby := Bd.bytes
  have hml : c.maxLocals = 3 := hml0
  have hown : s.vm.findClass "jdk/internal/util/Preconditions" = some m.cls := findClass_of_methodNamed Bd.named
  have X0 : Stand p l e ({ frames := 0, cells := 0, slots := 0, locals := 0 } : Room) s m #[(.int (1 : Int32)), (.int (3 : Int32)), .null] below meth c s₁ [] 0 0 := Stand.of_body Bd
  have e0 : s₁.heap = h0 := by rw [← hh, Bd.state]; rfl
  have N0 := Fr.nil n0
  have s0 : Steps p.tables e below (s₁.setTop (entryFrame m #[(.int (1 : Int32)), (.int (3 : Int32)), .null] 3)) (s₁.setTop (mkF m 0 #[.val (.int (1 : Int32)), .val (.int (3 : Int32)), .val .null] [])) := castTop (ef_rmalpc_3_1 m ) (Steps.refl _)
  obtain ⟨A₀, hA₀⟩ : ∃ z, z = (s₁.setTop (entryFrame m #[(.int (1 : Int32)), (.int (3 : Int32)), .null] 3)) := ⟨_, rfl⟩
  rw [← hA₀] at s0
  have s1 : Steps p.tables e below A₀ (s₁.setTop (mkF m 17 #[.val (.int (1 : Int32)), .val (.int (3 : Int32)), .val .null] [(.int (1 : Int32))])) := by
    refine s0.trans ?_
    refine XS.iloadN X0.here hx rfl (hb hby d16_0) rfl ?_
    refine XS.ifNo X0.here hx rfl (hb hby d16_1) rfl ((if0 _ _).trans (flt (by decide)).1) ?_
    refine XS.iloadN X0.here hx rfl (hb hby d16_4) rfl ?_
    refine XS.iloadN X0.here hx rfl (hb hby d16_5) rfl ?_
    refine XS.icmpYes X0.here hx rfl (pc0 := 6) (pc' := 16) rfl (hb hby d16_6) rfl (tlt (by decide)).1 (by decide) (by decide) ?_
    refine XS.iloadN X0.here hx rfl (hb hby d16_16) rfl ?_
    exact Steps.refl _
  subst hA₀
  obtain ⟨fs, hr, hrun, hended, hW, hsame⟩ := X0.leave (v := some (.int (1 : Int32))) (fun h => by rw [Bd.returns] at h; cases h)
  refine ⟨_, _, s1.trans ?_, hrun, hended, _, _, rfl, ?_, ⟨_, rfl⟩, hW, hsame.mono (by decide) (by decide)⟩
  · show Steps p.tables e below (s₁.setTop (mkF m 17 #[.val (.int (1 : Int32)), .val (.int (3 : Int32)), .val .null] [(.int (1 : Int32))])) _
    exact retI X0 hx Bd.returns (hb hby d16_17) hr
  · show Qalpc_3_1 Z  h0 n0 _ s₁.heap _
    rw [e0]
    exact ⟨rfl, N0, rfl⟩
theorem pd_rmalci_3_1_0 : parseMethodDescriptor "(IILjava/util/function/BiFunction;)I" = some ⟨[.int, .int, (.object "java/util/function/BiFunction")], some .int⟩ := by decide +kernel
theorem ef_rmalci_3_1 (m : MethodId)  : entryFrame m #[(.int (1 : Int32)), (.int (3 : Int32))] 2 = mkF m 0 #[.val (.int (1 : Int32)), .val (.int (3 : Int32))] [] := by first | (simp [entryFrame, mkF, argsToLocals, Value.category]; done) | rfl
def Qalci_3_1 (Z : State)  (h0 : Heap) (n0 : Nat) (v : Option Value) (h : Heap) (L : List Loc) : Prop := v = some (.int (1 : Int32)) ∧ Fr n0 L ∧ h = h0
set_option maxRecDepth 65536 in
set_option maxHeartbeats 40000000 in
theorem rmalci_3_1 (l : Launch) (Z : State) (a0 : Array Value) (hw : ∀ d ∈ tables_1, d.before a0 Z = true) (ws : List Jvm.Cond)  (h0 : Heap) (n0 : Nat) (O0 : Old Z n0 h0) :
    MetFree l nm10 (head1 (Jvm.Cond.code nm10 jdk_31_method_17_code 2 (some .int) :: ws) ({ frames := 1, cells := 0, slots := 0, locals := 14 } : Room)) (fun a U => a = #[(.int (1 : Int32)), (.int (3 : Int32))] ∧ Z.Warmed39 U.vm ∧ U.heap = h0) (fun _ _ _ _ _ => True) (fun _ U o U' => ∃ v L, o = .returned v ∧ Qalci_3_1 Z  h0 n0 v U'.heap L ∧ FrameEnd U o U' L ({ frames := 1, cells := 0, slots := 0, locals := 14 } : Room).cells ({ frames := 1, cells := 0, slots := 0, locals := 14 } : Room).slots) := by
  refine MetFree.of_bodySF (plainFor_of_name pn_15) hisR ?_
  intro p e s m args below meth c s₁ Bd hml0 hP hK
  obtain ⟨rfl, hZ, hh⟩ := hP
  have hx := Bd.exec
  have hby := Bd.bytes
  have hml : c.maxLocals = 2 := hml0
  have hown : s.vm.findClass "java/util/Objects" = some m.cls := findClass_of_methodNamed Bd.named
  have X0 : Stand p l e ({ frames := 1, cells := 0, slots := 0, locals := 14 } : Room) s m #[(.int (1 : Int32)), (.int (3 : Int32))] below meth c s₁ [] 0 0 := Stand.of_body Bd
  have e0 : s₁.heap = h0 := by rw [← hh, Bd.state]; rfl
  have N0 := Fr.nil n0
  have s0 : Steps p.tables e below (s₁.setTop (entryFrame m #[(.int (1 : Int32)), (.int (3 : Int32))] 2)) (s₁.setTop (mkF m 0 #[.val (.int (1 : Int32)), .val (.int (3 : Int32))] [])) := castTop (ef_rmalci_3_1 m ) (Steps.refl _)
  obtain ⟨A₀, hA₀⟩ : ∃ z, z = (s₁.setTop (entryFrame m #[(.int (1 : Int32)), (.int (3 : Int32))] 2)) := ⟨_, rfl⟩
  rw [← hA₀] at s0
  obtain ⟨T1, L1, X1, e1, N1, st1⟩ := own_callP X0 hx hZ hown (wk113 hw) (wk114 hw) (wk115 hw) (wk116 hw) (by decide) (rmalpc_3_1 l Z a0 hw []  h0 n0 O0 ) e0 N0 (W := 0) (by decide) (by decide) (by decide) (by decide) (g := (mkF m 3 #[.val (.int (1 : Int32)), .val (.int (3 : Int32))] [.null, (.int (3 : Int32)), (.int (1 : Int32))])) rfl (by rw [hml]; rfl) (argsL := [(.int (1 : Int32)), (.int (3 : Int32)), .null]) (rest := []) (lenOf pd_rmalci_3_1_0 rfl) rfl (by show 2 * 0 + _ ≤ _; exact Nat.le_of_eq rfl) (hb hby d15_3)
  have s2 : Steps p.tables e below A₀ (T1.setTop (mkF m 6 #[.val (.int (1 : Int32)), .val (.int (3 : Int32))] [(.int (1 : Int32))])) := by
    refine s0.trans ?_
    refine XS.iloadN X0.here hx rfl (hb hby d15_0) rfl ?_
    refine XS.iloadN X0.here hx rfl (hb hby d15_1) rfl ?_
    refine XS.aconstNull X0.here hx rfl (hb hby d15_2) ?_
    refine st1 _ ?_
    exact Steps.refl _
  subst hA₀
  obtain ⟨fs, hr, hrun, hended, hW, hsame⟩ := X1.leave (v := some (.int (1 : Int32))) (fun h => by rw [Bd.returns] at h; cases h)
  refine ⟨_, _, s2.trans ?_, hrun, hended, _, _, rfl, ?_, ⟨_, rfl⟩, hW, hsame.mono (by decide) (by decide)⟩
  · show Steps p.tables e below (T1.setTop (mkF m 6 #[.val (.int (1 : Int32)), .val (.int (3 : Int32))] [(.int (1 : Int32))])) _
    exact retI X1 hx Bd.returns (hb hby d15_6) hr
  · show Qalci_3_1 Z  h0 n0 _ T1.heap _
    rw [e1]
    exact ⟨rfl, N1, rfl⟩
theorem ef_rmalel_3_1 (m : MethodId) (p0 : Addr) : entryFrame m #[(.ref p0), (.int (1 : Int32))] 2 = mkF m 0 #[.val (.ref p0), .val (.int (1 : Int32))] [] := by first | (simp [entryFrame, mkF, argsToLocals, Value.category]; done) | rfl
def Qalel_3_1 (Z : State) (p0 : Addr) (ed : Addr) (x0 : Addr) (x1 : Addr) (x2 : Addr) (ka : ClassId) (h0 : Heap) (n0 : Nat) (v : Option Value) (h : Heap) (L : List Loc) : Prop := v = some (.ref x1) ∧ Fr n0 L ∧ h = h0
set_option maxRecDepth 65536 in
set_option maxHeartbeats 40000000 in
theorem rmalel_3_1 (l : Launch) (Z : State) (a0 : Array Value) (hw : ∀ d ∈ tables_1, d.before a0 Z = true) (ws : List Jvm.Cond) (p0 : Addr) (ed : Addr) (x0 : Addr) (x1 : Addr) (x2 : Addr) (ka : ClassId) (h0 : Heap) (n0 : Nat) (O0 : Old Z n0 h0) (F0_ : Exa Z h0 p0 "java/util/ArrayList") (F1_ : Fld Z h0 p0 "java/util/ArrayList" "elementData" "[Ljava/lang/Object;" (.ref ed)) (F2_ : Arv Z h0 ed ka (.object "java/lang/Object") (10 : Int32) [(.ref x0), (.ref x1), (.ref x2), .null, .null, .null, .null, .null, .null, .null] .null) :
    MetFree l nm11 (head1 (Jvm.Cond.code nm11 jdk_38_method_18_code 2 (some (.object "java/lang/Object")) :: ws) ({ frames := 0, cells := 0, slots := 0, locals := 0 } : Room)) (fun a U => a = #[(.ref p0), (.int (1 : Int32))] ∧ Z.Warmed39 U.vm ∧ U.heap = h0) (fun _ _ _ _ _ => True) (fun _ U o U' => ∃ v L, o = .returned v ∧ Qalel_3_1 Z p0 ed x0 x1 x2 ka h0 n0 v U'.heap L ∧ FrameEnd U o U' L ({ frames := 0, cells := 0, slots := 0, locals := 0 } : Room).cells ({ frames := 0, cells := 0, slots := 0, locals := 0 } : Room).slots) := by
  refine MetFree.of_bodySF (plainFor_of_name pn_1) hisR ?_
  intro p e s m args below meth c s₁ Bd hml0 hP hK
  obtain ⟨rfl, hZ, hh⟩ := hP
  have hx := Bd.exec
  have hby := Bd.bytes
  have hml : c.maxLocals = 2 := hml0
  have hown : s.vm.findClass "java/util/ArrayList" = some m.cls := findClass_of_methodNamed Bd.named
  have X0 : Stand p l e ({ frames := 0, cells := 0, slots := 0, locals := 0 } : Room) s m #[(.ref p0), (.int (1 : Int32))] below meth c s₁ [] 0 0 := Stand.of_body Bd
  have e0 : s₁.heap = h0 := by rw [← hh, Bd.state]; rfl
  have N0 := Fr.nil n0
  have s0 : Steps p.tables e below (s₁.setTop (entryFrame m #[(.ref p0), (.int (1 : Int32))] 2)) (s₁.setTop (mkF m 0 #[.val (.ref p0), .val (.int (1 : Int32))] [])) := castTop (ef_rmalel_3_1 m p0) (Steps.refl _)
  obtain ⟨A₀, hA₀⟩ : ∃ z, z = (s₁.setTop (entryFrame m #[(.ref p0), (.int (1 : Int32))] 2)) := ⟨_, rfl⟩
  rw [← hA₀] at s0
  obtain ⟨T1, X1, e1, st1⟩ := getF X0 hx hZ hown (host := "") (Or.inl (hw _ (List.mem_of_getElem? (i := 25) rfl))) Via.refl e0 F1_ (g := (mkF m 1 #[.val (.ref p0), .val (.int (1 : Int32))] [(.ref p0)])) rfl rfl (hb hby d17_1)
  obtain ⟨cla2, Ara2, qa2, Sa2, Za2, Ha2, Ga2⟩ := id F2_
  have hin3 : ¬ ((1 : Int32) < 0 ∨ cla2.slots.size ≤ ((1 : Int32)).toNatClampNeg) := inb_of Sa2 ⟨by decide, by decide⟩
  have hat4 : cla2.slots[((1 : Int32)).toNatClampNeg]? = some (.ref x1) := Has.at Ha2 hin3 rfl
  have s5 : Steps p.tables e below A₀ (T1.setTop (mkF m 6 #[.val (.ref p0), .val (.int (1 : Int32))] [(.ref x1)])) := by
    refine s0.trans ?_
    refine XS.aloadN X0.here hx rfl (hb hby d17_0) rfl rfl ?_
    refine st1 _ ?_
    refine XS.iloadN X1.here hx rfl (hb hby d17_4) rfl ?_
    refine X1.aaload hx (j := (1 : Int32)) (v := (.ref x1)) (by rw [e1]; exact Ara2.1) (State.isArrayOf_alike hZ.alike Ara2.2.1) rfl Ara2.2.2 hin3 hat4 (g := (mkF m 5 #[.val (.ref p0), .val (.int (1 : Int32))] [(.int (1 : Int32)), (.ref ed)])) rfl rfl (hb hby d17_5) _ ?_
    exact Steps.refl _
  subst hA₀
  obtain ⟨fs, hr, hrun, hended, hW, hsame⟩ := X1.leave (v := some (.ref x1)) (fun h => by rw [Bd.returns] at h; cases h)
  refine ⟨_, _, s5.trans ?_, hrun, hended, _, _, rfl, ?_, ⟨_, rfl⟩, hW, hsame.mono (by decide) (by decide)⟩
  · show Steps p.tables e below (T1.setTop (mkF m 6 #[.val (.ref p0), .val (.int (1 : Int32))] [(.ref x1)])) _
    jvm_step X1.here [X1.here.top, hx, (hb hby d17_6), X1.method', Bd.returns, Value.isRef, FieldType.isReference]
    first | (intro acts; rw [hr _ acts rfl rfl rfl]) | rw [hr _ _ rfl rfl rfl]
    exact Steps.refl _
  · show Qalel_3_1 Z p0 ed x0 x1 x2 ka h0 n0 _ T1.heap _
    rw [e1]
    exact ⟨rfl, N0, rfl⟩
theorem pd_rmalgt_3_1_0 : parseMethodDescriptor "(II)I" = some ⟨[.int, .int], some .int⟩ := by decide +kernel
theorem pd_rmalgt_3_1_1 : parseMethodDescriptor "(I)Ljava/lang/Object;" = some ⟨[.int], some (.object "java/lang/Object")⟩ := by decide +kernel
theorem ef_rmalgt_3_1 (m : MethodId) (p0 : Addr) : entryFrame m #[(.ref p0), (.int (1 : Int32))] 2 = mkF m 0 #[.val (.ref p0), .val (.int (1 : Int32))] [] := by first | (simp [entryFrame, mkF, argsToLocals, Value.category]; done) | rfl
def Qalgt_3_1 (Z : State) (p0 : Addr) (ed : Addr) (x0 : Addr) (x1 : Addr) (x2 : Addr) (ka : ClassId) (h0 : Heap) (n0 : Nat) (v : Option Value) (h : Heap) (L : List Loc) : Prop := v = some (.ref x1) ∧ Fr n0 L ∧ h = h0
set_option maxRecDepth 65536 in
set_option maxHeartbeats 40000000 in
theorem rmalgt_3_1 (l : Launch) (Z : State) (a0 : Array Value) (hw : ∀ d ∈ tables_1, d.before a0 Z = true) (ws : List Jvm.Cond) (p0 : Addr) (ed : Addr) (x0 : Addr) (x1 : Addr) (x2 : Addr) (ka : ClassId) (h0 : Heap) (n0 : Nat) (O0 : Old Z n0 h0) (F0_ : Exa Z h0 p0 "java/util/ArrayList") (F1_ : Fld Z h0 p0 "java/util/ArrayList" "size" "I" (.int (3 : Int32))) (F2_ : Fld Z h0 p0 "java/util/ArrayList" "elementData" "[Ljava/lang/Object;" (.ref ed)) (F3_ : Arv Z h0 ed ka (.object "java/lang/Object") (10 : Int32) [(.ref x0), (.ref x1), (.ref x2), .null, .null, .null, .null, .null, .null, .null] .null) :
    MetFree l nm12 (head1 (Jvm.Cond.code nm12 jdk_38_method_20_code 2 (some (.object "java/lang/Object")) :: ws) ({ frames := 2, cells := 0, slots := 0, locals := 27 } : Room)) (fun a U => a = #[(.ref p0), (.int (1 : Int32))] ∧ Z.Warmed39 U.vm ∧ U.heap = h0) (fun _ _ _ _ _ => True) (fun _ U o U' => ∃ v L, o = .returned v ∧ Qalgt_3_1 Z p0 ed x0 x1 x2 ka h0 n0 v U'.heap L ∧ FrameEnd U o U' L ({ frames := 2, cells := 0, slots := 0, locals := 27 } : Room).cells ({ frames := 2, cells := 0, slots := 0, locals := 27 } : Room).slots) := by
  refine MetFree.of_bodySF (plainFor_of_name pn_1) hisR ?_
  intro p e s m args below meth c s₁ Bd hml0 hP hK
  obtain ⟨rfl, hZ, hh⟩ := hP
  have hx := Bd.exec
  have hby := Bd.bytes
  have hml : c.maxLocals = 2 := hml0
  have hown : s.vm.findClass "java/util/ArrayList" = some m.cls := findClass_of_methodNamed Bd.named
  have X0 : Stand p l e ({ frames := 2, cells := 0, slots := 0, locals := 27 } : Room) s m #[(.ref p0), (.int (1 : Int32))] below meth c s₁ [] 0 0 := Stand.of_body Bd
  have e0 : s₁.heap = h0 := by rw [← hh, Bd.state]; rfl
  have N0 := Fr.nil n0
  have s0 : Steps p.tables e below (s₁.setTop (entryFrame m #[(.ref p0), (.int (1 : Int32))] 2)) (s₁.setTop (mkF m 0 #[.val (.ref p0), .val (.int (1 : Int32))] [])) := castTop (ef_rmalgt_3_1 m p0) (Steps.refl _)
  obtain ⟨A₀, hA₀⟩ : ∃ z, z = (s₁.setTop (entryFrame m #[(.ref p0), (.int (1 : Int32))] 2)) := ⟨_, rfl⟩
  rw [← hA₀] at s0
  obtain ⟨T1, X1, e1, st1⟩ := getF X0 hx hZ hown (host := "") (Or.inl (hw _ (List.mem_of_getElem? (i := 40) rfl))) Via.refl e0 F1_ (g := (mkF m 2 #[.val (.ref p0), .val (.int (1 : Int32))] [(.ref p0), (.int (1 : Int32))])) rfl rfl (hb hby d14_2)
  obtain ⟨T2, L2, X2, e2, N2, st2⟩ := own_callP X1 hx hZ hown (wk109 hw) (wk110 hw) (wk111 hw) (wk112 hw) (by decide) (rmalci_3_1 l Z a0 hw []  h0 n0 O0 ) e1 N0 (W := 0) (by decide) (by decide) (by decide) (by decide) (g := (mkF m 5 #[.val (.ref p0), .val (.int (1 : Int32))] [(.int (3 : Int32)), (.int (1 : Int32))])) rfl (by rw [hml]; rfl) (argsL := [(.int (1 : Int32)), (.int (3 : Int32))]) (rest := []) (lenOf pd_rmalgt_3_1_0 rfl) rfl (by show 2 * 0 + _ ≤ _; exact Nat.le_of_eq rfl) (hb hby d14_5)
  obtain ⟨T3, L3, X3, e3, N3, st3⟩ := own_callVP X2 hx hZ hown (wk117 hw) (wk118 hw) (wk120 hw) (wk119 hw) (by decide) (wk3 hw) (wk121 hw) (rmalel_3_1 l Z a0 hw [] p0 ed x0 x1 x2 ka h0 n0 O0 F0_ F2_ F3_) e2 N2 (W := 0) (by decide) (by decide) (by decide) (by decide) F0_ (g := (mkF m 11 #[.val (.ref p0), .val (.int (1 : Int32))] [(.int (1 : Int32)), (.ref p0)])) rfl (by rw [hml]; rfl) (argsL := [(.int (1 : Int32))]) (rest := []) (lenOf pd_rmalgt_3_1_1 rfl) rfl (by show 2 * 0 + _ ≤ _; exact Nat.le_of_eq rfl) (hb hby d14_11)
  have s4 : Steps p.tables e below A₀ (T3.setTop (mkF m 14 #[.val (.ref p0), .val (.int (1 : Int32))] [(.ref x1)])) := by
    refine s0.trans ?_
    refine XS.iloadN X0.here hx rfl (hb hby d14_0) rfl ?_
    refine XS.aloadN X0.here hx rfl (hb hby d14_1) rfl rfl ?_
    refine st1 _ ?_
    refine st2 _ ?_
    refine XS.pop X2.here hx rfl (hb hby d14_8) rfl rfl ?_
    refine XS.aloadN X2.here hx rfl (hb hby d14_9) rfl rfl ?_
    refine XS.iloadN X2.here hx rfl (hb hby d14_10) rfl ?_
    refine st3 _ ?_
    exact Steps.refl _
  subst hA₀
  obtain ⟨fs, hr, hrun, hended, hW, hsame⟩ := X3.leave (v := some (.ref x1)) (fun h => by rw [Bd.returns] at h; cases h)
  refine ⟨_, _, s4.trans ?_, hrun, hended, _, _, rfl, ?_, ⟨_, rfl⟩, hW, hsame.mono (by decide) (by decide)⟩
  · show Steps p.tables e below (T3.setTop (mkF m 14 #[.val (.ref p0), .val (.int (1 : Int32))] [(.ref x1)])) _
    jvm_step X3.here [X3.here.top, hx, (hb hby d14_14), X3.method', Bd.returns, Value.isRef, FieldType.isReference]
    first | (intro acts; rw [hr _ acts rfl rfl rfl]) | rw [hr _ _ rfl rfl rfl]
    exact Steps.refl _
  · show Qalgt_3_1 Z p0 ed x0 x1 x2 ka h0 n0 _ T3.heap _
    rw [e3]
    exact ⟨rfl, N3, rfl⟩
theorem ef_rmalpc_3_2 (m : MethodId)  : entryFrame m #[(.int (2 : Int32)), (.int (3 : Int32)), .null] 3 = mkF m 0 #[.val (.int (2 : Int32)), .val (.int (3 : Int32)), .val .null] [] := by first | (simp [entryFrame, mkF, argsToLocals, Value.category]; done) | rfl
def Qalpc_3_2 (Z : State)  (h0 : Heap) (n0 : Nat) (v : Option Value) (h : Heap) (L : List Loc) : Prop := v = some (.int (2 : Int32)) ∧ Fr n0 L ∧ h = h0
set_option maxRecDepth 65536 in
set_option maxHeartbeats 40000000 in
theorem rmalpc_3_2 (l : Launch) (Z : State) (a0 : Array Value) (hw : ∀ d ∈ tables_1, d.before a0 Z = true) (ws : List Jvm.Cond)  (h0 : Heap) (n0 : Nat) (O0 : Old Z n0 h0) :
    MetFree l nm9 (head1 (Jvm.Cond.code nm9 jdk_41_method_11_code 3 (some .int) :: ws) ({ frames := 0, cells := 0, slots := 0, locals := 0 } : Room)) (fun a U => a = #[(.int (2 : Int32)), (.int (3 : Int32)), .null] ∧ Z.Warmed39 U.vm ∧ U.heap = h0) (fun _ _ _ _ _ => True) (fun _ U o U' => ∃ v L, o = .returned v ∧ Qalpc_3_2 Z  h0 n0 v U'.heap L ∧ FrameEnd U o U' L ({ frames := 0, cells := 0, slots := 0, locals := 0 } : Room).cells ({ frames := 0, cells := 0, slots := 0, locals := 0 } : Room).slots) := by
  refine MetFree.of_bodySF (plainFor_of_name pn_16) hisR ?_
  intro p e s m args below meth c s₁ Bd hml0 hP hK
  obtain ⟨rfl, hZ, hh⟩ := hP
  have hx := Bd.exec
  have hby := Bd.bytes
  have hml : c.maxLocals = 3 := hml0
  have hown : s.vm.findClass "jdk/internal/util/Preconditions" = some m.cls := findClass_of_methodNamed Bd.named
  have X0 : Stand p l e ({ frames := 0, cells := 0, slots := 0, locals := 0 } : Room) s m #[(.int (2 : Int32)), (.int (3 : Int32)), .null] below meth c s₁ [] 0 0 := Stand.of_body Bd
  have e0 : s₁.heap = h0 := by rw [← hh, Bd.state]; rfl
  have N0 := Fr.nil n0
  have s0 : Steps p.tables e below (s₁.setTop (entryFrame m #[(.int (2 : Int32)), (.int (3 : Int32)), .null] 3)) (s₁.setTop (mkF m 0 #[.val (.int (2 : Int32)), .val (.int (3 : Int32)), .val .null] [])) := castTop (ef_rmalpc_3_2 m ) (Steps.refl _)
  obtain ⟨A₀, hA₀⟩ : ∃ z, z = (s₁.setTop (entryFrame m #[(.int (2 : Int32)), (.int (3 : Int32)), .null] 3)) := ⟨_, rfl⟩
  rw [← hA₀] at s0
  have s1 : Steps p.tables e below A₀ (s₁.setTop (mkF m 17 #[.val (.int (2 : Int32)), .val (.int (3 : Int32)), .val .null] [(.int (2 : Int32))])) := by
    refine s0.trans ?_
    refine XS.iloadN X0.here hx rfl (hb hby d16_0) rfl ?_
    refine XS.ifNo X0.here hx rfl (hb hby d16_1) rfl ((if0 _ _).trans (flt (by decide)).1) ?_
    refine XS.iloadN X0.here hx rfl (hb hby d16_4) rfl ?_
    refine XS.iloadN X0.here hx rfl (hb hby d16_5) rfl ?_
    refine XS.icmpYes X0.here hx rfl (pc0 := 6) (pc' := 16) rfl (hb hby d16_6) rfl (tlt (by decide)).1 (by decide) (by decide) ?_
    refine XS.iloadN X0.here hx rfl (hb hby d16_16) rfl ?_
    exact Steps.refl _
  subst hA₀
  obtain ⟨fs, hr, hrun, hended, hW, hsame⟩ := X0.leave (v := some (.int (2 : Int32))) (fun h => by rw [Bd.returns] at h; cases h)
  refine ⟨_, _, s1.trans ?_, hrun, hended, _, _, rfl, ?_, ⟨_, rfl⟩, hW, hsame.mono (by decide) (by decide)⟩
  · show Steps p.tables e below (s₁.setTop (mkF m 17 #[.val (.int (2 : Int32)), .val (.int (3 : Int32)), .val .null] [(.int (2 : Int32))])) _
    exact retI X0 hx Bd.returns (hb hby d16_17) hr
  · show Qalpc_3_2 Z  h0 n0 _ s₁.heap _
    rw [e0]
    exact ⟨rfl, N0, rfl⟩
theorem pd_rmalci_3_2_0 : parseMethodDescriptor "(IILjava/util/function/BiFunction;)I" = some ⟨[.int, .int, (.object "java/util/function/BiFunction")], some .int⟩ := by decide +kernel
theorem ef_rmalci_3_2 (m : MethodId)  : entryFrame m #[(.int (2 : Int32)), (.int (3 : Int32))] 2 = mkF m 0 #[.val (.int (2 : Int32)), .val (.int (3 : Int32))] [] := by first | (simp [entryFrame, mkF, argsToLocals, Value.category]; done) | rfl
def Qalci_3_2 (Z : State)  (h0 : Heap) (n0 : Nat) (v : Option Value) (h : Heap) (L : List Loc) : Prop := v = some (.int (2 : Int32)) ∧ Fr n0 L ∧ h = h0
set_option maxRecDepth 65536 in
set_option maxHeartbeats 40000000 in
theorem rmalci_3_2 (l : Launch) (Z : State) (a0 : Array Value) (hw : ∀ d ∈ tables_1, d.before a0 Z = true) (ws : List Jvm.Cond)  (h0 : Heap) (n0 : Nat) (O0 : Old Z n0 h0) :
    MetFree l nm10 (head1 (Jvm.Cond.code nm10 jdk_31_method_17_code 2 (some .int) :: ws) ({ frames := 1, cells := 0, slots := 0, locals := 14 } : Room)) (fun a U => a = #[(.int (2 : Int32)), (.int (3 : Int32))] ∧ Z.Warmed39 U.vm ∧ U.heap = h0) (fun _ _ _ _ _ => True) (fun _ U o U' => ∃ v L, o = .returned v ∧ Qalci_3_2 Z  h0 n0 v U'.heap L ∧ FrameEnd U o U' L ({ frames := 1, cells := 0, slots := 0, locals := 14 } : Room).cells ({ frames := 1, cells := 0, slots := 0, locals := 14 } : Room).slots) := by
  refine MetFree.of_bodySF (plainFor_of_name pn_15) hisR ?_
  intro p e s m args below meth c s₁ Bd hml0 hP hK
  obtain ⟨rfl, hZ, hh⟩ := hP
  have hx := Bd.exec
  have hby := Bd.bytes
  have hml : c.maxLocals = 2 := hml0
  have hown : s.vm.findClass "java/util/Objects" = some m.cls := findClass_of_methodNamed Bd.named
  have X0 : Stand p l e ({ frames := 1, cells := 0, slots := 0, locals := 14 } : Room) s m #[(.int (2 : Int32)), (.int (3 : Int32))] below meth c s₁ [] 0 0 := Stand.of_body Bd
  have e0 : s₁.heap = h0 := by rw [← hh, Bd.state]; rfl
  have N0 := Fr.nil n0
  have s0 : Steps p.tables e below (s₁.setTop (entryFrame m #[(.int (2 : Int32)), (.int (3 : Int32))] 2)) (s₁.setTop (mkF m 0 #[.val (.int (2 : Int32)), .val (.int (3 : Int32))] [])) := castTop (ef_rmalci_3_2 m ) (Steps.refl _)
  obtain ⟨A₀, hA₀⟩ : ∃ z, z = (s₁.setTop (entryFrame m #[(.int (2 : Int32)), (.int (3 : Int32))] 2)) := ⟨_, rfl⟩
  rw [← hA₀] at s0
  obtain ⟨T1, L1, X1, e1, N1, st1⟩ := own_callP X0 hx hZ hown (wk113 hw) (wk114 hw) (wk115 hw) (wk116 hw) (by decide) (rmalpc_3_2 l Z a0 hw []  h0 n0 O0 ) e0 N0 (W := 0) (by decide) (by decide) (by decide) (by decide) (g := (mkF m 3 #[.val (.int (2 : Int32)), .val (.int (3 : Int32))] [.null, (.int (3 : Int32)), (.int (2 : Int32))])) rfl (by rw [hml]; rfl) (argsL := [(.int (2 : Int32)), (.int (3 : Int32)), .null]) (rest := []) (lenOf pd_rmalci_3_2_0 rfl) rfl (by show 2 * 0 + _ ≤ _; exact Nat.le_of_eq rfl) (hb hby d15_3)
  have s2 : Steps p.tables e below A₀ (T1.setTop (mkF m 6 #[.val (.int (2 : Int32)), .val (.int (3 : Int32))] [(.int (2 : Int32))])) := by
    refine s0.trans ?_
    refine XS.iloadN X0.here hx rfl (hb hby d15_0) rfl ?_
    refine XS.iloadN X0.here hx rfl (hb hby d15_1) rfl ?_
    refine XS.aconstNull X0.here hx rfl (hb hby d15_2) ?_
    refine st1 _ ?_
    exact Steps.refl _
  subst hA₀
  obtain ⟨fs, hr, hrun, hended, hW, hsame⟩ := X1.leave (v := some (.int (2 : Int32))) (fun h => by rw [Bd.returns] at h; cases h)
  refine ⟨_, _, s2.trans ?_, hrun, hended, _, _, rfl, ?_, ⟨_, rfl⟩, hW, hsame.mono (by decide) (by decide)⟩
  · show Steps p.tables e below (T1.setTop (mkF m 6 #[.val (.int (2 : Int32)), .val (.int (3 : Int32))] [(.int (2 : Int32))])) _
    exact retI X1 hx Bd.returns (hb hby d15_6) hr
  · show Qalci_3_2 Z  h0 n0 _ T1.heap _
    rw [e1]
    exact ⟨rfl, N1, rfl⟩
theorem ef_rmalel_3_2 (m : MethodId) (p0 : Addr) : entryFrame m #[(.ref p0), (.int (2 : Int32))] 2 = mkF m 0 #[.val (.ref p0), .val (.int (2 : Int32))] [] := by first | (simp [entryFrame, mkF, argsToLocals, Value.category]; done) | rfl
def Qalel_3_2 (Z : State) (p0 : Addr) (ed : Addr) (x0 : Addr) (x1 : Addr) (x2 : Addr) (ka : ClassId) (h0 : Heap) (n0 : Nat) (v : Option Value) (h : Heap) (L : List Loc) : Prop := v = some (.ref x2) ∧ Fr n0 L ∧ h = h0
set_option maxRecDepth 65536 in
set_option maxHeartbeats 40000000 in
theorem rmalel_3_2 (l : Launch) (Z : State) (a0 : Array Value) (hw : ∀ d ∈ tables_1, d.before a0 Z = true) (ws : List Jvm.Cond) (p0 : Addr) (ed : Addr) (x0 : Addr) (x1 : Addr) (x2 : Addr) (ka : ClassId) (h0 : Heap) (n0 : Nat) (O0 : Old Z n0 h0) (F0_ : Exa Z h0 p0 "java/util/ArrayList") (F1_ : Fld Z h0 p0 "java/util/ArrayList" "elementData" "[Ljava/lang/Object;" (.ref ed)) (F2_ : Arv Z h0 ed ka (.object "java/lang/Object") (10 : Int32) [(.ref x0), (.ref x1), (.ref x2), .null, .null, .null, .null, .null, .null, .null] .null) :
    MetFree l nm11 (head1 (Jvm.Cond.code nm11 jdk_38_method_18_code 2 (some (.object "java/lang/Object")) :: ws) ({ frames := 0, cells := 0, slots := 0, locals := 0 } : Room)) (fun a U => a = #[(.ref p0), (.int (2 : Int32))] ∧ Z.Warmed39 U.vm ∧ U.heap = h0) (fun _ _ _ _ _ => True) (fun _ U o U' => ∃ v L, o = .returned v ∧ Qalel_3_2 Z p0 ed x0 x1 x2 ka h0 n0 v U'.heap L ∧ FrameEnd U o U' L ({ frames := 0, cells := 0, slots := 0, locals := 0 } : Room).cells ({ frames := 0, cells := 0, slots := 0, locals := 0 } : Room).slots) := by
  refine MetFree.of_bodySF (plainFor_of_name pn_1) hisR ?_
  intro p e s m args below meth c s₁ Bd hml0 hP hK
  obtain ⟨rfl, hZ, hh⟩ := hP
  have hx := Bd.exec
  have hby := Bd.bytes
  have hml : c.maxLocals = 2 := hml0
  have hown : s.vm.findClass "java/util/ArrayList" = some m.cls := findClass_of_methodNamed Bd.named
  have X0 : Stand p l e ({ frames := 0, cells := 0, slots := 0, locals := 0 } : Room) s m #[(.ref p0), (.int (2 : Int32))] below meth c s₁ [] 0 0 := Stand.of_body Bd
  have e0 : s₁.heap = h0 := by rw [← hh, Bd.state]; rfl
  have N0 := Fr.nil n0
  have s0 : Steps p.tables e below (s₁.setTop (entryFrame m #[(.ref p0), (.int (2 : Int32))] 2)) (s₁.setTop (mkF m 0 #[.val (.ref p0), .val (.int (2 : Int32))] [])) := castTop (ef_rmalel_3_2 m p0) (Steps.refl _)
  obtain ⟨A₀, hA₀⟩ : ∃ z, z = (s₁.setTop (entryFrame m #[(.ref p0), (.int (2 : Int32))] 2)) := ⟨_, rfl⟩
  rw [← hA₀] at s0
  obtain ⟨T1, X1, e1, st1⟩ := getF X0 hx hZ hown (host := "") (Or.inl (hw _ (List.mem_of_getElem? (i := 25) rfl))) Via.refl e0 F1_ (g := (mkF m 1 #[.val (.ref p0), .val (.int (2 : Int32))] [(.ref p0)])) rfl rfl (hb hby d17_1)
  obtain ⟨cla2, Ara2, qa2, Sa2, Za2, Ha2, Ga2⟩ := id F2_
  have hin3 : ¬ ((2 : Int32) < 0 ∨ cla2.slots.size ≤ ((2 : Int32)).toNatClampNeg) := inb_of Sa2 ⟨by decide, by decide⟩
  have hat4 : cla2.slots[((2 : Int32)).toNatClampNeg]? = some (.ref x2) := Has.at Ha2 hin3 rfl
  have s5 : Steps p.tables e below A₀ (T1.setTop (mkF m 6 #[.val (.ref p0), .val (.int (2 : Int32))] [(.ref x2)])) := by
    refine s0.trans ?_
    refine XS.aloadN X0.here hx rfl (hb hby d17_0) rfl rfl ?_
    refine st1 _ ?_
    refine XS.iloadN X1.here hx rfl (hb hby d17_4) rfl ?_
    refine X1.aaload hx (j := (2 : Int32)) (v := (.ref x2)) (by rw [e1]; exact Ara2.1) (State.isArrayOf_alike hZ.alike Ara2.2.1) rfl Ara2.2.2 hin3 hat4 (g := (mkF m 5 #[.val (.ref p0), .val (.int (2 : Int32))] [(.int (2 : Int32)), (.ref ed)])) rfl rfl (hb hby d17_5) _ ?_
    exact Steps.refl _
  subst hA₀
  obtain ⟨fs, hr, hrun, hended, hW, hsame⟩ := X1.leave (v := some (.ref x2)) (fun h => by rw [Bd.returns] at h; cases h)
  refine ⟨_, _, s5.trans ?_, hrun, hended, _, _, rfl, ?_, ⟨_, rfl⟩, hW, hsame.mono (by decide) (by decide)⟩
  · show Steps p.tables e below (T1.setTop (mkF m 6 #[.val (.ref p0), .val (.int (2 : Int32))] [(.ref x2)])) _
    jvm_step X1.here [X1.here.top, hx, (hb hby d17_6), X1.method', Bd.returns, Value.isRef, FieldType.isReference]
    first | (intro acts; rw [hr _ acts rfl rfl rfl]) | rw [hr _ _ rfl rfl rfl]
    exact Steps.refl _
  · show Qalel_3_2 Z p0 ed x0 x1 x2 ka h0 n0 _ T1.heap _
    rw [e1]
    exact ⟨rfl, N0, rfl⟩
theorem pd_rmalgt_3_2_0 : parseMethodDescriptor "(II)I" = some ⟨[.int, .int], some .int⟩ := by decide +kernel
theorem pd_rmalgt_3_2_1 : parseMethodDescriptor "(I)Ljava/lang/Object;" = some ⟨[.int], some (.object "java/lang/Object")⟩ := by decide +kernel
theorem ef_rmalgt_3_2 (m : MethodId) (p0 : Addr) : entryFrame m #[(.ref p0), (.int (2 : Int32))] 2 = mkF m 0 #[.val (.ref p0), .val (.int (2 : Int32))] [] := by first | (simp [entryFrame, mkF, argsToLocals, Value.category]; done) | rfl
def Qalgt_3_2 (Z : State) (p0 : Addr) (ed : Addr) (x0 : Addr) (x1 : Addr) (x2 : Addr) (ka : ClassId) (h0 : Heap) (n0 : Nat) (v : Option Value) (h : Heap) (L : List Loc) : Prop := v = some (.ref x2) ∧ Fr n0 L ∧ h = h0
set_option maxRecDepth 65536 in
set_option maxHeartbeats 40000000 in
theorem rmalgt_3_2 (l : Launch) (Z : State) (a0 : Array Value) (hw : ∀ d ∈ tables_1, d.before a0 Z = true) (ws : List Jvm.Cond) (p0 : Addr) (ed : Addr) (x0 : Addr) (x1 : Addr) (x2 : Addr) (ka : ClassId) (h0 : Heap) (n0 : Nat) (O0 : Old Z n0 h0) (F0_ : Exa Z h0 p0 "java/util/ArrayList") (F1_ : Fld Z h0 p0 "java/util/ArrayList" "size" "I" (.int (3 : Int32))) (F2_ : Fld Z h0 p0 "java/util/ArrayList" "elementData" "[Ljava/lang/Object;" (.ref ed)) (F3_ : Arv Z h0 ed ka (.object "java/lang/Object") (10 : Int32) [(.ref x0), (.ref x1), (.ref x2), .null, .null, .null, .null, .null, .null, .null] .null) :
    MetFree l nm12 (head1 (Jvm.Cond.code nm12 jdk_38_method_20_code 2 (some (.object "java/lang/Object")) :: ws) ({ frames := 2, cells := 0, slots := 0, locals := 27 } : Room)) (fun a U => a = #[(.ref p0), (.int (2 : Int32))] ∧ Z.Warmed39 U.vm ∧ U.heap = h0) (fun _ _ _ _ _ => True) (fun _ U o U' => ∃ v L, o = .returned v ∧ Qalgt_3_2 Z p0 ed x0 x1 x2 ka h0 n0 v U'.heap L ∧ FrameEnd U o U' L ({ frames := 2, cells := 0, slots := 0, locals := 27 } : Room).cells ({ frames := 2, cells := 0, slots := 0, locals := 27 } : Room).slots) := by
  refine MetFree.of_bodySF (plainFor_of_name pn_1) hisR ?_
  intro p e s m args below meth c s₁ Bd hml0 hP hK
  obtain ⟨rfl, hZ, hh⟩ := hP
  have hx := Bd.exec
  have hby := Bd.bytes
  have hml : c.maxLocals = 2 := hml0
  have hown : s.vm.findClass "java/util/ArrayList" = some m.cls := findClass_of_methodNamed Bd.named
  have X0 : Stand p l e ({ frames := 2, cells := 0, slots := 0, locals := 27 } : Room) s m #[(.ref p0), (.int (2 : Int32))] below meth c s₁ [] 0 0 := Stand.of_body Bd
  have e0 : s₁.heap = h0 := by rw [← hh, Bd.state]; rfl
  have N0 := Fr.nil n0
  have s0 : Steps p.tables e below (s₁.setTop (entryFrame m #[(.ref p0), (.int (2 : Int32))] 2)) (s₁.setTop (mkF m 0 #[.val (.ref p0), .val (.int (2 : Int32))] [])) := castTop (ef_rmalgt_3_2 m p0) (Steps.refl _)
  obtain ⟨A₀, hA₀⟩ : ∃ z, z = (s₁.setTop (entryFrame m #[(.ref p0), (.int (2 : Int32))] 2)) := ⟨_, rfl⟩
  rw [← hA₀] at s0
  obtain ⟨T1, X1, e1, st1⟩ := getF X0 hx hZ hown (host := "") (Or.inl (hw _ (List.mem_of_getElem? (i := 40) rfl))) Via.refl e0 F1_ (g := (mkF m 2 #[.val (.ref p0), .val (.int (2 : Int32))] [(.ref p0), (.int (2 : Int32))])) rfl rfl (hb hby d14_2)
  obtain ⟨T2, L2, X2, e2, N2, st2⟩ := own_callP X1 hx hZ hown (wk109 hw) (wk110 hw) (wk111 hw) (wk112 hw) (by decide) (rmalci_3_2 l Z a0 hw []  h0 n0 O0 ) e1 N0 (W := 0) (by decide) (by decide) (by decide) (by decide) (g := (mkF m 5 #[.val (.ref p0), .val (.int (2 : Int32))] [(.int (3 : Int32)), (.int (2 : Int32))])) rfl (by rw [hml]; rfl) (argsL := [(.int (2 : Int32)), (.int (3 : Int32))]) (rest := []) (lenOf pd_rmalgt_3_2_0 rfl) rfl (by show 2 * 0 + _ ≤ _; exact Nat.le_of_eq rfl) (hb hby d14_5)
  obtain ⟨T3, L3, X3, e3, N3, st3⟩ := own_callVP X2 hx hZ hown (wk117 hw) (wk118 hw) (wk120 hw) (wk119 hw) (by decide) (wk3 hw) (wk121 hw) (rmalel_3_2 l Z a0 hw [] p0 ed x0 x1 x2 ka h0 n0 O0 F0_ F2_ F3_) e2 N2 (W := 0) (by decide) (by decide) (by decide) (by decide) F0_ (g := (mkF m 11 #[.val (.ref p0), .val (.int (2 : Int32))] [(.int (2 : Int32)), (.ref p0)])) rfl (by rw [hml]; rfl) (argsL := [(.int (2 : Int32))]) (rest := []) (lenOf pd_rmalgt_3_2_1 rfl) rfl (by show 2 * 0 + _ ≤ _; exact Nat.le_of_eq rfl) (hb hby d14_11)
  have s4 : Steps p.tables e below A₀ (T3.setTop (mkF m 14 #[.val (.ref p0), .val (.int (2 : Int32))] [(.ref x2)])) := by
    refine s0.trans ?_
    refine XS.iloadN X0.here hx rfl (hb hby d14_0) rfl ?_
    refine XS.aloadN X0.here hx rfl (hb hby d14_1) rfl rfl ?_
    refine st1 _ ?_
    refine st2 _ ?_
    refine XS.pop X2.here hx rfl (hb hby d14_8) rfl rfl ?_
    refine XS.aloadN X2.here hx rfl (hb hby d14_9) rfl rfl ?_
    refine XS.iloadN X2.here hx rfl (hb hby d14_10) rfl ?_
    refine st3 _ ?_
    exact Steps.refl _
  subst hA₀
  obtain ⟨fs, hr, hrun, hended, hW, hsame⟩ := X3.leave (v := some (.ref x2)) (fun h => by rw [Bd.returns] at h; cases h)
  refine ⟨_, _, s4.trans ?_, hrun, hended, _, _, rfl, ?_, ⟨_, rfl⟩, hW, hsame.mono (by decide) (by decide)⟩
  · show Steps p.tables e below (T3.setTop (mkF m 14 #[.val (.ref p0), .val (.int (2 : Int32))] [(.ref x2)])) _
    jvm_step X3.here [X3.here.top, hx, (hb hby d14_14), X3.method', Bd.returns, Value.isRef, FieldType.isReference]
    first | (intro acts; rw [hr _ acts rfl rfl rfl]) | rw [hr _ _ rfl rfl rfl]
    exact Steps.refl _
  · show Qalgt_3_2 Z p0 ed x0 x1 x2 ka h0 n0 _ T3.heap _
    rw [e3]
    exact ⟨rfl, N3, rfl⟩
theorem d8_0 : decode jdk_30_method_1_code 0 = .ok (.aload_n 0, 1) := by decide +kernel
theorem d8_1 : decode jdk_30_method_1_code 1 = .ok (.invokespecial 1, 3) := by decide +kernel
theorem d8_4 : decode jdk_30_method_1_code 4 = .ok (.return_, 1) := by decide +kernel
theorem pn_8 : plainName "java/lang/Record" = true := by first | (simp [plainName, overriddenIn]; done) | decide +kernel
theorem ef_rm8 (m : MethodId) (p0 : Addr) : entryFrame m #[(.ref p0)] 1 = mkF m 0 #[.val (.ref p0)] [] := by first | (simp [entryFrame, mkF, argsToLocals, Value.category]; done) | rfl
def Q8 (Z : State) (p0 : Addr) (h0 : Heap) (n0 : Nat) (v : Option Value) (h : Heap) (L : List Loc) : Prop := v = none ∧ Fr n0 L ∧ h = h0
set_option maxRecDepth 65536 in
set_option maxHeartbeats 40000000 in
theorem rm8 (l : Launch) (Z : State) (a0 : Array Value) (hw : ∀ d ∈ tables_1, d.before a0 Z = true) (ws : List Jvm.Cond) (p0 : Addr) (h0 : Heap) (n0 : Nat) (O0 : Old Z n0 h0) :
    MetFree l nm13 (head1 (Jvm.Cond.code nm13 jdk_30_method_1_code 1 none :: ws) ({ frames := 1, cells := 0, slots := 0, locals := 12 } : Room)) (fun a U => a = #[(.ref p0)] ∧ Z.Warmed39 U.vm ∧ U.heap = h0) (fun _ _ _ _ _ => True) (fun _ U o U' => ∃ v L, o = .returned v ∧ Q8 Z p0 h0 n0 v U'.heap L ∧ FrameEnd U o U' L ({ frames := 1, cells := 0, slots := 0, locals := 12 } : Room).cells ({ frames := 1, cells := 0, slots := 0, locals := 12 } : Room).slots) := by
  refine MetFree.of_bodySF (plainFor_of_name pn_8) hisR ?_
  intro p e s m args below meth c s₁ Bd hml0 hP hK
  obtain ⟨rfl, hZ, hh⟩ := hP
  have hx := Bd.exec
  have hby := Bd.bytes
  have hml : c.maxLocals = 1 := hml0
  have hown : s.vm.findClass "java/lang/Record" = some m.cls := findClass_of_methodNamed Bd.named
  have X0 : Stand p l e ({ frames := 1, cells := 0, slots := 0, locals := 12 } : Room) s m #[(.ref p0)] below meth c s₁ [] 0 0 := Stand.of_body Bd
  have e0 : s₁.heap = h0 := by rw [← hh, Bd.state]; rfl
  have N0 := Fr.nil n0
  have s0 : Steps p.tables e below (s₁.setTop (entryFrame m #[(.ref p0)] 1)) (s₁.setTop (mkF m 0 #[.val (.ref p0)] [])) := castTop (ef_rm8 m p0) (Steps.refl _)
  obtain ⟨A₀, hA₀⟩ : ∃ z, z = (s₁.setTop (entryFrame m #[(.ref p0)] 1)) := ⟨_, rfl⟩
  rw [← hA₀] at s0
  obtain ⟨T1, X1, e1, st1⟩ := initO X0 hx hZ hown (hw _ (List.mem_of_getElem? (i := 62) rfl)) (hw _ (List.mem_of_getElem? (i := 20) rfl)) (hw _ (List.mem_of_getElem? (i := 21) rfl)) e0 (g := (mkF m 1 #[.val (.ref p0)] [(.ref p0)])) rfl (by rw [hml]; rfl) rfl (hb hby d8_1) (by decide) (W := 0) (by show 2 * 0 + _ ≤ _; exact Nat.le_of_eq rfl) (by decide)
  have s2 : Steps p.tables e below A₀ (T1.setTop (mkF m 4 #[.val (.ref p0)] [])) := by
    refine s0.trans ?_
    refine XS.aloadN X0.here hx rfl (hb hby d8_0) rfl rfl ?_
    refine st1 _ ?_
    exact Steps.refl _
  subst hA₀
  obtain ⟨fs, hr, hrun, hended, hW, hsame⟩ := X1.leave (v := none) (fun _ => rfl)
  refine ⟨_, _, s2.trans ?_, hrun, hended, _, _, rfl, ?_, ⟨_, rfl⟩, hW, hsame.mono (by decide) (by decide)⟩
  · show Steps p.tables e below (T1.setTop (mkF m 4 #[.val (.ref p0)] [])) _
    exact X1.returnOut hx Bd.returns (hb hby d8_4) hr
  · show Q8 Z p0 h0 n0 _ T1.heap _
    rw [e1]
    exact ⟨rfl, N0, rfl⟩
theorem d7_0 : decode prog_47_method_1_code 0 = .ok (.aload_n 0, 1) := by decide +kernel
theorem d7_1 : decode prog_47_method_1_code 1 = .ok (.invokespecial 1, 3) := by decide +kernel
theorem d7_4 : decode prog_47_method_1_code 4 = .ok (.aload_n 0, 1) := by decide +kernel
theorem d7_5 : decode prog_47_method_1_code 5 = .ok (.aload_n 1, 1) := by decide +kernel
theorem d7_6 : decode prog_47_method_1_code 6 = .ok (.putfield 7, 3) := by decide +kernel
theorem d7_9 : decode prog_47_method_1_code 9 = .ok (.aload_n 0, 1) := by decide +kernel
theorem d7_10 : decode prog_47_method_1_code 10 = .ok (.lload_n 2, 1) := by decide +kernel
theorem d7_11 : decode prog_47_method_1_code 11 = .ok (.putfield 13, 3) := by decide +kernel
theorem d7_14 : decode prog_47_method_1_code 14 = .ok (.aload_n 0, 1) := by decide +kernel
theorem d7_15 : decode prog_47_method_1_code 15 = .ok (.iload 4, 2) := by decide +kernel
theorem d7_17 : decode prog_47_method_1_code 17 = .ok (.putfield 17, 3) := by decide +kernel
theorem d7_20 : decode prog_47_method_1_code 20 = .ok (.return_, 1) := by decide +kernel
theorem pn_7 : plainName "com/example/libprox/libprox/RankingModel$QueryTerm" = true := by first | (simp [plainName, overriddenIn]; done) | decide +kernel
theorem pd_rmqi_0 : parseMethodDescriptor "()V" = some ⟨[], none⟩ := by decide +kernel
theorem ef_rmqi (m : MethodId) (p0 : Addr) (p1 : Addr) (p2 : Int64) (p3 : Int32) : entryFrame m #[(.ref p0), (.ref p1), (.long p2), (.int p3)] 5 = mkF m 0 #[.val (.ref p0), .val (.ref p1), .val (.long p2), .second, .val (.int p3)] [] := by first | (simp [entryFrame, mkF, argsToLocals, Value.category]; done) | rfl
def Qqi (Z : State) (p0 : Addr) (p1 : Addr) (p2 : Int64) (p3 : Int32) (h0 : Heap) (n0 : Nat) (v : Option Value) (h : Heap) (L : List Loc) : Prop := v = none ∧ Fr n0 L ∧ Keep h0 h [p0] ∧ (Exa Z h p0 "com/example/libprox/libprox/RankingModel$QueryTerm") ∧ (Fld Z h p0 "com/example/libprox/libprox/RankingModel$QueryTerm" "collectionFrequency" "J" (.long p2))
set_option maxRecDepth 65536 in
set_option maxHeartbeats 40000000 in
theorem rmqi (l : Launch) (Z : State) (a0 : Array Value) (hw : ∀ d ∈ tables_1, d.before a0 Z = true) (ws : List Jvm.Cond) (p0 : Addr) (p1 : Addr) (p2 : Int64) (p3 : Int32) (h0 : Heap) (n0 : Nat) (O0 : Old Z n0 h0) (F0_ : Exa Z h0 p0 "com/example/libprox/libprox/RankingModel$QueryTerm") (F1_ : Fld Z h0 p0 "com/example/libprox/libprox/RankingModel$QueryTerm" "stem" "Ljava/lang/String;" .null) (F2_ : Fld Z h0 p0 "com/example/libprox/libprox/RankingModel$QueryTerm" "collectionFrequency" "J" (.long (0 : Int64))) (F3_ : Fld Z h0 p0 "com/example/libprox/libprox/RankingModel$QueryTerm" "stopWord" "Z" (.int (0 : Int32))) (F4_ : n0 ≤ p0) :
    MetFree l nm14 (head1 (Jvm.Cond.code nm14 prog_47_method_1_code 5 none :: ws) ({ frames := 2, cells := 0, slots := 0, locals := 24 } : Room)) (fun a U => a = #[(.ref p0), (.ref p1), (.long p2), (.int p3)] ∧ Z.Warmed39 U.vm ∧ U.heap = h0) (fun _ _ _ _ _ => True) (fun _ U o U' => ∃ v L, o = .returned v ∧ Qqi Z p0 p1 p2 p3 h0 n0 v U'.heap L ∧ FrameEnd U o U' L ({ frames := 2, cells := 0, slots := 0, locals := 24 } : Room).cells ({ frames := 2, cells := 0, slots := 0, locals := 24 } : Room).slots) := by
  refine MetFree.of_bodySF (plainFor_of_name pn_7) hisR ?_
  intro p e s m args below meth c s₁ Bd hml0 hP hK
  obtain ⟨rfl, hZ, hh⟩ := hP
  have hx := Bd.exec
  have hby := Bd.bytes
  have hml : c.maxLocals = 5 := hml0
  have hown : s.vm.findClass "com/example/libprox/libprox/RankingModel$QueryTerm" = some m.cls := findClass_of_methodNamed Bd.named
  have hnm := (name_of_methodNamed Bd.named Bd.method).1
  have X0 : Stand p l e ({ frames := 2, cells := 0, slots := 0, locals := 24 } : Room) s m #[(.ref p0), (.ref p1), (.long p2), (.int p3)] below meth c s₁ [] 0 0 := Stand.of_body Bd
  have e0 : s₁.heap = h0 := by rw [← hh, Bd.state]; rfl
  have N0 := Fr.nil n0
  have s0 : Steps p.tables e below (s₁.setTop (entryFrame m #[(.ref p0), (.ref p1), (.long p2), (.int p3)] 5)) (s₁.setTop (mkF m 0 #[.val (.ref p0), .val (.ref p1), .val (.long p2), .second, .val (.int p3)] [])) := castTop (ef_rmqi m p0 p1 p2 p3) (Steps.refl _)
  obtain ⟨A₀, hA₀⟩ : ∃ z, z = (s₁.setTop (entryFrame m #[(.ref p0), (.ref p1), (.long p2), (.int p3)] 5)) := ⟨_, rfl⟩
  rw [← hA₀] at s0
  obtain ⟨_, _, ⟨T1, L1, k1, n1⟩, -, X1, ⟨Lc1, hQ1, l1, y1, z1⟩, st1⟩ := X0.specialBack hx (y := (⟨"java/lang/Record", "<init>", "()V"⟩ : MethodName)) rfl hown (mvT hZ (hw _ (List.mem_of_getElem? (i := 57) rfl))) (mvT hZ (hw _ (List.mem_of_getElem? (i := 58) rfl))) (mvT hZ (hw _ (List.mem_of_getElem? (i := 61) rfl))) (by decide) (backOf (W := 0) (rm8 l Z a0 hw [] p0 h0 n0 O0 ) hZ (hw _ (List.mem_of_getElem? (i := 61) rfl)) (hw _ (List.mem_of_getElem? (i := 60) rfl)) (by decide) (by decide)) (g := (mkF m 1 #[.val (.ref p0), .val (.ref p1), .val (.long p2), .second, .val (.int p3)] [(.ref p0)])) rfl (by rw [hml]; rfl) (Steps.refl _) (a := p0) (argsL := []) (rest := []) (lenOf pd_rmqi_0 rfl) rfl (by show 2 * 0 + _ ≤ _; exact Nat.le_of_eq rfl) (hb hby d7_1) (fun _ _ => ⟨rfl, e0, (by decide : 0 + 0 ≤ _), (by decide : 0 + 0 ≤ _)⟩)
  dsimp only [Pt.U, Pt.locs, Pt.cells, Pt.slots] at X1 l1 y1 z1 st1 hQ1
  subst l1 y1 z1
  obtain ⟨rfl, Nq1, e1⟩ := hQ1
  have N1 := Fr.app N0 Nq1
  obtain ⟨T2, h2, X2, e2, W2, st2⟩ := putF X1 hx hZ hown (host := "") (Or.inl (hw _ (List.mem_of_getElem? (i := 63) rfl))) Via.refl e1 F1_ F0_ (Or.inr ⟨(hw _ (List.mem_of_getElem? (i := 64) rfl)), rfl, hnm⟩) (hw _ (List.mem_of_getElem? (i := 44) rfl)) (ty := (.object "java/lang/String")) (by decide) rfl rfl (g := (mkF m 6 #[.val (.ref p0), .val (.ref p1), .val (.long p2), .second, .val (.int p3)] [(.ref p1), (.ref p0)])) rfl rfl (hb hby d7_6)
  have Fw2 := F1_.same W2
  have O2 := O0.wr W2 F4_
  have K2 : Keep h0 h2 [p0] := (Keep.refl h0 [p0]).wr W2 (Or.inl (List.mem_of_getElem? (i := 0) rfl))
  have N2 := Fr.snoc X2 N1 F4_
  have c3 : Exa Z h2 p0 "com/example/libprox/libprox/RankingModel$QueryTerm" := (F0_.wr W2)
  have c4 : Fld Z h2 p0 "com/example/libprox/libprox/RankingModel$QueryTerm" "collectionFrequency" "J" (.long (0 : Int64)) := (F2_.other W2 (Or.inr (slot_ne (Or.inr (hw _ (List.mem_of_getElem? (i := 66) rfl))) (Or.inr (hw _ (List.mem_of_getElem? (i := 64) rfl))) (by decide) (t := .long) (t' := (.object "java/lang/String")) (by decide) (by decide))))
  obtain ⟨T5, h5, X5, e5, W5, st5⟩ := putF X2 hx hZ hown (host := "") (Or.inl (hw _ (List.mem_of_getElem? (i := 65) rfl))) Via.refl e2 c4 c3 (Or.inr ⟨(hw _ (List.mem_of_getElem? (i := 66) rfl)), rfl, hnm⟩) (hw _ (List.mem_of_getElem? (i := 44) rfl)) (ty := .long) (by decide) rfl rfl (g := (mkF m 11 #[.val (.ref p0), .val (.ref p1), .val (.long p2), .second, .val (.int p3)] [(.long p2), (.ref p0)])) rfl rfl (hb hby d7_11)
  have Fw5 := c4.same W5
  have O5 := O2.wr W5 F4_
  have K5 : Keep h0 h5 [p0] := K2.wr W5 (Or.inl (List.mem_of_getElem? (i := 0) rfl))
  have N5 := Fr.snoc X5 N2 F4_
  have c6 : Exa Z h5 p0 "com/example/libprox/libprox/RankingModel$QueryTerm" := (c3.wr W5)
  have c7 : Fld Z h5 p0 "com/example/libprox/libprox/RankingModel$QueryTerm" "stopWord" "Z" (.int (0 : Int32)) := ((F3_.other W2 (Or.inr (slot_ne (Or.inr (hw _ (List.mem_of_getElem? (i := 68) rfl))) (Or.inr (hw _ (List.mem_of_getElem? (i := 64) rfl))) (by decide) (t := .boolean) (t' := (.object "java/lang/String")) (by decide) (by decide)))).other W5 (Or.inr (slot_ne (Or.inr (hw _ (List.mem_of_getElem? (i := 68) rfl))) (Or.inr (hw _ (List.mem_of_getElem? (i := 66) rfl))) (by decide) (t := .boolean) (t' := .long) (by decide) (by decide))))
  obtain ⟨T8, h8, X8, e8, W8, st8⟩ := putFN X5 hx hZ hown (hw _ (List.mem_of_getElem? (i := 67) rfl)) Via.refl e5 c7 c6 (Or.inr ⟨(hw _ (List.mem_of_getElem? (i := 68) rfl)), rfl, hnm⟩) (hw _ (List.mem_of_getElem? (i := 44) rfl)) (ty := .boolean) (v' := (.int (nar .boolean p3))) (by decide) rfl (fits_nar_bool _) (g := (mkF m 17 #[.val (.ref p0), .val (.ref p1), .val (.long p2), .second, .val (.int p3)] [(.int p3), (.ref p0)])) rfl rfl (hb hby d7_17)
  have Fw8 := c7.same W8
  have O8 := O5.wr W8 F4_
  have K8 : Keep h0 h8 [p0] := K5.wr W8 (Or.inl (List.mem_of_getElem? (i := 0) rfl))
  have N8 := Fr.snoc X8 N5 F4_
  have s9 : Steps p.tables e below A₀ (T8.setTop (mkF m 20 #[.val (.ref p0), .val (.ref p1), .val (.long p2), .second, .val (.int p3)] [])) := by
    refine s0.trans ?_
    refine XS.aloadN X0.here hx rfl (hb hby d7_0) rfl rfl ?_
    refine st1.trans ?_
    refine XS.aloadN X1.here hx rfl (hb hby d7_4) rfl rfl ?_
    refine XS.aloadN X1.here hx rfl (hb hby d7_5) rfl rfl ?_
    refine st2 _ ?_
    refine XS.aloadN X2.here hx rfl (hb hby d7_9) rfl rfl ?_
    refine XS.lloadN X2.here hx rfl (hb hby d7_10) rfl ?_
    refine st5 _ ?_
    show Steps p.tables e below (T5.setTop (mkF m 14 #[.val (.ref p0), .val (.ref p1), .val (.long p2), .second, .val (.int p3)] [])) _
    refine XS.aloadN X5.here hx rfl (hb hby d7_14) rfl rfl ?_
    refine XS.iload X5.here hx rfl (hb hby d7_15) rfl ?_
    refine st8 _ ?_
    exact Steps.refl _
  subst hA₀
  have c10 : Exa Z h8 p0 "com/example/libprox/libprox/RankingModel$QueryTerm" := (c6.wr W8)
  have c11 : Fld Z h8 p0 "com/example/libprox/libprox/RankingModel$QueryTerm" "collectionFrequency" "J" (.long p2) := (Fw5.other W8 (Or.inr (slot_ne (Or.inr (hw _ (List.mem_of_getElem? (i := 66) rfl))) (Or.inr (hw _ (List.mem_of_getElem? (i := 68) rfl))) (by decide) (t := .long) (t' := .boolean) (by decide) (by decide))))
  obtain ⟨fs, hr, hrun, hended, hW, hsame⟩ := X8.leave (v := none) (fun _ => rfl)
  refine ⟨_, _, s9.trans ?_, hrun, hended, _, _, rfl, ?_, ⟨_, rfl⟩, hW, hsame.mono (by decide) (by decide)⟩
  · show Steps p.tables e below (T8.setTop (mkF m 20 #[.val (.ref p0), .val (.ref p1), .val (.long p2), .second, .val (.int p3)] [])) _
    exact X8.returnOut hx Bd.returns (hb hby d7_20) hr
  · show Qqi Z p0 p1 p2 p3 h0 n0 _ T8.heap _
    rw [e8]
    exact ⟨rfl, N8, K8, c10, c11⟩
theorem d18_0 : decode prog_47_method_6_code 0 = .ok (.aload_n 0, 1) := by decide +kernel
theorem d18_1 : decode prog_47_method_6_code 1 = .ok (.getfield 13, 3) := by decide +kernel
theorem d18_4 : decode prog_47_method_6_code 4 = .ok (.lreturn, 1) := by decide +kernel
theorem ef_rmqc (m : MethodId) (p0 : Addr) : entryFrame m #[(.ref p0)] 1 = mkF m 0 #[.val (.ref p0)] [] := by first | (simp [entryFrame, mkF, argsToLocals, Value.category]; done) | rfl
def Qqc (Z : State) (p0 : Addr) (cf : Int64) (h0 : Heap) (n0 : Nat) (v : Option Value) (h : Heap) (L : List Loc) : Prop := v = some (.long cf) ∧ Fr n0 L ∧ h = h0
set_option maxRecDepth 65536 in
set_option maxHeartbeats 40000000 in
theorem rmqc (l : Launch) (Z : State) (a0 : Array Value) (hw : ∀ d ∈ tables_1, d.before a0 Z = true) (ws : List Jvm.Cond) (p0 : Addr) (cf : Int64) (h0 : Heap) (n0 : Nat) (O0 : Old Z n0 h0) (F0_ : Exa Z h0 p0 "com/example/libprox/libprox/RankingModel$QueryTerm") (F1_ : Fld Z h0 p0 "com/example/libprox/libprox/RankingModel$QueryTerm" "collectionFrequency" "J" (.long cf)) :
    MetFree l nm15 (head1 (Jvm.Cond.code nm15 prog_47_method_6_code 1 (some .long) :: ws) ({ frames := 0, cells := 0, slots := 0, locals := 0 } : Room)) (fun a U => a = #[(.ref p0)] ∧ Z.Warmed39 U.vm ∧ U.heap = h0) (fun _ _ _ _ _ => True) (fun _ U o U' => ∃ v L, o = .returned v ∧ Qqc Z p0 cf h0 n0 v U'.heap L ∧ FrameEnd U o U' L ({ frames := 0, cells := 0, slots := 0, locals := 0 } : Room).cells ({ frames := 0, cells := 0, slots := 0, locals := 0 } : Room).slots) := by
  refine MetFree.of_bodySF (plainFor_of_name pn_7) hisR ?_
  intro p e s m args below meth c s₁ Bd hml0 hP hK
  obtain ⟨rfl, hZ, hh⟩ := hP
  have hx := Bd.exec
  have hby := Bd.bytes
  have hml : c.maxLocals = 1 := hml0
  have hown : s.vm.findClass "com/example/libprox/libprox/RankingModel$QueryTerm" = some m.cls := findClass_of_methodNamed Bd.named
  have X0 : Stand p l e ({ frames := 0, cells := 0, slots := 0, locals := 0 } : Room) s m #[(.ref p0)] below meth c s₁ [] 0 0 := Stand.of_body Bd
  have e0 : s₁.heap = h0 := by rw [← hh, Bd.state]; rfl
  have N0 := Fr.nil n0
  have s0 : Steps p.tables e below (s₁.setTop (entryFrame m #[(.ref p0)] 1)) (s₁.setTop (mkF m 0 #[.val (.ref p0)] [])) := castTop (ef_rmqc m p0) (Steps.refl _)
  obtain ⟨A₀, hA₀⟩ : ∃ z, z = (s₁.setTop (entryFrame m #[(.ref p0)] 1)) := ⟨_, rfl⟩
  rw [← hA₀] at s0
  obtain ⟨T1, X1, e1, st1⟩ := getF X0 hx hZ hown (host := "") (Or.inl (hw _ (List.mem_of_getElem? (i := 65) rfl))) Via.refl e0 F1_ (g := (mkF m 1 #[.val (.ref p0)] [(.ref p0)])) rfl rfl (hb hby d18_1)
  have s2 : Steps p.tables e below A₀ (T1.setTop (mkF m 4 #[.val (.ref p0)] [(.long cf)])) := by
    refine s0.trans ?_
    refine XS.aloadN X0.here hx rfl (hb hby d18_0) rfl rfl ?_
    refine st1 _ ?_
    exact Steps.refl _
  subst hA₀
  obtain ⟨fs, hr, hrun, hended, hW, hsame⟩ := X1.leave (v := some (.long cf)) (fun h => by rw [Bd.returns] at h; cases h)
  refine ⟨_, _, s2.trans ?_, hrun, hended, _, _, rfl, ?_, ⟨_, rfl⟩, hW, hsame.mono (by decide) (by decide)⟩
  · show Steps p.tables e below (T1.setTop (mkF m 4 #[.val (.ref p0)] [(.long cf)])) _
    jvm_step X1.here [X1.here.top, hx, (hb hby d18_4), X1.method', Bd.returns, narrow]
    first | (intro acts; rw [hr _ acts rfl rfl rfl]) | rw [hr _ _ rfl rfl rfl]
    exact Steps.refl _
  · show Qqc Z p0 cf h0 n0 _ T1.heap _
    rw [e1]
    exact ⟨rfl, N0, rfl⟩
theorem d19_0 : decode method_3_code 0 = .ok (.dload_n 0, 1) := by decide +kernel
theorem d19_1 : decode method_3_code 1 = .ok (.lload 6, 2) := by decide +kernel
theorem d19_3 : decode method_3_code 3 = .ok (.l2d, 1) := by decide +kernel
theorem d19_4 : decode method_3_code 4 = .ok (.dmul, 1) := by decide +kernel
theorem d19_5 : decode method_3_code 5 = .ok (.lload_n 2, 1) := by decide +kernel
theorem d19_6 : decode method_3_code 6 = .ok (.lload 4, 2) := by decide +kernel
theorem d19_8 : decode method_3_code 8 = .ok (.lmul, 1) := by decide +kernel
theorem d19_9 : decode method_3_code 9 = .ok (.l2d, 1) := by decide +kernel
theorem d19_10 : decode method_3_code 10 = .ok (.dcmp .l, 1) := by decide +kernel
theorem d19_11 : decode method_3_code 11 = .ok (.ifCond .ne 7, 3) := by decide +kernel
theorem d19_14 : decode method_3_code 14 = .ok (.iconst 1, 1) := by decide +kernel
theorem d19_15 : decode method_3_code 15 = .ok (.goto 4, 3) := by decide +kernel
theorem d19_19 : decode method_3_code 19 = .ok (.ireturn, 1) := by decide +kernel
theorem pn_19 : plainName "com/example/libprox/libprox/KldPriorsPinLaw" = true := by first | (simp [plainName, overriddenIn]; done) | decide +kernel
theorem ef_rmck (m : MethodId) (p0 : UInt64) (p1 : Int64) (p2 : Int64) (p3 : Int64) : entryFrame m #[(.double p0), (.long p1), (.long p2), (.long p3)] 8 = mkF m 0 #[.val (.double p0), .second, .val (.long p1), .second, .val (.long p2), .second, .val (.long p3), .second] [] := by first | (simp [entryFrame, mkF, argsToLocals, Value.category]; done) | rfl
def Qck (Z : State) (p0 : UInt64) (p1 : Int64) (p2 : Int64) (p3 : Int64) (h0 : Heap) (n0 : Nat) (v : Option Value) (h : Heap) (L : List Loc) : Prop := v = some (.int (1 : Int32)) ∧ Fr n0 L ∧ h = h0
set_option maxRecDepth 65536 in
set_option maxHeartbeats 40000000 in
theorem rmck (l : Launch) (Z : State) (a0 : Array Value) (hw : ∀ d ∈ tables_1, d.before a0 Z = true) (ws : List Jvm.Cond) (p0 : UInt64) (p1 : Int64) (p2 : Int64) (p3 : Int64) (h0 : Heap) (n0 : Nat) (O0 : Old Z n0 h0) (hg : FP.dmul p0 (FP.l2d p3) = FP.l2d (p1 * p2)) :
    MetFree l nm16 (head1 (Jvm.Cond.code nm16 method_3_code 8 (some .boolean) :: ws) ({ frames := 0, cells := 0, slots := 0, locals := 0 } : Room)) (fun a U => a = #[(.double p0), (.long p1), (.long p2), (.long p3)] ∧ Z.Warmed39 U.vm ∧ U.heap = h0) (fun _ _ _ _ _ => True) (fun _ U o U' => ∃ v L, o = .returned v ∧ Qck Z p0 p1 p2 p3 h0 n0 v U'.heap L ∧ FrameEnd U o U' L ({ frames := 0, cells := 0, slots := 0, locals := 0 } : Room).cells ({ frames := 0, cells := 0, slots := 0, locals := 0 } : Room).slots) := by
  refine MetFree.of_bodySF (plainFor_of_name pn_19) hisR ?_
  intro p e s m args below meth c s₁ Bd hml0 hP hK
  obtain ⟨rfl, hZ, hh⟩ := hP
  have hx := Bd.exec
  have hby := Bd.bytes
  have hml : c.maxLocals = 8 := hml0
  have hown : s.vm.findClass "com/example/libprox/libprox/KldPriorsPinLaw" = some m.cls := findClass_of_methodNamed Bd.named
  have X0 : Stand p l e ({ frames := 0, cells := 0, slots := 0, locals := 0 } : Room) s m #[(.double p0), (.long p1), (.long p2), (.long p3)] below meth c s₁ [] 0 0 := Stand.of_body Bd
  have e0 : s₁.heap = h0 := by rw [← hh, Bd.state]; rfl
  have N0 := Fr.nil n0
  have s0 : Steps p.tables e below (s₁.setTop (entryFrame m #[(.double p0), (.long p1), (.long p2), (.long p3)] 8)) (s₁.setTop (mkF m 0 #[.val (.double p0), .second, .val (.long p1), .second, .val (.long p2), .second, .val (.long p3), .second] [])) := castTop (ef_rmck m p0 p1 p2 p3) (Steps.refl _)
  obtain ⟨A₀, hA₀⟩ : ∃ z, z = (s₁.setTop (entryFrame m #[(.double p0), (.long p1), (.long p2), (.long p3)] 8)) := ⟨_, rfl⟩
  rw [← hA₀] at s0
  have s1 : Steps p.tables e below A₀ (s₁.setTop (mkF m 19 #[.val (.double p0), .second, .val (.long p1), .second, .val (.long p2), .second, .val (.long p3), .second] [(.int (1 : Int32))])) := by
    refine s0.trans ?_
    refine XS.dloadN X0.here hx rfl (hb hby d19_0) rfl ?_
    refine XS.lload X0.here hx rfl (hb hby d19_1) rfl ?_
    refine XS.l2dS X0.here hx rfl (hb hby d19_3) rfl rfl ?_
    refine XS.dmulS X0.here hx rfl (hb hby d19_4) rfl (nn_w hg) hg ?_
    refine XS.lloadN X0.here hx rfl (hb hby d19_5) rfl ?_
    refine XS.lload X0.here hx rfl (hb hby d19_6) rfl ?_
    refine XS.lmul X0.here hx rfl (hb hby d19_8) rfl ?_
    refine XS.l2dS X0.here hx rfl (hb hby d19_9) rfl rfl ?_
    show Steps p.tables e below (s₁.setTop (mkF m 10 #[.val (.double p0), .second, .val (.long p1), .second, .val (.long p2), .second, .val (.long p3), .second] [(.double (FP.l2d (p1 * p2))), (.double (FP.l2d (p1 * p2)))])) _
    refine XS.dcmpS X0.here hx rfl (hb hby d19_10) rfl (dcmpV_self (nn_w rfl) _) ?_
    refine XS.ifNo X0.here hx rfl (hb hby d19_11) rfl ((if0 _ _).trans (teq (by decide)).2) ?_
    refine XS.iconst X0.here hx rfl (hb hby d19_14) ?_
    refine XS.goto X0.here hx rfl (pc0 := 15) (pc' := 19) rfl (hb hby d19_15) (by decide) (by decide) ?_
    exact Steps.refl _
  subst hA₀
  obtain ⟨fs, hr, hrun, hended, hW, hsame⟩ := X0.leave (v := some (.int (1 : Int32))) (fun h => by rw [Bd.returns] at h; cases h)
  refine ⟨_, _, s1.trans ?_, hrun, hended, _, _, rfl, ?_, ⟨_, rfl⟩, hW, hsame.mono (by decide) (by decide)⟩
  · show Steps p.tables e below (s₁.setTop (mkF m 19 #[.val (.double p0), .second, .val (.long p1), .second, .val (.long p2), .second, .val (.long p3), .second] [(.int (1 : Int32))])) _
    exact retN X0 hx (t := .boolean) Bd.returns (by simp) (hb hby d19_19) hr
  · show Qck Z p0 p1 p2 p3 h0 n0 _ s₁.heap _
    rw [e0]
    exact ⟨rfl, N0, rfl⟩
theorem d5_0 : decode prog_18_method_3_code 0 = .ok (.aload_n 2, 1) := by decide +kernel
theorem d5_1 : decode prog_18_method_3_code 1 = .ok (.invokeinterface 18 1, 5) := by decide +kernel
theorem d5_6 : decode prog_18_method_3_code 6 = .ok (.newarray .double, 2) := by decide +kernel
theorem d5_8 : decode prog_18_method_3_code 8 = .ok (.astore 5, 2) := by decide +kernel
theorem d5_10 : decode prog_18_method_3_code 10 = .ok (.iconst 0, 1) := by decide +kernel
theorem d5_11 : decode prog_18_method_3_code 11 = .ok (.istore 6, 2) := by decide +kernel
theorem d5_13 : decode prog_18_method_3_code 13 = .ok (.iload 6, 2) := by decide +kernel
theorem d5_15 : decode prog_18_method_3_code 15 = .ok (.aload 5, 2) := by decide +kernel
theorem d5_17 : decode prog_18_method_3_code 17 = .ok (.arraylength, 1) := by decide +kernel
theorem d5_18 : decode prog_18_method_3_code 18 = .ok (.if_icmp .ge 34, 3) := by decide +kernel
theorem d5_52 : decode prog_18_method_3_code 52 = .ok (.aload 5, 2) := by decide +kernel
theorem d5_54 : decode prog_18_method_3_code 54 = .ok (.areturn, 1) := by decide +kernel
theorem pn_5 : plainName "com/example/libprox/libprox/Kld" = true := by first | (simp [plainName, overriddenIn]; done) | decide +kernel
theorem pd_rmpri_0_0 : parseMethodDescriptor "()I" = some ⟨[], some .int⟩ := by decide +kernel
theorem ef_rmpri_0 (m : MethodId) (p0 : UInt64) (p1 : Addr) (p2 : Int64) : entryFrame m #[(.double p0), (.ref p1), (.long p2)] 7 = mkF m 0 #[.val (.double p0), .second, .val (.ref p1), .val (.long p2), .second, .unset, .unset] [] := by first | (simp [entryFrame, mkF, argsToLocals, Value.category]; done) | rfl
def Qpri_0 (Z : State) (p0 : UInt64) (p1 : Addr) (p2 : Int64) (h0 : Heap) (n0 : Nat) (v : Option Value) (h : Heap) (L : List Loc) : Prop := ∃ b : Addr, ∃ kb : ClassId, v = some (.ref b) ∧ Fr n0 L ∧ Keep h0 h [] ∧ (Arv Z h b kb .double (0 : Int32) [] (.double (FP.l2d (0 : Int64)))) ∧ (h0.size ≤ b)
set_option maxRecDepth 65536 in
set_option maxHeartbeats 40000000 in
theorem rmpri_0 (l : Launch) (Z : State) (a0 : Array Value) (hw : ∀ d ∈ tables_1, d.before a0 Z = true) (ws : List Jvm.Cond) (p0 : UInt64) (p1 : Addr) (p2 : Int64) (h0 : Heap) (n0 : Nat) (O0 : Old Z n0 h0) (F0_ : Exa Z h0 p1 "java/util/ArrayList") (F1_ : Fld Z h0 p1 "java/util/ArrayList" "size" "I" (.int (0 : Int32))) :
    MetFree l nm17 (head1 (Jvm.Cond.code nm17 prog_18_method_3_code 7 (some (.array .double)) :: ws) ({ frames := 1, cells := 1, slots := 0, locals := 12 } : Room)) (fun a U => a = #[(.double p0), (.ref p1), (.long p2)] ∧ Z.Warmed39 U.vm ∧ U.heap = h0) (fun _ _ _ _ _ => True) (fun _ U o U' => ∃ v L, o = .returned v ∧ Qpri_0 Z p0 p1 p2 h0 n0 v U'.heap L ∧ FrameEnd U o U' L ({ frames := 1, cells := 1, slots := 0, locals := 12 } : Room).cells ({ frames := 1, cells := 1, slots := 0, locals := 12 } : Room).slots) := by
  refine MetFree.of_bodySF (plainFor_of_name pn_5) hisR ?_
  intro p e s m args below meth c s₁ Bd hml0 hP hK
  obtain ⟨rfl, hZ, hh⟩ := hP
  have hx := Bd.exec
  have hby := Bd.bytes
  have hml : c.maxLocals = 7 := hml0
  have hown : s.vm.findClass "com/example/libprox/libprox/Kld" = some m.cls := findClass_of_methodNamed Bd.named
  have X0 : Stand p l e ({ frames := 1, cells := 1, slots := 0, locals := 12 } : Room) s m #[(.double p0), (.ref p1), (.long p2)] below meth c s₁ [] 0 0 := Stand.of_body Bd
  have e0 : s₁.heap = h0 := by rw [← hh, Bd.state]; rfl
  have N0 := Fr.nil n0
  have s0 : Steps p.tables e below (s₁.setTop (entryFrame m #[(.double p0), (.ref p1), (.long p2)] 7)) (s₁.setTop (mkF m 0 #[.val (.double p0), .second, .val (.ref p1), .val (.long p2), .second, .unset, .unset] [])) := castTop (ef_rmpri_0 m p0 p1 p2) (Steps.refl _)
  obtain ⟨A₀, hA₀⟩ : ∃ z, z = (s₁.setTop (entryFrame m #[(.double p0), (.ref p1), (.long p2)] 7)) := ⟨_, rfl⟩
  rw [← hA₀] at s0
  obtain ⟨cq1, kq1, q1a, q1b, q1c⟩ := isOf hZ e0 F0_
  obtain ⟨_, _, ⟨T1, L1, k1, n1⟩, -, X1, ⟨Lc1, hQ1, l1, y1, z1⟩, st1⟩ := X0.interfaceBack hx (xi := (⟨"java/util/List", "size", "()I"⟩ : MethodName)) (y := (⟨"java/util/ArrayList", "size", "()I"⟩ : MethodName)) hown (mvT hZ (hw _ (List.mem_of_getElem? (i := 31) rfl))) (mvT hZ (hw _ (List.mem_of_getElem? (i := 32) rfl))) (mvT hZ (hw _ (List.mem_of_getElem? (i := 33) rfl))) (mvT hZ (hw _ (List.mem_of_getElem? (i := 34) rfl))) (mvT hZ (hw _ (List.mem_of_getElem? (i := 35) rfl))) (mvT hZ (hw _ (List.mem_of_getElem? (i := 36) rfl))) (mvT hZ (hw _ (List.mem_of_getElem? (i := 37) rfl))) (mvT hZ (hw _ (List.mem_of_getElem? (i := 38) rfl))) (by decide) (backOf (W := 0) (rmalsz_0 l Z a0 hw [] p1 h0 n0 O0 F0_ F1_) hZ (hw _ (List.mem_of_getElem? (i := 39) rfl)) (hw _ (List.mem_of_getElem? (i := 3) rfl)) (by decide) (by decide)) q1a q1b q1c (g := (mkF m 1 #[.val (.double p0), .second, .val (.ref p1), .val (.long p2), .second, .unset, .unset] [(.ref p1)])) rfl (by rw [hml]; rfl) (Steps.refl _) (argsL := []) (rest := []) (lenOf pd_rmpri_0_0 rfl) rfl (by show 2 * 0 + _ ≤ _; exact Nat.le_of_eq rfl) (hb hby d5_1) (fun _ _ => ⟨rfl, e0, (by decide : 0 + 0 ≤ _), (by decide : 0 + 0 ≤ _)⟩)
  dsimp only [Pt.U, Pt.locs, Pt.cells, Pt.slots] at X1 l1 y1 z1 st1 hQ1
  subst l1 y1 z1
  obtain ⟨rfl, Nq1, e1⟩ := hQ1
  have N1 := Fr.app N0 Nq1
  obtain ⟨T2, h2, k2, X2, e2, E2, A2, st2⟩ := newP X1 hx hZ (hw _ (List.mem_of_getElem? (i := 42) rfl)) e1 (g := (mkF m 6 #[.val (.double p0), .second, .val (.ref p1), .val (.long p2), .second, .unset, .unset] [(.int (0 : Int32))])) rfl (hb hby d5_6) rfl (by decide) (cap := 0) (by decide) (by decide) (by decide) (by decide)
  obtain ⟨b2, g2⟩ : ∃ z, z = h0.size := ⟨_, rfl⟩
  rw [← g2] at A2 st2
  have ne_p1_b2 : p1 ≠ b2 := Nat.ne_of_lt (Nat.lt_of_lt_of_le F0_.lt (Nat.le_of_eq g2.symm))
  have g_b2 : n0 ≤ b2 := Nat.le_trans (Nat.le_of_eq O0.1.symm) (Nat.le_trans O0.2.1 (Nat.le_of_eq g2.symm))
  have sz_b2 : h0.size ≤ b2 := Nat.le_trans (Keep.refl h0 []).1 (Nat.le_of_eq g2.symm)
  have O2 := O0.ext E2
  have K2 : Keep h0 h2 [] := (Keep.refl h0 []).ext E2
  have V2 : Arv Z h2 b2 k2 .double (0 : Int32) [] (.double (FP.l2d (0 : Int64))) := (Arv.newD A2 (by decide)).pad (pad_rep [] (.double (FP.l2d (0 : Int64))) 0)
  obtain ⟨cla3, Ara3, qa3, Sa3, Za3, Ha3, Ga3⟩ := id V2
  have s4 : Steps p.tables e below A₀ (T2.setTop (mkF m 54 #[.val (.double p0), .second, .val (.ref p1), .val (.long p2), .second, .val (.ref b2), .val (.int (0 : Int32))] [(.ref b2)])) := by
    refine s0.trans ?_
    refine XS.aloadN X0.here hx rfl (hb hby d5_0) rfl rfl ?_
    refine st1.trans ?_
    refine st2 _ ?_
    refine XS.astore X2.here hx rfl (hb hby d5_8) rfl rfl (l' := #[.val (.double p0), .second, .val (.ref p1), .val (.long p2), .second, .val (.ref b2), .unset]) rfl ?_
    refine XS.iconst X2.here hx rfl (hb hby d5_10) ?_
    refine XS.istore X2.here hx rfl (hb hby d5_11) rfl (l' := #[.val (.double p0), .second, .val (.ref p1), .val (.long p2), .second, .val (.ref b2), .val (.int (0 : Int32))]) rfl ?_
    refine XS.iload X2.here hx rfl (hb hby d5_13) rfl ?_
    refine XS.aload X2.here hx rfl (hb hby d5_15) rfl rfl ?_
    show Steps p.tables e below (T2.setTop (mkF m 17 #[.val (.double p0), .second, .val (.ref p1), .val (.long p2), .second, .val (.ref b2), .val (.int (0 : Int32))] [(.ref b2), (.int (0 : Int32))])) _
    refine X2.arraylength hx (by rw [e2]; exact Ara3.1) (State.isArrayOf_alike hZ.alike Ara3.2.1) (g := (mkF m 17 #[.val (.double p0), .second, .val (.ref p1), .val (.long p2), .second, .val (.ref b2), .val (.int (0 : Int32))] [(.ref b2), (.int (0 : Int32))])) rfl rfl (hb hby d5_17) _ ?_
    rw [len_of Sa3 Za3]
    show Steps p.tables e below (T2.setTop (mkF m 18 #[.val (.double p0), .second, .val (.ref p1), .val (.long p2), .second, .val (.ref b2), .val (.int (0 : Int32))] [(.int (0 : Int32)), (.int (0 : Int32))])) _
    refine XS.icmpYes X2.here hx rfl (pc0 := 18) (pc' := 52) rfl (hb hby d5_18) rfl (flt (by decide)).2.1 (by decide) (by decide) ?_
    refine XS.aload X2.here hx rfl (hb hby d5_52) rfl rfl ?_
    exact Steps.refl _
  subst hA₀
  obtain ⟨fs, hr, hrun, hended, hW, hsame⟩ := X2.leave (v := some (.ref b2)) (fun h => by rw [Bd.returns] at h; cases h)
  refine ⟨_, _, s4.trans ?_, hrun, hended, _, _, rfl, ?_, ⟨_, rfl⟩, hW, hsame.mono (by decide) (by decide)⟩
  · show Steps p.tables e below (T2.setTop (mkF m 54 #[.val (.double p0), .second, .val (.ref p1), .val (.long p2), .second, .val (.ref b2), .val (.int (0 : Int32))] [(.ref b2)])) _
    jvm_step X2.here [X2.here.top, hx, (hb hby d5_54), X2.method', Bd.returns, Value.isRef, FieldType.isReference]
    first | (intro acts; rw [hr _ acts rfl rfl rfl]) | rw [hr _ _ rfl rfl rfl]
    exact Steps.refl _
  · show Qpri_0 Z p0 p1 p2 h0 n0 _ T2.heap _
    rw [e2]
    exact ⟨b2, k2, rfl, N1, K2, V2, sz_b2⟩
theorem d5_21 : decode prog_18_method_3_code 21 = .ok (.aload 5, 2) := by decide +kernel
theorem d5_23 : decode prog_18_method_3_code 23 = .ok (.iload 6, 2) := by decide +kernel
theorem d5_25 : decode prog_18_method_3_code 25 = .ok (.dload_n 0, 1) := by decide +kernel
theorem d5_26 : decode prog_18_method_3_code 26 = .ok (.aload_n 2, 1) := by decide +kernel
theorem d5_27 : decode prog_18_method_3_code 27 = .ok (.iload 6, 2) := by decide +kernel
theorem d5_29 : decode prog_18_method_3_code 29 = .ok (.invokeinterface 24 2, 5) := by decide +kernel
theorem d5_34 : decode prog_18_method_3_code 34 = .ok (.checkcast 28, 3) := by decide +kernel
theorem d5_37 : decode prog_18_method_3_code 37 = .ok (.invokevirtual 30, 3) := by decide +kernel
theorem d5_40 : decode prog_18_method_3_code 40 = .ok (.l2d, 1) := by decide +kernel
theorem d5_41 : decode prog_18_method_3_code 41 = .ok (.dmul, 1) := by decide +kernel
theorem d5_42 : decode prog_18_method_3_code 42 = .ok (.lload_n 3, 1) := by decide +kernel
theorem d5_43 : decode prog_18_method_3_code 43 = .ok (.l2d, 1) := by decide +kernel
theorem d5_44 : decode prog_18_method_3_code 44 = .ok (.ddiv, 1) := by decide +kernel
theorem d5_45 : decode prog_18_method_3_code 45 = .ok (.dastore, 1) := by decide +kernel
theorem d5_46 : decode prog_18_method_3_code 46 = .ok (.iinc 6 1, 3) := by decide +kernel
theorem d5_49 : decode prog_18_method_3_code 49 = .ok (.goto (-36), 3) := by decide +kernel
theorem pd_rmpri_1_0 : parseMethodDescriptor "()I" = some ⟨[], some .int⟩ := by decide +kernel
theorem pd_rmpri_1_1 : parseMethodDescriptor "(I)Ljava/lang/Object;" = some ⟨[.int], some (.object "java/lang/Object")⟩ := by decide +kernel
theorem pd_rmpri_1_2 : parseMethodDescriptor "()J" = some ⟨[], some .long⟩ := by decide +kernel
theorem ef_rmpri_1 (m : MethodId) (p0 : UInt64) (p1 : Addr) (p2 : Int64) : entryFrame m #[(.double p0), (.ref p1), (.long p2)] 7 = mkF m 0 #[.val (.double p0), .second, .val (.ref p1), .val (.long p2), .second, .unset, .unset] [] := by first | (simp [entryFrame, mkF, argsToLocals, Value.category]; done) | rfl
def Qpri_1 (Z : State) (p0 : UInt64) (p1 : Addr) (p2 : Int64) (ed : Addr) (ka : ClassId) (x0 : Addr) (c0 : Int64) (q0x : Int64) (h0 : Heap) (n0 : Nat) (v : Option Value) (h : Heap) (L : List Loc) : Prop := ∃ b : Addr, ∃ kb : ClassId, v = some (.ref b) ∧ Fr n0 L ∧ Keep h0 h [] ∧ (Arv Z h b kb .double (1 : Int32) [(.double (FP.ddiv (FP.l2d q0x) (FP.l2d p2)))] (.double (FP.l2d (0 : Int64)))) ∧ (h0.size ≤ b)
set_option maxRecDepth 65536 in
set_option maxHeartbeats 40000000 in
theorem rmpri_1 (l : Launch) (Z : State) (a0 : Array Value) (hw : ∀ d ∈ tables_1, d.before a0 Z = true) (ws : List Jvm.Cond) (p0 : UInt64) (p1 : Addr) (p2 : Int64) (ed : Addr) (ka : ClassId) (x0 : Addr) (c0 : Int64) (q0x : Int64) (h0 : Heap) (n0 : Nat) (O0 : Old Z n0 h0) (F0_ : Exa Z h0 p1 "java/util/ArrayList") (F1_ : Fld Z h0 p1 "java/util/ArrayList" "size" "I" (.int (1 : Int32))) (F2_ : Fld Z h0 p1 "java/util/ArrayList" "elementData" "[Ljava/lang/Object;" (.ref ed)) (F3_ : Arv Z h0 ed ka (.object "java/lang/Object") (10 : Int32) [(.ref x0), .null, .null, .null, .null, .null, .null, .null, .null, .null] .null) (F4_ : Exa Z h0 x0 "com/example/libprox/libprox/RankingModel$QueryTerm") (F5_ : Fld Z h0 x0 "com/example/libprox/libprox/RankingModel$QueryTerm" "collectionFrequency" "J" (.long c0)) (hd0 : FP.dmul p0 (FP.l2d c0) = FP.l2d q0x) (hn0 : Jvm.Free.Fl.NoNaN64 (FP.ddiv (FP.l2d q0x) (FP.l2d p2))) :
    MetFree l nm17 (head1 (Jvm.Cond.code nm17 prog_18_method_3_code 7 (some (.array .double)) :: ws) ({ frames := 3, cells := 1, slots := 1, locals := 44 } : Room)) (fun a U => a = #[(.double p0), (.ref p1), (.long p2)] ∧ Z.Warmed39 U.vm ∧ U.heap = h0) (fun _ _ _ _ _ => True) (fun _ U o U' => ∃ v L, o = .returned v ∧ Qpri_1 Z p0 p1 p2 ed ka x0 c0 q0x h0 n0 v U'.heap L ∧ FrameEnd U o U' L ({ frames := 3, cells := 1, slots := 1, locals := 44 } : Room).cells ({ frames := 3, cells := 1, slots := 1, locals := 44 } : Room).slots) := by
  refine MetFree.of_bodySF (plainFor_of_name pn_5) hisR ?_
  intro p e s m args below meth c s₁ Bd hml0 hP hK
  obtain ⟨rfl, hZ, hh⟩ := hP
  have hx := Bd.exec
  have hby := Bd.bytes
  have hml : c.maxLocals = 7 := hml0
  have hown : s.vm.findClass "com/example/libprox/libprox/Kld" = some m.cls := findClass_of_methodNamed Bd.named
  have X0 : Stand p l e ({ frames := 3, cells := 1, slots := 1, locals := 44 } : Room) s m #[(.double p0), (.ref p1), (.long p2)] below meth c s₁ [] 0 0 := Stand.of_body Bd
  have e0 : s₁.heap = h0 := by rw [← hh, Bd.state]; rfl
  have N0 := Fr.nil n0
  have s0 : Steps p.tables e below (s₁.setTop (entryFrame m #[(.double p0), (.ref p1), (.long p2)] 7)) (s₁.setTop (mkF m 0 #[.val (.double p0), .second, .val (.ref p1), .val (.long p2), .second, .unset, .unset] [])) := castTop (ef_rmpri_1 m p0 p1 p2) (Steps.refl _)
  obtain ⟨A₀, hA₀⟩ : ∃ z, z = (s₁.setTop (entryFrame m #[(.double p0), (.ref p1), (.long p2)] 7)) := ⟨_, rfl⟩
  rw [← hA₀] at s0
  obtain ⟨cq1, kq1, q1a, q1b, q1c⟩ := isOf hZ e0 F0_
  obtain ⟨_, _, ⟨T1, L1, k1, n1⟩, -, X1, ⟨Lc1, hQ1, l1, y1, z1⟩, st1⟩ := X0.interfaceBack hx (xi := (⟨"java/util/List", "size", "()I"⟩ : MethodName)) (y := (⟨"java/util/ArrayList", "size", "()I"⟩ : MethodName)) hown (mvT hZ (hw _ (List.mem_of_getElem? (i := 31) rfl))) (mvT hZ (hw _ (List.mem_of_getElem? (i := 32) rfl))) (mvT hZ (hw _ (List.mem_of_getElem? (i := 33) rfl))) (mvT hZ (hw _ (List.mem_of_getElem? (i := 34) rfl))) (mvT hZ (hw _ (List.mem_of_getElem? (i := 35) rfl))) (mvT hZ (hw _ (List.mem_of_getElem? (i := 36) rfl))) (mvT hZ (hw _ (List.mem_of_getElem? (i := 37) rfl))) (mvT hZ (hw _ (List.mem_of_getElem? (i := 38) rfl))) (by decide) (backOf (W := 0) (rmalsz_1 l Z a0 hw [] p1 h0 n0 O0 F0_ F1_) hZ (hw _ (List.mem_of_getElem? (i := 39) rfl)) (hw _ (List.mem_of_getElem? (i := 3) rfl)) (by decide) (by decide)) q1a q1b q1c (g := (mkF m 1 #[.val (.double p0), .second, .val (.ref p1), .val (.long p2), .second, .unset, .unset] [(.ref p1)])) rfl (by rw [hml]; rfl) (Steps.refl _) (argsL := []) (rest := []) (lenOf pd_rmpri_1_0 rfl) rfl (by show 2 * 0 + _ ≤ _; exact Nat.le_of_eq rfl) (hb hby d5_1) (fun _ _ => ⟨rfl, e0, (by decide : 0 + 0 ≤ _), (by decide : 0 + 0 ≤ _)⟩)
  dsimp only [Pt.U, Pt.locs, Pt.cells, Pt.slots] at X1 l1 y1 z1 st1 hQ1
  subst l1 y1 z1
  obtain ⟨rfl, Nq1, e1⟩ := hQ1
  have N1 := Fr.app N0 Nq1
  obtain ⟨T2, h2, k2, X2, e2, E2, A2, st2⟩ := newP X1 hx hZ (hw _ (List.mem_of_getElem? (i := 42) rfl)) e1 (g := (mkF m 6 #[.val (.double p0), .second, .val (.ref p1), .val (.long p2), .second, .unset, .unset] [(.int (1 : Int32))])) rfl (hb hby d5_6) rfl (by decide) (cap := 1) (by decide) (by decide) (by decide) (by decide)
  obtain ⟨b2, g2⟩ : ∃ z, z = h0.size := ⟨_, rfl⟩
  rw [← g2] at A2 st2
  have ne_p1_b2 : p1 ≠ b2 := Nat.ne_of_lt (Nat.lt_of_lt_of_le F0_.lt (Nat.le_of_eq g2.symm))
  have ne_ed_b2 : ed ≠ b2 := Nat.ne_of_lt (Nat.lt_of_lt_of_le F3_.lt (Nat.le_of_eq g2.symm))
  have ne_x0_b2 : x0 ≠ b2 := Nat.ne_of_lt (Nat.lt_of_lt_of_le F4_.lt (Nat.le_of_eq g2.symm))
  have g_b2 : n0 ≤ b2 := Nat.le_trans (Nat.le_of_eq O0.1.symm) (Nat.le_trans O0.2.1 (Nat.le_of_eq g2.symm))
  have sz_b2 : h0.size ≤ b2 := Nat.le_trans (Keep.refl h0 []).1 (Nat.le_of_eq g2.symm)
  have O2 := O0.ext E2
  have K2 : Keep h0 h2 [] := (Keep.refl h0 []).ext E2
  have V2 : Arv Z h2 b2 k2 .double (1 : Int32) [(.double (FP.l2d (0 : Int64)))] (.double (FP.l2d (0 : Int64))) := (Arv.newD A2 (by decide)).pad (pad_rep [] (.double (FP.l2d (0 : Int64))) 1)
  obtain ⟨cla3, Ara3, qa3, Sa3, Za3, Ha3, Ga3⟩ := id V2
  have c4 : Exa Z h2 p1 "java/util/ArrayList" := (F0_.ext E2)
  have c5 : Fld Z h2 p1 "java/util/ArrayList" "size" "I" (.int (1 : Int32)) := (F1_.ext E2)
  have c6 : Fld Z h2 p1 "java/util/ArrayList" "elementData" "[Ljava/lang/Object;" (.ref ed) := (F2_.ext E2)
  have c7 : Arv Z h2 ed ka (.object "java/lang/Object") (10 : Int32) [(.ref x0), .null, .null, .null, .null, .null, .null, .null, .null, .null] .null := (F3_.ext E2)
  obtain ⟨cq8, kq8, q8a, q8b, q8c⟩ := isOf hZ e2 c4
  obtain ⟨_, _, ⟨T8, L8, k8, n8⟩, -, X8, ⟨Lc8, hQ8, l8, y8, z8⟩, st8⟩ := X2.interfaceBack hx (xi := (⟨"java/util/List", "get", "(I)Ljava/lang/Object;"⟩ : MethodName)) (y := (⟨"java/util/ArrayList", "get", "(I)Ljava/lang/Object;"⟩ : MethodName)) hown (mvT hZ (hw _ (List.mem_of_getElem? (i := 101) rfl))) (mvT hZ (hw _ (List.mem_of_getElem? (i := 102) rfl))) (mvT hZ (hw _ (List.mem_of_getElem? (i := 103) rfl))) (mvT hZ (hw _ (List.mem_of_getElem? (i := 104) rfl))) (mvT hZ (hw _ (List.mem_of_getElem? (i := 105) rfl))) (mvT hZ (hw _ (List.mem_of_getElem? (i := 106) rfl))) (mvT hZ (hw _ (List.mem_of_getElem? (i := 107) rfl))) (mvT hZ (hw _ (List.mem_of_getElem? (i := 38) rfl))) (by decide) (backOf (W := 4) (rmalgt_1_0 l Z a0 hw [] p1 ed x0 ka h2 n0 O2 c4 c5 c6 c7) hZ (hw _ (List.mem_of_getElem? (i := 108) rfl)) (hw _ (List.mem_of_getElem? (i := 3) rfl)) (by decide) (by decide)) q8a q8b q8c (g := (mkF m 29 #[.val (.double p0), .second, .val (.ref p1), .val (.long p2), .second, .val (.ref b2), .val (.int (0 : Int32))] [(.int (0 : Int32)), (.ref p1), (.double p0), (.int (0 : Int32)), (.ref b2)])) rfl (by rw [hml]; rfl) (Steps.refl _) (argsL := [(.int (0 : Int32))]) (rest := [(.double p0), (.int (0 : Int32)), (.ref b2)]) (lenOf pd_rmpri_1_1 rfl) rfl (by show 2 * 0 + _ ≤ _; exact Nat.le_of_eq rfl) (hb hby d5_29) (fun _ _ => ⟨rfl, e2, (by decide : 1 + 0 ≤ _), (by decide : 1 + 0 ≤ _)⟩)
  dsimp only [Pt.U, Pt.locs, Pt.cells, Pt.slots] at X8 l8 y8 z8 st8 hQ8
  subst l8 y8 z8
  obtain ⟨rfl, Nq8, e8⟩ := hQ8
  have N8 := Fr.app N1 Nq8
  have c9 : Exa Z h2 x0 "com/example/libprox/libprox/RankingModel$QueryTerm" := (F4_.ext E2)
  obtain ⟨T10, X10, e10, st10⟩ := castY X8 hx hZ hown (hw _ (List.mem_of_getElem? (i := 122) rfl)) e8 (Ins.self c9) (g := (mkF m 34 #[.val (.double p0), .second, .val (.ref p1), .val (.long p2), .second, .val (.ref b2), .val (.int (0 : Int32))] [(.ref x0), (.double p0), (.int (0 : Int32)), (.ref b2)])) rfl rfl (hb hby d5_34)
  have c11 : Fld Z h2 x0 "com/example/libprox/libprox/RankingModel$QueryTerm" "collectionFrequency" "J" (.long c0) := (F5_.ext E2)
  obtain ⟨T12, L12, X12, e12, N12, st12⟩ := own_callVP X10 hx hZ hown (wk124 hw) (wk125 hw) (wk127 hw) (wk126 hw) (by decide) (wk45 hw) (wk128 hw) (rmqc l Z a0 hw [] x0 c0 h2 n0 O2 c9 c11) e10 N8 (W := 4) (by decide) (by decide) (by decide) (by decide) c9 (g := (mkF m 37 #[.val (.double p0), .second, .val (.ref p1), .val (.long p2), .second, .val (.ref b2), .val (.int (0 : Int32))] [(.ref x0), (.double p0), (.int (0 : Int32)), (.ref b2)])) rfl (by rw [hml]; rfl) (argsL := []) (rest := [(.double p0), (.int (0 : Int32)), (.ref b2)]) (lenOf pd_rmpri_1_2 rfl) rfl (by show 2 * 0 + _ ≤ _; exact Nat.le_of_eq rfl) (hb hby d5_37)
  have hin13 : ¬ ((0 : Int32) < 0 ∨ cla3.slots.size ≤ ((0 : Int32)).toNatClampNeg) := inb_of Sa3 ⟨by decide, by decide⟩
  obtain ⟨T14, h14, X14, e14, W14, st14⟩ := stD X12 hx hZ e12 Ara3 (j := (0 : Int32)) hin13 (g := (mkF m 45 #[.val (.double p0), .second, .val (.ref p1), .val (.long p2), .second, .val (.ref b2), .val (.int (0 : Int32))] [(.double (FP.ddiv (FP.l2d q0x) (FP.l2d p2))), (.int (0 : Int32)), (.ref b2)])) rfl rfl (hb hby d5_45)
  have O14 := O2.wr W14 g_b2
  have K14 : Keep h0 h14 [] := K2.wr W14 (Or.inr sz_b2)
  have N14 := Fr.snoc X14 N12 g_b2
  have V14 : Arv Z h14 b2 k2 .double (1 : Int32) [(.double (FP.ddiv (FP.l2d q0x) (FP.l2d p2)))] (.double (FP.l2d (0 : Int64))) := Arv.set Ara3 qa3 Sa3 Za3 Ha3 Ga3 rfl W14 0 rfl (Nat.le_of_ble_eq_true rfl)
  obtain ⟨cla15, Ara15, qa15, Sa15, Za15, Ha15, Ga15⟩ := id V14
  have s16 : Steps p.tables e below A₀ (T14.setTop (mkF m 54 #[.val (.double p0), .second, .val (.ref p1), .val (.long p2), .second, .val (.ref b2), .val (.int (1 : Int32))] [(.ref b2)])) := by
    refine s0.trans ?_
    refine XS.aloadN X0.here hx rfl (hb hby d5_0) rfl rfl ?_
    refine st1.trans ?_
    refine st2 _ ?_
    refine XS.astore X2.here hx rfl (hb hby d5_8) rfl rfl (l' := #[.val (.double p0), .second, .val (.ref p1), .val (.long p2), .second, .val (.ref b2), .unset]) rfl ?_
    refine XS.iconst X2.here hx rfl (hb hby d5_10) ?_
    refine XS.istore X2.here hx rfl (hb hby d5_11) rfl (l' := #[.val (.double p0), .second, .val (.ref p1), .val (.long p2), .second, .val (.ref b2), .val (.int (0 : Int32))]) rfl ?_
    refine XS.iload X2.here hx rfl (hb hby d5_13) rfl ?_
    refine XS.aload X2.here hx rfl (hb hby d5_15) rfl rfl ?_
    show Steps p.tables e below (T2.setTop (mkF m 17 #[.val (.double p0), .second, .val (.ref p1), .val (.long p2), .second, .val (.ref b2), .val (.int (0 : Int32))] [(.ref b2), (.int (0 : Int32))])) _
    refine X2.arraylength hx (by rw [e2]; exact Ara3.1) (State.isArrayOf_alike hZ.alike Ara3.2.1) (g := (mkF m 17 #[.val (.double p0), .second, .val (.ref p1), .val (.long p2), .second, .val (.ref b2), .val (.int (0 : Int32))] [(.ref b2), (.int (0 : Int32))])) rfl rfl (hb hby d5_17) _ ?_
    rw [len_of Sa3 Za3]
    show Steps p.tables e below (T2.setTop (mkF m 18 #[.val (.double p0), .second, .val (.ref p1), .val (.long p2), .second, .val (.ref b2), .val (.int (0 : Int32))] [(.int (1 : Int32)), (.int (0 : Int32))])) _
    refine XS.icmpNo X2.here hx rfl (hb hby d5_18) rfl (tlt (by decide)).2.1 ?_
    refine XS.aload X2.here hx rfl (hb hby d5_21) rfl rfl ?_
    refine XS.iload X2.here hx rfl (hb hby d5_23) rfl ?_
    refine XS.dloadN X2.here hx rfl (hb hby d5_25) rfl ?_
    refine XS.aloadN X2.here hx rfl (hb hby d5_26) rfl rfl ?_
    refine XS.iload X2.here hx rfl (hb hby d5_27) rfl ?_
    refine st8.trans ?_
    refine st10 _ ?_
    refine st12 _ ?_
    refine XS.l2dS X12.here hx rfl (hb hby d5_40) rfl rfl ?_
    show Steps p.tables e below (T12.setTop (mkF m 41 #[.val (.double p0), .second, .val (.ref p1), .val (.long p2), .second, .val (.ref b2), .val (.int (0 : Int32))] [(.double (FP.l2d c0)), (.double p0), (.int (0 : Int32)), (.ref b2)])) _
    refine XS.dmulS X12.here hx rfl (hb hby d5_41) rfl (nn_w hd0) hd0 ?_
    refine XS.lloadN X12.here hx rfl (hb hby d5_42) rfl ?_
    refine XS.l2dS X12.here hx rfl (hb hby d5_43) rfl rfl ?_
    refine XS.ddivS X12.here hx rfl (hb hby d5_44) rfl hn0 rfl ?_
    refine st14 _ ?_
    refine XS.iinc X14.here hx rfl (hb hby d5_46) rfl (l' := #[.val (.double p0), .second, .val (.ref p1), .val (.long p2), .second, .val (.ref b2), .val (.int (1 : Int32))]) rfl ?_
    refine XS.goto X14.here hx rfl (pc0 := 49) (pc' := 13) rfl (hb hby d5_49) (by decide) (by decide) ?_
    refine XS.iload X14.here hx rfl (hb hby d5_13) rfl ?_
    refine XS.aload X14.here hx rfl (hb hby d5_15) rfl rfl ?_
    refine X14.arraylength hx (by rw [e14]; exact Ara15.1) (State.isArrayOf_alike hZ.alike Ara15.2.1) (g := (mkF m 17 #[.val (.double p0), .second, .val (.ref p1), .val (.long p2), .second, .val (.ref b2), .val (.int (1 : Int32))] [(.ref b2), (.int (1 : Int32))])) rfl rfl (hb hby d5_17) _ ?_
    rw [len_of Sa15 Za15]
    show Steps p.tables e below (T14.setTop (mkF m 18 #[.val (.double p0), .second, .val (.ref p1), .val (.long p2), .second, .val (.ref b2), .val (.int (1 : Int32))] [(.int (1 : Int32)), (.int (1 : Int32))])) _
    refine XS.icmpYes X14.here hx rfl (pc0 := 18) (pc' := 52) rfl (hb hby d5_18) rfl (flt (by decide)).2.1 (by decide) (by decide) ?_
    refine XS.aload X14.here hx rfl (hb hby d5_52) rfl rfl ?_
    exact Steps.refl _
  subst hA₀
  obtain ⟨fs, hr, hrun, hended, hW, hsame⟩ := X14.leave (v := some (.ref b2)) (fun h => by rw [Bd.returns] at h; cases h)
  refine ⟨_, _, s16.trans ?_, hrun, hended, _, _, rfl, ?_, ⟨_, rfl⟩, hW, hsame.mono (by decide) (by decide)⟩
  · show Steps p.tables e below (T14.setTop (mkF m 54 #[.val (.double p0), .second, .val (.ref p1), .val (.long p2), .second, .val (.ref b2), .val (.int (1 : Int32))] [(.ref b2)])) _
    jvm_step X14.here [X14.here.top, hx, (hb hby d5_54), X14.method', Bd.returns, Value.isRef, FieldType.isReference]
    first | (intro acts; rw [hr _ acts rfl rfl rfl]) | rw [hr _ _ rfl rfl rfl]
    exact Steps.refl _
  · show Qpri_1 Z p0 p1 p2 ed ka x0 c0 q0x h0 n0 _ T14.heap _
    rw [e14]
    exact ⟨b2, k2, rfl, N14, K14, V14, sz_b2⟩
theorem pd_rmpri_2_0 : parseMethodDescriptor "()I" = some ⟨[], some .int⟩ := by decide +kernel
theorem pd_rmpri_2_1 : parseMethodDescriptor "(I)Ljava/lang/Object;" = some ⟨[.int], some (.object "java/lang/Object")⟩ := by decide +kernel
theorem pd_rmpri_2_2 : parseMethodDescriptor "()J" = some ⟨[], some .long⟩ := by decide +kernel
theorem ef_rmpri_2 (m : MethodId) (p0 : UInt64) (p1 : Addr) (p2 : Int64) : entryFrame m #[(.double p0), (.ref p1), (.long p2)] 7 = mkF m 0 #[.val (.double p0), .second, .val (.ref p1), .val (.long p2), .second, .unset, .unset] [] := by first | (simp [entryFrame, mkF, argsToLocals, Value.category]; done) | rfl
def Qpri_2 (Z : State) (p0 : UInt64) (p1 : Addr) (p2 : Int64) (ed : Addr) (ka : ClassId) (x0 : Addr) (x1 : Addr) (c0 : Int64) (c1 : Int64) (q0x : Int64) (q1x : Int64) (h0 : Heap) (n0 : Nat) (v : Option Value) (h : Heap) (L : List Loc) : Prop := ∃ b : Addr, ∃ kb : ClassId, v = some (.ref b) ∧ Fr n0 L ∧ Keep h0 h [] ∧ (Arv Z h b kb .double (2 : Int32) [(.double (FP.ddiv (FP.l2d q0x) (FP.l2d p2))), (.double (FP.ddiv (FP.l2d q1x) (FP.l2d p2)))] (.double (FP.l2d (0 : Int64)))) ∧ (h0.size ≤ b)
set_option maxRecDepth 65536 in
set_option maxHeartbeats 40000000 in
theorem rmpri_2 (l : Launch) (Z : State) (a0 : Array Value) (hw : ∀ d ∈ tables_1, d.before a0 Z = true) (ws : List Jvm.Cond) (p0 : UInt64) (p1 : Addr) (p2 : Int64) (ed : Addr) (ka : ClassId) (x0 : Addr) (x1 : Addr) (c0 : Int64) (c1 : Int64) (q0x : Int64) (q1x : Int64) (h0 : Heap) (n0 : Nat) (O0 : Old Z n0 h0) (F0_ : Exa Z h0 p1 "java/util/ArrayList") (F1_ : Fld Z h0 p1 "java/util/ArrayList" "size" "I" (.int (2 : Int32))) (F2_ : Fld Z h0 p1 "java/util/ArrayList" "elementData" "[Ljava/lang/Object;" (.ref ed)) (F3_ : Arv Z h0 ed ka (.object "java/lang/Object") (10 : Int32) [(.ref x0), (.ref x1), .null, .null, .null, .null, .null, .null, .null, .null] .null) (F4_ : Exa Z h0 x0 "com/example/libprox/libprox/RankingModel$QueryTerm") (F5_ : Fld Z h0 x0 "com/example/libprox/libprox/RankingModel$QueryTerm" "collectionFrequency" "J" (.long c0)) (F6_ : Exa Z h0 x1 "com/example/libprox/libprox/RankingModel$QueryTerm") (F7_ : Fld Z h0 x1 "com/example/libprox/libprox/RankingModel$QueryTerm" "collectionFrequency" "J" (.long c1)) (hd0 : FP.dmul p0 (FP.l2d c0) = FP.l2d q0x) (hn0 : Jvm.Free.Fl.NoNaN64 (FP.ddiv (FP.l2d q0x) (FP.l2d p2))) (hd1 : FP.dmul p0 (FP.l2d c1) = FP.l2d q1x) (hn1 : Jvm.Free.Fl.NoNaN64 (FP.ddiv (FP.l2d q1x) (FP.l2d p2))) :
    MetFree l nm17 (head1 (Jvm.Cond.code nm17 prog_18_method_3_code 7 (some (.array .double)) :: ws) ({ frames := 3, cells := 1, slots := 2, locals := 44 } : Room)) (fun a U => a = #[(.double p0), (.ref p1), (.long p2)] ∧ Z.Warmed39 U.vm ∧ U.heap = h0) (fun _ _ _ _ _ => True) (fun _ U o U' => ∃ v L, o = .returned v ∧ Qpri_2 Z p0 p1 p2 ed ka x0 x1 c0 c1 q0x q1x h0 n0 v U'.heap L ∧ FrameEnd U o U' L ({ frames := 3, cells := 1, slots := 2, locals := 44 } : Room).cells ({ frames := 3, cells := 1, slots := 2, locals := 44 } : Room).slots) := by
  refine MetFree.of_bodySF (plainFor_of_name pn_5) hisR ?_
  intro p e s m args below meth c s₁ Bd hml0 hP hK
  obtain ⟨rfl, hZ, hh⟩ := hP
  have hx := Bd.exec
  have hby := Bd.bytes
  have hml : c.maxLocals = 7 := hml0
  have hown : s.vm.findClass "com/example/libprox/libprox/Kld" = some m.cls := findClass_of_methodNamed Bd.named
  have X0 : Stand p l e ({ frames := 3, cells := 1, slots := 2, locals := 44 } : Room) s m #[(.double p0), (.ref p1), (.long p2)] below meth c s₁ [] 0 0 := Stand.of_body Bd
  have e0 : s₁.heap = h0 := by rw [← hh, Bd.state]; rfl
  have N0 := Fr.nil n0
  have s0 : Steps p.tables e below (s₁.setTop (entryFrame m #[(.double p0), (.ref p1), (.long p2)] 7)) (s₁.setTop (mkF m 0 #[.val (.double p0), .second, .val (.ref p1), .val (.long p2), .second, .unset, .unset] [])) := castTop (ef_rmpri_2 m p0 p1 p2) (Steps.refl _)
  obtain ⟨A₀, hA₀⟩ : ∃ z, z = (s₁.setTop (entryFrame m #[(.double p0), (.ref p1), (.long p2)] 7)) := ⟨_, rfl⟩
  rw [← hA₀] at s0
  obtain ⟨cq1, kq1, q1a, q1b, q1c⟩ := isOf hZ e0 F0_
  obtain ⟨_, _, ⟨T1, L1, k1, n1⟩, -, X1, ⟨Lc1, hQ1, l1, y1, z1⟩, st1⟩ := X0.interfaceBack hx (xi := (⟨"java/util/List", "size", "()I"⟩ : MethodName)) (y := (⟨"java/util/ArrayList", "size", "()I"⟩ : MethodName)) hown (mvT hZ (hw _ (List.mem_of_getElem? (i := 31) rfl))) (mvT hZ (hw _ (List.mem_of_getElem? (i := 32) rfl))) (mvT hZ (hw _ (List.mem_of_getElem? (i := 33) rfl))) (mvT hZ (hw _ (List.mem_of_getElem? (i := 34) rfl))) (mvT hZ (hw _ (List.mem_of_getElem? (i := 35) rfl))) (mvT hZ (hw _ (List.mem_of_getElem? (i := 36) rfl))) (mvT hZ (hw _ (List.mem_of_getElem? (i := 37) rfl))) (mvT hZ (hw _ (List.mem_of_getElem? (i := 38) rfl))) (by decide) (backOf (W := 0) (rmalsz_2 l Z a0 hw [] p1 h0 n0 O0 F0_ F1_) hZ (hw _ (List.mem_of_getElem? (i := 39) rfl)) (hw _ (List.mem_of_getElem? (i := 3) rfl)) (by decide) (by decide)) q1a q1b q1c (g := (mkF m 1 #[.val (.double p0), .second, .val (.ref p1), .val (.long p2), .second, .unset, .unset] [(.ref p1)])) rfl (by rw [hml]; rfl) (Steps.refl _) (argsL := []) (rest := []) (lenOf pd_rmpri_2_0 rfl) rfl (by show 2 * 0 + _ ≤ _; exact Nat.le_of_eq rfl) (hb hby d5_1) (fun _ _ => ⟨rfl, e0, (by decide : 0 + 0 ≤ _), (by decide : 0 + 0 ≤ _)⟩)
  dsimp only [Pt.U, Pt.locs, Pt.cells, Pt.slots] at X1 l1 y1 z1 st1 hQ1
  subst l1 y1 z1
  obtain ⟨rfl, Nq1, e1⟩ := hQ1
  have N1 := Fr.app N0 Nq1
  obtain ⟨T2, h2, k2, X2, e2, E2, A2, st2⟩ := newP X1 hx hZ (hw _ (List.mem_of_getElem? (i := 42) rfl)) e1 (g := (mkF m 6 #[.val (.double p0), .second, .val (.ref p1), .val (.long p2), .second, .unset, .unset] [(.int (2 : Int32))])) rfl (hb hby d5_6) rfl (by decide) (cap := 2) (by decide) (by decide) (by decide) (by decide)
  obtain ⟨b2, g2⟩ : ∃ z, z = h0.size := ⟨_, rfl⟩
  rw [← g2] at A2 st2
  have ne_p1_b2 : p1 ≠ b2 := Nat.ne_of_lt (Nat.lt_of_lt_of_le F0_.lt (Nat.le_of_eq g2.symm))
  have ne_ed_b2 : ed ≠ b2 := Nat.ne_of_lt (Nat.lt_of_lt_of_le F3_.lt (Nat.le_of_eq g2.symm))
  have ne_x0_b2 : x0 ≠ b2 := Nat.ne_of_lt (Nat.lt_of_lt_of_le F4_.lt (Nat.le_of_eq g2.symm))
  have ne_x1_b2 : x1 ≠ b2 := Nat.ne_of_lt (Nat.lt_of_lt_of_le F6_.lt (Nat.le_of_eq g2.symm))
  have g_b2 : n0 ≤ b2 := Nat.le_trans (Nat.le_of_eq O0.1.symm) (Nat.le_trans O0.2.1 (Nat.le_of_eq g2.symm))
  have sz_b2 : h0.size ≤ b2 := Nat.le_trans (Keep.refl h0 []).1 (Nat.le_of_eq g2.symm)
  have O2 := O0.ext E2
  have K2 : Keep h0 h2 [] := (Keep.refl h0 []).ext E2
  have V2 : Arv Z h2 b2 k2 .double (2 : Int32) [(.double (FP.l2d (0 : Int64))), (.double (FP.l2d (0 : Int64)))] (.double (FP.l2d (0 : Int64))) := (Arv.newD A2 (by decide)).pad (pad_rep [] (.double (FP.l2d (0 : Int64))) 2)
  obtain ⟨cla3, Ara3, qa3, Sa3, Za3, Ha3, Ga3⟩ := id V2
  have c4 : Exa Z h2 p1 "java/util/ArrayList" := (F0_.ext E2)
  have c5 : Fld Z h2 p1 "java/util/ArrayList" "size" "I" (.int (2 : Int32)) := (F1_.ext E2)
  have c6 : Fld Z h2 p1 "java/util/ArrayList" "elementData" "[Ljava/lang/Object;" (.ref ed) := (F2_.ext E2)
  have c7 : Arv Z h2 ed ka (.object "java/lang/Object") (10 : Int32) [(.ref x0), (.ref x1), .null, .null, .null, .null, .null, .null, .null, .null] .null := (F3_.ext E2)
  obtain ⟨cq8, kq8, q8a, q8b, q8c⟩ := isOf hZ e2 c4
  obtain ⟨_, _, ⟨T8, L8, k8, n8⟩, -, X8, ⟨Lc8, hQ8, l8, y8, z8⟩, st8⟩ := X2.interfaceBack hx (xi := (⟨"java/util/List", "get", "(I)Ljava/lang/Object;"⟩ : MethodName)) (y := (⟨"java/util/ArrayList", "get", "(I)Ljava/lang/Object;"⟩ : MethodName)) hown (mvT hZ (hw _ (List.mem_of_getElem? (i := 101) rfl))) (mvT hZ (hw _ (List.mem_of_getElem? (i := 102) rfl))) (mvT hZ (hw _ (List.mem_of_getElem? (i := 103) rfl))) (mvT hZ (hw _ (List.mem_of_getElem? (i := 104) rfl))) (mvT hZ (hw _ (List.mem_of_getElem? (i := 105) rfl))) (mvT hZ (hw _ (List.mem_of_getElem? (i := 106) rfl))) (mvT hZ (hw _ (List.mem_of_getElem? (i := 107) rfl))) (mvT hZ (hw _ (List.mem_of_getElem? (i := 38) rfl))) (by decide) (backOf (W := 4) (rmalgt_2_0 l Z a0 hw [] p1 ed x0 x1 ka h2 n0 O2 c4 c5 c6 c7) hZ (hw _ (List.mem_of_getElem? (i := 108) rfl)) (hw _ (List.mem_of_getElem? (i := 3) rfl)) (by decide) (by decide)) q8a q8b q8c (g := (mkF m 29 #[.val (.double p0), .second, .val (.ref p1), .val (.long p2), .second, .val (.ref b2), .val (.int (0 : Int32))] [(.int (0 : Int32)), (.ref p1), (.double p0), (.int (0 : Int32)), (.ref b2)])) rfl (by rw [hml]; rfl) (Steps.refl _) (argsL := [(.int (0 : Int32))]) (rest := [(.double p0), (.int (0 : Int32)), (.ref b2)]) (lenOf pd_rmpri_2_1 rfl) rfl (by show 2 * 0 + _ ≤ _; exact Nat.le_of_eq rfl) (hb hby d5_29) (fun _ _ => ⟨rfl, e2, (by decide : 1 + 0 ≤ _), (by decide : 2 + 0 ≤ _)⟩)
  dsimp only [Pt.U, Pt.locs, Pt.cells, Pt.slots] at X8 l8 y8 z8 st8 hQ8
  subst l8 y8 z8
  obtain ⟨rfl, Nq8, e8⟩ := hQ8
  have N8 := Fr.app N1 Nq8
  have c9 : Exa Z h2 x0 "com/example/libprox/libprox/RankingModel$QueryTerm" := (F4_.ext E2)
  obtain ⟨T10, X10, e10, st10⟩ := castY X8 hx hZ hown (hw _ (List.mem_of_getElem? (i := 122) rfl)) e8 (Ins.self c9) (g := (mkF m 34 #[.val (.double p0), .second, .val (.ref p1), .val (.long p2), .second, .val (.ref b2), .val (.int (0 : Int32))] [(.ref x0), (.double p0), (.int (0 : Int32)), (.ref b2)])) rfl rfl (hb hby d5_34)
  have c11 : Fld Z h2 x0 "com/example/libprox/libprox/RankingModel$QueryTerm" "collectionFrequency" "J" (.long c0) := (F5_.ext E2)
  obtain ⟨T12, L12, X12, e12, N12, st12⟩ := own_callVP X10 hx hZ hown (wk124 hw) (wk125 hw) (wk127 hw) (wk126 hw) (by decide) (wk45 hw) (wk128 hw) (rmqc l Z a0 hw [] x0 c0 h2 n0 O2 c9 c11) e10 N8 (W := 4) (by decide) (by decide) (by decide) (by decide) c9 (g := (mkF m 37 #[.val (.double p0), .second, .val (.ref p1), .val (.long p2), .second, .val (.ref b2), .val (.int (0 : Int32))] [(.ref x0), (.double p0), (.int (0 : Int32)), (.ref b2)])) rfl (by rw [hml]; rfl) (argsL := []) (rest := [(.double p0), (.int (0 : Int32)), (.ref b2)]) (lenOf pd_rmpri_2_2 rfl) rfl (by show 2 * 0 + _ ≤ _; exact Nat.le_of_eq rfl) (hb hby d5_37)
  have hin13 : ¬ ((0 : Int32) < 0 ∨ cla3.slots.size ≤ ((0 : Int32)).toNatClampNeg) := inb_of Sa3 ⟨by decide, by decide⟩
  obtain ⟨T14, h14, X14, e14, W14, st14⟩ := stD X12 hx hZ e12 Ara3 (j := (0 : Int32)) hin13 (g := (mkF m 45 #[.val (.double p0), .second, .val (.ref p1), .val (.long p2), .second, .val (.ref b2), .val (.int (0 : Int32))] [(.double (FP.ddiv (FP.l2d q0x) (FP.l2d p2))), (.int (0 : Int32)), (.ref b2)])) rfl rfl (hb hby d5_45)
  have O14 := O2.wr W14 g_b2
  have K14 : Keep h0 h14 [] := K2.wr W14 (Or.inr sz_b2)
  have N14 := Fr.snoc X14 N12 g_b2
  have V14 : Arv Z h14 b2 k2 .double (2 : Int32) [(.double (FP.ddiv (FP.l2d q0x) (FP.l2d p2))), (.double (FP.l2d (0 : Int64)))] (.double (FP.l2d (0 : Int64))) := Arv.set Ara3 qa3 Sa3 Za3 Ha3 Ga3 rfl W14 0 rfl (Nat.le_of_ble_eq_true rfl)
  obtain ⟨cla15, Ara15, qa15, Sa15, Za15, Ha15, Ga15⟩ := id V14
  have c16 : Exa Z h14 p1 "java/util/ArrayList" := (c4.wr W14)
  have c17 : Fld Z h14 p1 "java/util/ArrayList" "size" "I" (.int (2 : Int32)) := (c5.other W14 (Or.inl ne_p1_b2))
  have c18 : Fld Z h14 p1 "java/util/ArrayList" "elementData" "[Ljava/lang/Object;" (.ref ed) := (c6.other W14 (Or.inl ne_p1_b2))
  have c19 : Arv Z h14 ed ka (.object "java/lang/Object") (10 : Int32) [(.ref x0), (.ref x1), .null, .null, .null, .null, .null, .null, .null, .null] .null := (c7.other W14 ne_ed_b2)
  obtain ⟨cq20, kq20, q20a, q20b, q20c⟩ := isOf hZ e14 c16
  obtain ⟨_, _, ⟨T20, L20, k20, n20⟩, -, X20, ⟨Lc20, hQ20, l20, y20, z20⟩, st20⟩ := X14.interfaceBack hx (xi := (⟨"java/util/List", "get", "(I)Ljava/lang/Object;"⟩ : MethodName)) (y := (⟨"java/util/ArrayList", "get", "(I)Ljava/lang/Object;"⟩ : MethodName)) hown (mvT hZ (hw _ (List.mem_of_getElem? (i := 101) rfl))) (mvT hZ (hw _ (List.mem_of_getElem? (i := 102) rfl))) (mvT hZ (hw _ (List.mem_of_getElem? (i := 103) rfl))) (mvT hZ (hw _ (List.mem_of_getElem? (i := 104) rfl))) (mvT hZ (hw _ (List.mem_of_getElem? (i := 105) rfl))) (mvT hZ (hw _ (List.mem_of_getElem? (i := 106) rfl))) (mvT hZ (hw _ (List.mem_of_getElem? (i := 107) rfl))) (mvT hZ (hw _ (List.mem_of_getElem? (i := 38) rfl))) (by decide) (backOf (W := 4) (rmalgt_2_1 l Z a0 hw [] p1 ed x0 x1 ka h14 n0 O14 c16 c17 c18 c19) hZ (hw _ (List.mem_of_getElem? (i := 108) rfl)) (hw _ (List.mem_of_getElem? (i := 3) rfl)) (by decide) (by decide)) q20a q20b q20c (g := (mkF m 29 #[.val (.double p0), .second, .val (.ref p1), .val (.long p2), .second, .val (.ref b2), .val (.int (1 : Int32))] [(.int (1 : Int32)), (.ref p1), (.double p0), (.int (1 : Int32)), (.ref b2)])) rfl (by rw [hml]; rfl) (Steps.refl _) (argsL := [(.int (1 : Int32))]) (rest := [(.double p0), (.int (1 : Int32)), (.ref b2)]) (lenOf pd_rmpri_2_1 rfl) rfl (by show 2 * 0 + _ ≤ _; exact Nat.le_of_eq rfl) (hb hby d5_29) (fun _ _ => ⟨rfl, e14, (by decide : 1 + 0 ≤ _), (by decide : 2 + 0 ≤ _)⟩)
  dsimp only [Pt.U, Pt.locs, Pt.cells, Pt.slots] at X20 l20 y20 z20 st20 hQ20
  subst l20 y20 z20
  obtain ⟨rfl, Nq20, e20⟩ := hQ20
  have N20 := Fr.app N14 Nq20
  have c21 : Exa Z h14 x1 "com/example/libprox/libprox/RankingModel$QueryTerm" := ((F6_.ext E2).wr W14)
  obtain ⟨T22, X22, e22, st22⟩ := castY X20 hx hZ hown (hw _ (List.mem_of_getElem? (i := 122) rfl)) e20 (Ins.self c21) (g := (mkF m 34 #[.val (.double p0), .second, .val (.ref p1), .val (.long p2), .second, .val (.ref b2), .val (.int (1 : Int32))] [(.ref x1), (.double p0), (.int (1 : Int32)), (.ref b2)])) rfl rfl (hb hby d5_34)
  have c23 : Fld Z h14 x1 "com/example/libprox/libprox/RankingModel$QueryTerm" "collectionFrequency" "J" (.long c1) := ((F7_.ext E2).other W14 (Or.inl ne_x1_b2))
  obtain ⟨T24, L24, X24, e24, N24, st24⟩ := own_callVP X22 hx hZ hown (wk124 hw) (wk125 hw) (wk127 hw) (wk126 hw) (by decide) (wk45 hw) (wk128 hw) (rmqc l Z a0 hw [] x1 c1 h14 n0 O14 c21 c23) e22 N20 (W := 4) (by decide) (by decide) (by decide) (by decide) c21 (g := (mkF m 37 #[.val (.double p0), .second, .val (.ref p1), .val (.long p2), .second, .val (.ref b2), .val (.int (1 : Int32))] [(.ref x1), (.double p0), (.int (1 : Int32)), (.ref b2)])) rfl (by rw [hml]; rfl) (argsL := []) (rest := [(.double p0), (.int (1 : Int32)), (.ref b2)]) (lenOf pd_rmpri_2_2 rfl) rfl (by show 2 * 0 + _ ≤ _; exact Nat.le_of_eq rfl) (hb hby d5_37)
  have hin25 : ¬ ((1 : Int32) < 0 ∨ cla15.slots.size ≤ ((1 : Int32)).toNatClampNeg) := inb_of Sa15 ⟨by decide, by decide⟩
  obtain ⟨T26, h26, X26, e26, W26, st26⟩ := stD X24 hx hZ e24 Ara15 (j := (1 : Int32)) hin25 (g := (mkF m 45 #[.val (.double p0), .second, .val (.ref p1), .val (.long p2), .second, .val (.ref b2), .val (.int (1 : Int32))] [(.double (FP.ddiv (FP.l2d q1x) (FP.l2d p2))), (.int (1 : Int32)), (.ref b2)])) rfl rfl (hb hby d5_45)
  have O26 := O14.wr W26 g_b2
  have K26 : Keep h0 h26 [] := K14.wr W26 (Or.inr sz_b2)
  have N26 := Fr.snoc X26 N24 g_b2
  have V26 : Arv Z h26 b2 k2 .double (2 : Int32) [(.double (FP.ddiv (FP.l2d q0x) (FP.l2d p2))), (.double (FP.ddiv (FP.l2d q1x) (FP.l2d p2)))] (.double (FP.l2d (0 : Int64))) := Arv.set Ara15 qa15 Sa15 Za15 Ha15 Ga15 rfl W26 1 rfl (Nat.le_of_ble_eq_true rfl)
  obtain ⟨cla27, Ara27, qa27, Sa27, Za27, Ha27, Ga27⟩ := id V26
  have s28 : Steps p.tables e below A₀ (T26.setTop (mkF m 54 #[.val (.double p0), .second, .val (.ref p1), .val (.long p2), .second, .val (.ref b2), .val (.int (2 : Int32))] [(.ref b2)])) := by
    refine s0.trans ?_
    refine XS.aloadN X0.here hx rfl (hb hby d5_0) rfl rfl ?_
    refine st1.trans ?_
    refine st2 _ ?_
    refine XS.astore X2.here hx rfl (hb hby d5_8) rfl rfl (l' := #[.val (.double p0), .second, .val (.ref p1), .val (.long p2), .second, .val (.ref b2), .unset]) rfl ?_
    refine XS.iconst X2.here hx rfl (hb hby d5_10) ?_
    refine XS.istore X2.here hx rfl (hb hby d5_11) rfl (l' := #[.val (.double p0), .second, .val (.ref p1), .val (.long p2), .second, .val (.ref b2), .val (.int (0 : Int32))]) rfl ?_
    refine XS.iload X2.here hx rfl (hb hby d5_13) rfl ?_
    refine XS.aload X2.here hx rfl (hb hby d5_15) rfl rfl ?_
    show Steps p.tables e below (T2.setTop (mkF m 17 #[.val (.double p0), .second, .val (.ref p1), .val (.long p2), .second, .val (.ref b2), .val (.int (0 : Int32))] [(.ref b2), (.int (0 : Int32))])) _
    refine X2.arraylength hx (by rw [e2]; exact Ara3.1) (State.isArrayOf_alike hZ.alike Ara3.2.1) (g := (mkF m 17 #[.val (.double p0), .second, .val (.ref p1), .val (.long p2), .second, .val (.ref b2), .val (.int (0 : Int32))] [(.ref b2), (.int (0 : Int32))])) rfl rfl (hb hby d5_17) _ ?_
    rw [len_of Sa3 Za3]
    show Steps p.tables e below (T2.setTop (mkF m 18 #[.val (.double p0), .second, .val (.ref p1), .val (.long p2), .second, .val (.ref b2), .val (.int (0 : Int32))] [(.int (2 : Int32)), (.int (0 : Int32))])) _
    refine XS.icmpNo X2.here hx rfl (hb hby d5_18) rfl (tlt (by decide)).2.1 ?_
    refine XS.aload X2.here hx rfl (hb hby d5_21) rfl rfl ?_
    refine XS.iload X2.here hx rfl (hb hby d5_23) rfl ?_
    refine XS.dloadN X2.here hx rfl (hb hby d5_25) rfl ?_
    refine XS.aloadN X2.here hx rfl (hb hby d5_26) rfl rfl ?_
    refine XS.iload X2.here hx rfl (hb hby d5_27) rfl ?_
    refine st8.trans ?_
    refine st10 _ ?_
    refine st12 _ ?_
    refine XS.l2dS X12.here hx rfl (hb hby d5_40) rfl rfl ?_
    show Steps p.tables e below (T12.setTop (mkF m 41 #[.val (.double p0), .second, .val (.ref p1), .val (.long p2), .second, .val (.ref b2), .val (.int (0 : Int32))] [(.double (FP.l2d c0)), (.double p0), (.int (0 : Int32)), (.ref b2)])) _
    refine XS.dmulS X12.here hx rfl (hb hby d5_41) rfl (nn_w hd0) hd0 ?_
    refine XS.lloadN X12.here hx rfl (hb hby d5_42) rfl ?_
    refine XS.l2dS X12.here hx rfl (hb hby d5_43) rfl rfl ?_
    refine XS.ddivS X12.here hx rfl (hb hby d5_44) rfl hn0 rfl ?_
    refine st14 _ ?_
    refine XS.iinc X14.here hx rfl (hb hby d5_46) rfl (l' := #[.val (.double p0), .second, .val (.ref p1), .val (.long p2), .second, .val (.ref b2), .val (.int (1 : Int32))]) rfl ?_
    refine XS.goto X14.here hx rfl (pc0 := 49) (pc' := 13) rfl (hb hby d5_49) (by decide) (by decide) ?_
    refine XS.iload X14.here hx rfl (hb hby d5_13) rfl ?_
    refine XS.aload X14.here hx rfl (hb hby d5_15) rfl rfl ?_
    refine X14.arraylength hx (by rw [e14]; exact Ara15.1) (State.isArrayOf_alike hZ.alike Ara15.2.1) (g := (mkF m 17 #[.val (.double p0), .second, .val (.ref p1), .val (.long p2), .second, .val (.ref b2), .val (.int (1 : Int32))] [(.ref b2), (.int (1 : Int32))])) rfl rfl (hb hby d5_17) _ ?_
    rw [len_of Sa15 Za15]
    show Steps p.tables e below (T14.setTop (mkF m 18 #[.val (.double p0), .second, .val (.ref p1), .val (.long p2), .second, .val (.ref b2), .val (.int (1 : Int32))] [(.int (2 : Int32)), (.int (1 : Int32))])) _
    refine XS.icmpNo X14.here hx rfl (hb hby d5_18) rfl (tlt (by decide)).2.1 ?_
    refine XS.aload X14.here hx rfl (hb hby d5_21) rfl rfl ?_
    refine XS.iload X14.here hx rfl (hb hby d5_23) rfl ?_
    refine XS.dloadN X14.here hx rfl (hb hby d5_25) rfl ?_
    refine XS.aloadN X14.here hx rfl (hb hby d5_26) rfl rfl ?_
    refine XS.iload X14.here hx rfl (hb hby d5_27) rfl ?_
    refine st20.trans ?_
    refine st22 _ ?_
    refine st24 _ ?_
    refine XS.l2dS X24.here hx rfl (hb hby d5_40) rfl rfl ?_
    show Steps p.tables e below (T24.setTop (mkF m 41 #[.val (.double p0), .second, .val (.ref p1), .val (.long p2), .second, .val (.ref b2), .val (.int (1 : Int32))] [(.double (FP.l2d c1)), (.double p0), (.int (1 : Int32)), (.ref b2)])) _
    refine XS.dmulS X24.here hx rfl (hb hby d5_41) rfl (nn_w hd1) hd1 ?_
    refine XS.lloadN X24.here hx rfl (hb hby d5_42) rfl ?_
    refine XS.l2dS X24.here hx rfl (hb hby d5_43) rfl rfl ?_
    refine XS.ddivS X24.here hx rfl (hb hby d5_44) rfl hn1 rfl ?_
    refine st26 _ ?_
    refine XS.iinc X26.here hx rfl (hb hby d5_46) rfl (l' := #[.val (.double p0), .second, .val (.ref p1), .val (.long p2), .second, .val (.ref b2), .val (.int (2 : Int32))]) rfl ?_
    refine XS.goto X26.here hx rfl (pc0 := 49) (pc' := 13) rfl (hb hby d5_49) (by decide) (by decide) ?_
    refine XS.iload X26.here hx rfl (hb hby d5_13) rfl ?_
    refine XS.aload X26.here hx rfl (hb hby d5_15) rfl rfl ?_
    refine X26.arraylength hx (by rw [e26]; exact Ara27.1) (State.isArrayOf_alike hZ.alike Ara27.2.1) (g := (mkF m 17 #[.val (.double p0), .second, .val (.ref p1), .val (.long p2), .second, .val (.ref b2), .val (.int (2 : Int32))] [(.ref b2), (.int (2 : Int32))])) rfl rfl (hb hby d5_17) _ ?_
    rw [len_of Sa27 Za27]
    show Steps p.tables e below (T26.setTop (mkF m 18 #[.val (.double p0), .second, .val (.ref p1), .val (.long p2), .second, .val (.ref b2), .val (.int (2 : Int32))] [(.int (2 : Int32)), (.int (2 : Int32))])) _
    refine XS.icmpYes X26.here hx rfl (pc0 := 18) (pc' := 52) rfl (hb hby d5_18) rfl (flt (by decide)).2.1 (by decide) (by decide) ?_
    refine XS.aload X26.here hx rfl (hb hby d5_52) rfl rfl ?_
    exact Steps.refl _
  subst hA₀
  obtain ⟨fs, hr, hrun, hended, hW, hsame⟩ := X26.leave (v := some (.ref b2)) (fun h => by rw [Bd.returns] at h; cases h)
  refine ⟨_, _, s28.trans ?_, hrun, hended, _, _, rfl, ?_, ⟨_, rfl⟩, hW, hsame.mono (by decide) (by decide)⟩
  · show Steps p.tables e below (T26.setTop (mkF m 54 #[.val (.double p0), .second, .val (.ref p1), .val (.long p2), .second, .val (.ref b2), .val (.int (2 : Int32))] [(.ref b2)])) _
    jvm_step X26.here [X26.here.top, hx, (hb hby d5_54), X26.method', Bd.returns, Value.isRef, FieldType.isReference]
    first | (intro acts; rw [hr _ acts rfl rfl rfl]) | rw [hr _ _ rfl rfl rfl]
    exact Steps.refl _
  · show Qpri_2 Z p0 p1 p2 ed ka x0 x1 c0 c1 q0x q1x h0 n0 _ T26.heap _
    rw [e26]
    exact ⟨b2, k2, rfl, N26, K26, V26, sz_b2⟩
theorem pd_rmpri_3_0 : parseMethodDescriptor "()I" = some ⟨[], some .int⟩ := by decide +kernel
theorem pd_rmpri_3_1 : parseMethodDescriptor "(I)Ljava/lang/Object;" = some ⟨[.int], some (.object "java/lang/Object")⟩ := by decide +kernel
theorem pd_rmpri_3_2 : parseMethodDescriptor "()J" = some ⟨[], some .long⟩ := by decide +kernel
theorem ef_rmpri_3 (m : MethodId) (p0 : UInt64) (p1 : Addr) (p2 : Int64) : entryFrame m #[(.double p0), (.ref p1), (.long p2)] 7 = mkF m 0 #[.val (.double p0), .second, .val (.ref p1), .val (.long p2), .second, .unset, .unset] [] := by first | (simp [entryFrame, mkF, argsToLocals, Value.category]; done) | rfl
def Qpri_3 (Z : State) (p0 : UInt64) (p1 : Addr) (p2 : Int64) (ed : Addr) (ka : ClassId) (x0 : Addr) (x1 : Addr) (x2 : Addr) (c0 : Int64) (c1 : Int64) (c2 : Int64) (q0x : Int64) (q1x : Int64) (q2x : Int64) (h0 : Heap) (n0 : Nat) (v : Option Value) (h : Heap) (L : List Loc) : Prop := ∃ b : Addr, ∃ kb : ClassId, v = some (.ref b) ∧ Fr n0 L ∧ Keep h0 h [] ∧ (Arv Z h b kb .double (3 : Int32) [(.double (FP.ddiv (FP.l2d q0x) (FP.l2d p2))), (.double (FP.ddiv (FP.l2d q1x) (FP.l2d p2))), (.double (FP.ddiv (FP.l2d q2x) (FP.l2d p2)))] (.double (FP.l2d (0 : Int64)))) ∧ (h0.size ≤ b)
set_option maxRecDepth 65536 in
set_option maxHeartbeats 40000000 in
theorem rmpri_3 (l : Launch) (Z : State) (a0 : Array Value) (hw : ∀ d ∈ tables_1, d.before a0 Z = true) (ws : List Jvm.Cond) (p0 : UInt64) (p1 : Addr) (p2 : Int64) (ed : Addr) (ka : ClassId) (x0 : Addr) (x1 : Addr) (x2 : Addr) (c0 : Int64) (c1 : Int64) (c2 : Int64) (q0x : Int64) (q1x : Int64) (q2x : Int64) (h0 : Heap) (n0 : Nat) (O0 : Old Z n0 h0) (F0_ : Exa Z h0 p1 "java/util/ArrayList") (F1_ : Fld Z h0 p1 "java/util/ArrayList" "size" "I" (.int (3 : Int32))) (F2_ : Fld Z h0 p1 "java/util/ArrayList" "elementData" "[Ljava/lang/Object;" (.ref ed)) (F3_ : Arv Z h0 ed ka (.object "java/lang/Object") (10 : Int32) [(.ref x0), (.ref x1), (.ref x2), .null, .null, .null, .null, .null, .null, .null] .null) (F4_ : Exa Z h0 x0 "com/example/libprox/libprox/RankingModel$QueryTerm") (F5_ : Fld Z h0 x0 "com/example/libprox/libprox/RankingModel$QueryTerm" "collectionFrequency" "J" (.long c0)) (F6_ : Exa Z h0 x1 "com/example/libprox/libprox/RankingModel$QueryTerm") (F7_ : Fld Z h0 x1 "com/example/libprox/libprox/RankingModel$QueryTerm" "collectionFrequency" "J" (.long c1)) (F8_ : Exa Z h0 x2 "com/example/libprox/libprox/RankingModel$QueryTerm") (F9_ : Fld Z h0 x2 "com/example/libprox/libprox/RankingModel$QueryTerm" "collectionFrequency" "J" (.long c2)) (hd0 : FP.dmul p0 (FP.l2d c0) = FP.l2d q0x) (hn0 : Jvm.Free.Fl.NoNaN64 (FP.ddiv (FP.l2d q0x) (FP.l2d p2))) (hd1 : FP.dmul p0 (FP.l2d c1) = FP.l2d q1x) (hn1 : Jvm.Free.Fl.NoNaN64 (FP.ddiv (FP.l2d q1x) (FP.l2d p2))) (hd2 : FP.dmul p0 (FP.l2d c2) = FP.l2d q2x) (hn2 : Jvm.Free.Fl.NoNaN64 (FP.ddiv (FP.l2d q2x) (FP.l2d p2))) :
    MetFree l nm17 (head1 (Jvm.Cond.code nm17 prog_18_method_3_code 7 (some (.array .double)) :: ws) ({ frames := 3, cells := 1, slots := 3, locals := 44 } : Room)) (fun a U => a = #[(.double p0), (.ref p1), (.long p2)] ∧ Z.Warmed39 U.vm ∧ U.heap = h0) (fun _ _ _ _ _ => True) (fun _ U o U' => ∃ v L, o = .returned v ∧ Qpri_3 Z p0 p1 p2 ed ka x0 x1 x2 c0 c1 c2 q0x q1x q2x h0 n0 v U'.heap L ∧ FrameEnd U o U' L ({ frames := 3, cells := 1, slots := 3, locals := 44 } : Room).cells ({ frames := 3, cells := 1, slots := 3, locals := 44 } : Room).slots) := by
  refine MetFree.of_bodySF (plainFor_of_name pn_5) hisR ?_
  intro p e s m args below meth c s₁ Bd hml0 hP hK
  obtain ⟨rfl, hZ, hh⟩ := hP
  have hx := Bd.exec
  have hby := Bd.bytes
  have hml : c.maxLocals = 7 := hml0
  have hown : s.vm.findClass "com/example/libprox/libprox/Kld" = some m.cls := findClass_of_methodNamed Bd.named
  have X0 : Stand p l e ({ frames := 3, cells := 1, slots := 3, locals := 44 } : Room) s m #[(.double p0), (.ref p1), (.long p2)] below meth c s₁ [] 0 0 := Stand.of_body Bd
  have e0 : s₁.heap = h0 := by rw [← hh, Bd.state]; rfl
  have N0 := Fr.nil n0
  have s0 : Steps p.tables e below (s₁.setTop (entryFrame m #[(.double p0), (.ref p1), (.long p2)] 7)) (s₁.setTop (mkF m 0 #[.val (.double p0), .second, .val (.ref p1), .val (.long p2), .second, .unset, .unset] [])) := castTop (ef_rmpri_3 m p0 p1 p2) (Steps.refl _)
  obtain ⟨A₀, hA₀⟩ : ∃ z, z = (s₁.setTop (entryFrame m #[(.double p0), (.ref p1), (.long p2)] 7)) := ⟨_, rfl⟩
  rw [← hA₀] at s0
  obtain ⟨cq1, kq1, q1a, q1b, q1c⟩ := isOf hZ e0 F0_
  obtain ⟨_, _, ⟨T1, L1, k1, n1⟩, -, X1, ⟨Lc1, hQ1, l1, y1, z1⟩, st1⟩ := X0.interfaceBack hx (xi := (⟨"java/util/List", "size", "()I"⟩ : MethodName)) (y := (⟨"java/util/ArrayList", "size", "()I"⟩ : MethodName)) hown (mvT hZ (hw _ (List.mem_of_getElem? (i := 31) rfl))) (mvT hZ (hw _ (List.mem_of_getElem? (i := 32) rfl))) (mvT hZ (hw _ (List.mem_of_getElem? (i := 33) rfl))) (mvT hZ (hw _ (List.mem_of_getElem? (i := 34) rfl))) (mvT hZ (hw _ (List.mem_of_getElem? (i := 35) rfl))) (mvT hZ (hw _ (List.mem_of_getElem? (i := 36) rfl))) (mvT hZ (hw _ (List.mem_of_getElem? (i := 37) rfl))) (mvT hZ (hw _ (List.mem_of_getElem? (i := 38) rfl))) (by decide) (backOf (W := 0) (rmalsz_3 l Z a0 hw [] p1 h0 n0 O0 F0_ F1_) hZ (hw _ (List.mem_of_getElem? (i := 39) rfl)) (hw _ (List.mem_of_getElem? (i := 3) rfl)) (by decide) (by decide)) q1a q1b q1c (g := (mkF m 1 #[.val (.double p0), .second, .val (.ref p1), .val (.long p2), .second, .unset, .unset] [(.ref p1)])) rfl (by rw [hml]; rfl) (Steps.refl _) (argsL := []) (rest := []) (lenOf pd_rmpri_3_0 rfl) rfl (by show 2 * 0 + _ ≤ _; exact Nat.le_of_eq rfl) (hb hby d5_1) (fun _ _ => ⟨rfl, e0, (by decide : 0 + 0 ≤ _), (by decide : 0 + 0 ≤ _)⟩)
  dsimp only [Pt.U, Pt.locs, Pt.cells, Pt.slots] at X1 l1 y1 z1 st1 hQ1
  subst l1 y1 z1
  obtain ⟨rfl, Nq1, e1⟩ := hQ1
  have N1 := Fr.app N0 Nq1
  obtain ⟨T2, h2, k2, X2, e2, E2, A2, st2⟩ := newP X1 hx hZ (hw _ (List.mem_of_getElem? (i := 42) rfl)) e1 (g := (mkF m 6 #[.val (.double p0), .second, .val (.ref p1), .val (.long p2), .second, .unset, .unset] [(.int (3 : Int32))])) rfl (hb hby d5_6) rfl (by decide) (cap := 3) (by decide) (by decide) (by decide) (by decide)
  obtain ⟨b2, g2⟩ : ∃ z, z = h0.size := ⟨_, rfl⟩
  rw [← g2] at A2 st2
  have ne_p1_b2 : p1 ≠ b2 := Nat.ne_of_lt (Nat.lt_of_lt_of_le F0_.lt (Nat.le_of_eq g2.symm))
  have ne_ed_b2 : ed ≠ b2 := Nat.ne_of_lt (Nat.lt_of_lt_of_le F3_.lt (Nat.le_of_eq g2.symm))
  have ne_x0_b2 : x0 ≠ b2 := Nat.ne_of_lt (Nat.lt_of_lt_of_le F4_.lt (Nat.le_of_eq g2.symm))
  have ne_x1_b2 : x1 ≠ b2 := Nat.ne_of_lt (Nat.lt_of_lt_of_le F6_.lt (Nat.le_of_eq g2.symm))
  have ne_x2_b2 : x2 ≠ b2 := Nat.ne_of_lt (Nat.lt_of_lt_of_le F8_.lt (Nat.le_of_eq g2.symm))
  have g_b2 : n0 ≤ b2 := Nat.le_trans (Nat.le_of_eq O0.1.symm) (Nat.le_trans O0.2.1 (Nat.le_of_eq g2.symm))
  have sz_b2 : h0.size ≤ b2 := Nat.le_trans (Keep.refl h0 []).1 (Nat.le_of_eq g2.symm)
  have O2 := O0.ext E2
  have K2 : Keep h0 h2 [] := (Keep.refl h0 []).ext E2
  have V2 : Arv Z h2 b2 k2 .double (3 : Int32) [(.double (FP.l2d (0 : Int64))), (.double (FP.l2d (0 : Int64))), (.double (FP.l2d (0 : Int64)))] (.double (FP.l2d (0 : Int64))) := (Arv.newD A2 (by decide)).pad (pad_rep [] (.double (FP.l2d (0 : Int64))) 3)
  obtain ⟨cla3, Ara3, qa3, Sa3, Za3, Ha3, Ga3⟩ := id V2
  have c4 : Exa Z h2 p1 "java/util/ArrayList" := (F0_.ext E2)
  have c5 : Fld Z h2 p1 "java/util/ArrayList" "size" "I" (.int (3 : Int32)) := (F1_.ext E2)
  have c6 : Fld Z h2 p1 "java/util/ArrayList" "elementData" "[Ljava/lang/Object;" (.ref ed) := (F2_.ext E2)
  have c7 : Arv Z h2 ed ka (.object "java/lang/Object") (10 : Int32) [(.ref x0), (.ref x1), (.ref x2), .null, .null, .null, .null, .null, .null, .null] .null := (F3_.ext E2)
  obtain ⟨cq8, kq8, q8a, q8b, q8c⟩ := isOf hZ e2 c4
  obtain ⟨_, _, ⟨T8, L8, k8, n8⟩, -, X8, ⟨Lc8, hQ8, l8, y8, z8⟩, st8⟩ := X2.interfaceBack hx (xi := (⟨"java/util/List", "get", "(I)Ljava/lang/Object;"⟩ : MethodName)) (y := (⟨"java/util/ArrayList", "get", "(I)Ljava/lang/Object;"⟩ : MethodName)) hown (mvT hZ (hw _ (List.mem_of_getElem? (i := 101) rfl))) (mvT hZ (hw _ (List.mem_of_getElem? (i := 102) rfl))) (mvT hZ (hw _ (List.mem_of_getElem? (i := 103) rfl))) (mvT hZ (hw _ (List.mem_of_getElem? (i := 104) rfl))) (mvT hZ (hw _ (List.mem_of_getElem? (i := 105) rfl))) (mvT hZ (hw _ (List.mem_of_getElem? (i := 106) rfl))) (mvT hZ (hw _ (List.mem_of_getElem? (i := 107) rfl))) (mvT hZ (hw _ (List.mem_of_getElem? (i := 38) rfl))) (by decide) (backOf (W := 4) (rmalgt_3_0 l Z a0 hw [] p1 ed x0 x1 x2 ka h2 n0 O2 c4 c5 c6 c7) hZ (hw _ (List.mem_of_getElem? (i := 108) rfl)) (hw _ (List.mem_of_getElem? (i := 3) rfl)) (by decide) (by decide)) q8a q8b q8c (g := (mkF m 29 #[.val (.double p0), .second, .val (.ref p1), .val (.long p2), .second, .val (.ref b2), .val (.int (0 : Int32))] [(.int (0 : Int32)), (.ref p1), (.double p0), (.int (0 : Int32)), (.ref b2)])) rfl (by rw [hml]; rfl) (Steps.refl _) (argsL := [(.int (0 : Int32))]) (rest := [(.double p0), (.int (0 : Int32)), (.ref b2)]) (lenOf pd_rmpri_3_1 rfl) rfl (by show 2 * 0 + _ ≤ _; exact Nat.le_of_eq rfl) (hb hby d5_29) (fun _ _ => ⟨rfl, e2, (by decide : 1 + 0 ≤ _), (by decide : 3 + 0 ≤ _)⟩)
  dsimp only [Pt.U, Pt.locs, Pt.cells, Pt.slots] at X8 l8 y8 z8 st8 hQ8
  subst l8 y8 z8
  obtain ⟨rfl, Nq8, e8⟩ := hQ8
  have N8 := Fr.app N1 Nq8
  have c9 : Exa Z h2 x0 "com/example/libprox/libprox/RankingModel$QueryTerm" := (F4_.ext E2)
  obtain ⟨T10, X10, e10, st10⟩ := castY X8 hx hZ hown (hw _ (List.mem_of_getElem? (i := 122) rfl)) e8 (Ins.self c9) (g := (mkF m 34 #[.val (.double p0), .second, .val (.ref p1), .val (.long p2), .second, .val (.ref b2), .val (.int (0 : Int32))] [(.ref x0), (.double p0), (.int (0 : Int32)), (.ref b2)])) rfl rfl (hb hby d5_34)
  have c11 : Fld Z h2 x0 "com/example/libprox/libprox/RankingModel$QueryTerm" "collectionFrequency" "J" (.long c0) := (F5_.ext E2)
  obtain ⟨T12, L12, X12, e12, N12, st12⟩ := own_callVP X10 hx hZ hown (wk124 hw) (wk125 hw) (wk127 hw) (wk126 hw) (by decide) (wk45 hw) (wk128 hw) (rmqc l Z a0 hw [] x0 c0 h2 n0 O2 c9 c11) e10 N8 (W := 4) (by decide) (by decide) (by decide) (by decide) c9 (g := (mkF m 37 #[.val (.double p0), .second, .val (.ref p1), .val (.long p2), .second, .val (.ref b2), .val (.int (0 : Int32))] [(.ref x0), (.double p0), (.int (0 : Int32)), (.ref b2)])) rfl (by rw [hml]; rfl) (argsL := []) (rest := [(.double p0), (.int (0 : Int32)), (.ref b2)]) (lenOf pd_rmpri_3_2 rfl) rfl (by show 2 * 0 + _ ≤ _; exact Nat.le_of_eq rfl) (hb hby d5_37)
  have hin13 : ¬ ((0 : Int32) < 0 ∨ cla3.slots.size ≤ ((0 : Int32)).toNatClampNeg) := inb_of Sa3 ⟨by decide, by decide⟩
  obtain ⟨T14, h14, X14, e14, W14, st14⟩ := stD X12 hx hZ e12 Ara3 (j := (0 : Int32)) hin13 (g := (mkF m 45 #[.val (.double p0), .second, .val (.ref p1), .val (.long p2), .second, .val (.ref b2), .val (.int (0 : Int32))] [(.double (FP.ddiv (FP.l2d q0x) (FP.l2d p2))), (.int (0 : Int32)), (.ref b2)])) rfl rfl (hb hby d5_45)
  have O14 := O2.wr W14 g_b2
  have K14 : Keep h0 h14 [] := K2.wr W14 (Or.inr sz_b2)
  have N14 := Fr.snoc X14 N12 g_b2
  have V14 : Arv Z h14 b2 k2 .double (3 : Int32) [(.double (FP.ddiv (FP.l2d q0x) (FP.l2d p2))), (.double (FP.l2d (0 : Int64))), (.double (FP.l2d (0 : Int64)))] (.double (FP.l2d (0 : Int64))) := Arv.set Ara3 qa3 Sa3 Za3 Ha3 Ga3 rfl W14 0 rfl (Nat.le_of_ble_eq_true rfl)
  obtain ⟨cla15, Ara15, qa15, Sa15, Za15, Ha15, Ga15⟩ := id V14
  have c16 : Exa Z h14 p1 "java/util/ArrayList" := (c4.wr W14)
  have c17 : Fld Z h14 p1 "java/util/ArrayList" "size" "I" (.int (3 : Int32)) := (c5.other W14 (Or.inl ne_p1_b2))
  have c18 : Fld Z h14 p1 "java/util/ArrayList" "elementData" "[Ljava/lang/Object;" (.ref ed) := (c6.other W14 (Or.inl ne_p1_b2))
  have c19 : Arv Z h14 ed ka (.object "java/lang/Object") (10 : Int32) [(.ref x0), (.ref x1), (.ref x2), .null, .null, .null, .null, .null, .null, .null] .null := (c7.other W14 ne_ed_b2)
  obtain ⟨cq20, kq20, q20a, q20b, q20c⟩ := isOf hZ e14 c16
  obtain ⟨_, _, ⟨T20, L20, k20, n20⟩, -, X20, ⟨Lc20, hQ20, l20, y20, z20⟩, st20⟩ := X14.interfaceBack hx (xi := (⟨"java/util/List", "get", "(I)Ljava/lang/Object;"⟩ : MethodName)) (y := (⟨"java/util/ArrayList", "get", "(I)Ljava/lang/Object;"⟩ : MethodName)) hown (mvT hZ (hw _ (List.mem_of_getElem? (i := 101) rfl))) (mvT hZ (hw _ (List.mem_of_getElem? (i := 102) rfl))) (mvT hZ (hw _ (List.mem_of_getElem? (i := 103) rfl))) (mvT hZ (hw _ (List.mem_of_getElem? (i := 104) rfl))) (mvT hZ (hw _ (List.mem_of_getElem? (i := 105) rfl))) (mvT hZ (hw _ (List.mem_of_getElem? (i := 106) rfl))) (mvT hZ (hw _ (List.mem_of_getElem? (i := 107) rfl))) (mvT hZ (hw _ (List.mem_of_getElem? (i := 38) rfl))) (by decide) (backOf (W := 4) (rmalgt_3_1 l Z a0 hw [] p1 ed x0 x1 x2 ka h14 n0 O14 c16 c17 c18 c19) hZ (hw _ (List.mem_of_getElem? (i := 108) rfl)) (hw _ (List.mem_of_getElem? (i := 3) rfl)) (by decide) (by decide)) q20a q20b q20c (g := (mkF m 29 #[.val (.double p0), .second, .val (.ref p1), .val (.long p2), .second, .val (.ref b2), .val (.int (1 : Int32))] [(.int (1 : Int32)), (.ref p1), (.double p0), (.int (1 : Int32)), (.ref b2)])) rfl (by rw [hml]; rfl) (Steps.refl _) (argsL := [(.int (1 : Int32))]) (rest := [(.double p0), (.int (1 : Int32)), (.ref b2)]) (lenOf pd_rmpri_3_1 rfl) rfl (by show 2 * 0 + _ ≤ _; exact Nat.le_of_eq rfl) (hb hby d5_29) (fun _ _ => ⟨rfl, e14, (by decide : 1 + 0 ≤ _), (by decide : 3 + 0 ≤ _)⟩)
  dsimp only [Pt.U, Pt.locs, Pt.cells, Pt.slots] at X20 l20 y20 z20 st20 hQ20
  subst l20 y20 z20
  obtain ⟨rfl, Nq20, e20⟩ := hQ20
  have N20 := Fr.app N14 Nq20
  have c21 : Exa Z h14 x1 "com/example/libprox/libprox/RankingModel$QueryTerm" := ((F6_.ext E2).wr W14)
  obtain ⟨T22, X22, e22, st22⟩ := castY X20 hx hZ hown (hw _ (List.mem_of_getElem? (i := 122) rfl)) e20 (Ins.self c21) (g := (mkF m 34 #[.val (.double p0), .second, .val (.ref p1), .val (.long p2), .second, .val (.ref b2), .val (.int (1 : Int32))] [(.ref x1), (.double p0), (.int (1 : Int32)), (.ref b2)])) rfl rfl (hb hby d5_34)
  have c23 : Fld Z h14 x1 "com/example/libprox/libprox/RankingModel$QueryTerm" "collectionFrequency" "J" (.long c1) := ((F7_.ext E2).other W14 (Or.inl ne_x1_b2))
  obtain ⟨T24, L24, X24, e24, N24, st24⟩ := own_callVP X22 hx hZ hown (wk124 hw) (wk125 hw) (wk127 hw) (wk126 hw) (by decide) (wk45 hw) (wk128 hw) (rmqc l Z a0 hw [] x1 c1 h14 n0 O14 c21 c23) e22 N20 (W := 4) (by decide) (by decide) (by decide) (by decide) c21 (g := (mkF m 37 #[.val (.double p0), .second, .val (.ref p1), .val (.long p2), .second, .val (.ref b2), .val (.int (1 : Int32))] [(.ref x1), (.double p0), (.int (1 : Int32)), (.ref b2)])) rfl (by rw [hml]; rfl) (argsL := []) (rest := [(.double p0), (.int (1 : Int32)), (.ref b2)]) (lenOf pd_rmpri_3_2 rfl) rfl (by show 2 * 0 + _ ≤ _; exact Nat.le_of_eq rfl) (hb hby d5_37)
  have hin25 : ¬ ((1 : Int32) < 0 ∨ cla15.slots.size ≤ ((1 : Int32)).toNatClampNeg) := inb_of Sa15 ⟨by decide, by decide⟩
  obtain ⟨T26, h26, X26, e26, W26, st26⟩ := stD X24 hx hZ e24 Ara15 (j := (1 : Int32)) hin25 (g := (mkF m 45 #[.val (.double p0), .second, .val (.ref p1), .val (.long p2), .second, .val (.ref b2), .val (.int (1 : Int32))] [(.double (FP.ddiv (FP.l2d q1x) (FP.l2d p2))), (.int (1 : Int32)), (.ref b2)])) rfl rfl (hb hby d5_45)
  have O26 := O14.wr W26 g_b2
  have K26 : Keep h0 h26 [] := K14.wr W26 (Or.inr sz_b2)
  have N26 := Fr.snoc X26 N24 g_b2
  have V26 : Arv Z h26 b2 k2 .double (3 : Int32) [(.double (FP.ddiv (FP.l2d q0x) (FP.l2d p2))), (.double (FP.ddiv (FP.l2d q1x) (FP.l2d p2))), (.double (FP.l2d (0 : Int64)))] (.double (FP.l2d (0 : Int64))) := Arv.set Ara15 qa15 Sa15 Za15 Ha15 Ga15 rfl W26 1 rfl (Nat.le_of_ble_eq_true rfl)
  obtain ⟨cla27, Ara27, qa27, Sa27, Za27, Ha27, Ga27⟩ := id V26
  have c28 : Exa Z h26 p1 "java/util/ArrayList" := (c16.wr W26)
  have c29 : Fld Z h26 p1 "java/util/ArrayList" "size" "I" (.int (3 : Int32)) := (c17.other W26 (Or.inl ne_p1_b2))
  have c30 : Fld Z h26 p1 "java/util/ArrayList" "elementData" "[Ljava/lang/Object;" (.ref ed) := (c18.other W26 (Or.inl ne_p1_b2))
  have c31 : Arv Z h26 ed ka (.object "java/lang/Object") (10 : Int32) [(.ref x0), (.ref x1), (.ref x2), .null, .null, .null, .null, .null, .null, .null] .null := (c19.other W26 ne_ed_b2)
  obtain ⟨cq32, kq32, q32a, q32b, q32c⟩ := isOf hZ e26 c28
  obtain ⟨_, _, ⟨T32, L32, k32, n32⟩, -, X32, ⟨Lc32, hQ32, l32, y32, z32⟩, st32⟩ := X26.interfaceBack hx (xi := (⟨"java/util/List", "get", "(I)Ljava/lang/Object;"⟩ : MethodName)) (y := (⟨"java/util/ArrayList", "get", "(I)Ljava/lang/Object;"⟩ : MethodName)) hown (mvT hZ (hw _ (List.mem_of_getElem? (i := 101) rfl))) (mvT hZ (hw _ (List.mem_of_getElem? (i := 102) rfl))) (mvT hZ (hw _ (List.mem_of_getElem? (i := 103) rfl))) (mvT hZ (hw _ (List.mem_of_getElem? (i := 104) rfl))) (mvT hZ (hw _ (List.mem_of_getElem? (i := 105) rfl))) (mvT hZ (hw _ (List.mem_of_getElem? (i := 106) rfl))) (mvT hZ (hw _ (List.mem_of_getElem? (i := 107) rfl))) (mvT hZ (hw _ (List.mem_of_getElem? (i := 38) rfl))) (by decide) (backOf (W := 4) (rmalgt_3_2 l Z a0 hw [] p1 ed x0 x1 x2 ka h26 n0 O26 c28 c29 c30 c31) hZ (hw _ (List.mem_of_getElem? (i := 108) rfl)) (hw _ (List.mem_of_getElem? (i := 3) rfl)) (by decide) (by decide)) q32a q32b q32c (g := (mkF m 29 #[.val (.double p0), .second, .val (.ref p1), .val (.long p2), .second, .val (.ref b2), .val (.int (2 : Int32))] [(.int (2 : Int32)), (.ref p1), (.double p0), (.int (2 : Int32)), (.ref b2)])) rfl (by rw [hml]; rfl) (Steps.refl _) (argsL := [(.int (2 : Int32))]) (rest := [(.double p0), (.int (2 : Int32)), (.ref b2)]) (lenOf pd_rmpri_3_1 rfl) rfl (by show 2 * 0 + _ ≤ _; exact Nat.le_of_eq rfl) (hb hby d5_29) (fun _ _ => ⟨rfl, e26, (by decide : 1 + 0 ≤ _), (by decide : 3 + 0 ≤ _)⟩)
  dsimp only [Pt.U, Pt.locs, Pt.cells, Pt.slots] at X32 l32 y32 z32 st32 hQ32
  subst l32 y32 z32
  obtain ⟨rfl, Nq32, e32⟩ := hQ32
  have N32 := Fr.app N26 Nq32
  have c33 : Exa Z h26 x2 "com/example/libprox/libprox/RankingModel$QueryTerm" := (((F8_.ext E2).wr W14).wr W26)
  obtain ⟨T34, X34, e34, st34⟩ := castY X32 hx hZ hown (hw _ (List.mem_of_getElem? (i := 122) rfl)) e32 (Ins.self c33) (g := (mkF m 34 #[.val (.double p0), .second, .val (.ref p1), .val (.long p2), .second, .val (.ref b2), .val (.int (2 : Int32))] [(.ref x2), (.double p0), (.int (2 : Int32)), (.ref b2)])) rfl rfl (hb hby d5_34)
  have c35 : Fld Z h26 x2 "com/example/libprox/libprox/RankingModel$QueryTerm" "collectionFrequency" "J" (.long c2) := (((F9_.ext E2).other W14 (Or.inl ne_x2_b2)).other W26 (Or.inl ne_x2_b2))
  obtain ⟨T36, L36, X36, e36, N36, st36⟩ := own_callVP X34 hx hZ hown (wk124 hw) (wk125 hw) (wk127 hw) (wk126 hw) (by decide) (wk45 hw) (wk128 hw) (rmqc l Z a0 hw [] x2 c2 h26 n0 O26 c33 c35) e34 N32 (W := 4) (by decide) (by decide) (by decide) (by decide) c33 (g := (mkF m 37 #[.val (.double p0), .second, .val (.ref p1), .val (.long p2), .second, .val (.ref b2), .val (.int (2 : Int32))] [(.ref x2), (.double p0), (.int (2 : Int32)), (.ref b2)])) rfl (by rw [hml]; rfl) (argsL := []) (rest := [(.double p0), (.int (2 : Int32)), (.ref b2)]) (lenOf pd_rmpri_3_2 rfl) rfl (by show 2 * 0 + _ ≤ _; exact Nat.le_of_eq rfl) (hb hby d5_37)
  have hin37 : ¬ ((2 : Int32) < 0 ∨ cla27.slots.size ≤ ((2 : Int32)).toNatClampNeg) := inb_of Sa27 ⟨by decide, by decide⟩
  obtain ⟨T38, h38, X38, e38, W38, st38⟩ := stD X36 hx hZ e36 Ara27 (j := (2 : Int32)) hin37 (g := (mkF m 45 #[.val (.double p0), .second, .val (.ref p1), .val (.long p2), .second, .val (.ref b2), .val (.int (2 : Int32))] [(.double (FP.ddiv (FP.l2d q2x) (FP.l2d p2))), (.int (2 : Int32)), (.ref b2)])) rfl rfl (hb hby d5_45)
  have O38 := O26.wr W38 g_b2
  have K38 : Keep h0 h38 [] := K26.wr W38 (Or.inr sz_b2)
  have N38 := Fr.snoc X38 N36 g_b2
  have V38 : Arv Z h38 b2 k2 .double (3 : Int32) [(.double (FP.ddiv (FP.l2d q0x) (FP.l2d p2))), (.double (FP.ddiv (FP.l2d q1x) (FP.l2d p2))), (.double (FP.ddiv (FP.l2d q2x) (FP.l2d p2)))] (.double (FP.l2d (0 : Int64))) := Arv.set Ara27 qa27 Sa27 Za27 Ha27 Ga27 rfl W38 2 rfl (Nat.le_of_ble_eq_true rfl)
  obtain ⟨cla39, Ara39, qa39, Sa39, Za39, Ha39, Ga39⟩ := id V38
  have s40 : Steps p.tables e below A₀ (T38.setTop (mkF m 54 #[.val (.double p0), .second, .val (.ref p1), .val (.long p2), .second, .val (.ref b2), .val (.int (3 : Int32))] [(.ref b2)])) := by
    refine s0.trans ?_
    refine XS.aloadN X0.here hx rfl (hb hby d5_0) rfl rfl ?_
    refine st1.trans ?_
    refine st2 _ ?_
    refine XS.astore X2.here hx rfl (hb hby d5_8) rfl rfl (l' := #[.val (.double p0), .second, .val (.ref p1), .val (.long p2), .second, .val (.ref b2), .unset]) rfl ?_
    refine XS.iconst X2.here hx rfl (hb hby d5_10) ?_
    refine XS.istore X2.here hx rfl (hb hby d5_11) rfl (l' := #[.val (.double p0), .second, .val (.ref p1), .val (.long p2), .second, .val (.ref b2), .val (.int (0 : Int32))]) rfl ?_
    refine XS.iload X2.here hx rfl (hb hby d5_13) rfl ?_
    refine XS.aload X2.here hx rfl (hb hby d5_15) rfl rfl ?_
    show Steps p.tables e below (T2.setTop (mkF m 17 #[.val (.double p0), .second, .val (.ref p1), .val (.long p2), .second, .val (.ref b2), .val (.int (0 : Int32))] [(.ref b2), (.int (0 : Int32))])) _
    refine X2.arraylength hx (by rw [e2]; exact Ara3.1) (State.isArrayOf_alike hZ.alike Ara3.2.1) (g := (mkF m 17 #[.val (.double p0), .second, .val (.ref p1), .val (.long p2), .second, .val (.ref b2), .val (.int (0 : Int32))] [(.ref b2), (.int (0 : Int32))])) rfl rfl (hb hby d5_17) _ ?_
    rw [len_of Sa3 Za3]
    show Steps p.tables e below (T2.setTop (mkF m 18 #[.val (.double p0), .second, .val (.ref p1), .val (.long p2), .second, .val (.ref b2), .val (.int (0 : Int32))] [(.int (3 : Int32)), (.int (0 : Int32))])) _
    refine XS.icmpNo X2.here hx rfl (hb hby d5_18) rfl (tlt (by decide)).2.1 ?_
    refine XS.aload X2.here hx rfl (hb hby d5_21) rfl rfl ?_
    refine XS.iload X2.here hx rfl (hb hby d5_23) rfl ?_
    refine XS.dloadN X2.here hx rfl (hb hby d5_25) rfl ?_
    refine XS.aloadN X2.here hx rfl (hb hby d5_26) rfl rfl ?_
    refine XS.iload X2.here hx rfl (hb hby d5_27) rfl ?_
    refine st8.trans ?_
    refine st10 _ ?_
    refine st12 _ ?_
    refine XS.l2dS X12.here hx rfl (hb hby d5_40) rfl rfl ?_
    show Steps p.tables e below (T12.setTop (mkF m 41 #[.val (.double p0), .second, .val (.ref p1), .val (.long p2), .second, .val (.ref b2), .val (.int (0 : Int32))] [(.double (FP.l2d c0)), (.double p0), (.int (0 : Int32)), (.ref b2)])) _
    refine XS.dmulS X12.here hx rfl (hb hby d5_41) rfl (nn_w hd0) hd0 ?_
    refine XS.lloadN X12.here hx rfl (hb hby d5_42) rfl ?_
    refine XS.l2dS X12.here hx rfl (hb hby d5_43) rfl rfl ?_
    refine XS.ddivS X12.here hx rfl (hb hby d5_44) rfl hn0 rfl ?_
    refine st14 _ ?_
    refine XS.iinc X14.here hx rfl (hb hby d5_46) rfl (l' := #[.val (.double p0), .second, .val (.ref p1), .val (.long p2), .second, .val (.ref b2), .val (.int (1 : Int32))]) rfl ?_
    refine XS.goto X14.here hx rfl (pc0 := 49) (pc' := 13) rfl (hb hby d5_49) (by decide) (by decide) ?_
    refine XS.iload X14.here hx rfl (hb hby d5_13) rfl ?_
    refine XS.aload X14.here hx rfl (hb hby d5_15) rfl rfl ?_
    refine X14.arraylength hx (by rw [e14]; exact Ara15.1) (State.isArrayOf_alike hZ.alike Ara15.2.1) (g := (mkF m 17 #[.val (.double p0), .second, .val (.ref p1), .val (.long p2), .second, .val (.ref b2), .val (.int (1 : Int32))] [(.ref b2), (.int (1 : Int32))])) rfl rfl (hb hby d5_17) _ ?_
    rw [len_of Sa15 Za15]
    show Steps p.tables e below (T14.setTop (mkF m 18 #[.val (.double p0), .second, .val (.ref p1), .val (.long p2), .second, .val (.ref b2), .val (.int (1 : Int32))] [(.int (3 : Int32)), (.int (1 : Int32))])) _
    refine XS.icmpNo X14.here hx rfl (hb hby d5_18) rfl (tlt (by decide)).2.1 ?_
    refine XS.aload X14.here hx rfl (hb hby d5_21) rfl rfl ?_
    refine XS.iload X14.here hx rfl (hb hby d5_23) rfl ?_
    refine XS.dloadN X14.here hx rfl (hb hby d5_25) rfl ?_
    refine XS.aloadN X14.here hx rfl (hb hby d5_26) rfl rfl ?_
    refine XS.iload X14.here hx rfl (hb hby d5_27) rfl ?_
    refine st20.trans ?_
    refine st22 _ ?_
    refine st24 _ ?_
    refine XS.l2dS X24.here hx rfl (hb hby d5_40) rfl rfl ?_
    show Steps p.tables e below (T24.setTop (mkF m 41 #[.val (.double p0), .second, .val (.ref p1), .val (.long p2), .second, .val (.ref b2), .val (.int (1 : Int32))] [(.double (FP.l2d c1)), (.double p0), (.int (1 : Int32)), (.ref b2)])) _
    refine XS.dmulS X24.here hx rfl (hb hby d5_41) rfl (nn_w hd1) hd1 ?_
    refine XS.lloadN X24.here hx rfl (hb hby d5_42) rfl ?_
    refine XS.l2dS X24.here hx rfl (hb hby d5_43) rfl rfl ?_
    refine XS.ddivS X24.here hx rfl (hb hby d5_44) rfl hn1 rfl ?_
    refine st26 _ ?_
    refine XS.iinc X26.here hx rfl (hb hby d5_46) rfl (l' := #[.val (.double p0), .second, .val (.ref p1), .val (.long p2), .second, .val (.ref b2), .val (.int (2 : Int32))]) rfl ?_
    refine XS.goto X26.here hx rfl (pc0 := 49) (pc' := 13) rfl (hb hby d5_49) (by decide) (by decide) ?_
    refine XS.iload X26.here hx rfl (hb hby d5_13) rfl ?_
    refine XS.aload X26.here hx rfl (hb hby d5_15) rfl rfl ?_
    refine X26.arraylength hx (by rw [e26]; exact Ara27.1) (State.isArrayOf_alike hZ.alike Ara27.2.1) (g := (mkF m 17 #[.val (.double p0), .second, .val (.ref p1), .val (.long p2), .second, .val (.ref b2), .val (.int (2 : Int32))] [(.ref b2), (.int (2 : Int32))])) rfl rfl (hb hby d5_17) _ ?_
    rw [len_of Sa27 Za27]
    show Steps p.tables e below (T26.setTop (mkF m 18 #[.val (.double p0), .second, .val (.ref p1), .val (.long p2), .second, .val (.ref b2), .val (.int (2 : Int32))] [(.int (3 : Int32)), (.int (2 : Int32))])) _
    refine XS.icmpNo X26.here hx rfl (hb hby d5_18) rfl (tlt (by decide)).2.1 ?_
    refine XS.aload X26.here hx rfl (hb hby d5_21) rfl rfl ?_
    refine XS.iload X26.here hx rfl (hb hby d5_23) rfl ?_
    refine XS.dloadN X26.here hx rfl (hb hby d5_25) rfl ?_
    refine XS.aloadN X26.here hx rfl (hb hby d5_26) rfl rfl ?_
    refine XS.iload X26.here hx rfl (hb hby d5_27) rfl ?_
    refine st32.trans ?_
    refine st34 _ ?_
    refine st36 _ ?_
    refine XS.l2dS X36.here hx rfl (hb hby d5_40) rfl rfl ?_
    show Steps p.tables e below (T36.setTop (mkF m 41 #[.val (.double p0), .second, .val (.ref p1), .val (.long p2), .second, .val (.ref b2), .val (.int (2 : Int32))] [(.double (FP.l2d c2)), (.double p0), (.int (2 : Int32)), (.ref b2)])) _
    refine XS.dmulS X36.here hx rfl (hb hby d5_41) rfl (nn_w hd2) hd2 ?_
    refine XS.lloadN X36.here hx rfl (hb hby d5_42) rfl ?_
    refine XS.l2dS X36.here hx rfl (hb hby d5_43) rfl rfl ?_
    refine XS.ddivS X36.here hx rfl (hb hby d5_44) rfl hn2 rfl ?_
    refine st38 _ ?_
    refine XS.iinc X38.here hx rfl (hb hby d5_46) rfl (l' := #[.val (.double p0), .second, .val (.ref p1), .val (.long p2), .second, .val (.ref b2), .val (.int (3 : Int32))]) rfl ?_
    refine XS.goto X38.here hx rfl (pc0 := 49) (pc' := 13) rfl (hb hby d5_49) (by decide) (by decide) ?_
    refine XS.iload X38.here hx rfl (hb hby d5_13) rfl ?_
    refine XS.aload X38.here hx rfl (hb hby d5_15) rfl rfl ?_
    refine X38.arraylength hx (by rw [e38]; exact Ara39.1) (State.isArrayOf_alike hZ.alike Ara39.2.1) (g := (mkF m 17 #[.val (.double p0), .second, .val (.ref p1), .val (.long p2), .second, .val (.ref b2), .val (.int (3 : Int32))] [(.ref b2), (.int (3 : Int32))])) rfl rfl (hb hby d5_17) _ ?_
    rw [len_of Sa39 Za39]
    show Steps p.tables e below (T38.setTop (mkF m 18 #[.val (.double p0), .second, .val (.ref p1), .val (.long p2), .second, .val (.ref b2), .val (.int (3 : Int32))] [(.int (3 : Int32)), (.int (3 : Int32))])) _
    refine XS.icmpYes X38.here hx rfl (pc0 := 18) (pc' := 52) rfl (hb hby d5_18) rfl (flt (by decide)).2.1 (by decide) (by decide) ?_
    refine XS.aload X38.here hx rfl (hb hby d5_52) rfl rfl ?_
    exact Steps.refl _
  subst hA₀
  obtain ⟨fs, hr, hrun, hended, hW, hsame⟩ := X38.leave (v := some (.ref b2)) (fun h => by rw [Bd.returns] at h; cases h)
  refine ⟨_, _, s40.trans ?_, hrun, hended, _, _, rfl, ?_, ⟨_, rfl⟩, hW, hsame.mono (by decide) (by decide)⟩
  · show Steps p.tables e below (T38.setTop (mkF m 54 #[.val (.double p0), .second, .val (.ref p1), .val (.long p2), .second, .val (.ref b2), .val (.int (3 : Int32))] [(.ref b2)])) _
    jvm_step X38.here [X38.here.top, hx, (hb hby d5_54), X38.method', Bd.returns, Value.isRef, FieldType.isReference]
    first | (intro acts; rw [hr _ acts rfl rfl rfl]) | rw [hr _ _ rfl rfl rfl]
    exact Steps.refl _
  · show Qpri_3 Z p0 p1 p2 ed ka x0 x1 x2 c0 c1 c2 q0x q1x q2x h0 n0 _ T38.heap _
    rw [e38]
    exact ⟨b2, k2, rfl, N38, K38, V38, sz_b2⟩
theorem pd_rm0_0 : parseMethodDescriptor "()V" = some ⟨[], none⟩ := by decide +kernel
theorem pd_rm0_1 : parseMethodDescriptor "(DLjava/util/List;J)[D" = some ⟨[.double, (.object "java/util/List"), .long], some (.array .double)⟩ := by decide +kernel
theorem pd_rm0_2 : parseMethodDescriptor "(Ljava/lang/String;JZ)V" = some ⟨[(.object "java/lang/String"), .long, .boolean], none⟩ := by decide +kernel
theorem pd_rm0_3 : parseMethodDescriptor "(Ljava/lang/Object;)Z" = some ⟨[(.object "java/lang/Object")], some .boolean⟩ := by decide +kernel
theorem pd_rm0_4 : parseMethodDescriptor "(DJJJ)Z" = some ⟨[.double, .long, .long, .long], some .boolean⟩ := by decide +kernel
theorem ef_rm0 (m : MethodId) (p0 : Int32) (p1 : Int32) (p2 : Int64) (p3 : Int64) (p4 : Int64) (p5 : Int32) : entryFrame m #[(.int p0), (.int p1), (.long p2), (.long p3), (.long p4), (.int p5)] maxLocals = mkF m 0 #[.val (.int p0), .val (.int p1), .val (.long p2), .second, .val (.long p3), .second, .val (.long p4), .second, .val (.int p5), .unset, .unset, .unset, .unset, .unset, .unset, .unset, .unset, .unset, .unset, .unset, .unset, .unset, .unset, .unset, .unset, .unset] [] := by first | (simp [entryFrame, mkF, argsToLocals, Value.category, maxLocals]; done) | rfl
def Q0 (Z : State) (p0 : Int32) (p1 : Int32) (p2 : Int64) (p3 : Int64) (p4 : Int64) (p5 : Int32) (dc : Addr) (kd : ClassId) (h0 : Heap) (n0 : Nat) (v : Option Value) (h : Heap) (L : List Loc) : Prop := v = some (.int (1 : Int32)) ∧ Fr n0 L
set_option maxRecDepth 65536 in
set_option maxHeartbeats 40000000 in
theorem rm0 (l : Launch) (Z : State) (a0 : Array Value) (hw : ∀ d ∈ tables_1, d.before a0 Z = true) (ws : List Jvm.Cond) (p0 : Int32) (p1 : Int32) (p2 : Int64) (p3 : Int64) (p4 : Int64) (p5 : Int32) (dc : Addr) (kd : ClassId) (h0 : Heap) (n0 : Nat) (O0 : Old Z n0 h0) (F0_ : Sta Z Z.heap "java/util/ArrayList" "DEFAULTCAPACITY_EMPTY_ELEMENTDATA" "[Ljava/lang/Object;" (.ref dc)) (F1_ : Arv Z Z.heap dc kd (.object "java/lang/Object") (0 : Int32) [] .null) :
    MetFree l x (head1 (Jvm.Cond.code x code maxLocals ret :: ws) room_1) (fun a U => a = #[(.int p0), (.int p1), (.long p2), (.long p3), (.long p4), (.int p5)] ∧ Z.Warmed39 U.vm ∧ U.heap = h0) (fun _ _ _ _ _ => True) (fun _ U o U' => ∃ v L, o = .returned v ∧ Q0 Z p0 p1 p2 p3 p4 p5 dc kd h0 n0 v U'.heap L ∧ ReturnedEndW U o U' L room_1.cells room_1.slots) := by
  refine MetFree.of_bodySF (plainFor_of_name pn_19) hisR ?_
  intro p e s m args below meth c s₁ Bd hml0 hP hK
  obtain ⟨rfl, hZ, hh⟩ := hP
  have hx := Bd.exec
  have hby := Bd.bytes
  have hml : c.maxLocals = 26 := hml0
  have hown : s.vm.findClass "com/example/libprox/libprox/KldPriorsPinLaw" = some m.cls := findClass_of_methodNamed Bd.named
  have X0 : Stand p l e room_1 (s.setVm s.vm) m #[(.int p0), (.int p1), (.long p2), (.long p3), (.long p4), (.int p5)] below meth c s₁ [] 0 0 := Stand.of_body Bd
  have e0 : s₁.heap = h0 := by rw [← hh, Bd.state]; rfl
  have N0 := Fr.nil n0
  have hS0 : s.Since s.vm s.heap.size := (State.WarmedH.refl s).since _
  have hk0 : s.heap.size ≤ h0.size := Nat.le_of_eq (congrArg Array.size hh)
  have s0 : Steps p.tables e below (s₁.setTop (entryFrame m #[(.int p0), (.int p1), (.long p2), (.long p3), (.long p4), (.int p5)] maxLocals)) (s₁.setTop (mkF m 0 #[.val (.int p0), .val (.int p1), .val (.long p2), .second, .val (.long p3), .second, .val (.long p4), .second, .val (.int p5), .unset, .unset, .unset, .unset, .unset, .unset, .unset, .unset, .unset, .unset, .unset, .unset, .unset, .unset, .unset, .unset, .unset] [])) := castTop (ef_rm0 m p0 p1 p2 p3 p4 p5) (Steps.refl _)
  obtain ⟨A₀, hA₀⟩ : ∃ z, z = (s₁.setTop (entryFrame m #[(.int p0), (.int p1), (.long p2), (.long p3), (.long p4), (.int p5)] maxLocals)) := ⟨_, rfl⟩
  rw [← hA₀] at s0
  obtain ⟨kk, hkk, hLL⟩ := own_lenp p5
  have s1 : Steps p.tables e below A₀ (s₁.setTop (mkF m 5 #[.val (.int p0), .val (.int p1), .val (.long p2), .second, .val (.long p3), .second, .val (.long p4), .second, .val (.int p5), .val (.int (p0 &&& (3 : Int32))), .unset, .unset, .unset, .unset, .unset, .unset, .unset, .unset, .unset, .unset, .unset, .unset, .unset, .unset, .unset, .unset] [])) := by
    refine s0.trans ?_
    refine XS.iloadN X0.here hx rfl (hb hby at_0) rfl ?_
    refine XS.iconst X0.here hx rfl (hb hby at_1) ?_
    refine XS.iand X0.here hx rfl (hb hby at_2) rfl ?_
    refine XS.istore X0.here hx rfl (hb hby at_3) rfl (l' := #[.val (.int p0), .val (.int p1), .val (.long p2), .second, .val (.long p3), .second, .val (.long p4), .second, .val (.int p5), .val (.int (p0 &&& (3 : Int32))), .unset, .unset, .unset, .unset, .unset, .unset, .unset, .unset, .unset, .unset, .unset, .unset, .unset, .unset, .unset, .unset]) rfl ?_
    exact Steps.refl _
  rcases own_and3 p0 with hk2 | hk2 | hk2 | hk2
  · have s3 := s1
    rw [hk2] at s3
    have s4 : Steps p.tables e below A₀ (s₁.setTop (mkF m 10 #[.val (.int p0), .val (.int p1), .val (.long p2), .second, .val (.long p3), .second, .val (.long p4), .second, .val (.int p5), .val (.int (0 : Int32)), .unset, .unset, .unset, .unset, .unset, .unset, .unset, .unset, .unset, .unset, .unset, .unset, .unset, .unset, .unset, .unset] [(.int ((p0 >>> ((2 : Int32) &&& 31)) &&& (1 : Int32)))])) := by
      refine s3.trans ?_
      refine XS.iloadN X0.here hx rfl (hb hby at_5) rfl ?_
      refine XS.iconst X0.here hx rfl (hb hby at_6) ?_
      refine XS.ishr X0.here hx rfl (hb hby at_7) rfl ?_
      refine XS.iconst X0.here hx rfl (hb hby at_8) ?_
      refine XS.iand X0.here hx rfl (hb hby at_9) rfl ?_
      exact Steps.refl _
    have s6 : Steps p.tables e below A₀ (s₁.setTop (mkF m 18 #[.val (.int p0), .val (.int p1), .val (.long p2), .second, .val (.long p3), .second, .val (.long p4), .second, .val (.int p5), .val (.int (0 : Int32)), .unset, .unset, .unset, .unset, .unset, .unset, .unset, .unset, .unset, .unset, .unset, .unset, .unset, .unset, .unset, .unset] [(.int (if ((p0 >>> ((2 : Int32) &&& 31)) &&& (1 : Int32)) = (0 : Int32) then (0 : Int32) else (1 : Int32)))])) := by
      by_cases hm5 : ((p0 >>> ((2 : Int32) &&& 31)) &&& (1 : Int32)) = (0 : Int32)
      · simp only [if_pos hm5]
        refine s4.trans ?_
        refine XS.ifYes X0.here hx rfl (pc0 := 10) (pc' := 17) rfl (hb hby at_10) rfl ((if0 _ _).trans (teq hm5).1) (by decide) (by decide) ?_
        refine XS.iconst X0.here hx rfl (hb hby at_17) ?_
        exact Steps.refl _
      · simp only [if_neg hm5]
        refine s4.trans ?_
        refine XS.ifNo X0.here hx rfl (hb hby at_10) rfl ((if0 _ _).trans (feq hm5).1) ?_
        refine XS.iconst X0.here hx rfl (hb hby at_13) ?_
        refine XS.goto X0.here hx rfl (pc0 := 14) (pc' := 18) rfl (hb hby at_14) (by decide) (by decide) ?_
        exact Steps.refl _
    obtain ⟨z0, hz0⟩ : ∃ z, z = (if ((p0 >>> ((2 : Int32) &&& 31)) &&& (1 : Int32)) = (0 : Int32) then (0 : Int32) else (1 : Int32)) := ⟨_, rfl⟩
    rw [← hz0] at s6
    have s7 : Steps p.tables e below A₀ (s₁.setTop (mkF m 25 #[.val (.int p0), .val (.int p1), .val (.long p2), .second, .val (.long p3), .second, .val (.long p4), .second, .val (.int p5), .val (.int (0 : Int32)), .val (.int z0), .unset, .unset, .unset, .unset, .unset, .unset, .unset, .unset, .unset, .unset, .unset, .unset, .unset, .unset, .unset] [(.int ((p0 >>> ((3 : Int32) &&& 31)) &&& (1 : Int32)))])) := by
      refine s6.trans ?_
      refine XS.istore X0.here hx rfl (hb hby at_18) rfl (l' := #[.val (.int p0), .val (.int p1), .val (.long p2), .second, .val (.long p3), .second, .val (.long p4), .second, .val (.int p5), .val (.int (0 : Int32)), .val (.int z0), .unset, .unset, .unset, .unset, .unset, .unset, .unset, .unset, .unset, .unset, .unset, .unset, .unset, .unset, .unset]) rfl ?_
      refine XS.iloadN X0.here hx rfl (hb hby at_20) rfl ?_
      refine XS.iconst X0.here hx rfl (hb hby at_21) ?_
      refine XS.ishr X0.here hx rfl (hb hby at_22) rfl ?_
      refine XS.iconst X0.here hx rfl (hb hby at_23) ?_
      refine XS.iand X0.here hx rfl (hb hby at_24) rfl ?_
      exact Steps.refl _
    have s9 : Steps p.tables e below A₀ (s₁.setTop (mkF m 33 #[.val (.int p0), .val (.int p1), .val (.long p2), .second, .val (.long p3), .second, .val (.long p4), .second, .val (.int p5), .val (.int (0 : Int32)), .val (.int z0), .unset, .unset, .unset, .unset, .unset, .unset, .unset, .unset, .unset, .unset, .unset, .unset, .unset, .unset, .unset] [(.int (if ((p0 >>> ((3 : Int32) &&& 31)) &&& (1 : Int32)) = (0 : Int32) then (0 : Int32) else (1 : Int32)))])) := by
      by_cases hm8 : ((p0 >>> ((3 : Int32) &&& 31)) &&& (1 : Int32)) = (0 : Int32)
      · simp only [if_pos hm8]
        refine s7.trans ?_
        refine XS.ifYes X0.here hx rfl (pc0 := 25) (pc' := 32) rfl (hb hby at_25) rfl ((if0 _ _).trans (teq hm8).1) (by decide) (by decide) ?_
        refine XS.iconst X0.here hx rfl (hb hby at_32) ?_
        exact Steps.refl _
      · simp only [if_neg hm8]
        refine s7.trans ?_
        refine XS.ifNo X0.here hx rfl (hb hby at_25) rfl ((if0 _ _).trans (feq hm8).1) ?_
        refine XS.iconst X0.here hx rfl (hb hby at_28) ?_
        refine XS.goto X0.here hx rfl (pc0 := 29) (pc' := 33) rfl (hb hby at_29) (by decide) (by decide) ?_
        exact Steps.refl _
    obtain ⟨z1, hz1⟩ : ∃ z, z = (if ((p0 >>> ((3 : Int32) &&& 31)) &&& (1 : Int32)) = (0 : Int32) then (0 : Int32) else (1 : Int32)) := ⟨_, rfl⟩
    rw [← hz1] at s9
    have s10 : Steps p.tables e below A₀ (s₁.setTop (mkF m 40 #[.val (.int p0), .val (.int p1), .val (.long p2), .second, .val (.long p3), .second, .val (.long p4), .second, .val (.int p5), .val (.int (0 : Int32)), .val (.int z0), .val (.int z1), .unset, .unset, .unset, .unset, .unset, .unset, .unset, .unset, .unset, .unset, .unset, .unset, .unset, .unset] [(.int ((p0 >>> ((4 : Int32) &&& 31)) &&& (1 : Int32)))])) := by
      refine s9.trans ?_
      refine XS.istore X0.here hx rfl (hb hby at_33) rfl (l' := #[.val (.int p0), .val (.int p1), .val (.long p2), .second, .val (.long p3), .second, .val (.long p4), .second, .val (.int p5), .val (.int (0 : Int32)), .val (.int z0), .val (.int z1), .unset, .unset, .unset, .unset, .unset, .unset, .unset, .unset, .unset, .unset, .unset, .unset, .unset, .unset]) rfl ?_
      refine XS.iloadN X0.here hx rfl (hb hby at_35) rfl ?_
      refine XS.iconst X0.here hx rfl (hb hby at_36) ?_
      refine XS.ishr X0.here hx rfl (hb hby at_37) rfl ?_
      refine XS.iconst X0.here hx rfl (hb hby at_38) ?_
      refine XS.iand X0.here hx rfl (hb hby at_39) rfl ?_
      exact Steps.refl _
    have s12 : Steps p.tables e below A₀ (s₁.setTop (mkF m 48 #[.val (.int p0), .val (.int p1), .val (.long p2), .second, .val (.long p3), .second, .val (.long p4), .second, .val (.int p5), .val (.int (0 : Int32)), .val (.int z0), .val (.int z1), .unset, .unset, .unset, .unset, .unset, .unset, .unset, .unset, .unset, .unset, .unset, .unset, .unset, .unset] [(.int (if ((p0 >>> ((4 : Int32) &&& 31)) &&& (1 : Int32)) = (0 : Int32) then (0 : Int32) else (1 : Int32)))])) := by
      by_cases hm11 : ((p0 >>> ((4 : Int32) &&& 31)) &&& (1 : Int32)) = (0 : Int32)
      · simp only [if_pos hm11]
        refine s10.trans ?_
        refine XS.ifYes X0.here hx rfl (pc0 := 40) (pc' := 47) rfl (hb hby at_40) rfl ((if0 _ _).trans (teq hm11).1) (by decide) (by decide) ?_
        refine XS.iconst X0.here hx rfl (hb hby at_47) ?_
        exact Steps.refl _
      · simp only [if_neg hm11]
        refine s10.trans ?_
        refine XS.ifNo X0.here hx rfl (hb hby at_40) rfl ((if0 _ _).trans (feq hm11).1) ?_
        refine XS.iconst X0.here hx rfl (hb hby at_43) ?_
        refine XS.goto X0.here hx rfl (pc0 := 44) (pc' := 48) rfl (hb hby at_44) (by decide) (by decide) ?_
        exact Steps.refl _
    obtain ⟨z2, hz2⟩ : ∃ z, z = (if ((p0 >>> ((4 : Int32) &&& 31)) &&& (1 : Int32)) = (0 : Int32) then (0 : Int32) else (1 : Int32)) := ⟨_, rfl⟩
    rw [← hz2] at s12
    obtain ⟨T13, h13, X13, e13, E13, A13, D13, -, st13⟩ := newO X0 hx hZ hown (hw _ (List.mem_of_getElem? (i := 1) rfl)) (hw _ (List.mem_of_getElem? (i := 2) rfl)) (hw _ (List.mem_of_getElem? (i := 3) rfl)) e0 (g := (mkF m 101 #[.val (.int p0), .val (.int p1), .val (.long p2), .second, .val (.long p3), .second, .val (.long p4), .second, .val (.int p5), .val (.int (0 : Int32)), .val (.int z0), .val (.int z1), .val (.int z2), .val (.long (((p1 &&& (1023 : Int32)) + (1 : Int32)).toInt64)), .second, .val (.long ((p2 &&& (1099511627775 : Int64)) + (1 : Int64))), .second, .val (.long ((p3 &&& (1099511627775 : Int64)) + (1 : Int64))), .second, .val (.long ((p4 &&& (1099511627775 : Int64)) + (1 : Int64))), .second, .val (.long ((1 : Int64) <<< (((p5 &&& (63 : Int32)) % (63 : Int32)) &&& 0x3f).toInt64)), .second, .unset, .unset, .unset] [])) rfl (hb hby at_101) (by decide) (by decide)
    obtain ⟨b13, g13⟩ : ∃ z, z = h0.size := ⟨_, rfl⟩
    rw [← g13] at A13 D13 st13
    have g_b13 : n0 ≤ b13 := Nat.le_trans (Nat.le_of_eq O0.1.symm) (Nat.le_trans O0.2.1 (Nat.le_of_eq g13.symm))
    have O13 := O0.ext E13
    have hkk13 := Nat.le_trans hk0 E13.1
    have F13_modCount : Fld Z h13 b13 "java/util/AbstractList" "modCount" "I" (.int (0 : Int32)) := D13 (Or.inl (hw _ (List.mem_of_getElem? (i := 23) rfl))) (ty := .int) (by decide)
    have F13_elementData : Fld Z h13 b13 "java/util/ArrayList" "elementData" "[Ljava/lang/Object;" .null := D13 (Or.inl (hw _ (List.mem_of_getElem? (i := 26) rfl))) (ty := (.array (.object "java/lang/Object"))) (by decide)
    have F13_size : Fld Z h13 b13 "java/util/ArrayList" "size" "I" (.int (0 : Int32)) := D13 (Or.inl (hw _ (List.mem_of_getElem? (i := 41) rfl))) (ty := .int) (by decide)
    have s14 : Steps p.tables e below A₀ (T13.setTop (mkF m 105 #[.val (.int p0), .val (.int p1), .val (.long p2), .second, .val (.long p3), .second, .val (.long p4), .second, .val (.int p5), .val (.int (0 : Int32)), .val (.int z0), .val (.int z1), .val (.int z2), .val (.long (((p1 &&& (1023 : Int32)) + (1 : Int32)).toInt64)), .second, .val (.long ((p2 &&& (1099511627775 : Int64)) + (1 : Int64))), .second, .val (.long ((p3 &&& (1099511627775 : Int64)) + (1 : Int64))), .second, .val (.long ((p4 &&& (1099511627775 : Int64)) + (1 : Int64))), .second, .val (.long ((1 : Int64) <<< (((p5 &&& (63 : Int32)) % (63 : Int32)) &&& 0x3f).toInt64)), .second, .unset, .unset, .unset] [(.ref b13), (.ref b13)])) := by
      refine s12.trans ?_
      refine XS.istore X0.here hx rfl (hb hby at_48) rfl (l' := #[.val (.int p0), .val (.int p1), .val (.long p2), .second, .val (.long p3), .second, .val (.long p4), .second, .val (.int p5), .val (.int (0 : Int32)), .val (.int z0), .val (.int z1), .val (.int z2), .unset, .unset, .unset, .unset, .unset, .unset, .unset, .unset, .unset, .unset, .unset, .unset, .unset]) rfl ?_
      refine XS.iloadN X0.here hx rfl (hb hby at_50) rfl ?_
      refine XS.sipush X0.here hx rfl (hb hby at_51) ?_
      refine XS.iand X0.here hx rfl (hb hby at_54) rfl ?_
      refine XS.iconst X0.here hx rfl (hb hby at_55) ?_
      refine XS.iadd X0.here hx rfl (hb hby at_56) rfl ?_
      refine XS.i2l X0.here hx rfl (hb hby at_57) rfl ?_
      refine XS.lstore X0.here hx rfl (hb hby at_58) rfl (l' := #[.val (.int p0), .val (.int p1), .val (.long p2), .second, .val (.long p3), .second, .val (.long p4), .second, .val (.int p5), .val (.int (0 : Int32)), .val (.int z0), .val (.int z1), .val (.int z2), .val (.long (((p1 &&& (1023 : Int32)) + (1 : Int32)).toInt64)), .second, .unset, .unset, .unset, .unset, .unset, .unset, .unset, .unset, .unset, .unset, .unset]) rfl ?_
      show Steps p.tables e below (s₁.setTop (mkF m 60 #[.val (.int p0), .val (.int p1), .val (.long p2), .second, .val (.long p3), .second, .val (.long p4), .second, .val (.int p5), .val (.int (0 : Int32)), .val (.int z0), .val (.int z1), .val (.int z2), .val (.long (((p1 &&& (1023 : Int32)) + (1 : Int32)).toInt64)), .second, .unset, .unset, .unset, .unset, .unset, .unset, .unset, .unset, .unset, .unset, .unset] [])) _
      refine XS.lloadN X0.here hx rfl (hb hby at_60) rfl ?_
      refine X0.ldc2Long hx hown (mvT hZ (hw _ (List.mem_of_getElem? (i := 0) rfl))) (g := (mkF m 61 #[.val (.int p0), .val (.int p1), .val (.long p2), .second, .val (.long p3), .second, .val (.long p4), .second, .val (.int p5), .val (.int (0 : Int32)), .val (.int z0), .val (.int z1), .val (.int z2), .val (.long (((p1 &&& (1023 : Int32)) + (1 : Int32)).toInt64)), .second, .unset, .unset, .unset, .unset, .unset, .unset, .unset, .unset, .unset, .unset, .unset] [(.long p2)])) rfl (hb hby at_61) _ ?_
      refine XS.land X0.here hx rfl (hb hby at_64) rfl ?_
      refine XS.lconst X0.here hx rfl (hb hby at_65) ?_
      refine XS.ladd X0.here hx rfl (hb hby at_66) rfl ?_
      refine XS.lstore X0.here hx rfl (hb hby at_67) rfl (l' := #[.val (.int p0), .val (.int p1), .val (.long p2), .second, .val (.long p3), .second, .val (.long p4), .second, .val (.int p5), .val (.int (0 : Int32)), .val (.int z0), .val (.int z1), .val (.int z2), .val (.long (((p1 &&& (1023 : Int32)) + (1 : Int32)).toInt64)), .second, .val (.long ((p2 &&& (1099511627775 : Int64)) + (1 : Int64))), .second, .unset, .unset, .unset, .unset, .unset, .unset, .unset, .unset, .unset]) rfl ?_
      refine XS.lload X0.here hx rfl (hb hby at_69) rfl ?_
      refine X0.ldc2Long hx hown (mvT hZ (hw _ (List.mem_of_getElem? (i := 0) rfl))) (g := (mkF m 71 #[.val (.int p0), .val (.int p1), .val (.long p2), .second, .val (.long p3), .second, .val (.long p4), .second, .val (.int p5), .val (.int (0 : Int32)), .val (.int z0), .val (.int z1), .val (.int z2), .val (.long (((p1 &&& (1023 : Int32)) + (1 : Int32)).toInt64)), .second, .val (.long ((p2 &&& (1099511627775 : Int64)) + (1 : Int64))), .second, .unset, .unset, .unset, .unset, .unset, .unset, .unset, .unset, .unset] [(.long p3)])) rfl (hb hby at_71) _ ?_
      refine XS.land X0.here hx rfl (hb hby at_74) rfl ?_
      refine XS.lconst X0.here hx rfl (hb hby at_75) ?_
      show Steps p.tables e below (s₁.setTop (mkF m 76 #[.val (.int p0), .val (.int p1), .val (.long p2), .second, .val (.long p3), .second, .val (.long p4), .second, .val (.int p5), .val (.int (0 : Int32)), .val (.int z0), .val (.int z1), .val (.int z2), .val (.long (((p1 &&& (1023 : Int32)) + (1 : Int32)).toInt64)), .second, .val (.long ((p2 &&& (1099511627775 : Int64)) + (1 : Int64))), .second, .unset, .unset, .unset, .unset, .unset, .unset, .unset, .unset, .unset] [(.long (1 : Int64)), (.long (p3 &&& (1099511627775 : Int64)))])) _
      refine XS.ladd X0.here hx rfl (hb hby at_76) rfl ?_
      refine XS.lstore X0.here hx rfl (hb hby at_77) rfl (l' := #[.val (.int p0), .val (.int p1), .val (.long p2), .second, .val (.long p3), .second, .val (.long p4), .second, .val (.int p5), .val (.int (0 : Int32)), .val (.int z0), .val (.int z1), .val (.int z2), .val (.long (((p1 &&& (1023 : Int32)) + (1 : Int32)).toInt64)), .second, .val (.long ((p2 &&& (1099511627775 : Int64)) + (1 : Int64))), .second, .val (.long ((p3 &&& (1099511627775 : Int64)) + (1 : Int64))), .second, .unset, .unset, .unset, .unset, .unset, .unset, .unset]) rfl ?_
      refine XS.lload X0.here hx rfl (hb hby at_79) rfl ?_
      refine X0.ldc2Long hx hown (mvT hZ (hw _ (List.mem_of_getElem? (i := 0) rfl))) (g := (mkF m 81 #[.val (.int p0), .val (.int p1), .val (.long p2), .second, .val (.long p3), .second, .val (.long p4), .second, .val (.int p5), .val (.int (0 : Int32)), .val (.int z0), .val (.int z1), .val (.int z2), .val (.long (((p1 &&& (1023 : Int32)) + (1 : Int32)).toInt64)), .second, .val (.long ((p2 &&& (1099511627775 : Int64)) + (1 : Int64))), .second, .val (.long ((p3 &&& (1099511627775 : Int64)) + (1 : Int64))), .second, .unset, .unset, .unset, .unset, .unset, .unset, .unset] [(.long p4)])) rfl (hb hby at_81) _ ?_
      refine XS.land X0.here hx rfl (hb hby at_84) rfl ?_
      refine XS.lconst X0.here hx rfl (hb hby at_85) ?_
      refine XS.ladd X0.here hx rfl (hb hby at_86) rfl ?_
      refine XS.lstore X0.here hx rfl (hb hby at_87) rfl (l' := #[.val (.int p0), .val (.int p1), .val (.long p2), .second, .val (.long p3), .second, .val (.long p4), .second, .val (.int p5), .val (.int (0 : Int32)), .val (.int z0), .val (.int z1), .val (.int z2), .val (.long (((p1 &&& (1023 : Int32)) + (1 : Int32)).toInt64)), .second, .val (.long ((p2 &&& (1099511627775 : Int64)) + (1 : Int64))), .second, .val (.long ((p3 &&& (1099511627775 : Int64)) + (1 : Int64))), .second, .val (.long ((p4 &&& (1099511627775 : Int64)) + (1 : Int64))), .second, .unset, .unset, .unset, .unset, .unset]) rfl ?_
      refine XS.lconst X0.here hx rfl (hb hby at_89) ?_
      refine XS.iload X0.here hx rfl (hb hby at_90) rfl ?_
      show Steps p.tables e below (s₁.setTop (mkF m 92 #[.val (.int p0), .val (.int p1), .val (.long p2), .second, .val (.long p3), .second, .val (.long p4), .second, .val (.int p5), .val (.int (0 : Int32)), .val (.int z0), .val (.int z1), .val (.int z2), .val (.long (((p1 &&& (1023 : Int32)) + (1 : Int32)).toInt64)), .second, .val (.long ((p2 &&& (1099511627775 : Int64)) + (1 : Int64))), .second, .val (.long ((p3 &&& (1099511627775 : Int64)) + (1 : Int64))), .second, .val (.long ((p4 &&& (1099511627775 : Int64)) + (1 : Int64))), .second, .unset, .unset, .unset, .unset, .unset] [(.int p5), (.long (1 : Int64))])) _
      refine XS.bipush X0.here hx rfl (hb hby at_92) ?_
      refine XS.iand X0.here hx rfl (hb hby at_94) rfl ?_
      refine XS.bipush X0.here hx rfl (hb hby at_95) ?_
      refine Jvm.RoadKit.iremM (g := (mkF m 97 #[.val (.int p0), .val (.int p1), .val (.long p2), .second, .val (.long p3), .second, .val (.long p4), .second, .val (.int p5), .val (.int (0 : Int32)), .val (.int z0), .val (.int z1), .val (.int z2), .val (.long (((p1 &&& (1023 : Int32)) + (1 : Int32)).toInt64)), .second, .val (.long ((p2 &&& (1099511627775 : Int64)) + (1 : Int64))), .second, .val (.long ((p3 &&& (1099511627775 : Int64)) + (1 : Int64))), .second, .val (.long ((p4 &&& (1099511627775 : Int64)) + (1 : Int64))), .second, .unset, .unset, .unset, .unset, .unset] [(.int (63 : Int32)), (.int (p5 &&& (63 : Int32))), (.long (1 : Int64))])) X0 hx rfl (hb hby at_97) rfl (by decide) ?_
      refine XS.lshl X0.here hx rfl (hb hby at_98) rfl ?_
      refine XS.lstore X0.here hx rfl (hb hby at_99) rfl (l' := #[.val (.int p0), .val (.int p1), .val (.long p2), .second, .val (.long p3), .second, .val (.long p4), .second, .val (.int p5), .val (.int (0 : Int32)), .val (.int z0), .val (.int z1), .val (.int z2), .val (.long (((p1 &&& (1023 : Int32)) + (1 : Int32)).toInt64)), .second, .val (.long ((p2 &&& (1099511627775 : Int64)) + (1 : Int64))), .second, .val (.long ((p3 &&& (1099511627775 : Int64)) + (1 : Int64))), .second, .val (.long ((p4 &&& (1099511627775 : Int64)) + (1 : Int64))), .second, .val (.long ((1 : Int64) <<< (((p5 &&& (63 : Int32)) % (63 : Int32)) &&& 0x3f).toInt64)), .second, .unset, .unset, .unset]) rfl ?_
      refine st13 _ ?_
      refine XS.dup X13.here hx rfl (hb hby at_104) rfl rfl ?_
      exact Steps.refl _
    obtain ⟨_, _, ⟨T15, L15, k15, n15⟩, -, X15, ⟨Lc15, hQ15, l15, y15, z15⟩, st15⟩ := X13.specialBack hx (y := (⟨"java/util/ArrayList", "<init>", "()V"⟩ : MethodName)) rfl hown (mvT hZ (hw _ (List.mem_of_getElem? (i := 4) rfl))) (mvT hZ (hw _ (List.mem_of_getElem? (i := 5) rfl))) (mvT hZ (hw _ (List.mem_of_getElem? (i := 6) rfl))) (by decide) (backOf (W := 1) (rmalin l Z a0 hw [] b13 dc h13 n0 O13 A13 F13_elementData F13_size F13_modCount g_b13 F0_) hZ (hw _ (List.mem_of_getElem? (i := 6) rfl)) (hw _ (List.mem_of_getElem? (i := 3) rfl)) (by decide) (by decide)) (g := (mkF m 105 #[.val (.int p0), .val (.int p1), .val (.long p2), .second, .val (.long p3), .second, .val (.long p4), .second, .val (.int p5), .val (.int (0 : Int32)), .val (.int z0), .val (.int z1), .val (.int z2), .val (.long (((p1 &&& (1023 : Int32)) + (1 : Int32)).toInt64)), .second, .val (.long ((p2 &&& (1099511627775 : Int64)) + (1 : Int64))), .second, .val (.long ((p3 &&& (1099511627775 : Int64)) + (1 : Int64))), .second, .val (.long ((p4 &&& (1099511627775 : Int64)) + (1 : Int64))), .second, .val (.long ((1 : Int64) <<< (((p5 &&& (63 : Int32)) % (63 : Int32)) &&& 0x3f).toInt64)), .second, .unset, .unset, .unset] [(.ref b13), (.ref b13)])) rfl (by rw [hml]; rfl) (Steps.refl _) (a := b13) (argsL := []) (rest := [(.ref b13)]) (lenOf pd_rm0_0 rfl) rfl (by show 2 * 0 + _ ≤ _; exact Nat.le_of_eq rfl) (hb hby at_105) (fun _ _ => ⟨rfl, e13, (by decide : 1 + 0 ≤ _), (by decide : 3 + 0 ≤ _)⟩)
    dsimp only [Pt.U, Pt.locs, Pt.cells, Pt.slots] at X15 l15 y15 z15 st15 hQ15
    subst l15 y15 z15
    obtain ⟨rfl, Nq15, Kc15, f15_0, f15_1, f15_2, f15_3⟩ := hQ15
    have N15 := Fr.app N0 Nq15
    have O15 := O13.keep Kc15 (allS g_b13 all0)
    have hkk15 := Nat.le_trans hkk13 Kc15.1
    have s16 : Steps p.tables e below A₀ (T15.setTop (mkF m 197 #[.val (.int p0), .val (.int p1), .val (.long p2), .second, .val (.long p3), .second, .val (.long p4), .second, .val (.int p5), .val (.int (0 : Int32)), .val (.int z0), .val (.int z1), .val (.int z2), .val (.long (((p1 &&& (1023 : Int32)) + (1 : Int32)).toInt64)), .second, .val (.long ((p2 &&& (1099511627775 : Int64)) + (1 : Int64))), .second, .val (.long ((p3 &&& (1099511627775 : Int64)) + (1 : Int64))), .second, .val (.long ((p4 &&& (1099511627775 : Int64)) + (1 : Int64))), .second, .val (.long ((1 : Int64) <<< (((p5 &&& (63 : Int32)) % (63 : Int32)) &&& 0x3f).toInt64)), .second, .val (.ref b13), .unset, .unset] [(.long ((1 : Int64) <<< (((p5 &&& (63 : Int32)) % (63 : Int32)) &&& 0x3f).toInt64)), (.ref b13), (.double (FP.l2d (((p1 &&& (1023 : Int32)) + (1 : Int32)).toInt64)))])) := by
      refine s14.trans ?_
      show Steps p.tables e below (T13.setTop (mkF m 105 #[.val (.int p0), .val (.int p1), .val (.long p2), .second, .val (.long p3), .second, .val (.long p4), .second, .val (.int p5), .val (.int (0 : Int32)), .val (.int z0), .val (.int z1), .val (.int z2), .val (.long (((p1 &&& (1023 : Int32)) + (1 : Int32)).toInt64)), .second, .val (.long ((p2 &&& (1099511627775 : Int64)) + (1 : Int64))), .second, .val (.long ((p3 &&& (1099511627775 : Int64)) + (1 : Int64))), .second, .val (.long ((p4 &&& (1099511627775 : Int64)) + (1 : Int64))), .second, .val (.long ((1 : Int64) <<< (((p5 &&& (63 : Int32)) % (63 : Int32)) &&& 0x3f).toInt64)), .second, .unset, .unset, .unset] [(.ref b13), (.ref b13)])) _
      refine st15.trans ?_
      refine XS.astore X15.here hx rfl (hb hby at_108) rfl rfl (l' := #[.val (.int p0), .val (.int p1), .val (.long p2), .second, .val (.long p3), .second, .val (.long p4), .second, .val (.int p5), .val (.int (0 : Int32)), .val (.int z0), .val (.int z1), .val (.int z2), .val (.long (((p1 &&& (1023 : Int32)) + (1 : Int32)).toInt64)), .second, .val (.long ((p2 &&& (1099511627775 : Int64)) + (1 : Int64))), .second, .val (.long ((p3 &&& (1099511627775 : Int64)) + (1 : Int64))), .second, .val (.long ((p4 &&& (1099511627775 : Int64)) + (1 : Int64))), .second, .val (.long ((1 : Int64) <<< (((p5 &&& (63 : Int32)) % (63 : Int32)) &&& 0x3f).toInt64)), .second, .val (.ref b13), .unset, .unset]) rfl ?_
      refine XS.iload X15.here hx rfl (hb hby at_110) rfl ?_
      refine XS.ifYes X15.here hx rfl (pc0 := 112) (pc' := 136) rfl (hb hby at_112) rfl ((if0 _ _).trans (flt (by decide)).2.2.2) (by decide) (by decide) ?_
      refine XS.iload X15.here hx rfl (hb hby at_136) rfl ?_
      refine XS.iconst X15.here hx rfl (hb hby at_138) ?_
      refine XS.icmpYes X15.here hx rfl (pc0 := 139) (pc' := 163) rfl (hb hby at_139) rfl (flt (by decide)).2.2.2 (by decide) (by decide) ?_
      refine XS.iload X15.here hx rfl (hb hby at_163) rfl ?_
      refine XS.iconst X15.here hx rfl (hb hby at_165) ?_
      refine XS.icmpYes X15.here hx rfl (pc0 := 166) (pc' := 190) rfl (hb hby at_166) rfl (flt (by decide)).2.2.2 (by decide) (by decide) ?_
      show Steps p.tables e below (T15.setTop (mkF m 190 #[.val (.int p0), .val (.int p1), .val (.long p2), .second, .val (.long p3), .second, .val (.long p4), .second, .val (.int p5), .val (.int (0 : Int32)), .val (.int z0), .val (.int z1), .val (.int z2), .val (.long (((p1 &&& (1023 : Int32)) + (1 : Int32)).toInt64)), .second, .val (.long ((p2 &&& (1099511627775 : Int64)) + (1 : Int64))), .second, .val (.long ((p3 &&& (1099511627775 : Int64)) + (1 : Int64))), .second, .val (.long ((p4 &&& (1099511627775 : Int64)) + (1 : Int64))), .second, .val (.long ((1 : Int64) <<< (((p5 &&& (63 : Int32)) % (63 : Int32)) &&& 0x3f).toInt64)), .second, .val (.ref b13), .unset, .unset] [])) _
      refine XS.lload X15.here hx rfl (hb hby at_190) rfl ?_
      refine XS.l2dS X15.here hx rfl (hb hby at_192) rfl rfl ?_
      refine XS.aload X15.here hx rfl (hb hby at_193) rfl rfl ?_
      refine XS.lload X15.here hx rfl (hb hby at_195) rfl ?_
      exact Steps.refl _
    obtain ⟨_, _, ⟨T17, L17, k17, n17⟩, -, X17, ⟨Lc17, hQ17, l17, y17, z17⟩, st17⟩ := Jvm.LawKit.callS X15 hx (y := (⟨"com/example/libprox/libprox/Kld", "priors", "(DLjava/util/List;J)[D"⟩ : MethodName)) hown (mvT hZ (hw _ (List.mem_of_getElem? (i := 27) rfl))) (mvT hZ (hw _ (List.mem_of_getElem? (i := 28) rfl))) (mvT hZ (hw _ (List.mem_of_getElem? (i := 29) rfl))) (mvT hZ (hw _ (List.mem_of_getElem? (i := 30) rfl))) (by decide) (backOf (W := 0) (rmpri_0 l Z a0 hw [] (FP.l2d (((p1 &&& (1023 : Int32)) + (1 : Int32)).toInt64)) b13 ((1 : Int64) <<< (((p5 &&& (63 : Int32)) % (63 : Int32)) &&& 0x3f).toInt64) T15.heap n0 O15 f15_0 f15_2) hZ (hw _ (List.mem_of_getElem? (i := 30) rfl)) (hw _ (List.mem_of_getElem? (i := 29) rfl)) (by decide) (by decide)) (g := (mkF m 197 #[.val (.int p0), .val (.int p1), .val (.long p2), .second, .val (.long p3), .second, .val (.long p4), .second, .val (.int p5), .val (.int (0 : Int32)), .val (.int z0), .val (.int z1), .val (.int z2), .val (.long (((p1 &&& (1023 : Int32)) + (1 : Int32)).toInt64)), .second, .val (.long ((p2 &&& (1099511627775 : Int64)) + (1 : Int64))), .second, .val (.long ((p3 &&& (1099511627775 : Int64)) + (1 : Int64))), .second, .val (.long ((p4 &&& (1099511627775 : Int64)) + (1 : Int64))), .second, .val (.long ((1 : Int64) <<< (((p5 &&& (63 : Int32)) % (63 : Int32)) &&& 0x3f).toInt64)), .second, .val (.ref b13), .unset, .unset] [(.long ((1 : Int64) <<< (((p5 &&& (63 : Int32)) % (63 : Int32)) &&& 0x3f).toInt64)), (.ref b13), (.double (FP.l2d (((p1 &&& (1023 : Int32)) + (1 : Int32)).toInt64)))])) rfl (by rw [hml]; rfl) (argsL := [(.double (FP.l2d (((p1 &&& (1023 : Int32)) + (1 : Int32)).toInt64))), (.ref b13), (.long ((1 : Int64) <<< (((p5 &&& (63 : Int32)) % (63 : Int32)) &&& 0x3f).toInt64))]) (rest := []) (lenOf pd_rm0_1 rfl) rfl (by show 2 * 0 + _ ≤ _; exact Nat.le_of_eq rfl) (hb hby at_197) (fun _ _ => ⟨rfl, (rfl : T15.heap = T15.heap), (by decide : 1 + 1 ≤ _), (by decide : 3 + 0 ≤ _)⟩)
    dsimp only [Pt.U, Pt.locs, Pt.cells, Pt.slots] at X17 l17 y17 z17 st17 hQ17
    subst l17 y17 z17
    obtain ⟨u18, u19, rfl, Nq17, Kc17, f17_0, f17_1⟩ := hQ17
    have N17 := Fr.app N15 Nq17
    have ne_b13_u18 : b13 ≠ u18 := Nat.ne_of_lt (Nat.lt_of_lt_of_le f15_0.lt f17_1)
    have g_u18 : n0 ≤ u18 := Nat.le_trans (Nat.le_of_eq O15.1.symm) (Nat.le_trans O15.2.1 f17_1)
    have O17 := O15.keep Kc17 all0
    have hkk17 := Nat.le_trans hkk15 Kc17.1
    obtain ⟨cla20, Ara20, qa20, Sa20, Za20, Ha20, Ga20⟩ := id f17_0
    have s21 : Steps p.tables e below A₀ (T17.setTop (mkF m 323 #[.val (.int p0), .val (.int p1), .val (.long p2), .second, .val (.long p3), .second, .val (.long p4), .second, .val (.int p5), .val (.int (0 : Int32)), .val (.int z0), .val (.int z1), .val (.int z2), .val (.long (((p1 &&& (1023 : Int32)) + (1 : Int32)).toInt64)), .second, .val (.long ((p2 &&& (1099511627775 : Int64)) + (1 : Int64))), .second, .val (.long ((p3 &&& (1099511627775 : Int64)) + (1 : Int64))), .second, .val (.long ((p4 &&& (1099511627775 : Int64)) + (1 : Int64))), .second, .val (.long ((1 : Int64) <<< (((p5 &&& (63 : Int32)) % (63 : Int32)) &&& 0x3f).toInt64)), .second, .val (.ref b13), .val (.ref u18), .val (.int (1 : Int32))] [(.int (1 : Int32))])) := by
      refine s16.trans ?_
      show Steps p.tables e below (T15.setTop (mkF m 197 #[.val (.int p0), .val (.int p1), .val (.long p2), .second, .val (.long p3), .second, .val (.long p4), .second, .val (.int p5), .val (.int (0 : Int32)), .val (.int z0), .val (.int z1), .val (.int z2), .val (.long (((p1 &&& (1023 : Int32)) + (1 : Int32)).toInt64)), .second, .val (.long ((p2 &&& (1099511627775 : Int64)) + (1 : Int64))), .second, .val (.long ((p3 &&& (1099511627775 : Int64)) + (1 : Int64))), .second, .val (.long ((p4 &&& (1099511627775 : Int64)) + (1 : Int64))), .second, .val (.long ((1 : Int64) <<< (((p5 &&& (63 : Int32)) % (63 : Int32)) &&& 0x3f).toInt64)), .second, .val (.ref b13), .unset, .unset] [(.long ((1 : Int64) <<< (((p5 &&& (63 : Int32)) % (63 : Int32)) &&& 0x3f).toInt64)), (.ref b13), (.double (FP.l2d (((p1 &&& (1023 : Int32)) + (1 : Int32)).toInt64)))])) _
      refine st17 _ ?_
      refine XS.astore X17.here hx rfl (hb hby at_200) rfl rfl (l' := #[.val (.int p0), .val (.int p1), .val (.long p2), .second, .val (.long p3), .second, .val (.long p4), .second, .val (.int p5), .val (.int (0 : Int32)), .val (.int z0), .val (.int z1), .val (.int z2), .val (.long (((p1 &&& (1023 : Int32)) + (1 : Int32)).toInt64)), .second, .val (.long ((p2 &&& (1099511627775 : Int64)) + (1 : Int64))), .second, .val (.long ((p3 &&& (1099511627775 : Int64)) + (1 : Int64))), .second, .val (.long ((p4 &&& (1099511627775 : Int64)) + (1 : Int64))), .second, .val (.long ((1 : Int64) <<< (((p5 &&& (63 : Int32)) % (63 : Int32)) &&& 0x3f).toInt64)), .second, .val (.ref b13), .val (.ref u18), .unset]) rfl ?_
      refine XS.aload X17.here hx rfl (hb hby at_202) rfl rfl ?_
      refine XS.ifnullNo X17.here hx rfl (hb hby at_204) rfl ?_
      refine XS.aload X17.here hx rfl (hb hby at_207) rfl rfl ?_
      refine X17.arraylength hx (by rw [(rfl : T17.heap = T17.heap)]; exact Ara20.1) (State.isArrayOf_alike hZ.alike Ara20.2.1) (g := (mkF m 209 #[.val (.int p0), .val (.int p1), .val (.long p2), .second, .val (.long p3), .second, .val (.long p4), .second, .val (.int p5), .val (.int (0 : Int32)), .val (.int z0), .val (.int z1), .val (.int z2), .val (.long (((p1 &&& (1023 : Int32)) + (1 : Int32)).toInt64)), .second, .val (.long ((p2 &&& (1099511627775 : Int64)) + (1 : Int64))), .second, .val (.long ((p3 &&& (1099511627775 : Int64)) + (1 : Int64))), .second, .val (.long ((p4 &&& (1099511627775 : Int64)) + (1 : Int64))), .second, .val (.long ((1 : Int64) <<< (((p5 &&& (63 : Int32)) % (63 : Int32)) &&& 0x3f).toInt64)), .second, .val (.ref b13), .val (.ref u18), .unset] [(.ref u18)])) rfl rfl (hb hby at_209) _ ?_
      rw [len_of Sa20 Za20]
      show Steps p.tables e below (T17.setTop (mkF m 210 #[.val (.int p0), .val (.int p1), .val (.long p2), .second, .val (.long p3), .second, .val (.long p4), .second, .val (.int p5), .val (.int (0 : Int32)), .val (.int z0), .val (.int z1), .val (.int z2), .val (.long (((p1 &&& (1023 : Int32)) + (1 : Int32)).toInt64)), .second, .val (.long ((p2 &&& (1099511627775 : Int64)) + (1 : Int64))), .second, .val (.long ((p3 &&& (1099511627775 : Int64)) + (1 : Int64))), .second, .val (.long ((p4 &&& (1099511627775 : Int64)) + (1 : Int64))), .second, .val (.long ((1 : Int64) <<< (((p5 &&& (63 : Int32)) % (63 : Int32)) &&& 0x3f).toInt64)), .second, .val (.ref b13), .val (.ref u18), .unset] [(.int (0 : Int32))])) _
      refine XS.iload X17.here hx rfl (hb hby at_210) rfl ?_
      refine XS.icmpYes X17.here hx rfl (pc0 := 212) (pc' := 217) rfl (hb hby at_212) rfl (teq (by decide)).1 (by decide) (by decide) ?_
      refine XS.iconst X17.here hx rfl (hb hby at_217) ?_
      refine XS.istore X17.here hx rfl (hb hby at_218) rfl (l' := #[.val (.int p0), .val (.int p1), .val (.long p2), .second, .val (.long p3), .second, .val (.long p4), .second, .val (.int p5), .val (.int (0 : Int32)), .val (.int z0), .val (.int z1), .val (.int z2), .val (.long (((p1 &&& (1023 : Int32)) + (1 : Int32)).toInt64)), .second, .val (.long ((p2 &&& (1099511627775 : Int64)) + (1 : Int64))), .second, .val (.long ((p3 &&& (1099511627775 : Int64)) + (1 : Int64))), .second, .val (.long ((p4 &&& (1099511627775 : Int64)) + (1 : Int64))), .second, .val (.long ((1 : Int64) <<< (((p5 &&& (63 : Int32)) % (63 : Int32)) &&& 0x3f).toInt64)), .second, .val (.ref b13), .val (.ref u18), .val (.int (1 : Int32))]) rfl ?_
      refine XS.iload X17.here hx rfl (hb hby at_220) rfl ?_
      refine XS.ifYes X17.here hx rfl (pc0 := 222) (pc' := 253) rfl (hb hby at_222) rfl ((if0 _ _).trans (flt (by decide)).2.2.2) (by decide) (by decide) ?_
      refine XS.iload X17.here hx rfl (hb hby at_253) rfl ?_
      refine XS.iconst X17.here hx rfl (hb hby at_255) ?_
      refine XS.icmpYes X17.here hx rfl (pc0 := 256) (pc' := 287) rfl (hb hby at_256) rfl (flt (by decide)).2.2.2 (by decide) (by decide) ?_
      refine XS.iload X17.here hx rfl (hb hby at_287) rfl ?_
      show Steps p.tables e below (T17.setTop (mkF m 289 #[.val (.int p0), .val (.int p1), .val (.long p2), .second, .val (.long p3), .second, .val (.long p4), .second, .val (.int p5), .val (.int (0 : Int32)), .val (.int z0), .val (.int z1), .val (.int z2), .val (.long (((p1 &&& (1023 : Int32)) + (1 : Int32)).toInt64)), .second, .val (.long ((p2 &&& (1099511627775 : Int64)) + (1 : Int64))), .second, .val (.long ((p3 &&& (1099511627775 : Int64)) + (1 : Int64))), .second, .val (.long ((p4 &&& (1099511627775 : Int64)) + (1 : Int64))), .second, .val (.long ((1 : Int64) <<< (((p5 &&& (63 : Int32)) % (63 : Int32)) &&& 0x3f).toInt64)), .second, .val (.ref b13), .val (.ref u18), .val (.int (1 : Int32))] [(.int (0 : Int32))])) _
      refine XS.iconst X17.here hx rfl (hb hby at_289) ?_
      refine XS.icmpYes X17.here hx rfl (pc0 := 290) (pc' := 321) rfl (hb hby at_290) rfl (flt (by decide)).2.2.2 (by decide) (by decide) ?_
      refine XS.iload X17.here hx rfl (hb hby at_321) rfl ?_
      exact Steps.refl _
    subst hA₀
    obtain ⟨fs, hr, hrun, hended, -, hW, hIn, hsame⟩ := X17.leaveW hS0 (by rw [(rfl : T17.heap = T17.heap)]; exact hkk17) (v := some (.int (1 : Int32))) (fun h => by rw [Bd.returns] at h; cases h)
    refine ⟨_, _, s21.trans ?_, hrun, hended, _, _, rfl, ?_, ⟨_, rfl⟩, hW, hIn, hsame.mono (by decide) (by decide)⟩
    · show Steps p.tables e below (T17.setTop (mkF m 323 #[.val (.int p0), .val (.int p1), .val (.long p2), .second, .val (.long p3), .second, .val (.long p4), .second, .val (.int p5), .val (.int (0 : Int32)), .val (.int z0), .val (.int z1), .val (.int z2), .val (.long (((p1 &&& (1023 : Int32)) + (1 : Int32)).toInt64)), .second, .val (.long ((p2 &&& (1099511627775 : Int64)) + (1 : Int64))), .second, .val (.long ((p3 &&& (1099511627775 : Int64)) + (1 : Int64))), .second, .val (.long ((p4 &&& (1099511627775 : Int64)) + (1 : Int64))), .second, .val (.long ((1 : Int64) <<< (((p5 &&& (63 : Int32)) % (63 : Int32)) &&& 0x3f).toInt64)), .second, .val (.ref b13), .val (.ref u18), .val (.int (1 : Int32))] [(.int (1 : Int32))])) _
      exact retN X17 hx (t := .boolean) Bd.returns (by simp) (hb hby at_323) hr
    · show Q0 Z p0 p1 p2 p3 p4 p5 dc kd h0 n0 _ T17.heap _
      exact ⟨rfl, N17⟩
  · have s22 := s1
    rw [hk2] at s22
    have s23 : Steps p.tables e below A₀ (s₁.setTop (mkF m 10 #[.val (.int p0), .val (.int p1), .val (.long p2), .second, .val (.long p3), .second, .val (.long p4), .second, .val (.int p5), .val (.int (1 : Int32)), .unset, .unset, .unset, .unset, .unset, .unset, .unset, .unset, .unset, .unset, .unset, .unset, .unset, .unset, .unset, .unset] [(.int ((p0 >>> ((2 : Int32) &&& 31)) &&& (1 : Int32)))])) := by
      refine s22.trans ?_
      refine XS.iloadN X0.here hx rfl (hb hby at_5) rfl ?_
      refine XS.iconst X0.here hx rfl (hb hby at_6) ?_
      refine XS.ishr X0.here hx rfl (hb hby at_7) rfl ?_
      refine XS.iconst X0.here hx rfl (hb hby at_8) ?_
      refine XS.iand X0.here hx rfl (hb hby at_9) rfl ?_
      exact Steps.refl _
    have s25 : Steps p.tables e below A₀ (s₁.setTop (mkF m 18 #[.val (.int p0), .val (.int p1), .val (.long p2), .second, .val (.long p3), .second, .val (.long p4), .second, .val (.int p5), .val (.int (1 : Int32)), .unset, .unset, .unset, .unset, .unset, .unset, .unset, .unset, .unset, .unset, .unset, .unset, .unset, .unset, .unset, .unset] [(.int (if ((p0 >>> ((2 : Int32) &&& 31)) &&& (1 : Int32)) = (0 : Int32) then (0 : Int32) else (1 : Int32)))])) := by
      by_cases hm24 : ((p0 >>> ((2 : Int32) &&& 31)) &&& (1 : Int32)) = (0 : Int32)
      · simp only [if_pos hm24]
        refine s23.trans ?_
        refine XS.ifYes X0.here hx rfl (pc0 := 10) (pc' := 17) rfl (hb hby at_10) rfl ((if0 _ _).trans (teq hm24).1) (by decide) (by decide) ?_
        refine XS.iconst X0.here hx rfl (hb hby at_17) ?_
        exact Steps.refl _
      · simp only [if_neg hm24]
        refine s23.trans ?_
        refine XS.ifNo X0.here hx rfl (hb hby at_10) rfl ((if0 _ _).trans (feq hm24).1) ?_
        refine XS.iconst X0.here hx rfl (hb hby at_13) ?_
        refine XS.goto X0.here hx rfl (pc0 := 14) (pc' := 18) rfl (hb hby at_14) (by decide) (by decide) ?_
        exact Steps.refl _
    obtain ⟨z0, hz0⟩ : ∃ z, z = (if ((p0 >>> ((2 : Int32) &&& 31)) &&& (1 : Int32)) = (0 : Int32) then (0 : Int32) else (1 : Int32)) := ⟨_, rfl⟩
    rw [← hz0] at s25
    have s26 : Steps p.tables e below A₀ (s₁.setTop (mkF m 25 #[.val (.int p0), .val (.int p1), .val (.long p2), .second, .val (.long p3), .second, .val (.long p4), .second, .val (.int p5), .val (.int (1 : Int32)), .val (.int z0), .unset, .unset, .unset, .unset, .unset, .unset, .unset, .unset, .unset, .unset, .unset, .unset, .unset, .unset, .unset] [(.int ((p0 >>> ((3 : Int32) &&& 31)) &&& (1 : Int32)))])) := by
      refine s25.trans ?_
      refine XS.istore X0.here hx rfl (hb hby at_18) rfl (l' := #[.val (.int p0), .val (.int p1), .val (.long p2), .second, .val (.long p3), .second, .val (.long p4), .second, .val (.int p5), .val (.int (1 : Int32)), .val (.int z0), .unset, .unset, .unset, .unset, .unset, .unset, .unset, .unset, .unset, .unset, .unset, .unset, .unset, .unset, .unset]) rfl ?_
      refine XS.iloadN X0.here hx rfl (hb hby at_20) rfl ?_
      refine XS.iconst X0.here hx rfl (hb hby at_21) ?_
      refine XS.ishr X0.here hx rfl (hb hby at_22) rfl ?_
      refine XS.iconst X0.here hx rfl (hb hby at_23) ?_
      refine XS.iand X0.here hx rfl (hb hby at_24) rfl ?_
      exact Steps.refl _
    have s28 : Steps p.tables e below A₀ (s₁.setTop (mkF m 33 #[.val (.int p0), .val (.int p1), .val (.long p2), .second, .val (.long p3), .second, .val (.long p4), .second, .val (.int p5), .val (.int (1 : Int32)), .val (.int z0), .unset, .unset, .unset, .unset, .unset, .unset, .unset, .unset, .unset, .unset, .unset, .unset, .unset, .unset, .unset] [(.int (if ((p0 >>> ((3 : Int32) &&& 31)) &&& (1 : Int32)) = (0 : Int32) then (0 : Int32) else (1 : Int32)))])) := by
      by_cases hm27 : ((p0 >>> ((3 : Int32) &&& 31)) &&& (1 : Int32)) = (0 : Int32)
      · simp only [if_pos hm27]
        refine s26.trans ?_
        refine XS.ifYes X0.here hx rfl (pc0 := 25) (pc' := 32) rfl (hb hby at_25) rfl ((if0 _ _).trans (teq hm27).1) (by decide) (by decide) ?_
        refine XS.iconst X0.here hx rfl (hb hby at_32) ?_
        exact Steps.refl _
      · simp only [if_neg hm27]
        refine s26.trans ?_
        refine XS.ifNo X0.here hx rfl (hb hby at_25) rfl ((if0 _ _).trans (feq hm27).1) ?_
        refine XS.iconst X0.here hx rfl (hb hby at_28) ?_
        refine XS.goto X0.here hx rfl (pc0 := 29) (pc' := 33) rfl (hb hby at_29) (by decide) (by decide) ?_
        exact Steps.refl _
    obtain ⟨z1, hz1⟩ : ∃ z, z = (if ((p0 >>> ((3 : Int32) &&& 31)) &&& (1 : Int32)) = (0 : Int32) then (0 : Int32) else (1 : Int32)) := ⟨_, rfl⟩
    rw [← hz1] at s28
    have s29 : Steps p.tables e below A₀ (s₁.setTop (mkF m 40 #[.val (.int p0), .val (.int p1), .val (.long p2), .second, .val (.long p3), .second, .val (.long p4), .second, .val (.int p5), .val (.int (1 : Int32)), .val (.int z0), .val (.int z1), .unset, .unset, .unset, .unset, .unset, .unset, .unset, .unset, .unset, .unset, .unset, .unset, .unset, .unset] [(.int ((p0 >>> ((4 : Int32) &&& 31)) &&& (1 : Int32)))])) := by
      refine s28.trans ?_
      refine XS.istore X0.here hx rfl (hb hby at_33) rfl (l' := #[.val (.int p0), .val (.int p1), .val (.long p2), .second, .val (.long p3), .second, .val (.long p4), .second, .val (.int p5), .val (.int (1 : Int32)), .val (.int z0), .val (.int z1), .unset, .unset, .unset, .unset, .unset, .unset, .unset, .unset, .unset, .unset, .unset, .unset, .unset, .unset]) rfl ?_
      refine XS.iloadN X0.here hx rfl (hb hby at_35) rfl ?_
      refine XS.iconst X0.here hx rfl (hb hby at_36) ?_
      refine XS.ishr X0.here hx rfl (hb hby at_37) rfl ?_
      refine XS.iconst X0.here hx rfl (hb hby at_38) ?_
      refine XS.iand X0.here hx rfl (hb hby at_39) rfl ?_
      exact Steps.refl _
    have s31 : Steps p.tables e below A₀ (s₁.setTop (mkF m 48 #[.val (.int p0), .val (.int p1), .val (.long p2), .second, .val (.long p3), .second, .val (.long p4), .second, .val (.int p5), .val (.int (1 : Int32)), .val (.int z0), .val (.int z1), .unset, .unset, .unset, .unset, .unset, .unset, .unset, .unset, .unset, .unset, .unset, .unset, .unset, .unset] [(.int (if ((p0 >>> ((4 : Int32) &&& 31)) &&& (1 : Int32)) = (0 : Int32) then (0 : Int32) else (1 : Int32)))])) := by
      by_cases hm30 : ((p0 >>> ((4 : Int32) &&& 31)) &&& (1 : Int32)) = (0 : Int32)
      · simp only [if_pos hm30]
        refine s29.trans ?_
        refine XS.ifYes X0.here hx rfl (pc0 := 40) (pc' := 47) rfl (hb hby at_40) rfl ((if0 _ _).trans (teq hm30).1) (by decide) (by decide) ?_
        refine XS.iconst X0.here hx rfl (hb hby at_47) ?_
        exact Steps.refl _
      · simp only [if_neg hm30]
        refine s29.trans ?_
        refine XS.ifNo X0.here hx rfl (hb hby at_40) rfl ((if0 _ _).trans (feq hm30).1) ?_
        refine XS.iconst X0.here hx rfl (hb hby at_43) ?_
        refine XS.goto X0.here hx rfl (pc0 := 44) (pc' := 48) rfl (hb hby at_44) (by decide) (by decide) ?_
        exact Steps.refl _
    obtain ⟨z2, hz2⟩ : ∃ z, z = (if ((p0 >>> ((4 : Int32) &&& 31)) &&& (1 : Int32)) = (0 : Int32) then (0 : Int32) else (1 : Int32)) := ⟨_, rfl⟩
    rw [← hz2] at s31
    obtain ⟨T32, h32, X32, e32, E32, A32, D32, -, st32⟩ := newO X0 hx hZ hown (hw _ (List.mem_of_getElem? (i := 1) rfl)) (hw _ (List.mem_of_getElem? (i := 2) rfl)) (hw _ (List.mem_of_getElem? (i := 3) rfl)) e0 (g := (mkF m 101 #[.val (.int p0), .val (.int p1), .val (.long p2), .second, .val (.long p3), .second, .val (.long p4), .second, .val (.int p5), .val (.int (1 : Int32)), .val (.int z0), .val (.int z1), .val (.int z2), .val (.long (((p1 &&& (1023 : Int32)) + (1 : Int32)).toInt64)), .second, .val (.long ((p2 &&& (1099511627775 : Int64)) + (1 : Int64))), .second, .val (.long ((p3 &&& (1099511627775 : Int64)) + (1 : Int64))), .second, .val (.long ((p4 &&& (1099511627775 : Int64)) + (1 : Int64))), .second, .val (.long ((1 : Int64) <<< (((p5 &&& (63 : Int32)) % (63 : Int32)) &&& 0x3f).toInt64)), .second, .unset, .unset, .unset] [])) rfl (hb hby at_101) (by decide) (by decide)
    obtain ⟨b32, g32⟩ : ∃ z, z = h0.size := ⟨_, rfl⟩
    rw [← g32] at A32 D32 st32
    have g_b32 : n0 ≤ b32 := Nat.le_trans (Nat.le_of_eq O0.1.symm) (Nat.le_trans O0.2.1 (Nat.le_of_eq g32.symm))
    have O32 := O0.ext E32
    have hkk32 := Nat.le_trans hk0 E32.1
    have F32_modCount : Fld Z h32 b32 "java/util/AbstractList" "modCount" "I" (.int (0 : Int32)) := D32 (Or.inl (hw _ (List.mem_of_getElem? (i := 23) rfl))) (ty := .int) (by decide)
    have F32_elementData : Fld Z h32 b32 "java/util/ArrayList" "elementData" "[Ljava/lang/Object;" .null := D32 (Or.inl (hw _ (List.mem_of_getElem? (i := 26) rfl))) (ty := (.array (.object "java/lang/Object"))) (by decide)
    have F32_size : Fld Z h32 b32 "java/util/ArrayList" "size" "I" (.int (0 : Int32)) := D32 (Or.inl (hw _ (List.mem_of_getElem? (i := 41) rfl))) (ty := .int) (by decide)
    have s33 : Steps p.tables e below A₀ (T32.setTop (mkF m 105 #[.val (.int p0), .val (.int p1), .val (.long p2), .second, .val (.long p3), .second, .val (.long p4), .second, .val (.int p5), .val (.int (1 : Int32)), .val (.int z0), .val (.int z1), .val (.int z2), .val (.long (((p1 &&& (1023 : Int32)) + (1 : Int32)).toInt64)), .second, .val (.long ((p2 &&& (1099511627775 : Int64)) + (1 : Int64))), .second, .val (.long ((p3 &&& (1099511627775 : Int64)) + (1 : Int64))), .second, .val (.long ((p4 &&& (1099511627775 : Int64)) + (1 : Int64))), .second, .val (.long ((1 : Int64) <<< (((p5 &&& (63 : Int32)) % (63 : Int32)) &&& 0x3f).toInt64)), .second, .unset, .unset, .unset] [(.ref b32), (.ref b32)])) := by
      refine s31.trans ?_
      refine XS.istore X0.here hx rfl (hb hby at_48) rfl (l' := #[.val (.int p0), .val (.int p1), .val (.long p2), .second, .val (.long p3), .second, .val (.long p4), .second, .val (.int p5), .val (.int (1 : Int32)), .val (.int z0), .val (.int z1), .val (.int z2), .unset, .unset, .unset, .unset, .unset, .unset, .unset, .unset, .unset, .unset, .unset, .unset, .unset]) rfl ?_
      refine XS.iloadN X0.here hx rfl (hb hby at_50) rfl ?_
      refine XS.sipush X0.here hx rfl (hb hby at_51) ?_
      refine XS.iand X0.here hx rfl (hb hby at_54) rfl ?_
      refine XS.iconst X0.here hx rfl (hb hby at_55) ?_
      refine XS.iadd X0.here hx rfl (hb hby at_56) rfl ?_
      refine XS.i2l X0.here hx rfl (hb hby at_57) rfl ?_
      refine XS.lstore X0.here hx rfl (hb hby at_58) rfl (l' := #[.val (.int p0), .val (.int p1), .val (.long p2), .second, .val (.long p3), .second, .val (.long p4), .second, .val (.int p5), .val (.int (1 : Int32)), .val (.int z0), .val (.int z1), .val (.int z2), .val (.long (((p1 &&& (1023 : Int32)) + (1 : Int32)).toInt64)), .second, .unset, .unset, .unset, .unset, .unset, .unset, .unset, .unset, .unset, .unset, .unset]) rfl ?_
      show Steps p.tables e below (s₁.setTop (mkF m 60 #[.val (.int p0), .val (.int p1), .val (.long p2), .second, .val (.long p3), .second, .val (.long p4), .second, .val (.int p5), .val (.int (1 : Int32)), .val (.int z0), .val (.int z1), .val (.int z2), .val (.long (((p1 &&& (1023 : Int32)) + (1 : Int32)).toInt64)), .second, .unset, .unset, .unset, .unset, .unset, .unset, .unset, .unset, .unset, .unset, .unset] [])) _
      refine XS.lloadN X0.here hx rfl (hb hby at_60) rfl ?_
      refine X0.ldc2Long hx hown (mvT hZ (hw _ (List.mem_of_getElem? (i := 0) rfl))) (g := (mkF m 61 #[.val (.int p0), .val (.int p1), .val (.long p2), .second, .val (.long p3), .second, .val (.long p4), .second, .val (.int p5), .val (.int (1 : Int32)), .val (.int z0), .val (.int z1), .val (.int z2), .val (.long (((p1 &&& (1023 : Int32)) + (1 : Int32)).toInt64)), .second, .unset, .unset, .unset, .unset, .unset, .unset, .unset, .unset, .unset, .unset, .unset] [(.long p2)])) rfl (hb hby at_61) _ ?_
      refine XS.land X0.here hx rfl (hb hby at_64) rfl ?_
      refine XS.lconst X0.here hx rfl (hb hby at_65) ?_
      refine XS.ladd X0.here hx rfl (hb hby at_66) rfl ?_
      refine XS.lstore X0.here hx rfl (hb hby at_67) rfl (l' := #[.val (.int p0), .val (.int p1), .val (.long p2), .second, .val (.long p3), .second, .val (.long p4), .second, .val (.int p5), .val (.int (1 : Int32)), .val (.int z0), .val (.int z1), .val (.int z2), .val (.long (((p1 &&& (1023 : Int32)) + (1 : Int32)).toInt64)), .second, .val (.long ((p2 &&& (1099511627775 : Int64)) + (1 : Int64))), .second, .unset, .unset, .unset, .unset, .unset, .unset, .unset, .unset, .unset]) rfl ?_
      refine XS.lload X0.here hx rfl (hb hby at_69) rfl ?_
      refine X0.ldc2Long hx hown (mvT hZ (hw _ (List.mem_of_getElem? (i := 0) rfl))) (g := (mkF m 71 #[.val (.int p0), .val (.int p1), .val (.long p2), .second, .val (.long p3), .second, .val (.long p4), .second, .val (.int p5), .val (.int (1 : Int32)), .val (.int z0), .val (.int z1), .val (.int z2), .val (.long (((p1 &&& (1023 : Int32)) + (1 : Int32)).toInt64)), .second, .val (.long ((p2 &&& (1099511627775 : Int64)) + (1 : Int64))), .second, .unset, .unset, .unset, .unset, .unset, .unset, .unset, .unset, .unset] [(.long p3)])) rfl (hb hby at_71) _ ?_
      refine XS.land X0.here hx rfl (hb hby at_74) rfl ?_
      refine XS.lconst X0.here hx rfl (hb hby at_75) ?_
      show Steps p.tables e below (s₁.setTop (mkF m 76 #[.val (.int p0), .val (.int p1), .val (.long p2), .second, .val (.long p3), .second, .val (.long p4), .second, .val (.int p5), .val (.int (1 : Int32)), .val (.int z0), .val (.int z1), .val (.int z2), .val (.long (((p1 &&& (1023 : Int32)) + (1 : Int32)).toInt64)), .second, .val (.long ((p2 &&& (1099511627775 : Int64)) + (1 : Int64))), .second, .unset, .unset, .unset, .unset, .unset, .unset, .unset, .unset, .unset] [(.long (1 : Int64)), (.long (p3 &&& (1099511627775 : Int64)))])) _
      refine XS.ladd X0.here hx rfl (hb hby at_76) rfl ?_
      refine XS.lstore X0.here hx rfl (hb hby at_77) rfl (l' := #[.val (.int p0), .val (.int p1), .val (.long p2), .second, .val (.long p3), .second, .val (.long p4), .second, .val (.int p5), .val (.int (1 : Int32)), .val (.int z0), .val (.int z1), .val (.int z2), .val (.long (((p1 &&& (1023 : Int32)) + (1 : Int32)).toInt64)), .second, .val (.long ((p2 &&& (1099511627775 : Int64)) + (1 : Int64))), .second, .val (.long ((p3 &&& (1099511627775 : Int64)) + (1 : Int64))), .second, .unset, .unset, .unset, .unset, .unset, .unset, .unset]) rfl ?_
      refine XS.lload X0.here hx rfl (hb hby at_79) rfl ?_
      refine X0.ldc2Long hx hown (mvT hZ (hw _ (List.mem_of_getElem? (i := 0) rfl))) (g := (mkF m 81 #[.val (.int p0), .val (.int p1), .val (.long p2), .second, .val (.long p3), .second, .val (.long p4), .second, .val (.int p5), .val (.int (1 : Int32)), .val (.int z0), .val (.int z1), .val (.int z2), .val (.long (((p1 &&& (1023 : Int32)) + (1 : Int32)).toInt64)), .second, .val (.long ((p2 &&& (1099511627775 : Int64)) + (1 : Int64))), .second, .val (.long ((p3 &&& (1099511627775 : Int64)) + (1 : Int64))), .second, .unset, .unset, .unset, .unset, .unset, .unset, .unset] [(.long p4)])) rfl (hb hby at_81) _ ?_
      refine XS.land X0.here hx rfl (hb hby at_84) rfl ?_
      refine XS.lconst X0.here hx rfl (hb hby at_85) ?_
      refine XS.ladd X0.here hx rfl (hb hby at_86) rfl ?_
      refine XS.lstore X0.here hx rfl (hb hby at_87) rfl (l' := #[.val (.int p0), .val (.int p1), .val (.long p2), .second, .val (.long p3), .second, .val (.long p4), .second, .val (.int p5), .val (.int (1 : Int32)), .val (.int z0), .val (.int z1), .val (.int z2), .val (.long (((p1 &&& (1023 : Int32)) + (1 : Int32)).toInt64)), .second, .val (.long ((p2 &&& (1099511627775 : Int64)) + (1 : Int64))), .second, .val (.long ((p3 &&& (1099511627775 : Int64)) + (1 : Int64))), .second, .val (.long ((p4 &&& (1099511627775 : Int64)) + (1 : Int64))), .second, .unset, .unset, .unset, .unset, .unset]) rfl ?_
      refine XS.lconst X0.here hx rfl (hb hby at_89) ?_
      refine XS.iload X0.here hx rfl (hb hby at_90) rfl ?_
      show Steps p.tables e below (s₁.setTop (mkF m 92 #[.val (.int p0), .val (.int p1), .val (.long p2), .second, .val (.long p3), .second, .val (.long p4), .second, .val (.int p5), .val (.int (1 : Int32)), .val (.int z0), .val (.int z1), .val (.int z2), .val (.long (((p1 &&& (1023 : Int32)) + (1 : Int32)).toInt64)), .second, .val (.long ((p2 &&& (1099511627775 : Int64)) + (1 : Int64))), .second, .val (.long ((p3 &&& (1099511627775 : Int64)) + (1 : Int64))), .second, .val (.long ((p4 &&& (1099511627775 : Int64)) + (1 : Int64))), .second, .unset, .unset, .unset, .unset, .unset] [(.int p5), (.long (1 : Int64))])) _
      refine XS.bipush X0.here hx rfl (hb hby at_92) ?_
      refine XS.iand X0.here hx rfl (hb hby at_94) rfl ?_
      refine XS.bipush X0.here hx rfl (hb hby at_95) ?_
      refine Jvm.RoadKit.iremM (g := (mkF m 97 #[.val (.int p0), .val (.int p1), .val (.long p2), .second, .val (.long p3), .second, .val (.long p4), .second, .val (.int p5), .val (.int (1 : Int32)), .val (.int z0), .val (.int z1), .val (.int z2), .val (.long (((p1 &&& (1023 : Int32)) + (1 : Int32)).toInt64)), .second, .val (.long ((p2 &&& (1099511627775 : Int64)) + (1 : Int64))), .second, .val (.long ((p3 &&& (1099511627775 : Int64)) + (1 : Int64))), .second, .val (.long ((p4 &&& (1099511627775 : Int64)) + (1 : Int64))), .second, .unset, .unset, .unset, .unset, .unset] [(.int (63 : Int32)), (.int (p5 &&& (63 : Int32))), (.long (1 : Int64))])) X0 hx rfl (hb hby at_97) rfl (by decide) ?_
      refine XS.lshl X0.here hx rfl (hb hby at_98) rfl ?_
      refine XS.lstore X0.here hx rfl (hb hby at_99) rfl (l' := #[.val (.int p0), .val (.int p1), .val (.long p2), .second, .val (.long p3), .second, .val (.long p4), .second, .val (.int p5), .val (.int (1 : Int32)), .val (.int z0), .val (.int z1), .val (.int z2), .val (.long (((p1 &&& (1023 : Int32)) + (1 : Int32)).toInt64)), .second, .val (.long ((p2 &&& (1099511627775 : Int64)) + (1 : Int64))), .second, .val (.long ((p3 &&& (1099511627775 : Int64)) + (1 : Int64))), .second, .val (.long ((p4 &&& (1099511627775 : Int64)) + (1 : Int64))), .second, .val (.long ((1 : Int64) <<< (((p5 &&& (63 : Int32)) % (63 : Int32)) &&& 0x3f).toInt64)), .second, .unset, .unset, .unset]) rfl ?_
      refine st32 _ ?_
      refine XS.dup X32.here hx rfl (hb hby at_104) rfl rfl ?_
      exact Steps.refl _
    obtain ⟨_, _, ⟨T34, L34, k34, n34⟩, -, X34, ⟨Lc34, hQ34, l34, y34, z34⟩, st34⟩ := X32.specialBack hx (y := (⟨"java/util/ArrayList", "<init>", "()V"⟩ : MethodName)) rfl hown (mvT hZ (hw _ (List.mem_of_getElem? (i := 4) rfl))) (mvT hZ (hw _ (List.mem_of_getElem? (i := 5) rfl))) (mvT hZ (hw _ (List.mem_of_getElem? (i := 6) rfl))) (by decide) (backOf (W := 1) (rmalin l Z a0 hw [] b32 dc h32 n0 O32 A32 F32_elementData F32_size F32_modCount g_b32 F0_) hZ (hw _ (List.mem_of_getElem? (i := 6) rfl)) (hw _ (List.mem_of_getElem? (i := 3) rfl)) (by decide) (by decide)) (g := (mkF m 105 #[.val (.int p0), .val (.int p1), .val (.long p2), .second, .val (.long p3), .second, .val (.long p4), .second, .val (.int p5), .val (.int (1 : Int32)), .val (.int z0), .val (.int z1), .val (.int z2), .val (.long (((p1 &&& (1023 : Int32)) + (1 : Int32)).toInt64)), .second, .val (.long ((p2 &&& (1099511627775 : Int64)) + (1 : Int64))), .second, .val (.long ((p3 &&& (1099511627775 : Int64)) + (1 : Int64))), .second, .val (.long ((p4 &&& (1099511627775 : Int64)) + (1 : Int64))), .second, .val (.long ((1 : Int64) <<< (((p5 &&& (63 : Int32)) % (63 : Int32)) &&& 0x3f).toInt64)), .second, .unset, .unset, .unset] [(.ref b32), (.ref b32)])) rfl (by rw [hml]; rfl) (Steps.refl _) (a := b32) (argsL := []) (rest := [(.ref b32)]) (lenOf pd_rm0_0 rfl) rfl (by show 2 * 0 + _ ≤ _; exact Nat.le_of_eq rfl) (hb hby at_105) (fun _ _ => ⟨rfl, e32, (by decide : 1 + 0 ≤ _), (by decide : 3 + 0 ≤ _)⟩)
    dsimp only [Pt.U, Pt.locs, Pt.cells, Pt.slots] at X34 l34 y34 z34 st34 hQ34
    subst l34 y34 z34
    obtain ⟨rfl, Nq34, Kc34, f34_0, f34_1, f34_2, f34_3⟩ := hQ34
    have N34 := Fr.app N0 Nq34
    have O34 := O32.keep Kc34 (allS g_b32 all0)
    have hkk34 := Nat.le_trans hkk32 Kc34.1
    obtain ⟨T35, h35, X35, e35, E35, A35, D35, -, st35⟩ := newO X34 hx hZ hown (hw _ (List.mem_of_getElem? (i := 43) rfl)) (hw _ (List.mem_of_getElem? (i := 44) rfl)) (hw _ (List.mem_of_getElem? (i := 45) rfl)) (rfl : T34.heap = T34.heap) (g := (mkF m 117 #[.val (.int p0), .val (.int p1), .val (.long p2), .second, .val (.long p3), .second, .val (.long p4), .second, .val (.int p5), .val (.int (1 : Int32)), .val (.int z0), .val (.int z1), .val (.int z2), .val (.long (((p1 &&& (1023 : Int32)) + (1 : Int32)).toInt64)), .second, .val (.long ((p2 &&& (1099511627775 : Int64)) + (1 : Int64))), .second, .val (.long ((p3 &&& (1099511627775 : Int64)) + (1 : Int64))), .second, .val (.long ((p4 &&& (1099511627775 : Int64)) + (1 : Int64))), .second, .val (.long ((1 : Int64) <<< (((p5 &&& (63 : Int32)) % (63 : Int32)) &&& 0x3f).toInt64)), .second, .val (.ref b32), .unset, .unset] [(.ref b32)])) rfl (hb hby at_117) (by decide) (by decide)
    obtain ⟨b35, g35⟩ : ∃ z, z = T34.heap.size := ⟨_, rfl⟩
    rw [← g35] at A35 D35 st35
    have ne_b32_b35 : b32 ≠ b35 := Nat.ne_of_lt (Nat.lt_of_lt_of_le f34_0.lt (Nat.le_of_eq g35.symm))
    have g_b35 : n0 ≤ b35 := Nat.le_trans (Nat.le_of_eq O34.1.symm) (Nat.le_trans O34.2.1 (Nat.le_of_eq g35.symm))
    have O35 := O34.ext E35
    have hkk35 := Nat.le_trans hkk34 E35.1
    have F35_stem : Fld Z h35 b35 "com/example/libprox/libprox/RankingModel$QueryTerm" "stem" "Ljava/lang/String;" .null := D35 (Or.inr (hw _ (List.mem_of_getElem? (i := 64) rfl))) (ty := (.object "java/lang/String")) (by decide)
    have F35_collectionFrequency : Fld Z h35 b35 "com/example/libprox/libprox/RankingModel$QueryTerm" "collectionFrequency" "J" (.long (0 : Int64)) := D35 (Or.inr (hw _ (List.mem_of_getElem? (i := 66) rfl))) (ty := .long) (by decide)
    have F35_stopWord : Fld Z h35 b35 "com/example/libprox/libprox/RankingModel$QueryTerm" "stopWord" "Z" (.int (0 : Int32)) := D35 (Or.inr (hw _ (List.mem_of_getElem? (i := 68) rfl))) (ty := .boolean) (by decide)
    have s36 : Steps p.tables e below A₀ (T35.setTop (mkF m 121 #[.val (.int p0), .val (.int p1), .val (.long p2), .second, .val (.long p3), .second, .val (.long p4), .second, .val (.int p5), .val (.int (1 : Int32)), .val (.int z0), .val (.int z1), .val (.int z2), .val (.long (((p1 &&& (1023 : Int32)) + (1 : Int32)).toInt64)), .second, .val (.long ((p2 &&& (1099511627775 : Int64)) + (1 : Int64))), .second, .val (.long ((p3 &&& (1099511627775 : Int64)) + (1 : Int64))), .second, .val (.long ((p4 &&& (1099511627775 : Int64)) + (1 : Int64))), .second, .val (.long ((1 : Int64) <<< (((p5 &&& (63 : Int32)) % (63 : Int32)) &&& 0x3f).toInt64)), .second, .val (.ref b32), .unset, .unset] [(.ref b35), (.ref b35), (.ref b32)])) := by
      refine s33.trans ?_
      show Steps p.tables e below (T32.setTop (mkF m 105 #[.val (.int p0), .val (.int p1), .val (.long p2), .second, .val (.long p3), .second, .val (.long p4), .second, .val (.int p5), .val (.int (1 : Int32)), .val (.int z0), .val (.int z1), .val (.int z2), .val (.long (((p1 &&& (1023 : Int32)) + (1 : Int32)).toInt64)), .second, .val (.long ((p2 &&& (1099511627775 : Int64)) + (1 : Int64))), .second, .val (.long ((p3 &&& (1099511627775 : Int64)) + (1 : Int64))), .second, .val (.long ((p4 &&& (1099511627775 : Int64)) + (1 : Int64))), .second, .val (.long ((1 : Int64) <<< (((p5 &&& (63 : Int32)) % (63 : Int32)) &&& 0x3f).toInt64)), .second, .unset, .unset, .unset] [(.ref b32), (.ref b32)])) _
      refine st34.trans ?_
      refine XS.astore X34.here hx rfl (hb hby at_108) rfl rfl (l' := #[.val (.int p0), .val (.int p1), .val (.long p2), .second, .val (.long p3), .second, .val (.long p4), .second, .val (.int p5), .val (.int (1 : Int32)), .val (.int z0), .val (.int z1), .val (.int z2), .val (.long (((p1 &&& (1023 : Int32)) + (1 : Int32)).toInt64)), .second, .val (.long ((p2 &&& (1099511627775 : Int64)) + (1 : Int64))), .second, .val (.long ((p3 &&& (1099511627775 : Int64)) + (1 : Int64))), .second, .val (.long ((p4 &&& (1099511627775 : Int64)) + (1 : Int64))), .second, .val (.long ((1 : Int64) <<< (((p5 &&& (63 : Int32)) % (63 : Int32)) &&& 0x3f).toInt64)), .second, .val (.ref b32), .unset, .unset]) rfl ?_
      refine XS.iload X34.here hx rfl (hb hby at_110) rfl ?_
      refine XS.ifNo X34.here hx rfl (hb hby at_112) rfl ((if0 _ _).trans (tlt (by decide)).2.2.2) ?_
      refine XS.aload X34.here hx rfl (hb hby at_115) rfl rfl ?_
      refine st35 _ ?_
      refine XS.dup X35.here hx rfl (hb hby at_120) rfl rfl ?_
      exact Steps.refl _
    obtain ⟨a37, T37, h37, k37, X37, e37, E37, hS37, hk37, hZ37, hown37, st37⟩ := ldcS X35 hx hZ hown (hw _ (List.mem_of_getElem? (i := 46) rfl)) (own_wS hw) e35 hS0 hkk35 (g := (mkF m 121 #[.val (.int p0), .val (.int p1), .val (.long p2), .second, .val (.long p3), .second, .val (.long p4), .second, .val (.int p5), .val (.int (1 : Int32)), .val (.int z0), .val (.int z1), .val (.int z2), .val (.long (((p1 &&& (1023 : Int32)) + (1 : Int32)).toInt64)), .second, .val (.long ((p2 &&& (1099511627775 : Int64)) + (1 : Int64))), .second, .val (.long ((p3 &&& (1099511627775 : Int64)) + (1 : Int64))), .second, .val (.long ((p4 &&& (1099511627775 : Int64)) + (1 : Int64))), .second, .val (.long ((1 : Int64) <<< (((p5 &&& (63 : Int32)) % (63 : Int32)) &&& 0x3f).toInt64)), .second, .val (.ref b32), .unset, .unset] [(.ref b35), (.ref b35), (.ref b32)])) rfl (hb hby at_121) (n := 4) (by decide) (by decide) (by decide) (by decide)
    have O37 := O35.ext E37
    have hkk37 := Nat.le_trans hkk35 E37.1
    have s38 : Steps p.tables e below A₀ (T37.setTop (mkF m 127 #[.val (.int p0), .val (.int p1), .val (.long p2), .second, .val (.long p3), .second, .val (.long p4), .second, .val (.int p5), .val (.int (1 : Int32)), .val (.int z0), .val (.int z1), .val (.int z2), .val (.long (((p1 &&& (1023 : Int32)) + (1 : Int32)).toInt64)), .second, .val (.long ((p2 &&& (1099511627775 : Int64)) + (1 : Int64))), .second, .val (.long ((p3 &&& (1099511627775 : Int64)) + (1 : Int64))), .second, .val (.long ((p4 &&& (1099511627775 : Int64)) + (1 : Int64))), .second, .val (.long ((1 : Int64) <<< (((p5 &&& (63 : Int32)) % (63 : Int32)) &&& 0x3f).toInt64)), .second, .val (.ref b32), .unset, .unset] [(.int z0), (.long ((p2 &&& (1099511627775 : Int64)) + (1 : Int64))), (.ref a37), (.ref b35), (.ref b35), (.ref b32)])) := by
      refine s36.trans ?_
      show Steps p.tables e below (T35.setTop (mkF m 121 #[.val (.int p0), .val (.int p1), .val (.long p2), .second, .val (.long p3), .second, .val (.long p4), .second, .val (.int p5), .val (.int (1 : Int32)), .val (.int z0), .val (.int z1), .val (.int z2), .val (.long (((p1 &&& (1023 : Int32)) + (1 : Int32)).toInt64)), .second, .val (.long ((p2 &&& (1099511627775 : Int64)) + (1 : Int64))), .second, .val (.long ((p3 &&& (1099511627775 : Int64)) + (1 : Int64))), .second, .val (.long ((p4 &&& (1099511627775 : Int64)) + (1 : Int64))), .second, .val (.long ((1 : Int64) <<< (((p5 &&& (63 : Int32)) % (63 : Int32)) &&& 0x3f).toInt64)), .second, .val (.ref b32), .unset, .unset] [(.ref b35), (.ref b35), (.ref b32)])) _
      refine st37 _ ?_
      refine XS.lload X37.here hx rfl (hb hby at_123) rfl ?_
      refine XS.iload X37.here hx rfl (hb hby at_125) rfl ?_
      exact Steps.refl _
    have c39 : Exa Z h37 b35 "com/example/libprox/libprox/RankingModel$QueryTerm" := (A35.ext E37)
    have c40 : Fld Z h37 b35 "com/example/libprox/libprox/RankingModel$QueryTerm" "stem" "Ljava/lang/String;" .null := (F35_stem.ext E37)
    have c41 : Fld Z h37 b35 "com/example/libprox/libprox/RankingModel$QueryTerm" "collectionFrequency" "J" (.long (0 : Int64)) := (F35_collectionFrequency.ext E37)
    have c42 : Fld Z h37 b35 "com/example/libprox/libprox/RankingModel$QueryTerm" "stopWord" "Z" (.int (0 : Int32)) := (F35_stopWord.ext E37)
    obtain ⟨_, _, ⟨T43, L43, k43, n43⟩, -, X43, ⟨Lc43, hQ43, l43, y43, z43⟩, st43⟩ := X37.specialBack hx (y := (⟨"com/example/libprox/libprox/RankingModel$QueryTerm", "<init>", "(Ljava/lang/String;JZ)V"⟩ : MethodName)) rfl hown37 (mvT hZ37 (hw _ (List.mem_of_getElem? (i := 54) rfl))) (mvT hZ37 (hw _ (List.mem_of_getElem? (i := 55) rfl))) (mvT hZ37 (hw _ (List.mem_of_getElem? (i := 56) rfl))) (by decide) (backOf (W := 2) (rmqi l Z a0 hw [] b35 a37 ((p2 &&& (1099511627775 : Int64)) + (1 : Int64)) z0 h37 n0 O37 c39 c40 c41 c42 g_b35) hZ37 (hw _ (List.mem_of_getElem? (i := 56) rfl)) (hw _ (List.mem_of_getElem? (i := 45) rfl)) (by decide) (by decide)) (g := (mkF m 127 #[.val (.int p0), .val (.int p1), .val (.long p2), .second, .val (.long p3), .second, .val (.long p4), .second, .val (.int p5), .val (.int (1 : Int32)), .val (.int z0), .val (.int z1), .val (.int z2), .val (.long (((p1 &&& (1023 : Int32)) + (1 : Int32)).toInt64)), .second, .val (.long ((p2 &&& (1099511627775 : Int64)) + (1 : Int64))), .second, .val (.long ((p3 &&& (1099511627775 : Int64)) + (1 : Int64))), .second, .val (.long ((p4 &&& (1099511627775 : Int64)) + (1 : Int64))), .second, .val (.long ((1 : Int64) <<< (((p5 &&& (63 : Int32)) % (63 : Int32)) &&& 0x3f).toInt64)), .second, .val (.ref b32), .unset, .unset] [(.int z0), (.long ((p2 &&& (1099511627775 : Int64)) + (1 : Int64))), (.ref a37), (.ref b35), (.ref b35), (.ref b32)])) rfl (by rw [hml]; rfl) (Steps.refl _) (a := b35) (argsL := [(.ref a37), (.long ((p2 &&& (1099511627775 : Int64)) + (1 : Int64))), (.int z0)]) (rest := [(.ref b35), (.ref b32)]) (lenOf pd_rm0_2 rfl) rfl (by show 2 * 0 + _ ≤ _; exact Nat.le_of_eq rfl) (hb hby at_127) (fun _ _ => ⟨rfl, e37, (by decide : 4 + 0 ≤ _), (by decide : 14 + 0 ≤ _)⟩)
    dsimp only [Pt.U, Pt.locs, Pt.cells, Pt.slots] at X43 l43 y43 z43 st43 hQ43
    subst l43 y43 z43
    obtain ⟨rfl, Nq43, Kc43, f43_0, f43_1⟩ := hQ43
    have N43 := Fr.app N34 Nq43
    have O43 := O37.keep Kc43 (allS g_b35 all0)
    have hkk43 := Nat.le_trans hk37 Kc43.1
    have s44 : Steps p.tables e below A₀ (T43.setTop (mkF m 130 #[.val (.int p0), .val (.int p1), .val (.long p2), .second, .val (.long p3), .second, .val (.long p4), .second, .val (.int p5), .val (.int (1 : Int32)), .val (.int z0), .val (.int z1), .val (.int z2), .val (.long (((p1 &&& (1023 : Int32)) + (1 : Int32)).toInt64)), .second, .val (.long ((p2 &&& (1099511627775 : Int64)) + (1 : Int64))), .second, .val (.long ((p3 &&& (1099511627775 : Int64)) + (1 : Int64))), .second, .val (.long ((p4 &&& (1099511627775 : Int64)) + (1 : Int64))), .second, .val (.long ((1 : Int64) <<< (((p5 &&& (63 : Int32)) % (63 : Int32)) &&& 0x3f).toInt64)), .second, .val (.ref b32), .unset, .unset] [(.ref b35), (.ref b32)])) := by
      refine s38.trans ?_
      show Steps p.tables e below (T37.setTop (mkF m 127 #[.val (.int p0), .val (.int p1), .val (.long p2), .second, .val (.long p3), .second, .val (.long p4), .second, .val (.int p5), .val (.int (1 : Int32)), .val (.int z0), .val (.int z1), .val (.int z2), .val (.long (((p1 &&& (1023 : Int32)) + (1 : Int32)).toInt64)), .second, .val (.long ((p2 &&& (1099511627775 : Int64)) + (1 : Int64))), .second, .val (.long ((p3 &&& (1099511627775 : Int64)) + (1 : Int64))), .second, .val (.long ((p4 &&& (1099511627775 : Int64)) + (1 : Int64))), .second, .val (.long ((1 : Int64) <<< (((p5 &&& (63 : Int32)) % (63 : Int32)) &&& 0x3f).toInt64)), .second, .val (.ref b32), .unset, .unset] [(.int z0), (.long ((p2 &&& (1099511627775 : Int64)) + (1 : Int64))), (.ref a37), (.ref b35), (.ref b35), (.ref b32)])) _
      refine st43.trans ?_
      exact Steps.refl _
    have c45 : Exa Z T43.heap b32 "java/util/ArrayList" := (((f34_0.ext E35).ext E37).keep Kc43)
    have c46 : Fld Z T43.heap b32 "java/util/ArrayList" "elementData" "[Ljava/lang/Object;" (.ref dc) := (((f34_1.ext E35).ext E37).keep Kc43 (ninS ne_b32_b35 nin0))
    have c47 : Fld Z T43.heap b32 "java/util/ArrayList" "size" "I" (.int (0 : Int32)) := (((f34_2.ext E35).ext E37).keep Kc43 (ninS ne_b32_b35 nin0))
    have c48 : Fld Z T43.heap b32 "java/util/AbstractList" "modCount" "I" (.int (0 : Int32)) := (((f34_3.ext E35).ext E37).keep Kc43 (ninS ne_b32_b35 nin0))
    obtain ⟨cq49, kq49, q49a, q49b, q49c⟩ := isOf hZ37 (rfl : T43.heap = T43.heap) c45
    obtain ⟨_, _, ⟨T49, L49, k49, n49⟩, -, X49, ⟨Lc49, hQ49, l49, y49, z49⟩, st49⟩ := X43.interfaceBack hx (xi := (⟨"java/util/List", "add", "(Ljava/lang/Object;)Z"⟩ : MethodName)) (y := (⟨"java/util/ArrayList", "add", "(Ljava/lang/Object;)Z"⟩ : MethodName)) hown37 (mvT hZ37 (hw _ (List.mem_of_getElem? (i := 69) rfl))) (mvT hZ37 (hw _ (List.mem_of_getElem? (i := 70) rfl))) (mvT hZ37 (hw _ (List.mem_of_getElem? (i := 71) rfl))) (mvT hZ37 (hw _ (List.mem_of_getElem? (i := 72) rfl))) (mvT hZ37 (hw _ (List.mem_of_getElem? (i := 73) rfl))) (mvT hZ37 (hw _ (List.mem_of_getElem? (i := 74) rfl))) (mvT hZ37 (hw _ (List.mem_of_getElem? (i := 75) rfl))) (mvT hZ37 (hw _ (List.mem_of_getElem? (i := 38) rfl))) (by decide) (backOf (W := 0) (rmala_0 l Z a0 hw [] b32 b35 dc kd (0 : Int32) T43.heap n0 O43 c45 c46 c47 c48 g_b32 F0_ F1_ f43_0) hZ37 (hw _ (List.mem_of_getElem? (i := 76) rfl)) (hw _ (List.mem_of_getElem? (i := 3) rfl)) (by decide) (by decide)) q49a q49b q49c (g := (mkF m 130 #[.val (.int p0), .val (.int p1), .val (.long p2), .second, .val (.long p3), .second, .val (.long p4), .second, .val (.int p5), .val (.int (1 : Int32)), .val (.int z0), .val (.int z1), .val (.int z2), .val (.long (((p1 &&& (1023 : Int32)) + (1 : Int32)).toInt64)), .second, .val (.long ((p2 &&& (1099511627775 : Int64)) + (1 : Int64))), .second, .val (.long ((p3 &&& (1099511627775 : Int64)) + (1 : Int64))), .second, .val (.long ((p4 &&& (1099511627775 : Int64)) + (1 : Int64))), .second, .val (.long ((1 : Int64) <<< (((p5 &&& (63 : Int32)) % (63 : Int32)) &&& 0x3f).toInt64)), .second, .val (.ref b32), .unset, .unset] [(.ref b35), (.ref b32)])) rfl (by rw [hml]; rfl) (Steps.refl _) (argsL := [(.ref b35)]) (rest := []) (lenOf pd_rm0_3 rfl) rfl (by show 2 * 0 + _ ≤ _; exact Nat.le_of_eq rfl) (hb hby at_130) (fun _ _ => ⟨rfl, (rfl : T43.heap = T43.heap), (by decide : 4 + 1 ≤ _), (by decide : 14 + 10 ≤ _)⟩)
    dsimp only [Pt.U, Pt.locs, Pt.cells, Pt.slots] at X49 l49 y49 z49 st49 hQ49
    subst l49 y49 z49
    obtain ⟨u50, u51, rfl, Nq49, Kc49, f49_0, f49_1, f49_2, f49_3, f49_4, f49_5, f49_6, f49_7⟩ := hQ49
    have N49 := Fr.app N43 Nq49
    have ne_b32_u50 : b32 ≠ u50 := Nat.ne_of_lt (Nat.lt_of_lt_of_le c45.lt f49_6)
    have ne_b35_u50 : b35 ≠ u50 := Nat.ne_of_lt (Nat.lt_of_lt_of_le f43_0.lt f49_6)
    have g_u50 : n0 ≤ u50 := Nat.le_trans (Nat.le_of_eq O43.1.symm) (Nat.le_trans O43.2.1 f49_6)
    have O49 := O43.keep Kc49 (allS g_b32 all0)
    have hkk49 := Nat.le_trans hkk43 Kc49.1
    have s52 : Steps p.tables e below A₀ (T49.setTop (mkF m 197 #[.val (.int p0), .val (.int p1), .val (.long p2), .second, .val (.long p3), .second, .val (.long p4), .second, .val (.int p5), .val (.int (1 : Int32)), .val (.int z0), .val (.int z1), .val (.int z2), .val (.long (((p1 &&& (1023 : Int32)) + (1 : Int32)).toInt64)), .second, .val (.long ((p2 &&& (1099511627775 : Int64)) + (1 : Int64))), .second, .val (.long ((p3 &&& (1099511627775 : Int64)) + (1 : Int64))), .second, .val (.long ((p4 &&& (1099511627775 : Int64)) + (1 : Int64))), .second, .val (.long ((1 : Int64) <<< (((p5 &&& (63 : Int32)) % (63 : Int32)) &&& 0x3f).toInt64)), .second, .val (.ref b32), .unset, .unset] [(.long ((1 : Int64) <<< (((p5 &&& (63 : Int32)) % (63 : Int32)) &&& 0x3f).toInt64)), (.ref b32), (.double (FP.l2d (((p1 &&& (1023 : Int32)) + (1 : Int32)).toInt64)))])) := by
      refine s44.trans ?_
      show Steps p.tables e below (T43.setTop (mkF m 130 #[.val (.int p0), .val (.int p1), .val (.long p2), .second, .val (.long p3), .second, .val (.long p4), .second, .val (.int p5), .val (.int (1 : Int32)), .val (.int z0), .val (.int z1), .val (.int z2), .val (.long (((p1 &&& (1023 : Int32)) + (1 : Int32)).toInt64)), .second, .val (.long ((p2 &&& (1099511627775 : Int64)) + (1 : Int64))), .second, .val (.long ((p3 &&& (1099511627775 : Int64)) + (1 : Int64))), .second, .val (.long ((p4 &&& (1099511627775 : Int64)) + (1 : Int64))), .second, .val (.long ((1 : Int64) <<< (((p5 &&& (63 : Int32)) % (63 : Int32)) &&& 0x3f).toInt64)), .second, .val (.ref b32), .unset, .unset] [(.ref b35), (.ref b32)])) _
      refine st49.trans ?_
      refine XS.pop X49.here hx rfl (hb hby at_135) rfl rfl ?_
      refine XS.iload X49.here hx rfl (hb hby at_136) rfl ?_
      refine XS.iconst X49.here hx rfl (hb hby at_138) ?_
      refine XS.icmpYes X49.here hx rfl (pc0 := 139) (pc' := 163) rfl (hb hby at_139) rfl (flt (by decide)).2.2.2 (by decide) (by decide) ?_
      refine XS.iload X49.here hx rfl (hb hby at_163) rfl ?_
      refine XS.iconst X49.here hx rfl (hb hby at_165) ?_
      refine XS.icmpYes X49.here hx rfl (pc0 := 166) (pc' := 190) rfl (hb hby at_166) rfl (flt (by decide)).2.2.2 (by decide) (by decide) ?_
      refine XS.lload X49.here hx rfl (hb hby at_190) rfl ?_
      refine XS.l2dS X49.here hx rfl (hb hby at_192) rfl rfl ?_
      show Steps p.tables e below (T49.setTop (mkF m 193 #[.val (.int p0), .val (.int p1), .val (.long p2), .second, .val (.long p3), .second, .val (.long p4), .second, .val (.int p5), .val (.int (1 : Int32)), .val (.int z0), .val (.int z1), .val (.int z2), .val (.long (((p1 &&& (1023 : Int32)) + (1 : Int32)).toInt64)), .second, .val (.long ((p2 &&& (1099511627775 : Int64)) + (1 : Int64))), .second, .val (.long ((p3 &&& (1099511627775 : Int64)) + (1 : Int64))), .second, .val (.long ((p4 &&& (1099511627775 : Int64)) + (1 : Int64))), .second, .val (.long ((1 : Int64) <<< (((p5 &&& (63 : Int32)) % (63 : Int32)) &&& 0x3f).toInt64)), .second, .val (.ref b32), .unset, .unset] [(.double (FP.l2d (((p1 &&& (1023 : Int32)) + (1 : Int32)).toInt64)))])) _
      refine XS.aload X49.here hx rfl (hb hby at_193) rfl rfl ?_
      refine XS.lload X49.here hx rfl (hb hby at_195) rfl ?_
      exact Steps.refl _
    have c53 : Exa Z T49.heap b35 "com/example/libprox/libprox/RankingModel$QueryTerm" := (f43_0.keep Kc49)
    have c54 : Fld Z T49.heap b35 "com/example/libprox/libprox/RankingModel$QueryTerm" "collectionFrequency" "J" (.long ((p2 &&& (1099511627775 : Int64)) + (1 : Int64))) := (f43_1.keep Kc49 (ninS (Ne.symm ne_b32_b35) nin0))
    obtain ⟨_, _, ⟨T55, L55, k55, n55⟩, -, X55, ⟨Lc55, hQ55, l55, y55, z55⟩, st55⟩ := Jvm.LawKit.callS X49 hx (y := (⟨"com/example/libprox/libprox/Kld", "priors", "(DLjava/util/List;J)[D"⟩ : MethodName)) hown37 (mvT hZ37 (hw _ (List.mem_of_getElem? (i := 27) rfl))) (mvT hZ37 (hw _ (List.mem_of_getElem? (i := 28) rfl))) (mvT hZ37 (hw _ (List.mem_of_getElem? (i := 29) rfl))) (mvT hZ37 (hw _ (List.mem_of_getElem? (i := 30) rfl))) (by decide) (backOf (W := 0) (rmpri_1 l Z a0 hw [] (FP.l2d (((p1 &&& (1023 : Int32)) + (1 : Int32)).toInt64)) b32 ((1 : Int64) <<< (((p5 &&& (63 : Int32)) % (63 : Int32)) &&& 0x3f).toInt64) u50 u51 b35 ((p2 &&& (1099511627775 : Int64)) + (1 : Int64)) ((((p1 &&& (1023 : Int32)) + (1 : Int32)).toInt64) * ((p2 &&& (1099511627775 : Int64)) + (1 : Int64))) T49.heap n0 O49 f49_0 f49_2 f49_1 f49_4 c53 c54 (own_mc (((p1 &&& (1023 : Int32)) + (1 : Int32)).toInt64) ((p2 &&& (1099511627775 : Int64)) + (1 : Int64)) (own_m p1).1 (own_m p1).2 (own_c p2).1 (own_c p2).2).1 (own_nz ((1 : Int64) <<< (((p5 &&& (63 : Int32)) % (63 : Int32)) &&& 0x3f).toInt64) kk hLL ((((p1 &&& (1023 : Int32)) + (1 : Int32)).toInt64) * ((p2 &&& (1099511627775 : Int64)) + (1 : Int64))))) hZ37 (hw _ (List.mem_of_getElem? (i := 30) rfl)) (hw _ (List.mem_of_getElem? (i := 29) rfl)) (by decide) (by decide)) (g := (mkF m 197 #[.val (.int p0), .val (.int p1), .val (.long p2), .second, .val (.long p3), .second, .val (.long p4), .second, .val (.int p5), .val (.int (1 : Int32)), .val (.int z0), .val (.int z1), .val (.int z2), .val (.long (((p1 &&& (1023 : Int32)) + (1 : Int32)).toInt64)), .second, .val (.long ((p2 &&& (1099511627775 : Int64)) + (1 : Int64))), .second, .val (.long ((p3 &&& (1099511627775 : Int64)) + (1 : Int64))), .second, .val (.long ((p4 &&& (1099511627775 : Int64)) + (1 : Int64))), .second, .val (.long ((1 : Int64) <<< (((p5 &&& (63 : Int32)) % (63 : Int32)) &&& 0x3f).toInt64)), .second, .val (.ref b32), .unset, .unset] [(.long ((1 : Int64) <<< (((p5 &&& (63 : Int32)) % (63 : Int32)) &&& 0x3f).toInt64)), (.ref b32), (.double (FP.l2d (((p1 &&& (1023 : Int32)) + (1 : Int32)).toInt64)))])) rfl (by rw [hml]; rfl) (argsL := [(.double (FP.l2d (((p1 &&& (1023 : Int32)) + (1 : Int32)).toInt64))), (.ref b32), (.long ((1 : Int64) <<< (((p5 &&& (63 : Int32)) % (63 : Int32)) &&& 0x3f).toInt64))]) (rest := []) (lenOf pd_rm0_1 rfl) rfl (by show 2 * 0 + _ ≤ _; exact Nat.le_of_eq rfl) (hb hby at_197) (fun _ _ => ⟨rfl, (rfl : T49.heap = T49.heap), (by decide : 5 + 1 ≤ _), (by decide : 24 + 1 ≤ _)⟩)
    dsimp only [Pt.U, Pt.locs, Pt.cells, Pt.slots] at X55 l55 y55 z55 st55 hQ55
    subst l55 y55 z55
    obtain ⟨u56, u57, rfl, Nq55, Kc55, f55_0, f55_1⟩ := hQ55
    have N55 := Fr.app N49 Nq55
    have ne_b32_u56 : b32 ≠ u56 := Nat.ne_of_lt (Nat.lt_of_lt_of_le f49_0.lt f55_1)
    have ne_b35_u56 : b35 ≠ u56 := Nat.ne_of_lt (Nat.lt_of_lt_of_le c53.lt f55_1)
    have ne_u50_u56 : u50 ≠ u56 := Nat.ne_of_lt (Nat.lt_of_lt_of_le f49_4.lt f55_1)
    have g_u56 : n0 ≤ u56 := Nat.le_trans (Nat.le_of_eq O49.1.symm) (Nat.le_trans O49.2.1 f55_1)
    have O55 := O49.keep Kc55 all0
    have hkk55 := Nat.le_trans hkk49 Kc55.1
    obtain ⟨cla58, Ara58, qa58, Sa58, Za58, Ha58, Ga58⟩ := id f55_0
    have hin59 : ¬ ((0 : Int32) < 0 ∨ cla58.slots.size ≤ ((0 : Int32)).toNatClampNeg) := inb_of Sa58 ⟨by decide, by decide⟩
    have hat60 : cla58.slots[((0 : Int32)).toNatClampNeg]? = some (.double (FP.ddiv (FP.l2d ((((p1 &&& (1023 : Int32)) + (1 : Int32)).toInt64) * ((p2 &&& (1099511627775 : Int64)) + (1 : Int64)))) (FP.l2d ((1 : Int64) <<< (((p5 &&& (63 : Int32)) % (63 : Int32)) &&& 0x3f).toInt64)))) := Has.at Ha58 hin59 rfl
    have s61 : Steps p.tables e below A₀ (T55.setTop (mkF m 240 #[.val (.int p0), .val (.int p1), .val (.long p2), .second, .val (.long p3), .second, .val (.long p4), .second, .val (.int p5), .val (.int (1 : Int32)), .val (.int z0), .val (.int z1), .val (.int z2), .val (.long (((p1 &&& (1023 : Int32)) + (1 : Int32)).toInt64)), .second, .val (.long ((p2 &&& (1099511627775 : Int64)) + (1 : Int64))), .second, .val (.long ((p3 &&& (1099511627775 : Int64)) + (1 : Int64))), .second, .val (.long ((p4 &&& (1099511627775 : Int64)) + (1 : Int64))), .second, .val (.long ((1 : Int64) <<< (((p5 &&& (63 : Int32)) % (63 : Int32)) &&& 0x3f).toInt64)), .second, .val (.ref b32), .val (.ref u56), .val (.int (1 : Int32))] [(.long ((1 : Int64) <<< (((p5 &&& (63 : Int32)) % (63 : Int32)) &&& 0x3f).toInt64)), (.long ((p2 &&& (1099511627775 : Int64)) + (1 : Int64))), (.long (((p1 &&& (1023 : Int32)) + (1 : Int32)).toInt64)), (.double (FP.ddiv (FP.l2d ((((p1 &&& (1023 : Int32)) + (1 : Int32)).toInt64) * ((p2 &&& (1099511627775 : Int64)) + (1 : Int64)))) (FP.l2d ((1 : Int64) <<< (((p5 &&& (63 : Int32)) % (63 : Int32)) &&& 0x3f).toInt64))))])) := by
      refine s52.trans ?_
      show Steps p.tables e below (T49.setTop (mkF m 197 #[.val (.int p0), .val (.int p1), .val (.long p2), .second, .val (.long p3), .second, .val (.long p4), .second, .val (.int p5), .val (.int (1 : Int32)), .val (.int z0), .val (.int z1), .val (.int z2), .val (.long (((p1 &&& (1023 : Int32)) + (1 : Int32)).toInt64)), .second, .val (.long ((p2 &&& (1099511627775 : Int64)) + (1 : Int64))), .second, .val (.long ((p3 &&& (1099511627775 : Int64)) + (1 : Int64))), .second, .val (.long ((p4 &&& (1099511627775 : Int64)) + (1 : Int64))), .second, .val (.long ((1 : Int64) <<< (((p5 &&& (63 : Int32)) % (63 : Int32)) &&& 0x3f).toInt64)), .second, .val (.ref b32), .unset, .unset] [(.long ((1 : Int64) <<< (((p5 &&& (63 : Int32)) % (63 : Int32)) &&& 0x3f).toInt64)), (.ref b32), (.double (FP.l2d (((p1 &&& (1023 : Int32)) + (1 : Int32)).toInt64)))])) _
      refine st55 _ ?_
      refine XS.astore X55.here hx rfl (hb hby at_200) rfl rfl (l' := #[.val (.int p0), .val (.int p1), .val (.long p2), .second, .val (.long p3), .second, .val (.long p4), .second, .val (.int p5), .val (.int (1 : Int32)), .val (.int z0), .val (.int z1), .val (.int z2), .val (.long (((p1 &&& (1023 : Int32)) + (1 : Int32)).toInt64)), .second, .val (.long ((p2 &&& (1099511627775 : Int64)) + (1 : Int64))), .second, .val (.long ((p3 &&& (1099511627775 : Int64)) + (1 : Int64))), .second, .val (.long ((p4 &&& (1099511627775 : Int64)) + (1 : Int64))), .second, .val (.long ((1 : Int64) <<< (((p5 &&& (63 : Int32)) % (63 : Int32)) &&& 0x3f).toInt64)), .second, .val (.ref b32), .val (.ref u56), .unset]) rfl ?_
      refine XS.aload X55.here hx rfl (hb hby at_202) rfl rfl ?_
      refine XS.ifnullNo X55.here hx rfl (hb hby at_204) rfl ?_
      refine XS.aload X55.here hx rfl (hb hby at_207) rfl rfl ?_
      refine X55.arraylength hx (by rw [(rfl : T55.heap = T55.heap)]; exact Ara58.1) (State.isArrayOf_alike hZ37.alike Ara58.2.1) (g := (mkF m 209 #[.val (.int p0), .val (.int p1), .val (.long p2), .second, .val (.long p3), .second, .val (.long p4), .second, .val (.int p5), .val (.int (1 : Int32)), .val (.int z0), .val (.int z1), .val (.int z2), .val (.long (((p1 &&& (1023 : Int32)) + (1 : Int32)).toInt64)), .second, .val (.long ((p2 &&& (1099511627775 : Int64)) + (1 : Int64))), .second, .val (.long ((p3 &&& (1099511627775 : Int64)) + (1 : Int64))), .second, .val (.long ((p4 &&& (1099511627775 : Int64)) + (1 : Int64))), .second, .val (.long ((1 : Int64) <<< (((p5 &&& (63 : Int32)) % (63 : Int32)) &&& 0x3f).toInt64)), .second, .val (.ref b32), .val (.ref u56), .unset] [(.ref u56)])) rfl rfl (hb hby at_209) _ ?_
      rw [len_of Sa58 Za58]
      show Steps p.tables e below (T55.setTop (mkF m 210 #[.val (.int p0), .val (.int p1), .val (.long p2), .second, .val (.long p3), .second, .val (.long p4), .second, .val (.int p5), .val (.int (1 : Int32)), .val (.int z0), .val (.int z1), .val (.int z2), .val (.long (((p1 &&& (1023 : Int32)) + (1 : Int32)).toInt64)), .second, .val (.long ((p2 &&& (1099511627775 : Int64)) + (1 : Int64))), .second, .val (.long ((p3 &&& (1099511627775 : Int64)) + (1 : Int64))), .second, .val (.long ((p4 &&& (1099511627775 : Int64)) + (1 : Int64))), .second, .val (.long ((1 : Int64) <<< (((p5 &&& (63 : Int32)) % (63 : Int32)) &&& 0x3f).toInt64)), .second, .val (.ref b32), .val (.ref u56), .unset] [(.int (1 : Int32))])) _
      refine XS.iload X55.here hx rfl (hb hby at_210) rfl ?_
      refine XS.icmpYes X55.here hx rfl (pc0 := 212) (pc' := 217) rfl (hb hby at_212) rfl (teq (by decide)).1 (by decide) (by decide) ?_
      refine XS.iconst X55.here hx rfl (hb hby at_217) ?_
      refine XS.istore X55.here hx rfl (hb hby at_218) rfl (l' := #[.val (.int p0), .val (.int p1), .val (.long p2), .second, .val (.long p3), .second, .val (.long p4), .second, .val (.int p5), .val (.int (1 : Int32)), .val (.int z0), .val (.int z1), .val (.int z2), .val (.long (((p1 &&& (1023 : Int32)) + (1 : Int32)).toInt64)), .second, .val (.long ((p2 &&& (1099511627775 : Int64)) + (1 : Int64))), .second, .val (.long ((p3 &&& (1099511627775 : Int64)) + (1 : Int64))), .second, .val (.long ((p4 &&& (1099511627775 : Int64)) + (1 : Int64))), .second, .val (.long ((1 : Int64) <<< (((p5 &&& (63 : Int32)) % (63 : Int32)) &&& 0x3f).toInt64)), .second, .val (.ref b32), .val (.ref u56), .val (.int (1 : Int32))]) rfl ?_
      refine XS.iload X55.here hx rfl (hb hby at_220) rfl ?_
      refine XS.ifNo X55.here hx rfl (hb hby at_222) rfl ((if0 _ _).trans (tlt (by decide)).2.2.2) ?_
      refine XS.iload X55.here hx rfl (hb hby at_225) rfl ?_
      refine XS.ifNo X55.here hx rfl (hb hby at_227) rfl ((if0 _ _).trans (feq (by decide)).1) ?_
      refine XS.aload X55.here hx rfl (hb hby at_230) rfl rfl ?_
      refine XS.iconst X55.here hx rfl (hb hby at_232) ?_
      show Steps p.tables e below (T55.setTop (mkF m 233 #[.val (.int p0), .val (.int p1), .val (.long p2), .second, .val (.long p3), .second, .val (.long p4), .second, .val (.int p5), .val (.int (1 : Int32)), .val (.int z0), .val (.int z1), .val (.int z2), .val (.long (((p1 &&& (1023 : Int32)) + (1 : Int32)).toInt64)), .second, .val (.long ((p2 &&& (1099511627775 : Int64)) + (1 : Int64))), .second, .val (.long ((p3 &&& (1099511627775 : Int64)) + (1 : Int64))), .second, .val (.long ((p4 &&& (1099511627775 : Int64)) + (1 : Int64))), .second, .val (.long ((1 : Int64) <<< (((p5 &&& (63 : Int32)) % (63 : Int32)) &&& 0x3f).toInt64)), .second, .val (.ref b32), .val (.ref u56), .val (.int (1 : Int32))] [(.int (0 : Int32)), (.ref u56)])) _
      refine X55.daload hx (j := (0 : Int32)) (v := (.double (FP.ddiv (FP.l2d ((((p1 &&& (1023 : Int32)) + (1 : Int32)).toInt64) * ((p2 &&& (1099511627775 : Int64)) + (1 : Int64)))) (FP.l2d ((1 : Int64) <<< (((p5 &&& (63 : Int32)) % (63 : Int32)) &&& 0x3f).toInt64))))) (by rw [(rfl : T55.heap = T55.heap)]; exact Ara58.1) (State.isArrayOf_alike hZ37.alike Ara58.2.1) Ara58.2.2 hin59 hat60 (g := (mkF m 233 #[.val (.int p0), .val (.int p1), .val (.long p2), .second, .val (.long p3), .second, .val (.long p4), .second, .val (.int p5), .val (.int (1 : Int32)), .val (.int z0), .val (.int z1), .val (.int z2), .val (.long (((p1 &&& (1023 : Int32)) + (1 : Int32)).toInt64)), .second, .val (.long ((p2 &&& (1099511627775 : Int64)) + (1 : Int64))), .second, .val (.long ((p3 &&& (1099511627775 : Int64)) + (1 : Int64))), .second, .val (.long ((p4 &&& (1099511627775 : Int64)) + (1 : Int64))), .second, .val (.long ((1 : Int64) <<< (((p5 &&& (63 : Int32)) % (63 : Int32)) &&& 0x3f).toInt64)), .second, .val (.ref b32), .val (.ref u56), .val (.int (1 : Int32))] [(.int (0 : Int32)), (.ref u56)])) rfl rfl (hb hby at_233) _ ?_
      refine XS.lload X55.here hx rfl (hb hby at_234) rfl ?_
      refine XS.lload X55.here hx rfl (hb hby at_236) rfl ?_
      refine XS.lload X55.here hx rfl (hb hby at_238) rfl ?_
      exact Steps.refl _
    obtain ⟨T62, L62, X62, e62, N62, st62⟩ := own_callP X55 hx hZ37 hown37 (wk129 hw) (wk130 hw) (wk131 hw) (wk132 hw) (by decide) (rmck l Z a0 hw [] (FP.ddiv (FP.l2d ((((p1 &&& (1023 : Int32)) + (1 : Int32)).toInt64) * ((p2 &&& (1099511627775 : Int64)) + (1 : Int64)))) (FP.l2d ((1 : Int64) <<< (((p5 &&& (63 : Int32)) % (63 : Int32)) &&& 0x3f).toInt64))) (((p1 &&& (1023 : Int32)) + (1 : Int32)).toInt64) ((p2 &&& (1099511627775 : Int64)) + (1 : Int64)) ((1 : Int64) <<< (((p5 &&& (63 : Int32)) % (63 : Int32)) &&& 0x3f).toInt64) T55.heap n0 O55 (own_pow ((((p1 &&& (1023 : Int32)) + (1 : Int32)).toInt64) * ((p2 &&& (1099511627775 : Int64)) + (1 : Int64))) ((1 : Int64) <<< (((p5 &&& (63 : Int32)) % (63 : Int32)) &&& 0x3f).toInt64) kk hkk hLL (own_mc (((p1 &&& (1023 : Int32)) + (1 : Int32)).toInt64) ((p2 &&& (1099511627775 : Int64)) + (1 : Int64)) (own_m p1).1 (own_m p1).2 (own_c p2).1 (own_c p2).2).2.1 (own_mc (((p1 &&& (1023 : Int32)) + (1 : Int32)).toInt64) ((p2 &&& (1099511627775 : Int64)) + (1 : Int64)) (own_m p1).1 (own_m p1).2 (own_c p2).1 (own_c p2).2).2.2)) (rfl : T55.heap = T55.heap) N55 (W := 0) (by decide) (by decide) (by decide) (by decide) (g := (mkF m 240 #[.val (.int p0), .val (.int p1), .val (.long p2), .second, .val (.long p3), .second, .val (.long p4), .second, .val (.int p5), .val (.int (1 : Int32)), .val (.int z0), .val (.int z1), .val (.int z2), .val (.long (((p1 &&& (1023 : Int32)) + (1 : Int32)).toInt64)), .second, .val (.long ((p2 &&& (1099511627775 : Int64)) + (1 : Int64))), .second, .val (.long ((p3 &&& (1099511627775 : Int64)) + (1 : Int64))), .second, .val (.long ((p4 &&& (1099511627775 : Int64)) + (1 : Int64))), .second, .val (.long ((1 : Int64) <<< (((p5 &&& (63 : Int32)) % (63 : Int32)) &&& 0x3f).toInt64)), .second, .val (.ref b32), .val (.ref u56), .val (.int (1 : Int32))] [(.long ((1 : Int64) <<< (((p5 &&& (63 : Int32)) % (63 : Int32)) &&& 0x3f).toInt64)), (.long ((p2 &&& (1099511627775 : Int64)) + (1 : Int64))), (.long (((p1 &&& (1023 : Int32)) + (1 : Int32)).toInt64)), (.double (FP.ddiv (FP.l2d ((((p1 &&& (1023 : Int32)) + (1 : Int32)).toInt64) * ((p2 &&& (1099511627775 : Int64)) + (1 : Int64)))) (FP.l2d ((1 : Int64) <<< (((p5 &&& (63 : Int32)) % (63 : Int32)) &&& 0x3f).toInt64))))])) rfl (by rw [hml]; rfl) (argsL := [(.double (FP.ddiv (FP.l2d ((((p1 &&& (1023 : Int32)) + (1 : Int32)).toInt64) * ((p2 &&& (1099511627775 : Int64)) + (1 : Int64)))) (FP.l2d ((1 : Int64) <<< (((p5 &&& (63 : Int32)) % (63 : Int32)) &&& 0x3f).toInt64)))), (.long (((p1 &&& (1023 : Int32)) + (1 : Int32)).toInt64)), (.long ((p2 &&& (1099511627775 : Int64)) + (1 : Int64))), (.long ((1 : Int64) <<< (((p5 &&& (63 : Int32)) % (63 : Int32)) &&& 0x3f).toInt64))]) (rest := []) (lenOf pd_rm0_4 rfl) rfl (by show 2 * 0 + _ ≤ _; exact Nat.le_of_eq rfl) (hb hby at_240)
    have s63 : Steps p.tables e below A₀ (T62.setTop (mkF m 323 #[.val (.int p0), .val (.int p1), .val (.long p2), .second, .val (.long p3), .second, .val (.long p4), .second, .val (.int p5), .val (.int (1 : Int32)), .val (.int z0), .val (.int z1), .val (.int z2), .val (.long (((p1 &&& (1023 : Int32)) + (1 : Int32)).toInt64)), .second, .val (.long ((p2 &&& (1099511627775 : Int64)) + (1 : Int64))), .second, .val (.long ((p3 &&& (1099511627775 : Int64)) + (1 : Int64))), .second, .val (.long ((p4 &&& (1099511627775 : Int64)) + (1 : Int64))), .second, .val (.long ((1 : Int64) <<< (((p5 &&& (63 : Int32)) % (63 : Int32)) &&& 0x3f).toInt64)), .second, .val (.ref b32), .val (.ref u56), .val (.int (1 : Int32))] [(.int (1 : Int32))])) := by
      refine s61.trans ?_
      show Steps p.tables e below (T55.setTop (mkF m 240 #[.val (.int p0), .val (.int p1), .val (.long p2), .second, .val (.long p3), .second, .val (.long p4), .second, .val (.int p5), .val (.int (1 : Int32)), .val (.int z0), .val (.int z1), .val (.int z2), .val (.long (((p1 &&& (1023 : Int32)) + (1 : Int32)).toInt64)), .second, .val (.long ((p2 &&& (1099511627775 : Int64)) + (1 : Int64))), .second, .val (.long ((p3 &&& (1099511627775 : Int64)) + (1 : Int64))), .second, .val (.long ((p4 &&& (1099511627775 : Int64)) + (1 : Int64))), .second, .val (.long ((1 : Int64) <<< (((p5 &&& (63 : Int32)) % (63 : Int32)) &&& 0x3f).toInt64)), .second, .val (.ref b32), .val (.ref u56), .val (.int (1 : Int32))] [(.long ((1 : Int64) <<< (((p5 &&& (63 : Int32)) % (63 : Int32)) &&& 0x3f).toInt64)), (.long ((p2 &&& (1099511627775 : Int64)) + (1 : Int64))), (.long (((p1 &&& (1023 : Int32)) + (1 : Int32)).toInt64)), (.double (FP.ddiv (FP.l2d ((((p1 &&& (1023 : Int32)) + (1 : Int32)).toInt64) * ((p2 &&& (1099511627775 : Int64)) + (1 : Int64)))) (FP.l2d ((1 : Int64) <<< (((p5 &&& (63 : Int32)) % (63 : Int32)) &&& 0x3f).toInt64))))])) _
      refine st62 _ ?_
      refine XS.ifNo X62.here hx rfl (hb hby at_243) rfl ((if0 _ _).trans (feq (by decide)).1) ?_
      refine XS.iconst X62.here hx rfl (hb hby at_246) ?_
      refine XS.goto X62.here hx rfl (pc0 := 247) (pc' := 251) rfl (hb hby at_247) (by decide) (by decide) ?_
      refine XS.istore X62.here hx rfl (hb hby at_251) rfl (l' := #[.val (.int p0), .val (.int p1), .val (.long p2), .second, .val (.long p3), .second, .val (.long p4), .second, .val (.int p5), .val (.int (1 : Int32)), .val (.int z0), .val (.int z1), .val (.int z2), .val (.long (((p1 &&& (1023 : Int32)) + (1 : Int32)).toInt64)), .second, .val (.long ((p2 &&& (1099511627775 : Int64)) + (1 : Int64))), .second, .val (.long ((p3 &&& (1099511627775 : Int64)) + (1 : Int64))), .second, .val (.long ((p4 &&& (1099511627775 : Int64)) + (1 : Int64))), .second, .val (.long ((1 : Int64) <<< (((p5 &&& (63 : Int32)) % (63 : Int32)) &&& 0x3f).toInt64)), .second, .val (.ref b32), .val (.ref u56), .val (.int (1 : Int32))]) rfl ?_
      refine XS.iload X62.here hx rfl (hb hby at_253) rfl ?_
      refine XS.iconst X62.here hx rfl (hb hby at_255) ?_
      refine XS.icmpYes X62.here hx rfl (pc0 := 256) (pc' := 287) rfl (hb hby at_256) rfl (flt (by decide)).2.2.2 (by decide) (by decide) ?_
      refine XS.iload X62.here hx rfl (hb hby at_287) rfl ?_
      refine XS.iconst X62.here hx rfl (hb hby at_289) ?_
      show Steps p.tables e below (T62.setTop (mkF m 290 #[.val (.int p0), .val (.int p1), .val (.long p2), .second, .val (.long p3), .second, .val (.long p4), .second, .val (.int p5), .val (.int (1 : Int32)), .val (.int z0), .val (.int z1), .val (.int z2), .val (.long (((p1 &&& (1023 : Int32)) + (1 : Int32)).toInt64)), .second, .val (.long ((p2 &&& (1099511627775 : Int64)) + (1 : Int64))), .second, .val (.long ((p3 &&& (1099511627775 : Int64)) + (1 : Int64))), .second, .val (.long ((p4 &&& (1099511627775 : Int64)) + (1 : Int64))), .second, .val (.long ((1 : Int64) <<< (((p5 &&& (63 : Int32)) % (63 : Int32)) &&& 0x3f).toInt64)), .second, .val (.ref b32), .val (.ref u56), .val (.int (1 : Int32))] [(.int (2 : Int32)), (.int (1 : Int32))])) _
      refine XS.icmpYes X62.here hx rfl (pc0 := 290) (pc' := 321) rfl (hb hby at_290) rfl (flt (by decide)).2.2.2 (by decide) (by decide) ?_
      refine XS.iload X62.here hx rfl (hb hby at_321) rfl ?_
      exact Steps.refl _
    subst hA₀
    obtain ⟨fs, hr, hrun, hended, -, hW, hIn, hsame⟩ := X62.leaveW hS37 (by rw [e62]; exact hkk55) (v := some (.int (1 : Int32))) (fun h => by rw [Bd.returns] at h; cases h)
    refine ⟨_, _, s63.trans ?_, hrun, hended, _, _, rfl, ?_, ⟨_, rfl⟩, hW, hIn, hsame.mono (by decide) (by decide)⟩
    · show Steps p.tables e below (T62.setTop (mkF m 323 #[.val (.int p0), .val (.int p1), .val (.long p2), .second, .val (.long p3), .second, .val (.long p4), .second, .val (.int p5), .val (.int (1 : Int32)), .val (.int z0), .val (.int z1), .val (.int z2), .val (.long (((p1 &&& (1023 : Int32)) + (1 : Int32)).toInt64)), .second, .val (.long ((p2 &&& (1099511627775 : Int64)) + (1 : Int64))), .second, .val (.long ((p3 &&& (1099511627775 : Int64)) + (1 : Int64))), .second, .val (.long ((p4 &&& (1099511627775 : Int64)) + (1 : Int64))), .second, .val (.long ((1 : Int64) <<< (((p5 &&& (63 : Int32)) % (63 : Int32)) &&& 0x3f).toInt64)), .second, .val (.ref b32), .val (.ref u56), .val (.int (1 : Int32))] [(.int (1 : Int32))])) _
      exact retN X62 hx (t := .boolean) Bd.returns (by simp) (hb hby at_323) hr
    · show Q0 Z p0 p1 p2 p3 p4 p5 dc kd h0 n0 _ T62.heap _
      rw [e62]
      exact ⟨rfl, N62⟩
  · have s64 := s1
    rw [hk2] at s64
    have s65 : Steps p.tables e below A₀ (s₁.setTop (mkF m 10 #[.val (.int p0), .val (.int p1), .val (.long p2), .second, .val (.long p3), .second, .val (.long p4), .second, .val (.int p5), .val (.int (2 : Int32)), .unset, .unset, .unset, .unset, .unset, .unset, .unset, .unset, .unset, .unset, .unset, .unset, .unset, .unset, .unset, .unset] [(.int ((p0 >>> ((2 : Int32) &&& 31)) &&& (1 : Int32)))])) := by
      refine s64.trans ?_
      refine XS.iloadN X0.here hx rfl (hb hby at_5) rfl ?_
      refine XS.iconst X0.here hx rfl (hb hby at_6) ?_
      refine XS.ishr X0.here hx rfl (hb hby at_7) rfl ?_
      refine XS.iconst X0.here hx rfl (hb hby at_8) ?_
      refine XS.iand X0.here hx rfl (hb hby at_9) rfl ?_
      exact Steps.refl _
    have s67 : Steps p.tables e below A₀ (s₁.setTop (mkF m 18 #[.val (.int p0), .val (.int p1), .val (.long p2), .second, .val (.long p3), .second, .val (.long p4), .second, .val (.int p5), .val (.int (2 : Int32)), .unset, .unset, .unset, .unset, .unset, .unset, .unset, .unset, .unset, .unset, .unset, .unset, .unset, .unset, .unset, .unset] [(.int (if ((p0 >>> ((2 : Int32) &&& 31)) &&& (1 : Int32)) = (0 : Int32) then (0 : Int32) else (1 : Int32)))])) := by
      by_cases hm66 : ((p0 >>> ((2 : Int32) &&& 31)) &&& (1 : Int32)) = (0 : Int32)
      · simp only [if_pos hm66]
        refine s65.trans ?_
        refine XS.ifYes X0.here hx rfl (pc0 := 10) (pc' := 17) rfl (hb hby at_10) rfl ((if0 _ _).trans (teq hm66).1) (by decide) (by decide) ?_
        refine XS.iconst X0.here hx rfl (hb hby at_17) ?_
        exact Steps.refl _
      · simp only [if_neg hm66]
        refine s65.trans ?_
        refine XS.ifNo X0.here hx rfl (hb hby at_10) rfl ((if0 _ _).trans (feq hm66).1) ?_
        refine XS.iconst X0.here hx rfl (hb hby at_13) ?_
        refine XS.goto X0.here hx rfl (pc0 := 14) (pc' := 18) rfl (hb hby at_14) (by decide) (by decide) ?_
        exact Steps.refl _
    obtain ⟨z0, hz0⟩ : ∃ z, z = (if ((p0 >>> ((2 : Int32) &&& 31)) &&& (1 : Int32)) = (0 : Int32) then (0 : Int32) else (1 : Int32)) := ⟨_, rfl⟩
    rw [← hz0] at s67
    have s68 : Steps p.tables e below A₀ (s₁.setTop (mkF m 25 #[.val (.int p0), .val (.int p1), .val (.long p2), .second, .val (.long p3), .second, .val (.long p4), .second, .val (.int p5), .val (.int (2 : Int32)), .val (.int z0), .unset, .unset, .unset, .unset, .unset, .unset, .unset, .unset, .unset, .unset, .unset, .unset, .unset, .unset, .unset] [(.int ((p0 >>> ((3 : Int32) &&& 31)) &&& (1 : Int32)))])) := by
      refine s67.trans ?_
      refine XS.istore X0.here hx rfl (hb hby at_18) rfl (l' := #[.val (.int p0), .val (.int p1), .val (.long p2), .second, .val (.long p3), .second, .val (.long p4), .second, .val (.int p5), .val (.int (2 : Int32)), .val (.int z0), .unset, .unset, .unset, .unset, .unset, .unset, .unset, .unset, .unset, .unset, .unset, .unset, .unset, .unset, .unset]) rfl ?_
      refine XS.iloadN X0.here hx rfl (hb hby at_20) rfl ?_
      refine XS.iconst X0.here hx rfl (hb hby at_21) ?_
      refine XS.ishr X0.here hx rfl (hb hby at_22) rfl ?_
      refine XS.iconst X0.here hx rfl (hb hby at_23) ?_
      refine XS.iand X0.here hx rfl (hb hby at_24) rfl ?_
      exact Steps.refl _
    have s70 : Steps p.tables e below A₀ (s₁.setTop (mkF m 33 #[.val (.int p0), .val (.int p1), .val (.long p2), .second, .val (.long p3), .second, .val (.long p4), .second, .val (.int p5), .val (.int (2 : Int32)), .val (.int z0), .unset, .unset, .unset, .unset, .unset, .unset, .unset, .unset, .unset, .unset, .unset, .unset, .unset, .unset, .unset] [(.int (if ((p0 >>> ((3 : Int32) &&& 31)) &&& (1 : Int32)) = (0 : Int32) then (0 : Int32) else (1 : Int32)))])) := by
      by_cases hm69 : ((p0 >>> ((3 : Int32) &&& 31)) &&& (1 : Int32)) = (0 : Int32)
      · simp only [if_pos hm69]
        refine s68.trans ?_
        refine XS.ifYes X0.here hx rfl (pc0 := 25) (pc' := 32) rfl (hb hby at_25) rfl ((if0 _ _).trans (teq hm69).1) (by decide) (by decide) ?_
        refine XS.iconst X0.here hx rfl (hb hby at_32) ?_
        exact Steps.refl _
      · simp only [if_neg hm69]
        refine s68.trans ?_
        refine XS.ifNo X0.here hx rfl (hb hby at_25) rfl ((if0 _ _).trans (feq hm69).1) ?_
        refine XS.iconst X0.here hx rfl (hb hby at_28) ?_
        refine XS.goto X0.here hx rfl (pc0 := 29) (pc' := 33) rfl (hb hby at_29) (by decide) (by decide) ?_
        exact Steps.refl _
    obtain ⟨z1, hz1⟩ : ∃ z, z = (if ((p0 >>> ((3 : Int32) &&& 31)) &&& (1 : Int32)) = (0 : Int32) then (0 : Int32) else (1 : Int32)) := ⟨_, rfl⟩
    rw [← hz1] at s70
    have s71 : Steps p.tables e below A₀ (s₁.setTop (mkF m 40 #[.val (.int p0), .val (.int p1), .val (.long p2), .second, .val (.long p3), .second, .val (.long p4), .second, .val (.int p5), .val (.int (2 : Int32)), .val (.int z0), .val (.int z1), .unset, .unset, .unset, .unset, .unset, .unset, .unset, .unset, .unset, .unset, .unset, .unset, .unset, .unset] [(.int ((p0 >>> ((4 : Int32) &&& 31)) &&& (1 : Int32)))])) := by
      refine s70.trans ?_
      refine XS.istore X0.here hx rfl (hb hby at_33) rfl (l' := #[.val (.int p0), .val (.int p1), .val (.long p2), .second, .val (.long p3), .second, .val (.long p4), .second, .val (.int p5), .val (.int (2 : Int32)), .val (.int z0), .val (.int z1), .unset, .unset, .unset, .unset, .unset, .unset, .unset, .unset, .unset, .unset, .unset, .unset, .unset, .unset]) rfl ?_
      refine XS.iloadN X0.here hx rfl (hb hby at_35) rfl ?_
      refine XS.iconst X0.here hx rfl (hb hby at_36) ?_
      refine XS.ishr X0.here hx rfl (hb hby at_37) rfl ?_
      refine XS.iconst X0.here hx rfl (hb hby at_38) ?_
      refine XS.iand X0.here hx rfl (hb hby at_39) rfl ?_
      exact Steps.refl _
    have s73 : Steps p.tables e below A₀ (s₁.setTop (mkF m 48 #[.val (.int p0), .val (.int p1), .val (.long p2), .second, .val (.long p3), .second, .val (.long p4), .second, .val (.int p5), .val (.int (2 : Int32)), .val (.int z0), .val (.int z1), .unset, .unset, .unset, .unset, .unset, .unset, .unset, .unset, .unset, .unset, .unset, .unset, .unset, .unset] [(.int (if ((p0 >>> ((4 : Int32) &&& 31)) &&& (1 : Int32)) = (0 : Int32) then (0 : Int32) else (1 : Int32)))])) := by
      by_cases hm72 : ((p0 >>> ((4 : Int32) &&& 31)) &&& (1 : Int32)) = (0 : Int32)
      · simp only [if_pos hm72]
        refine s71.trans ?_
        refine XS.ifYes X0.here hx rfl (pc0 := 40) (pc' := 47) rfl (hb hby at_40) rfl ((if0 _ _).trans (teq hm72).1) (by decide) (by decide) ?_
        refine XS.iconst X0.here hx rfl (hb hby at_47) ?_
        exact Steps.refl _
      · simp only [if_neg hm72]
        refine s71.trans ?_
        refine XS.ifNo X0.here hx rfl (hb hby at_40) rfl ((if0 _ _).trans (feq hm72).1) ?_
        refine XS.iconst X0.here hx rfl (hb hby at_43) ?_
        refine XS.goto X0.here hx rfl (pc0 := 44) (pc' := 48) rfl (hb hby at_44) (by decide) (by decide) ?_
        exact Steps.refl _
    obtain ⟨z2, hz2⟩ : ∃ z, z = (if ((p0 >>> ((4 : Int32) &&& 31)) &&& (1 : Int32)) = (0 : Int32) then (0 : Int32) else (1 : Int32)) := ⟨_, rfl⟩
    rw [← hz2] at s73
    obtain ⟨T74, h74, X74, e74, E74, A74, D74, -, st74⟩ := newO X0 hx hZ hown (hw _ (List.mem_of_getElem? (i := 1) rfl)) (hw _ (List.mem_of_getElem? (i := 2) rfl)) (hw _ (List.mem_of_getElem? (i := 3) rfl)) e0 (g := (mkF m 101 #[.val (.int p0), .val (.int p1), .val (.long p2), .second, .val (.long p3), .second, .val (.long p4), .second, .val (.int p5), .val (.int (2 : Int32)), .val (.int z0), .val (.int z1), .val (.int z2), .val (.long (((p1 &&& (1023 : Int32)) + (1 : Int32)).toInt64)), .second, .val (.long ((p2 &&& (1099511627775 : Int64)) + (1 : Int64))), .second, .val (.long ((p3 &&& (1099511627775 : Int64)) + (1 : Int64))), .second, .val (.long ((p4 &&& (1099511627775 : Int64)) + (1 : Int64))), .second, .val (.long ((1 : Int64) <<< (((p5 &&& (63 : Int32)) % (63 : Int32)) &&& 0x3f).toInt64)), .second, .unset, .unset, .unset] [])) rfl (hb hby at_101) (by decide) (by decide)
    obtain ⟨b74, g74⟩ : ∃ z, z = h0.size := ⟨_, rfl⟩
    rw [← g74] at A74 D74 st74
    have g_b74 : n0 ≤ b74 := Nat.le_trans (Nat.le_of_eq O0.1.symm) (Nat.le_trans O0.2.1 (Nat.le_of_eq g74.symm))
    have O74 := O0.ext E74
    have hkk74 := Nat.le_trans hk0 E74.1
    have F74_modCount : Fld Z h74 b74 "java/util/AbstractList" "modCount" "I" (.int (0 : Int32)) := D74 (Or.inl (hw _ (List.mem_of_getElem? (i := 23) rfl))) (ty := .int) (by decide)
    have F74_elementData : Fld Z h74 b74 "java/util/ArrayList" "elementData" "[Ljava/lang/Object;" .null := D74 (Or.inl (hw _ (List.mem_of_getElem? (i := 26) rfl))) (ty := (.array (.object "java/lang/Object"))) (by decide)
    have F74_size : Fld Z h74 b74 "java/util/ArrayList" "size" "I" (.int (0 : Int32)) := D74 (Or.inl (hw _ (List.mem_of_getElem? (i := 41) rfl))) (ty := .int) (by decide)
    have s75 : Steps p.tables e below A₀ (T74.setTop (mkF m 105 #[.val (.int p0), .val (.int p1), .val (.long p2), .second, .val (.long p3), .second, .val (.long p4), .second, .val (.int p5), .val (.int (2 : Int32)), .val (.int z0), .val (.int z1), .val (.int z2), .val (.long (((p1 &&& (1023 : Int32)) + (1 : Int32)).toInt64)), .second, .val (.long ((p2 &&& (1099511627775 : Int64)) + (1 : Int64))), .second, .val (.long ((p3 &&& (1099511627775 : Int64)) + (1 : Int64))), .second, .val (.long ((p4 &&& (1099511627775 : Int64)) + (1 : Int64))), .second, .val (.long ((1 : Int64) <<< (((p5 &&& (63 : Int32)) % (63 : Int32)) &&& 0x3f).toInt64)), .second, .unset, .unset, .unset] [(.ref b74), (.ref b74)])) := by
      refine s73.trans ?_
      refine XS.istore X0.here hx rfl (hb hby at_48) rfl (l' := #[.val (.int p0), .val (.int p1), .val (.long p2), .second, .val (.long p3), .second, .val (.long p4), .second, .val (.int p5), .val (.int (2 : Int32)), .val (.int z0), .val (.int z1), .val (.int z2), .unset, .unset, .unset, .unset, .unset, .unset, .unset, .unset, .unset, .unset, .unset, .unset, .unset]) rfl ?_
      refine XS.iloadN X0.here hx rfl (hb hby at_50) rfl ?_
      refine XS.sipush X0.here hx rfl (hb hby at_51) ?_
      refine XS.iand X0.here hx rfl (hb hby at_54) rfl ?_
      refine XS.iconst X0.here hx rfl (hb hby at_55) ?_
      refine XS.iadd X0.here hx rfl (hb hby at_56) rfl ?_
      refine XS.i2l X0.here hx rfl (hb hby at_57) rfl ?_
      refine XS.lstore X0.here hx rfl (hb hby at_58) rfl (l' := #[.val (.int p0), .val (.int p1), .val (.long p2), .second, .val (.long p3), .second, .val (.long p4), .second, .val (.int p5), .val (.int (2 : Int32)), .val (.int z0), .val (.int z1), .val (.int z2), .val (.long (((p1 &&& (1023 : Int32)) + (1 : Int32)).toInt64)), .second, .unset, .unset, .unset, .unset, .unset, .unset, .unset, .unset, .unset, .unset, .unset]) rfl ?_
      show Steps p.tables e below (s₁.setTop (mkF m 60 #[.val (.int p0), .val (.int p1), .val (.long p2), .second, .val (.long p3), .second, .val (.long p4), .second, .val (.int p5), .val (.int (2 : Int32)), .val (.int z0), .val (.int z1), .val (.int z2), .val (.long (((p1 &&& (1023 : Int32)) + (1 : Int32)).toInt64)), .second, .unset, .unset, .unset, .unset, .unset, .unset, .unset, .unset, .unset, .unset, .unset] [])) _
      refine XS.lloadN X0.here hx rfl (hb hby at_60) rfl ?_
      refine X0.ldc2Long hx hown (mvT hZ (hw _ (List.mem_of_getElem? (i := 0) rfl))) (g := (mkF m 61 #[.val (.int p0), .val (.int p1), .val (.long p2), .second, .val (.long p3), .second, .val (.long p4), .second, .val (.int p5), .val (.int (2 : Int32)), .val (.int z0), .val (.int z1), .val (.int z2), .val (.long (((p1 &&& (1023 : Int32)) + (1 : Int32)).toInt64)), .second, .unset, .unset, .unset, .unset, .unset, .unset, .unset, .unset, .unset, .unset, .unset] [(.long p2)])) rfl (hb hby at_61) _ ?_
      refine XS.land X0.here hx rfl (hb hby at_64) rfl ?_
      refine XS.lconst X0.here hx rfl (hb hby at_65) ?_
      refine XS.ladd X0.here hx rfl (hb hby at_66) rfl ?_
      refine XS.lstore X0.here hx rfl (hb hby at_67) rfl (l' := #[.val (.int p0), .val (.int p1), .val (.long p2), .second, .val (.long p3), .second, .val (.long p4), .second, .val (.int p5), .val (.int (2 : Int32)), .val (.int z0), .val (.int z1), .val (.int z2), .val (.long (((p1 &&& (1023 : Int32)) + (1 : Int32)).toInt64)), .second, .val (.long ((p2 &&& (1099511627775 : Int64)) + (1 : Int64))), .second, .unset, .unset, .unset, .unset, .unset, .unset, .unset, .unset, .unset]) rfl ?_
      refine XS.lload X0.here hx rfl (hb hby at_69) rfl ?_
      refine X0.ldc2Long hx hown (mvT hZ (hw _ (List.mem_of_getElem? (i := 0) rfl))) (g := (mkF m 71 #[.val (.int p0), .val (.int p1), .val (.long p2), .second, .val (.long p3), .second, .val (.long p4), .second, .val (.int p5), .val (.int (2 : Int32)), .val (.int z0), .val (.int z1), .val (.int z2), .val (.long (((p1 &&& (1023 : Int32)) + (1 : Int32)).toInt64)), .second, .val (.long ((p2 &&& (1099511627775 : Int64)) + (1 : Int64))), .second, .unset, .unset, .unset, .unset, .unset, .unset, .unset, .unset, .unset] [(.long p3)])) rfl (hb hby at_71) _ ?_
      refine XS.land X0.here hx rfl (hb hby at_74) rfl ?_
      refine XS.lconst X0.here hx rfl (hb hby at_75) ?_
      show Steps p.tables e below (s₁.setTop (mkF m 76 #[.val (.int p0), .val (.int p1), .val (.long p2), .second, .val (.long p3), .second, .val (.long p4), .second, .val (.int p5), .val (.int (2 : Int32)), .val (.int z0), .val (.int z1), .val (.int z2), .val (.long (((p1 &&& (1023 : Int32)) + (1 : Int32)).toInt64)), .second, .val (.long ((p2 &&& (1099511627775 : Int64)) + (1 : Int64))), .second, .unset, .unset, .unset, .unset, .unset, .unset, .unset, .unset, .unset] [(.long (1 : Int64)), (.long (p3 &&& (1099511627775 : Int64)))])) _
      refine XS.ladd X0.here hx rfl (hb hby at_76) rfl ?_
      refine XS.lstore X0.here hx rfl (hb hby at_77) rfl (l' := #[.val (.int p0), .val (.int p1), .val (.long p2), .second, .val (.long p3), .second, .val (.long p4), .second, .val (.int p5), .val (.int (2 : Int32)), .val (.int z0), .val (.int z1), .val (.int z2), .val (.long (((p1 &&& (1023 : Int32)) + (1 : Int32)).toInt64)), .second, .val (.long ((p2 &&& (1099511627775 : Int64)) + (1 : Int64))), .second, .val (.long ((p3 &&& (1099511627775 : Int64)) + (1 : Int64))), .second, .unset, .unset, .unset, .unset, .unset, .unset, .unset]) rfl ?_
      refine XS.lload X0.here hx rfl (hb hby at_79) rfl ?_
      refine X0.ldc2Long hx hown (mvT hZ (hw _ (List.mem_of_getElem? (i := 0) rfl))) (g := (mkF m 81 #[.val (.int p0), .val (.int p1), .val (.long p2), .second, .val (.long p3), .second, .val (.long p4), .second, .val (.int p5), .val (.int (2 : Int32)), .val (.int z0), .val (.int z1), .val (.int z2), .val (.long (((p1 &&& (1023 : Int32)) + (1 : Int32)).toInt64)), .second, .val (.long ((p2 &&& (1099511627775 : Int64)) + (1 : Int64))), .second, .val (.long ((p3 &&& (1099511627775 : Int64)) + (1 : Int64))), .second, .unset, .unset, .unset, .unset, .unset, .unset, .unset] [(.long p4)])) rfl (hb hby at_81) _ ?_
      refine XS.land X0.here hx rfl (hb hby at_84) rfl ?_
      refine XS.lconst X0.here hx rfl (hb hby at_85) ?_
      refine XS.ladd X0.here hx rfl (hb hby at_86) rfl ?_
      refine XS.lstore X0.here hx rfl (hb hby at_87) rfl (l' := #[.val (.int p0), .val (.int p1), .val (.long p2), .second, .val (.long p3), .second, .val (.long p4), .second, .val (.int p5), .val (.int (2 : Int32)), .val (.int z0), .val (.int z1), .val (.int z2), .val (.long (((p1 &&& (1023 : Int32)) + (1 : Int32)).toInt64)), .second, .val (.long ((p2 &&& (1099511627775 : Int64)) + (1 : Int64))), .second, .val (.long ((p3 &&& (1099511627775 : Int64)) + (1 : Int64))), .second, .val (.long ((p4 &&& (1099511627775 : Int64)) + (1 : Int64))), .second, .unset, .unset, .unset, .unset, .unset]) rfl ?_
      refine XS.lconst X0.here hx rfl (hb hby at_89) ?_
      refine XS.iload X0.here hx rfl (hb hby at_90) rfl ?_
      show Steps p.tables e below (s₁.setTop (mkF m 92 #[.val (.int p0), .val (.int p1), .val (.long p2), .second, .val (.long p3), .second, .val (.long p4), .second, .val (.int p5), .val (.int (2 : Int32)), .val (.int z0), .val (.int z1), .val (.int z2), .val (.long (((p1 &&& (1023 : Int32)) + (1 : Int32)).toInt64)), .second, .val (.long ((p2 &&& (1099511627775 : Int64)) + (1 : Int64))), .second, .val (.long ((p3 &&& (1099511627775 : Int64)) + (1 : Int64))), .second, .val (.long ((p4 &&& (1099511627775 : Int64)) + (1 : Int64))), .second, .unset, .unset, .unset, .unset, .unset] [(.int p5), (.long (1 : Int64))])) _
      refine XS.bipush X0.here hx rfl (hb hby at_92) ?_
      refine XS.iand X0.here hx rfl (hb hby at_94) rfl ?_
      refine XS.bipush X0.here hx rfl (hb hby at_95) ?_
      refine Jvm.RoadKit.iremM (g := (mkF m 97 #[.val (.int p0), .val (.int p1), .val (.long p2), .second, .val (.long p3), .second, .val (.long p4), .second, .val (.int p5), .val (.int (2 : Int32)), .val (.int z0), .val (.int z1), .val (.int z2), .val (.long (((p1 &&& (1023 : Int32)) + (1 : Int32)).toInt64)), .second, .val (.long ((p2 &&& (1099511627775 : Int64)) + (1 : Int64))), .second, .val (.long ((p3 &&& (1099511627775 : Int64)) + (1 : Int64))), .second, .val (.long ((p4 &&& (1099511627775 : Int64)) + (1 : Int64))), .second, .unset, .unset, .unset, .unset, .unset] [(.int (63 : Int32)), (.int (p5 &&& (63 : Int32))), (.long (1 : Int64))])) X0 hx rfl (hb hby at_97) rfl (by decide) ?_
      refine XS.lshl X0.here hx rfl (hb hby at_98) rfl ?_
      refine XS.lstore X0.here hx rfl (hb hby at_99) rfl (l' := #[.val (.int p0), .val (.int p1), .val (.long p2), .second, .val (.long p3), .second, .val (.long p4), .second, .val (.int p5), .val (.int (2 : Int32)), .val (.int z0), .val (.int z1), .val (.int z2), .val (.long (((p1 &&& (1023 : Int32)) + (1 : Int32)).toInt64)), .second, .val (.long ((p2 &&& (1099511627775 : Int64)) + (1 : Int64))), .second, .val (.long ((p3 &&& (1099511627775 : Int64)) + (1 : Int64))), .second, .val (.long ((p4 &&& (1099511627775 : Int64)) + (1 : Int64))), .second, .val (.long ((1 : Int64) <<< (((p5 &&& (63 : Int32)) % (63 : Int32)) &&& 0x3f).toInt64)), .second, .unset, .unset, .unset]) rfl ?_
      refine st74 _ ?_
      refine XS.dup X74.here hx rfl (hb hby at_104) rfl rfl ?_
      exact Steps.refl _
    obtain ⟨_, _, ⟨T76, L76, k76, n76⟩, -, X76, ⟨Lc76, hQ76, l76, y76, z76⟩, st76⟩ := X74.specialBack hx (y := (⟨"java/util/ArrayList", "<init>", "()V"⟩ : MethodName)) rfl hown (mvT hZ (hw _ (List.mem_of_getElem? (i := 4) rfl))) (mvT hZ (hw _ (List.mem_of_getElem? (i := 5) rfl))) (mvT hZ (hw _ (List.mem_of_getElem? (i := 6) rfl))) (by decide) (backOf (W := 1) (rmalin l Z a0 hw [] b74 dc h74 n0 O74 A74 F74_elementData F74_size F74_modCount g_b74 F0_) hZ (hw _ (List.mem_of_getElem? (i := 6) rfl)) (hw _ (List.mem_of_getElem? (i := 3) rfl)) (by decide) (by decide)) (g := (mkF m 105 #[.val (.int p0), .val (.int p1), .val (.long p2), .second, .val (.long p3), .second, .val (.long p4), .second, .val (.int p5), .val (.int (2 : Int32)), .val (.int z0), .val (.int z1), .val (.int z2), .val (.long (((p1 &&& (1023 : Int32)) + (1 : Int32)).toInt64)), .second, .val (.long ((p2 &&& (1099511627775 : Int64)) + (1 : Int64))), .second, .val (.long ((p3 &&& (1099511627775 : Int64)) + (1 : Int64))), .second, .val (.long ((p4 &&& (1099511627775 : Int64)) + (1 : Int64))), .second, .val (.long ((1 : Int64) <<< (((p5 &&& (63 : Int32)) % (63 : Int32)) &&& 0x3f).toInt64)), .second, .unset, .unset, .unset] [(.ref b74), (.ref b74)])) rfl (by rw [hml]; rfl) (Steps.refl _) (a := b74) (argsL := []) (rest := [(.ref b74)]) (lenOf pd_rm0_0 rfl) rfl (by show 2 * 0 + _ ≤ _; exact Nat.le_of_eq rfl) (hb hby at_105) (fun _ _ => ⟨rfl, e74, (by decide : 1 + 0 ≤ _), (by decide : 3 + 0 ≤ _)⟩)
    dsimp only [Pt.U, Pt.locs, Pt.cells, Pt.slots] at X76 l76 y76 z76 st76 hQ76
    subst l76 y76 z76
    obtain ⟨rfl, Nq76, Kc76, f76_0, f76_1, f76_2, f76_3⟩ := hQ76
    have N76 := Fr.app N0 Nq76
    have O76 := O74.keep Kc76 (allS g_b74 all0)
    have hkk76 := Nat.le_trans hkk74 Kc76.1
    obtain ⟨T77, h77, X77, e77, E77, A77, D77, -, st77⟩ := newO X76 hx hZ hown (hw _ (List.mem_of_getElem? (i := 43) rfl)) (hw _ (List.mem_of_getElem? (i := 44) rfl)) (hw _ (List.mem_of_getElem? (i := 45) rfl)) (rfl : T76.heap = T76.heap) (g := (mkF m 117 #[.val (.int p0), .val (.int p1), .val (.long p2), .second, .val (.long p3), .second, .val (.long p4), .second, .val (.int p5), .val (.int (2 : Int32)), .val (.int z0), .val (.int z1), .val (.int z2), .val (.long (((p1 &&& (1023 : Int32)) + (1 : Int32)).toInt64)), .second, .val (.long ((p2 &&& (1099511627775 : Int64)) + (1 : Int64))), .second, .val (.long ((p3 &&& (1099511627775 : Int64)) + (1 : Int64))), .second, .val (.long ((p4 &&& (1099511627775 : Int64)) + (1 : Int64))), .second, .val (.long ((1 : Int64) <<< (((p5 &&& (63 : Int32)) % (63 : Int32)) &&& 0x3f).toInt64)), .second, .val (.ref b74), .unset, .unset] [(.ref b74)])) rfl (hb hby at_117) (by decide) (by decide)
    obtain ⟨b77, g77⟩ : ∃ z, z = T76.heap.size := ⟨_, rfl⟩
    rw [← g77] at A77 D77 st77
    have ne_b74_b77 : b74 ≠ b77 := Nat.ne_of_lt (Nat.lt_of_lt_of_le f76_0.lt (Nat.le_of_eq g77.symm))
    have g_b77 : n0 ≤ b77 := Nat.le_trans (Nat.le_of_eq O76.1.symm) (Nat.le_trans O76.2.1 (Nat.le_of_eq g77.symm))
    have O77 := O76.ext E77
    have hkk77 := Nat.le_trans hkk76 E77.1
    have F77_stem : Fld Z h77 b77 "com/example/libprox/libprox/RankingModel$QueryTerm" "stem" "Ljava/lang/String;" .null := D77 (Or.inr (hw _ (List.mem_of_getElem? (i := 64) rfl))) (ty := (.object "java/lang/String")) (by decide)
    have F77_collectionFrequency : Fld Z h77 b77 "com/example/libprox/libprox/RankingModel$QueryTerm" "collectionFrequency" "J" (.long (0 : Int64)) := D77 (Or.inr (hw _ (List.mem_of_getElem? (i := 66) rfl))) (ty := .long) (by decide)
    have F77_stopWord : Fld Z h77 b77 "com/example/libprox/libprox/RankingModel$QueryTerm" "stopWord" "Z" (.int (0 : Int32)) := D77 (Or.inr (hw _ (List.mem_of_getElem? (i := 68) rfl))) (ty := .boolean) (by decide)
    have s78 : Steps p.tables e below A₀ (T77.setTop (mkF m 121 #[.val (.int p0), .val (.int p1), .val (.long p2), .second, .val (.long p3), .second, .val (.long p4), .second, .val (.int p5), .val (.int (2 : Int32)), .val (.int z0), .val (.int z1), .val (.int z2), .val (.long (((p1 &&& (1023 : Int32)) + (1 : Int32)).toInt64)), .second, .val (.long ((p2 &&& (1099511627775 : Int64)) + (1 : Int64))), .second, .val (.long ((p3 &&& (1099511627775 : Int64)) + (1 : Int64))), .second, .val (.long ((p4 &&& (1099511627775 : Int64)) + (1 : Int64))), .second, .val (.long ((1 : Int64) <<< (((p5 &&& (63 : Int32)) % (63 : Int32)) &&& 0x3f).toInt64)), .second, .val (.ref b74), .unset, .unset] [(.ref b77), (.ref b77), (.ref b74)])) := by
      refine s75.trans ?_
      show Steps p.tables e below (T74.setTop (mkF m 105 #[.val (.int p0), .val (.int p1), .val (.long p2), .second, .val (.long p3), .second, .val (.long p4), .second, .val (.int p5), .val (.int (2 : Int32)), .val (.int z0), .val (.int z1), .val (.int z2), .val (.long (((p1 &&& (1023 : Int32)) + (1 : Int32)).toInt64)), .second, .val (.long ((p2 &&& (1099511627775 : Int64)) + (1 : Int64))), .second, .val (.long ((p3 &&& (1099511627775 : Int64)) + (1 : Int64))), .second, .val (.long ((p4 &&& (1099511627775 : Int64)) + (1 : Int64))), .second, .val (.long ((1 : Int64) <<< (((p5 &&& (63 : Int32)) % (63 : Int32)) &&& 0x3f).toInt64)), .second, .unset, .unset, .unset] [(.ref b74), (.ref b74)])) _
      refine st76.trans ?_
      refine XS.astore X76.here hx rfl (hb hby at_108) rfl rfl (l' := #[.val (.int p0), .val (.int p1), .val (.long p2), .second, .val (.long p3), .second, .val (.long p4), .second, .val (.int p5), .val (.int (2 : Int32)), .val (.int z0), .val (.int z1), .val (.int z2), .val (.long (((p1 &&& (1023 : Int32)) + (1 : Int32)).toInt64)), .second, .val (.long ((p2 &&& (1099511627775 : Int64)) + (1 : Int64))), .second, .val (.long ((p3 &&& (1099511627775 : Int64)) + (1 : Int64))), .second, .val (.long ((p4 &&& (1099511627775 : Int64)) + (1 : Int64))), .second, .val (.long ((1 : Int64) <<< (((p5 &&& (63 : Int32)) % (63 : Int32)) &&& 0x3f).toInt64)), .second, .val (.ref b74), .unset, .unset]) rfl ?_
      refine XS.iload X76.here hx rfl (hb hby at_110) rfl ?_
      refine XS.ifNo X76.here hx rfl (hb hby at_112) rfl ((if0 _ _).trans (tlt (by decide)).2.2.2) ?_
      refine XS.aload X76.here hx rfl (hb hby at_115) rfl rfl ?_
      refine st77 _ ?_
      refine XS.dup X77.here hx rfl (hb hby at_120) rfl rfl ?_
      exact Steps.refl _
    obtain ⟨a79, T79, h79, k79, X79, e79, E79, hS79, hk79, hZ79, hown79, st79⟩ := ldcS X77 hx hZ hown (hw _ (List.mem_of_getElem? (i := 46) rfl)) (own_wS hw) e77 hS0 hkk77 (g := (mkF m 121 #[.val (.int p0), .val (.int p1), .val (.long p2), .second, .val (.long p3), .second, .val (.long p4), .second, .val (.int p5), .val (.int (2 : Int32)), .val (.int z0), .val (.int z1), .val (.int z2), .val (.long (((p1 &&& (1023 : Int32)) + (1 : Int32)).toInt64)), .second, .val (.long ((p2 &&& (1099511627775 : Int64)) + (1 : Int64))), .second, .val (.long ((p3 &&& (1099511627775 : Int64)) + (1 : Int64))), .second, .val (.long ((p4 &&& (1099511627775 : Int64)) + (1 : Int64))), .second, .val (.long ((1 : Int64) <<< (((p5 &&& (63 : Int32)) % (63 : Int32)) &&& 0x3f).toInt64)), .second, .val (.ref b74), .unset, .unset] [(.ref b77), (.ref b77), (.ref b74)])) rfl (hb hby at_121) (n := 4) (by decide) (by decide) (by decide) (by decide)
    have O79 := O77.ext E79
    have hkk79 := Nat.le_trans hkk77 E79.1
    have s80 : Steps p.tables e below A₀ (T79.setTop (mkF m 127 #[.val (.int p0), .val (.int p1), .val (.long p2), .second, .val (.long p3), .second, .val (.long p4), .second, .val (.int p5), .val (.int (2 : Int32)), .val (.int z0), .val (.int z1), .val (.int z2), .val (.long (((p1 &&& (1023 : Int32)) + (1 : Int32)).toInt64)), .second, .val (.long ((p2 &&& (1099511627775 : Int64)) + (1 : Int64))), .second, .val (.long ((p3 &&& (1099511627775 : Int64)) + (1 : Int64))), .second, .val (.long ((p4 &&& (1099511627775 : Int64)) + (1 : Int64))), .second, .val (.long ((1 : Int64) <<< (((p5 &&& (63 : Int32)) % (63 : Int32)) &&& 0x3f).toInt64)), .second, .val (.ref b74), .unset, .unset] [(.int z0), (.long ((p2 &&& (1099511627775 : Int64)) + (1 : Int64))), (.ref a79), (.ref b77), (.ref b77), (.ref b74)])) := by
      refine s78.trans ?_
      show Steps p.tables e below (T77.setTop (mkF m 121 #[.val (.int p0), .val (.int p1), .val (.long p2), .second, .val (.long p3), .second, .val (.long p4), .second, .val (.int p5), .val (.int (2 : Int32)), .val (.int z0), .val (.int z1), .val (.int z2), .val (.long (((p1 &&& (1023 : Int32)) + (1 : Int32)).toInt64)), .second, .val (.long ((p2 &&& (1099511627775 : Int64)) + (1 : Int64))), .second, .val (.long ((p3 &&& (1099511627775 : Int64)) + (1 : Int64))), .second, .val (.long ((p4 &&& (1099511627775 : Int64)) + (1 : Int64))), .second, .val (.long ((1 : Int64) <<< (((p5 &&& (63 : Int32)) % (63 : Int32)) &&& 0x3f).toInt64)), .second, .val (.ref b74), .unset, .unset] [(.ref b77), (.ref b77), (.ref b74)])) _
      refine st79 _ ?_
      refine XS.lload X79.here hx rfl (hb hby at_123) rfl ?_
      refine XS.iload X79.here hx rfl (hb hby at_125) rfl ?_
      exact Steps.refl _
    have c81 : Exa Z h79 b77 "com/example/libprox/libprox/RankingModel$QueryTerm" := (A77.ext E79)
    have c82 : Fld Z h79 b77 "com/example/libprox/libprox/RankingModel$QueryTerm" "stem" "Ljava/lang/String;" .null := (F77_stem.ext E79)
    have c83 : Fld Z h79 b77 "com/example/libprox/libprox/RankingModel$QueryTerm" "collectionFrequency" "J" (.long (0 : Int64)) := (F77_collectionFrequency.ext E79)
    have c84 : Fld Z h79 b77 "com/example/libprox/libprox/RankingModel$QueryTerm" "stopWord" "Z" (.int (0 : Int32)) := (F77_stopWord.ext E79)
    obtain ⟨_, _, ⟨T85, L85, k85, n85⟩, -, X85, ⟨Lc85, hQ85, l85, y85, z85⟩, st85⟩ := X79.specialBack hx (y := (⟨"com/example/libprox/libprox/RankingModel$QueryTerm", "<init>", "(Ljava/lang/String;JZ)V"⟩ : MethodName)) rfl hown79 (mvT hZ79 (hw _ (List.mem_of_getElem? (i := 54) rfl))) (mvT hZ79 (hw _ (List.mem_of_getElem? (i := 55) rfl))) (mvT hZ79 (hw _ (List.mem_of_getElem? (i := 56) rfl))) (by decide) (backOf (W := 2) (rmqi l Z a0 hw [] b77 a79 ((p2 &&& (1099511627775 : Int64)) + (1 : Int64)) z0 h79 n0 O79 c81 c82 c83 c84 g_b77) hZ79 (hw _ (List.mem_of_getElem? (i := 56) rfl)) (hw _ (List.mem_of_getElem? (i := 45) rfl)) (by decide) (by decide)) (g := (mkF m 127 #[.val (.int p0), .val (.int p1), .val (.long p2), .second, .val (.long p3), .second, .val (.long p4), .second, .val (.int p5), .val (.int (2 : Int32)), .val (.int z0), .val (.int z1), .val (.int z2), .val (.long (((p1 &&& (1023 : Int32)) + (1 : Int32)).toInt64)), .second, .val (.long ((p2 &&& (1099511627775 : Int64)) + (1 : Int64))), .second, .val (.long ((p3 &&& (1099511627775 : Int64)) + (1 : Int64))), .second, .val (.long ((p4 &&& (1099511627775 : Int64)) + (1 : Int64))), .second, .val (.long ((1 : Int64) <<< (((p5 &&& (63 : Int32)) % (63 : Int32)) &&& 0x3f).toInt64)), .second, .val (.ref b74), .unset, .unset] [(.int z0), (.long ((p2 &&& (1099511627775 : Int64)) + (1 : Int64))), (.ref a79), (.ref b77), (.ref b77), (.ref b74)])) rfl (by rw [hml]; rfl) (Steps.refl _) (a := b77) (argsL := [(.ref a79), (.long ((p2 &&& (1099511627775 : Int64)) + (1 : Int64))), (.int z0)]) (rest := [(.ref b77), (.ref b74)]) (lenOf pd_rm0_2 rfl) rfl (by show 2 * 0 + _ ≤ _; exact Nat.le_of_eq rfl) (hb hby at_127) (fun _ _ => ⟨rfl, e79, (by decide : 4 + 0 ≤ _), (by decide : 14 + 0 ≤ _)⟩)
    dsimp only [Pt.U, Pt.locs, Pt.cells, Pt.slots] at X85 l85 y85 z85 st85 hQ85
    subst l85 y85 z85
    obtain ⟨rfl, Nq85, Kc85, f85_0, f85_1⟩ := hQ85
    have N85 := Fr.app N76 Nq85
    have O85 := O79.keep Kc85 (allS g_b77 all0)
    have hkk85 := Nat.le_trans hk79 Kc85.1
    have s86 : Steps p.tables e below A₀ (T85.setTop (mkF m 130 #[.val (.int p0), .val (.int p1), .val (.long p2), .second, .val (.long p3), .second, .val (.long p4), .second, .val (.int p5), .val (.int (2 : Int32)), .val (.int z0), .val (.int z1), .val (.int z2), .val (.long (((p1 &&& (1023 : Int32)) + (1 : Int32)).toInt64)), .second, .val (.long ((p2 &&& (1099511627775 : Int64)) + (1 : Int64))), .second, .val (.long ((p3 &&& (1099511627775 : Int64)) + (1 : Int64))), .second, .val (.long ((p4 &&& (1099511627775 : Int64)) + (1 : Int64))), .second, .val (.long ((1 : Int64) <<< (((p5 &&& (63 : Int32)) % (63 : Int32)) &&& 0x3f).toInt64)), .second, .val (.ref b74), .unset, .unset] [(.ref b77), (.ref b74)])) := by
      refine s80.trans ?_
      show Steps p.tables e below (T79.setTop (mkF m 127 #[.val (.int p0), .val (.int p1), .val (.long p2), .second, .val (.long p3), .second, .val (.long p4), .second, .val (.int p5), .val (.int (2 : Int32)), .val (.int z0), .val (.int z1), .val (.int z2), .val (.long (((p1 &&& (1023 : Int32)) + (1 : Int32)).toInt64)), .second, .val (.long ((p2 &&& (1099511627775 : Int64)) + (1 : Int64))), .second, .val (.long ((p3 &&& (1099511627775 : Int64)) + (1 : Int64))), .second, .val (.long ((p4 &&& (1099511627775 : Int64)) + (1 : Int64))), .second, .val (.long ((1 : Int64) <<< (((p5 &&& (63 : Int32)) % (63 : Int32)) &&& 0x3f).toInt64)), .second, .val (.ref b74), .unset, .unset] [(.int z0), (.long ((p2 &&& (1099511627775 : Int64)) + (1 : Int64))), (.ref a79), (.ref b77), (.ref b77), (.ref b74)])) _
      refine st85.trans ?_
      exact Steps.refl _
    have c87 : Exa Z T85.heap b74 "java/util/ArrayList" := (((f76_0.ext E77).ext E79).keep Kc85)
    have c88 : Fld Z T85.heap b74 "java/util/ArrayList" "elementData" "[Ljava/lang/Object;" (.ref dc) := (((f76_1.ext E77).ext E79).keep Kc85 (ninS ne_b74_b77 nin0))
    have c89 : Fld Z T85.heap b74 "java/util/ArrayList" "size" "I" (.int (0 : Int32)) := (((f76_2.ext E77).ext E79).keep Kc85 (ninS ne_b74_b77 nin0))
    have c90 : Fld Z T85.heap b74 "java/util/AbstractList" "modCount" "I" (.int (0 : Int32)) := (((f76_3.ext E77).ext E79).keep Kc85 (ninS ne_b74_b77 nin0))
    obtain ⟨cq91, kq91, q91a, q91b, q91c⟩ := isOf hZ79 (rfl : T85.heap = T85.heap) c87
    obtain ⟨_, _, ⟨T91, L91, k91, n91⟩, -, X91, ⟨Lc91, hQ91, l91, y91, z91⟩, st91⟩ := X85.interfaceBack hx (xi := (⟨"java/util/List", "add", "(Ljava/lang/Object;)Z"⟩ : MethodName)) (y := (⟨"java/util/ArrayList", "add", "(Ljava/lang/Object;)Z"⟩ : MethodName)) hown79 (mvT hZ79 (hw _ (List.mem_of_getElem? (i := 69) rfl))) (mvT hZ79 (hw _ (List.mem_of_getElem? (i := 70) rfl))) (mvT hZ79 (hw _ (List.mem_of_getElem? (i := 71) rfl))) (mvT hZ79 (hw _ (List.mem_of_getElem? (i := 72) rfl))) (mvT hZ79 (hw _ (List.mem_of_getElem? (i := 73) rfl))) (mvT hZ79 (hw _ (List.mem_of_getElem? (i := 74) rfl))) (mvT hZ79 (hw _ (List.mem_of_getElem? (i := 75) rfl))) (mvT hZ79 (hw _ (List.mem_of_getElem? (i := 38) rfl))) (by decide) (backOf (W := 0) (rmala_0 l Z a0 hw [] b74 b77 dc kd (0 : Int32) T85.heap n0 O85 c87 c88 c89 c90 g_b74 F0_ F1_ f85_0) hZ79 (hw _ (List.mem_of_getElem? (i := 76) rfl)) (hw _ (List.mem_of_getElem? (i := 3) rfl)) (by decide) (by decide)) q91a q91b q91c (g := (mkF m 130 #[.val (.int p0), .val (.int p1), .val (.long p2), .second, .val (.long p3), .second, .val (.long p4), .second, .val (.int p5), .val (.int (2 : Int32)), .val (.int z0), .val (.int z1), .val (.int z2), .val (.long (((p1 &&& (1023 : Int32)) + (1 : Int32)).toInt64)), .second, .val (.long ((p2 &&& (1099511627775 : Int64)) + (1 : Int64))), .second, .val (.long ((p3 &&& (1099511627775 : Int64)) + (1 : Int64))), .second, .val (.long ((p4 &&& (1099511627775 : Int64)) + (1 : Int64))), .second, .val (.long ((1 : Int64) <<< (((p5 &&& (63 : Int32)) % (63 : Int32)) &&& 0x3f).toInt64)), .second, .val (.ref b74), .unset, .unset] [(.ref b77), (.ref b74)])) rfl (by rw [hml]; rfl) (Steps.refl _) (argsL := [(.ref b77)]) (rest := []) (lenOf pd_rm0_3 rfl) rfl (by show 2 * 0 + _ ≤ _; exact Nat.le_of_eq rfl) (hb hby at_130) (fun _ _ => ⟨rfl, (rfl : T85.heap = T85.heap), (by decide : 4 + 1 ≤ _), (by decide : 14 + 10 ≤ _)⟩)
    dsimp only [Pt.U, Pt.locs, Pt.cells, Pt.slots] at X91 l91 y91 z91 st91 hQ91
    subst l91 y91 z91
    obtain ⟨u92, u93, rfl, Nq91, Kc91, f91_0, f91_1, f91_2, f91_3, f91_4, f91_5, f91_6, f91_7⟩ := hQ91
    have N91 := Fr.app N85 Nq91
    have ne_b74_u92 : b74 ≠ u92 := Nat.ne_of_lt (Nat.lt_of_lt_of_le c87.lt f91_6)
    have ne_b77_u92 : b77 ≠ u92 := Nat.ne_of_lt (Nat.lt_of_lt_of_le f85_0.lt f91_6)
    have g_u92 : n0 ≤ u92 := Nat.le_trans (Nat.le_of_eq O85.1.symm) (Nat.le_trans O85.2.1 f91_6)
    have O91 := O85.keep Kc91 (allS g_b74 all0)
    have hkk91 := Nat.le_trans hkk85 Kc91.1
    obtain ⟨T94, h94, X94, e94, E94, A94, D94, -, st94⟩ := newO X91 hx hZ79 hown79 (hw _ (List.mem_of_getElem? (i := 43) rfl)) (hw _ (List.mem_of_getElem? (i := 44) rfl)) (hw _ (List.mem_of_getElem? (i := 45) rfl)) (rfl : T91.heap = T91.heap) (g := (mkF m 144 #[.val (.int p0), .val (.int p1), .val (.long p2), .second, .val (.long p3), .second, .val (.long p4), .second, .val (.int p5), .val (.int (2 : Int32)), .val (.int z0), .val (.int z1), .val (.int z2), .val (.long (((p1 &&& (1023 : Int32)) + (1 : Int32)).toInt64)), .second, .val (.long ((p2 &&& (1099511627775 : Int64)) + (1 : Int64))), .second, .val (.long ((p3 &&& (1099511627775 : Int64)) + (1 : Int64))), .second, .val (.long ((p4 &&& (1099511627775 : Int64)) + (1 : Int64))), .second, .val (.long ((1 : Int64) <<< (((p5 &&& (63 : Int32)) % (63 : Int32)) &&& 0x3f).toInt64)), .second, .val (.ref b74), .unset, .unset] [(.ref b74)])) rfl (hb hby at_144) (by decide) (by decide)
    obtain ⟨b94, g94⟩ : ∃ z, z = T91.heap.size := ⟨_, rfl⟩
    rw [← g94] at A94 D94 st94
    have ne_b74_b94 : b74 ≠ b94 := Nat.ne_of_lt (Nat.lt_of_lt_of_le f91_0.lt (Nat.le_of_eq g94.symm))
    have c95 : Exa Z T91.heap b77 "com/example/libprox/libprox/RankingModel$QueryTerm" := (f85_0.keep Kc91)
    have ne_b77_b94 : b77 ≠ b94 := Nat.ne_of_lt (Nat.lt_of_lt_of_le c95.lt (Nat.le_of_eq g94.symm))
    have ne_u92_b94 : u92 ≠ b94 := Nat.ne_of_lt (Nat.lt_of_lt_of_le f91_4.lt (Nat.le_of_eq g94.symm))
    have g_b94 : n0 ≤ b94 := Nat.le_trans (Nat.le_of_eq O91.1.symm) (Nat.le_trans O91.2.1 (Nat.le_of_eq g94.symm))
    have O94 := O91.ext E94
    have hkk94 := Nat.le_trans hkk91 E94.1
    have F94_stem : Fld Z h94 b94 "com/example/libprox/libprox/RankingModel$QueryTerm" "stem" "Ljava/lang/String;" .null := D94 (Or.inr (hw _ (List.mem_of_getElem? (i := 64) rfl))) (ty := (.object "java/lang/String")) (by decide)
    have F94_collectionFrequency : Fld Z h94 b94 "com/example/libprox/libprox/RankingModel$QueryTerm" "collectionFrequency" "J" (.long (0 : Int64)) := D94 (Or.inr (hw _ (List.mem_of_getElem? (i := 66) rfl))) (ty := .long) (by decide)
    have F94_stopWord : Fld Z h94 b94 "com/example/libprox/libprox/RankingModel$QueryTerm" "stopWord" "Z" (.int (0 : Int32)) := D94 (Or.inr (hw _ (List.mem_of_getElem? (i := 68) rfl))) (ty := .boolean) (by decide)
    have s96 : Steps p.tables e below A₀ (T94.setTop (mkF m 148 #[.val (.int p0), .val (.int p1), .val (.long p2), .second, .val (.long p3), .second, .val (.long p4), .second, .val (.int p5), .val (.int (2 : Int32)), .val (.int z0), .val (.int z1), .val (.int z2), .val (.long (((p1 &&& (1023 : Int32)) + (1 : Int32)).toInt64)), .second, .val (.long ((p2 &&& (1099511627775 : Int64)) + (1 : Int64))), .second, .val (.long ((p3 &&& (1099511627775 : Int64)) + (1 : Int64))), .second, .val (.long ((p4 &&& (1099511627775 : Int64)) + (1 : Int64))), .second, .val (.long ((1 : Int64) <<< (((p5 &&& (63 : Int32)) % (63 : Int32)) &&& 0x3f).toInt64)), .second, .val (.ref b74), .unset, .unset] [(.ref b94), (.ref b94), (.ref b74)])) := by
      refine s86.trans ?_
      show Steps p.tables e below (T85.setTop (mkF m 130 #[.val (.int p0), .val (.int p1), .val (.long p2), .second, .val (.long p3), .second, .val (.long p4), .second, .val (.int p5), .val (.int (2 : Int32)), .val (.int z0), .val (.int z1), .val (.int z2), .val (.long (((p1 &&& (1023 : Int32)) + (1 : Int32)).toInt64)), .second, .val (.long ((p2 &&& (1099511627775 : Int64)) + (1 : Int64))), .second, .val (.long ((p3 &&& (1099511627775 : Int64)) + (1 : Int64))), .second, .val (.long ((p4 &&& (1099511627775 : Int64)) + (1 : Int64))), .second, .val (.long ((1 : Int64) <<< (((p5 &&& (63 : Int32)) % (63 : Int32)) &&& 0x3f).toInt64)), .second, .val (.ref b74), .unset, .unset] [(.ref b77), (.ref b74)])) _
      refine st91.trans ?_
      refine XS.pop X91.here hx rfl (hb hby at_135) rfl rfl ?_
      refine XS.iload X91.here hx rfl (hb hby at_136) rfl ?_
      refine XS.iconst X91.here hx rfl (hb hby at_138) ?_
      refine XS.icmpNo X91.here hx rfl (hb hby at_139) rfl (tlt (by decide)).2.2.2 ?_
      refine XS.aload X91.here hx rfl (hb hby at_142) rfl rfl ?_
      refine st94 _ ?_
      refine XS.dup X94.here hx rfl (hb hby at_147) rfl rfl ?_
      exact Steps.refl _
    obtain ⟨a97, T97, h97, k97, X97, e97, E97, hS97, hk97, hZ97, hown97, st97⟩ := ldcS X94 hx hZ79 hown79 (hw _ (List.mem_of_getElem? (i := 133) rfl)) (own_wS hw) e94 hS79 hkk94 (g := (mkF m 148 #[.val (.int p0), .val (.int p1), .val (.long p2), .second, .val (.long p3), .second, .val (.long p4), .second, .val (.int p5), .val (.int (2 : Int32)), .val (.int z0), .val (.int z1), .val (.int z2), .val (.long (((p1 &&& (1023 : Int32)) + (1 : Int32)).toInt64)), .second, .val (.long ((p2 &&& (1099511627775 : Int64)) + (1 : Int64))), .second, .val (.long ((p3 &&& (1099511627775 : Int64)) + (1 : Int64))), .second, .val (.long ((p4 &&& (1099511627775 : Int64)) + (1 : Int64))), .second, .val (.long ((1 : Int64) <<< (((p5 &&& (63 : Int32)) % (63 : Int32)) &&& 0x3f).toInt64)), .second, .val (.ref b74), .unset, .unset] [(.ref b94), (.ref b94), (.ref b74)])) rfl (hb hby at_148) (n := 4) (by decide) (by decide) (by decide) (by decide)
    have O97 := O94.ext E97
    have hkk97 := Nat.le_trans hkk94 E97.1
    have s98 : Steps p.tables e below A₀ (T97.setTop (mkF m 154 #[.val (.int p0), .val (.int p1), .val (.long p2), .second, .val (.long p3), .second, .val (.long p4), .second, .val (.int p5), .val (.int (2 : Int32)), .val (.int z0), .val (.int z1), .val (.int z2), .val (.long (((p1 &&& (1023 : Int32)) + (1 : Int32)).toInt64)), .second, .val (.long ((p2 &&& (1099511627775 : Int64)) + (1 : Int64))), .second, .val (.long ((p3 &&& (1099511627775 : Int64)) + (1 : Int64))), .second, .val (.long ((p4 &&& (1099511627775 : Int64)) + (1 : Int64))), .second, .val (.long ((1 : Int64) <<< (((p5 &&& (63 : Int32)) % (63 : Int32)) &&& 0x3f).toInt64)), .second, .val (.ref b74), .unset, .unset] [(.int z1), (.long ((p3 &&& (1099511627775 : Int64)) + (1 : Int64))), (.ref a97), (.ref b94), (.ref b94), (.ref b74)])) := by
      refine s96.trans ?_
      show Steps p.tables e below (T94.setTop (mkF m 148 #[.val (.int p0), .val (.int p1), .val (.long p2), .second, .val (.long p3), .second, .val (.long p4), .second, .val (.int p5), .val (.int (2 : Int32)), .val (.int z0), .val (.int z1), .val (.int z2), .val (.long (((p1 &&& (1023 : Int32)) + (1 : Int32)).toInt64)), .second, .val (.long ((p2 &&& (1099511627775 : Int64)) + (1 : Int64))), .second, .val (.long ((p3 &&& (1099511627775 : Int64)) + (1 : Int64))), .second, .val (.long ((p4 &&& (1099511627775 : Int64)) + (1 : Int64))), .second, .val (.long ((1 : Int64) <<< (((p5 &&& (63 : Int32)) % (63 : Int32)) &&& 0x3f).toInt64)), .second, .val (.ref b74), .unset, .unset] [(.ref b94), (.ref b94), (.ref b74)])) _
      refine st97 _ ?_
      refine XS.lload X97.here hx rfl (hb hby at_150) rfl ?_
      refine XS.iload X97.here hx rfl (hb hby at_152) rfl ?_
      exact Steps.refl _
    have c99 : Exa Z h97 b94 "com/example/libprox/libprox/RankingModel$QueryTerm" := (A94.ext E97)
    have c100 : Fld Z h97 b94 "com/example/libprox/libprox/RankingModel$QueryTerm" "stem" "Ljava/lang/String;" .null := (F94_stem.ext E97)
    have c101 : Fld Z h97 b94 "com/example/libprox/libprox/RankingModel$QueryTerm" "collectionFrequency" "J" (.long (0 : Int64)) := (F94_collectionFrequency.ext E97)
    have c102 : Fld Z h97 b94 "com/example/libprox/libprox/RankingModel$QueryTerm" "stopWord" "Z" (.int (0 : Int32)) := (F94_stopWord.ext E97)
    obtain ⟨_, _, ⟨T103, L103, k103, n103⟩, -, X103, ⟨Lc103, hQ103, l103, y103, z103⟩, st103⟩ := X97.specialBack hx (y := (⟨"com/example/libprox/libprox/RankingModel$QueryTerm", "<init>", "(Ljava/lang/String;JZ)V"⟩ : MethodName)) rfl hown97 (mvT hZ97 (hw _ (List.mem_of_getElem? (i := 54) rfl))) (mvT hZ97 (hw _ (List.mem_of_getElem? (i := 55) rfl))) (mvT hZ97 (hw _ (List.mem_of_getElem? (i := 56) rfl))) (by decide) (backOf (W := 2) (rmqi l Z a0 hw [] b94 a97 ((p3 &&& (1099511627775 : Int64)) + (1 : Int64)) z1 h97 n0 O97 c99 c100 c101 c102 g_b94) hZ97 (hw _ (List.mem_of_getElem? (i := 56) rfl)) (hw _ (List.mem_of_getElem? (i := 45) rfl)) (by decide) (by decide)) (g := (mkF m 154 #[.val (.int p0), .val (.int p1), .val (.long p2), .second, .val (.long p3), .second, .val (.long p4), .second, .val (.int p5), .val (.int (2 : Int32)), .val (.int z0), .val (.int z1), .val (.int z2), .val (.long (((p1 &&& (1023 : Int32)) + (1 : Int32)).toInt64)), .second, .val (.long ((p2 &&& (1099511627775 : Int64)) + (1 : Int64))), .second, .val (.long ((p3 &&& (1099511627775 : Int64)) + (1 : Int64))), .second, .val (.long ((p4 &&& (1099511627775 : Int64)) + (1 : Int64))), .second, .val (.long ((1 : Int64) <<< (((p5 &&& (63 : Int32)) % (63 : Int32)) &&& 0x3f).toInt64)), .second, .val (.ref b74), .unset, .unset] [(.int z1), (.long ((p3 &&& (1099511627775 : Int64)) + (1 : Int64))), (.ref a97), (.ref b94), (.ref b94), (.ref b74)])) rfl (by rw [hml]; rfl) (Steps.refl _) (a := b94) (argsL := [(.ref a97), (.long ((p3 &&& (1099511627775 : Int64)) + (1 : Int64))), (.int z1)]) (rest := [(.ref b94), (.ref b74)]) (lenOf pd_rm0_2 rfl) rfl (by show 2 * 0 + _ ≤ _; exact Nat.le_of_eq rfl) (hb hby at_154) (fun _ _ => ⟨rfl, e97, (by decide : 8 + 0 ≤ _), (by decide : 35 + 0 ≤ _)⟩)
    dsimp only [Pt.U, Pt.locs, Pt.cells, Pt.slots] at X103 l103 y103 z103 st103 hQ103
    subst l103 y103 z103
    obtain ⟨rfl, Nq103, Kc103, f103_0, f103_1⟩ := hQ103
    have N103 := Fr.app N91 Nq103
    have O103 := O97.keep Kc103 (allS g_b94 all0)
    have hkk103 := Nat.le_trans hk97 Kc103.1
    have s104 : Steps p.tables e below A₀ (T103.setTop (mkF m 157 #[.val (.int p0), .val (.int p1), .val (.long p2), .second, .val (.long p3), .second, .val (.long p4), .second, .val (.int p5), .val (.int (2 : Int32)), .val (.int z0), .val (.int z1), .val (.int z2), .val (.long (((p1 &&& (1023 : Int32)) + (1 : Int32)).toInt64)), .second, .val (.long ((p2 &&& (1099511627775 : Int64)) + (1 : Int64))), .second, .val (.long ((p3 &&& (1099511627775 : Int64)) + (1 : Int64))), .second, .val (.long ((p4 &&& (1099511627775 : Int64)) + (1 : Int64))), .second, .val (.long ((1 : Int64) <<< (((p5 &&& (63 : Int32)) % (63 : Int32)) &&& 0x3f).toInt64)), .second, .val (.ref b74), .unset, .unset] [(.ref b94), (.ref b74)])) := by
      refine s98.trans ?_
      show Steps p.tables e below (T97.setTop (mkF m 154 #[.val (.int p0), .val (.int p1), .val (.long p2), .second, .val (.long p3), .second, .val (.long p4), .second, .val (.int p5), .val (.int (2 : Int32)), .val (.int z0), .val (.int z1), .val (.int z2), .val (.long (((p1 &&& (1023 : Int32)) + (1 : Int32)).toInt64)), .second, .val (.long ((p2 &&& (1099511627775 : Int64)) + (1 : Int64))), .second, .val (.long ((p3 &&& (1099511627775 : Int64)) + (1 : Int64))), .second, .val (.long ((p4 &&& (1099511627775 : Int64)) + (1 : Int64))), .second, .val (.long ((1 : Int64) <<< (((p5 &&& (63 : Int32)) % (63 : Int32)) &&& 0x3f).toInt64)), .second, .val (.ref b74), .unset, .unset] [(.int z1), (.long ((p3 &&& (1099511627775 : Int64)) + (1 : Int64))), (.ref a97), (.ref b94), (.ref b94), (.ref b74)])) _
      refine st103.trans ?_
      exact Steps.refl _
    have c105 : Exa Z T103.heap b74 "java/util/ArrayList" := (((f91_0.ext E94).ext E97).keep Kc103)
    have c106 : Fld Z T103.heap b74 "java/util/ArrayList" "elementData" "[Ljava/lang/Object;" (.ref u92) := (((f91_1.ext E94).ext E97).keep Kc103 (ninS ne_b74_b94 nin0))
    have c107 : Fld Z T103.heap b74 "java/util/ArrayList" "size" "I" (.int (1 : Int32)) := (((f91_2.ext E94).ext E97).keep Kc103 (ninS ne_b74_b94 nin0))
    have c108 : Fld Z T103.heap b74 "java/util/AbstractList" "modCount" "I" (.int ((0 : Int32) + (1 : Int32))) := (((f91_3.ext E94).ext E97).keep Kc103 (ninS ne_b74_b94 nin0))
    have c109 : Arv Z T103.heap u92 u93 (.object "java/lang/Object") (10 : Int32) [(.ref b77), .null, .null, .null, .null, .null, .null, .null, .null, .null] .null := (((f91_4.ext E94).ext E97).keep Kc103 (ninS ne_u92_b94 nin0))
    obtain ⟨cq110, kq110, q110a, q110b, q110c⟩ := isOf hZ97 (rfl : T103.heap = T103.heap) c105
    obtain ⟨_, _, ⟨T110, L110, k110, n110⟩, -, X110, ⟨Lc110, hQ110, l110, y110, z110⟩, st110⟩ := X103.interfaceBack hx (xi := (⟨"java/util/List", "add", "(Ljava/lang/Object;)Z"⟩ : MethodName)) (y := (⟨"java/util/ArrayList", "add", "(Ljava/lang/Object;)Z"⟩ : MethodName)) hown97 (mvT hZ97 (hw _ (List.mem_of_getElem? (i := 69) rfl))) (mvT hZ97 (hw _ (List.mem_of_getElem? (i := 70) rfl))) (mvT hZ97 (hw _ (List.mem_of_getElem? (i := 71) rfl))) (mvT hZ97 (hw _ (List.mem_of_getElem? (i := 72) rfl))) (mvT hZ97 (hw _ (List.mem_of_getElem? (i := 73) rfl))) (mvT hZ97 (hw _ (List.mem_of_getElem? (i := 74) rfl))) (mvT hZ97 (hw _ (List.mem_of_getElem? (i := 75) rfl))) (mvT hZ97 (hw _ (List.mem_of_getElem? (i := 38) rfl))) (by decide) (backOf (W := 0) (rmala_1 l Z a0 hw [] b74 b94 u92 b77 u93 ((0 : Int32) + (1 : Int32)) T103.heap n0 O103 c105 c106 c107 c108 c109 f91_5 g_b74 g_u92 f91_7 f103_0) hZ97 (hw _ (List.mem_of_getElem? (i := 76) rfl)) (hw _ (List.mem_of_getElem? (i := 3) rfl)) (by decide) (by decide)) q110a q110b q110c (g := (mkF m 157 #[.val (.int p0), .val (.int p1), .val (.long p2), .second, .val (.long p3), .second, .val (.long p4), .second, .val (.int p5), .val (.int (2 : Int32)), .val (.int z0), .val (.int z1), .val (.int z2), .val (.long (((p1 &&& (1023 : Int32)) + (1 : Int32)).toInt64)), .second, .val (.long ((p2 &&& (1099511627775 : Int64)) + (1 : Int64))), .second, .val (.long ((p3 &&& (1099511627775 : Int64)) + (1 : Int64))), .second, .val (.long ((p4 &&& (1099511627775 : Int64)) + (1 : Int64))), .second, .val (.long ((1 : Int64) <<< (((p5 &&& (63 : Int32)) % (63 : Int32)) &&& 0x3f).toInt64)), .second, .val (.ref b74), .unset, .unset] [(.ref b94), (.ref b74)])) rfl (by rw [hml]; rfl) (Steps.refl _) (argsL := [(.ref b94)]) (rest := []) (lenOf pd_rm0_3 rfl) rfl (by show 2 * 0 + _ ≤ _; exact Nat.le_of_eq rfl) (hb hby at_157) (fun _ _ => ⟨rfl, (rfl : T103.heap = T103.heap), (by decide : 8 + 0 ≤ _), (by decide : 35 + 0 ≤ _)⟩)
    dsimp only [Pt.U, Pt.locs, Pt.cells, Pt.slots] at X110 l110 y110 z110 st110 hQ110
    subst l110 y110 z110
    obtain ⟨rfl, Nq110, Kc110, f110_0, f110_1, f110_2, f110_3, f110_4⟩ := hQ110
    have N110 := Fr.app N103 Nq110
    have O110 := O103.keep Kc110 (allS g_b74 (allS g_u92 all0))
    have hkk110 := Nat.le_trans hkk103 Kc110.1
    have s111 : Steps p.tables e below A₀ (T110.setTop (mkF m 197 #[.val (.int p0), .val (.int p1), .val (.long p2), .second, .val (.long p3), .second, .val (.long p4), .second, .val (.int p5), .val (.int (2 : Int32)), .val (.int z0), .val (.int z1), .val (.int z2), .val (.long (((p1 &&& (1023 : Int32)) + (1 : Int32)).toInt64)), .second, .val (.long ((p2 &&& (1099511627775 : Int64)) + (1 : Int64))), .second, .val (.long ((p3 &&& (1099511627775 : Int64)) + (1 : Int64))), .second, .val (.long ((p4 &&& (1099511627775 : Int64)) + (1 : Int64))), .second, .val (.long ((1 : Int64) <<< (((p5 &&& (63 : Int32)) % (63 : Int32)) &&& 0x3f).toInt64)), .second, .val (.ref b74), .unset, .unset] [(.long ((1 : Int64) <<< (((p5 &&& (63 : Int32)) % (63 : Int32)) &&& 0x3f).toInt64)), (.ref b74), (.double (FP.l2d (((p1 &&& (1023 : Int32)) + (1 : Int32)).toInt64)))])) := by
      refine s104.trans ?_
      show Steps p.tables e below (T103.setTop (mkF m 157 #[.val (.int p0), .val (.int p1), .val (.long p2), .second, .val (.long p3), .second, .val (.long p4), .second, .val (.int p5), .val (.int (2 : Int32)), .val (.int z0), .val (.int z1), .val (.int z2), .val (.long (((p1 &&& (1023 : Int32)) + (1 : Int32)).toInt64)), .second, .val (.long ((p2 &&& (1099511627775 : Int64)) + (1 : Int64))), .second, .val (.long ((p3 &&& (1099511627775 : Int64)) + (1 : Int64))), .second, .val (.long ((p4 &&& (1099511627775 : Int64)) + (1 : Int64))), .second, .val (.long ((1 : Int64) <<< (((p5 &&& (63 : Int32)) % (63 : Int32)) &&& 0x3f).toInt64)), .second, .val (.ref b74), .unset, .unset] [(.ref b94), (.ref b74)])) _
      refine st110.trans ?_
      refine XS.pop X110.here hx rfl (hb hby at_162) rfl rfl ?_
      refine XS.iload X110.here hx rfl (hb hby at_163) rfl ?_
      refine XS.iconst X110.here hx rfl (hb hby at_165) ?_
      refine XS.icmpYes X110.here hx rfl (pc0 := 166) (pc' := 190) rfl (hb hby at_166) rfl (flt (by decide)).2.2.2 (by decide) (by decide) ?_
      refine XS.lload X110.here hx rfl (hb hby at_190) rfl ?_
      refine XS.l2dS X110.here hx rfl (hb hby at_192) rfl rfl ?_
      refine XS.aload X110.here hx rfl (hb hby at_193) rfl rfl ?_
      refine XS.lload X110.here hx rfl (hb hby at_195) rfl ?_
      exact Steps.refl _
    have c112 : Exa Z T110.heap b77 "com/example/libprox/libprox/RankingModel$QueryTerm" := ((((c95.ext E94).ext E97).keep Kc103).keep Kc110)
    have c113 : Fld Z T110.heap b77 "com/example/libprox/libprox/RankingModel$QueryTerm" "collectionFrequency" "J" (.long ((p2 &&& (1099511627775 : Int64)) + (1 : Int64))) := (((((f85_1.keep Kc91 (ninS (Ne.symm ne_b74_b77) nin0)).ext E94).ext E97).keep Kc103 (ninS ne_b77_b94 nin0)).keep Kc110 (ninS (Ne.symm ne_b74_b77) (ninS ne_b77_u92 nin0)))
    have c114 : Exa Z T110.heap b94 "com/example/libprox/libprox/RankingModel$QueryTerm" := (f103_0.keep Kc110)
    have c115 : Fld Z T110.heap b94 "com/example/libprox/libprox/RankingModel$QueryTerm" "collectionFrequency" "J" (.long ((p3 &&& (1099511627775 : Int64)) + (1 : Int64))) := (f103_1.keep Kc110 (ninS (Ne.symm ne_b74_b94) (ninS (Ne.symm ne_u92_b94) nin0)))
    obtain ⟨_, _, ⟨T116, L116, k116, n116⟩, -, X116, ⟨Lc116, hQ116, l116, y116, z116⟩, st116⟩ := Jvm.LawKit.callS X110 hx (y := (⟨"com/example/libprox/libprox/Kld", "priors", "(DLjava/util/List;J)[D"⟩ : MethodName)) hown97 (mvT hZ97 (hw _ (List.mem_of_getElem? (i := 27) rfl))) (mvT hZ97 (hw _ (List.mem_of_getElem? (i := 28) rfl))) (mvT hZ97 (hw _ (List.mem_of_getElem? (i := 29) rfl))) (mvT hZ97 (hw _ (List.mem_of_getElem? (i := 30) rfl))) (by decide) (backOf (W := 0) (rmpri_2 l Z a0 hw [] (FP.l2d (((p1 &&& (1023 : Int32)) + (1 : Int32)).toInt64)) b74 ((1 : Int64) <<< (((p5 &&& (63 : Int32)) % (63 : Int32)) &&& 0x3f).toInt64) u92 u93 b77 b94 ((p2 &&& (1099511627775 : Int64)) + (1 : Int64)) ((p3 &&& (1099511627775 : Int64)) + (1 : Int64)) ((((p1 &&& (1023 : Int32)) + (1 : Int32)).toInt64) * ((p2 &&& (1099511627775 : Int64)) + (1 : Int64))) ((((p1 &&& (1023 : Int32)) + (1 : Int32)).toInt64) * ((p3 &&& (1099511627775 : Int64)) + (1 : Int64))) T110.heap n0 O110 f110_0 f110_2 f110_1 f110_4 c112 c113 c114 c115 (own_mc (((p1 &&& (1023 : Int32)) + (1 : Int32)).toInt64) ((p2 &&& (1099511627775 : Int64)) + (1 : Int64)) (own_m p1).1 (own_m p1).2 (own_c p2).1 (own_c p2).2).1 (own_nz ((1 : Int64) <<< (((p5 &&& (63 : Int32)) % (63 : Int32)) &&& 0x3f).toInt64) kk hLL ((((p1 &&& (1023 : Int32)) + (1 : Int32)).toInt64) * ((p2 &&& (1099511627775 : Int64)) + (1 : Int64)))) (own_mc (((p1 &&& (1023 : Int32)) + (1 : Int32)).toInt64) ((p3 &&& (1099511627775 : Int64)) + (1 : Int64)) (own_m p1).1 (own_m p1).2 (own_c p3).1 (own_c p3).2).1 (own_nz ((1 : Int64) <<< (((p5 &&& (63 : Int32)) % (63 : Int32)) &&& 0x3f).toInt64) kk hLL ((((p1 &&& (1023 : Int32)) + (1 : Int32)).toInt64) * ((p3 &&& (1099511627775 : Int64)) + (1 : Int64))))) hZ97 (hw _ (List.mem_of_getElem? (i := 30) rfl)) (hw _ (List.mem_of_getElem? (i := 29) rfl)) (by decide) (by decide)) (g := (mkF m 197 #[.val (.int p0), .val (.int p1), .val (.long p2), .second, .val (.long p3), .second, .val (.long p4), .second, .val (.int p5), .val (.int (2 : Int32)), .val (.int z0), .val (.int z1), .val (.int z2), .val (.long (((p1 &&& (1023 : Int32)) + (1 : Int32)).toInt64)), .second, .val (.long ((p2 &&& (1099511627775 : Int64)) + (1 : Int64))), .second, .val (.long ((p3 &&& (1099511627775 : Int64)) + (1 : Int64))), .second, .val (.long ((p4 &&& (1099511627775 : Int64)) + (1 : Int64))), .second, .val (.long ((1 : Int64) <<< (((p5 &&& (63 : Int32)) % (63 : Int32)) &&& 0x3f).toInt64)), .second, .val (.ref b74), .unset, .unset] [(.long ((1 : Int64) <<< (((p5 &&& (63 : Int32)) % (63 : Int32)) &&& 0x3f).toInt64)), (.ref b74), (.double (FP.l2d (((p1 &&& (1023 : Int32)) + (1 : Int32)).toInt64)))])) rfl (by rw [hml]; rfl) (argsL := [(.double (FP.l2d (((p1 &&& (1023 : Int32)) + (1 : Int32)).toInt64))), (.ref b74), (.long ((1 : Int64) <<< (((p5 &&& (63 : Int32)) % (63 : Int32)) &&& 0x3f).toInt64))]) (rest := []) (lenOf pd_rm0_1 rfl) rfl (by show 2 * 0 + _ ≤ _; exact Nat.le_of_eq rfl) (hb hby at_197) (fun _ _ => ⟨rfl, (rfl : T110.heap = T110.heap), (by decide : 8 + 1 ≤ _), (by decide : 35 + 2 ≤ _)⟩)
    dsimp only [Pt.U, Pt.locs, Pt.cells, Pt.slots] at X116 l116 y116 z116 st116 hQ116
    subst l116 y116 z116
    obtain ⟨u117, u118, rfl, Nq116, Kc116, f116_0, f116_1⟩ := hQ116
    have N116 := Fr.app N110 Nq116
    have ne_b74_u117 : b74 ≠ u117 := Nat.ne_of_lt (Nat.lt_of_lt_of_le f110_0.lt f116_1)
    have ne_b77_u117 : b77 ≠ u117 := Nat.ne_of_lt (Nat.lt_of_lt_of_le c112.lt f116_1)
    have ne_u92_u117 : u92 ≠ u117 := Nat.ne_of_lt (Nat.lt_of_lt_of_le f110_4.lt f116_1)
    have ne_b94_u117 : b94 ≠ u117 := Nat.ne_of_lt (Nat.lt_of_lt_of_le c114.lt f116_1)
    have g_u117 : n0 ≤ u117 := Nat.le_trans (Nat.le_of_eq O110.1.symm) (Nat.le_trans O110.2.1 f116_1)
    have O116 := O110.keep Kc116 all0
    have hkk116 := Nat.le_trans hkk110 Kc116.1
    obtain ⟨cla119, Ara119, qa119, Sa119, Za119, Ha119, Ga119⟩ := id f116_0
    have hin120 : ¬ ((0 : Int32) < 0 ∨ cla119.slots.size ≤ ((0 : Int32)).toNatClampNeg) := inb_of Sa119 ⟨by decide, by decide⟩
    have hat121 : cla119.slots[((0 : Int32)).toNatClampNeg]? = some (.double (FP.ddiv (FP.l2d ((((p1 &&& (1023 : Int32)) + (1 : Int32)).toInt64) * ((p2 &&& (1099511627775 : Int64)) + (1 : Int64)))) (FP.l2d ((1 : Int64) <<< (((p5 &&& (63 : Int32)) % (63 : Int32)) &&& 0x3f).toInt64)))) := Has.at Ha119 hin120 rfl
    have s122 : Steps p.tables e below A₀ (T116.setTop (mkF m 240 #[.val (.int p0), .val (.int p1), .val (.long p2), .second, .val (.long p3), .second, .val (.long p4), .second, .val (.int p5), .val (.int (2 : Int32)), .val (.int z0), .val (.int z1), .val (.int z2), .val (.long (((p1 &&& (1023 : Int32)) + (1 : Int32)).toInt64)), .second, .val (.long ((p2 &&& (1099511627775 : Int64)) + (1 : Int64))), .second, .val (.long ((p3 &&& (1099511627775 : Int64)) + (1 : Int64))), .second, .val (.long ((p4 &&& (1099511627775 : Int64)) + (1 : Int64))), .second, .val (.long ((1 : Int64) <<< (((p5 &&& (63 : Int32)) % (63 : Int32)) &&& 0x3f).toInt64)), .second, .val (.ref b74), .val (.ref u117), .val (.int (1 : Int32))] [(.long ((1 : Int64) <<< (((p5 &&& (63 : Int32)) % (63 : Int32)) &&& 0x3f).toInt64)), (.long ((p2 &&& (1099511627775 : Int64)) + (1 : Int64))), (.long (((p1 &&& (1023 : Int32)) + (1 : Int32)).toInt64)), (.double (FP.ddiv (FP.l2d ((((p1 &&& (1023 : Int32)) + (1 : Int32)).toInt64) * ((p2 &&& (1099511627775 : Int64)) + (1 : Int64)))) (FP.l2d ((1 : Int64) <<< (((p5 &&& (63 : Int32)) % (63 : Int32)) &&& 0x3f).toInt64))))])) := by
      refine s111.trans ?_
      show Steps p.tables e below (T110.setTop (mkF m 197 #[.val (.int p0), .val (.int p1), .val (.long p2), .second, .val (.long p3), .second, .val (.long p4), .second, .val (.int p5), .val (.int (2 : Int32)), .val (.int z0), .val (.int z1), .val (.int z2), .val (.long (((p1 &&& (1023 : Int32)) + (1 : Int32)).toInt64)), .second, .val (.long ((p2 &&& (1099511627775 : Int64)) + (1 : Int64))), .second, .val (.long ((p3 &&& (1099511627775 : Int64)) + (1 : Int64))), .second, .val (.long ((p4 &&& (1099511627775 : Int64)) + (1 : Int64))), .second, .val (.long ((1 : Int64) <<< (((p5 &&& (63 : Int32)) % (63 : Int32)) &&& 0x3f).toInt64)), .second, .val (.ref b74), .unset, .unset] [(.long ((1 : Int64) <<< (((p5 &&& (63 : Int32)) % (63 : Int32)) &&& 0x3f).toInt64)), (.ref b74), (.double (FP.l2d (((p1 &&& (1023 : Int32)) + (1 : Int32)).toInt64)))])) _
      refine st116 _ ?_
      refine XS.astore X116.here hx rfl (hb hby at_200) rfl rfl (l' := #[.val (.int p0), .val (.int p1), .val (.long p2), .second, .val (.long p3), .second, .val (.long p4), .second, .val (.int p5), .val (.int (2 : Int32)), .val (.int z0), .val (.int z1), .val (.int z2), .val (.long (((p1 &&& (1023 : Int32)) + (1 : Int32)).toInt64)), .second, .val (.long ((p2 &&& (1099511627775 : Int64)) + (1 : Int64))), .second, .val (.long ((p3 &&& (1099511627775 : Int64)) + (1 : Int64))), .second, .val (.long ((p4 &&& (1099511627775 : Int64)) + (1 : Int64))), .second, .val (.long ((1 : Int64) <<< (((p5 &&& (63 : Int32)) % (63 : Int32)) &&& 0x3f).toInt64)), .second, .val (.ref b74), .val (.ref u117), .unset]) rfl ?_
      refine XS.aload X116.here hx rfl (hb hby at_202) rfl rfl ?_
      refine XS.ifnullNo X116.here hx rfl (hb hby at_204) rfl ?_
      refine XS.aload X116.here hx rfl (hb hby at_207) rfl rfl ?_
      refine X116.arraylength hx (by rw [(rfl : T116.heap = T116.heap)]; exact Ara119.1) (State.isArrayOf_alike hZ97.alike Ara119.2.1) (g := (mkF m 209 #[.val (.int p0), .val (.int p1), .val (.long p2), .second, .val (.long p3), .second, .val (.long p4), .second, .val (.int p5), .val (.int (2 : Int32)), .val (.int z0), .val (.int z1), .val (.int z2), .val (.long (((p1 &&& (1023 : Int32)) + (1 : Int32)).toInt64)), .second, .val (.long ((p2 &&& (1099511627775 : Int64)) + (1 : Int64))), .second, .val (.long ((p3 &&& (1099511627775 : Int64)) + (1 : Int64))), .second, .val (.long ((p4 &&& (1099511627775 : Int64)) + (1 : Int64))), .second, .val (.long ((1 : Int64) <<< (((p5 &&& (63 : Int32)) % (63 : Int32)) &&& 0x3f).toInt64)), .second, .val (.ref b74), .val (.ref u117), .unset] [(.ref u117)])) rfl rfl (hb hby at_209) _ ?_
      rw [len_of Sa119 Za119]
      show Steps p.tables e below (T116.setTop (mkF m 210 #[.val (.int p0), .val (.int p1), .val (.long p2), .second, .val (.long p3), .second, .val (.long p4), .second, .val (.int p5), .val (.int (2 : Int32)), .val (.int z0), .val (.int z1), .val (.int z2), .val (.long (((p1 &&& (1023 : Int32)) + (1 : Int32)).toInt64)), .second, .val (.long ((p2 &&& (1099511627775 : Int64)) + (1 : Int64))), .second, .val (.long ((p3 &&& (1099511627775 : Int64)) + (1 : Int64))), .second, .val (.long ((p4 &&& (1099511627775 : Int64)) + (1 : Int64))), .second, .val (.long ((1 : Int64) <<< (((p5 &&& (63 : Int32)) % (63 : Int32)) &&& 0x3f).toInt64)), .second, .val (.ref b74), .val (.ref u117), .unset] [(.int (2 : Int32))])) _
      refine XS.iload X116.here hx rfl (hb hby at_210) rfl ?_
      refine XS.icmpYes X116.here hx rfl (pc0 := 212) (pc' := 217) rfl (hb hby at_212) rfl (teq (by decide)).1 (by decide) (by decide) ?_
      refine XS.iconst X116.here hx rfl (hb hby at_217) ?_
      refine XS.istore X116.here hx rfl (hb hby at_218) rfl (l' := #[.val (.int p0), .val (.int p1), .val (.long p2), .second, .val (.long p3), .second, .val (.long p4), .second, .val (.int p5), .val (.int (2 : Int32)), .val (.int z0), .val (.int z1), .val (.int z2), .val (.long (((p1 &&& (1023 : Int32)) + (1 : Int32)).toInt64)), .second, .val (.long ((p2 &&& (1099511627775 : Int64)) + (1 : Int64))), .second, .val (.long ((p3 &&& (1099511627775 : Int64)) + (1 : Int64))), .second, .val (.long ((p4 &&& (1099511627775 : Int64)) + (1 : Int64))), .second, .val (.long ((1 : Int64) <<< (((p5 &&& (63 : Int32)) % (63 : Int32)) &&& 0x3f).toInt64)), .second, .val (.ref b74), .val (.ref u117), .val (.int (1 : Int32))]) rfl ?_
      refine XS.iload X116.here hx rfl (hb hby at_220) rfl ?_
      refine XS.ifNo X116.here hx rfl (hb hby at_222) rfl ((if0 _ _).trans (tlt (by decide)).2.2.2) ?_
      refine XS.iload X116.here hx rfl (hb hby at_225) rfl ?_
      refine XS.ifNo X116.here hx rfl (hb hby at_227) rfl ((if0 _ _).trans (feq (by decide)).1) ?_
      refine XS.aload X116.here hx rfl (hb hby at_230) rfl rfl ?_
      refine XS.iconst X116.here hx rfl (hb hby at_232) ?_
      show Steps p.tables e below (T116.setTop (mkF m 233 #[.val (.int p0), .val (.int p1), .val (.long p2), .second, .val (.long p3), .second, .val (.long p4), .second, .val (.int p5), .val (.int (2 : Int32)), .val (.int z0), .val (.int z1), .val (.int z2), .val (.long (((p1 &&& (1023 : Int32)) + (1 : Int32)).toInt64)), .second, .val (.long ((p2 &&& (1099511627775 : Int64)) + (1 : Int64))), .second, .val (.long ((p3 &&& (1099511627775 : Int64)) + (1 : Int64))), .second, .val (.long ((p4 &&& (1099511627775 : Int64)) + (1 : Int64))), .second, .val (.long ((1 : Int64) <<< (((p5 &&& (63 : Int32)) % (63 : Int32)) &&& 0x3f).toInt64)), .second, .val (.ref b74), .val (.ref u117), .val (.int (1 : Int32))] [(.int (0 : Int32)), (.ref u117)])) _
      refine X116.daload hx (j := (0 : Int32)) (v := (.double (FP.ddiv (FP.l2d ((((p1 &&& (1023 : Int32)) + (1 : Int32)).toInt64) * ((p2 &&& (1099511627775 : Int64)) + (1 : Int64)))) (FP.l2d ((1 : Int64) <<< (((p5 &&& (63 : Int32)) % (63 : Int32)) &&& 0x3f).toInt64))))) (by rw [(rfl : T116.heap = T116.heap)]; exact Ara119.1) (State.isArrayOf_alike hZ97.alike Ara119.2.1) Ara119.2.2 hin120 hat121 (g := (mkF m 233 #[.val (.int p0), .val (.int p1), .val (.long p2), .second, .val (.long p3), .second, .val (.long p4), .second, .val (.int p5), .val (.int (2 : Int32)), .val (.int z0), .val (.int z1), .val (.int z2), .val (.long (((p1 &&& (1023 : Int32)) + (1 : Int32)).toInt64)), .second, .val (.long ((p2 &&& (1099511627775 : Int64)) + (1 : Int64))), .second, .val (.long ((p3 &&& (1099511627775 : Int64)) + (1 : Int64))), .second, .val (.long ((p4 &&& (1099511627775 : Int64)) + (1 : Int64))), .second, .val (.long ((1 : Int64) <<< (((p5 &&& (63 : Int32)) % (63 : Int32)) &&& 0x3f).toInt64)), .second, .val (.ref b74), .val (.ref u117), .val (.int (1 : Int32))] [(.int (0 : Int32)), (.ref u117)])) rfl rfl (hb hby at_233) _ ?_
      refine XS.lload X116.here hx rfl (hb hby at_234) rfl ?_
      refine XS.lload X116.here hx rfl (hb hby at_236) rfl ?_
      refine XS.lload X116.here hx rfl (hb hby at_238) rfl ?_
      exact Steps.refl _
    obtain ⟨T123, L123, X123, e123, N123, st123⟩ := own_callP X116 hx hZ97 hown97 (wk129 hw) (wk130 hw) (wk131 hw) (wk132 hw) (by decide) (rmck l Z a0 hw [] (FP.ddiv (FP.l2d ((((p1 &&& (1023 : Int32)) + (1 : Int32)).toInt64) * ((p2 &&& (1099511627775 : Int64)) + (1 : Int64)))) (FP.l2d ((1 : Int64) <<< (((p5 &&& (63 : Int32)) % (63 : Int32)) &&& 0x3f).toInt64))) (((p1 &&& (1023 : Int32)) + (1 : Int32)).toInt64) ((p2 &&& (1099511627775 : Int64)) + (1 : Int64)) ((1 : Int64) <<< (((p5 &&& (63 : Int32)) % (63 : Int32)) &&& 0x3f).toInt64) T116.heap n0 O116 (own_pow ((((p1 &&& (1023 : Int32)) + (1 : Int32)).toInt64) * ((p2 &&& (1099511627775 : Int64)) + (1 : Int64))) ((1 : Int64) <<< (((p5 &&& (63 : Int32)) % (63 : Int32)) &&& 0x3f).toInt64) kk hkk hLL (own_mc (((p1 &&& (1023 : Int32)) + (1 : Int32)).toInt64) ((p2 &&& (1099511627775 : Int64)) + (1 : Int64)) (own_m p1).1 (own_m p1).2 (own_c p2).1 (own_c p2).2).2.1 (own_mc (((p1 &&& (1023 : Int32)) + (1 : Int32)).toInt64) ((p2 &&& (1099511627775 : Int64)) + (1 : Int64)) (own_m p1).1 (own_m p1).2 (own_c p2).1 (own_c p2).2).2.2)) (rfl : T116.heap = T116.heap) N116 (W := 0) (by decide) (by decide) (by decide) (by decide) (g := (mkF m 240 #[.val (.int p0), .val (.int p1), .val (.long p2), .second, .val (.long p3), .second, .val (.long p4), .second, .val (.int p5), .val (.int (2 : Int32)), .val (.int z0), .val (.int z1), .val (.int z2), .val (.long (((p1 &&& (1023 : Int32)) + (1 : Int32)).toInt64)), .second, .val (.long ((p2 &&& (1099511627775 : Int64)) + (1 : Int64))), .second, .val (.long ((p3 &&& (1099511627775 : Int64)) + (1 : Int64))), .second, .val (.long ((p4 &&& (1099511627775 : Int64)) + (1 : Int64))), .second, .val (.long ((1 : Int64) <<< (((p5 &&& (63 : Int32)) % (63 : Int32)) &&& 0x3f).toInt64)), .second, .val (.ref b74), .val (.ref u117), .val (.int (1 : Int32))] [(.long ((1 : Int64) <<< (((p5 &&& (63 : Int32)) % (63 : Int32)) &&& 0x3f).toInt64)), (.long ((p2 &&& (1099511627775 : Int64)) + (1 : Int64))), (.long (((p1 &&& (1023 : Int32)) + (1 : Int32)).toInt64)), (.double (FP.ddiv (FP.l2d ((((p1 &&& (1023 : Int32)) + (1 : Int32)).toInt64) * ((p2 &&& (1099511627775 : Int64)) + (1 : Int64)))) (FP.l2d ((1 : Int64) <<< (((p5 &&& (63 : Int32)) % (63 : Int32)) &&& 0x3f).toInt64))))])) rfl (by rw [hml]; rfl) (argsL := [(.double (FP.ddiv (FP.l2d ((((p1 &&& (1023 : Int32)) + (1 : Int32)).toInt64) * ((p2 &&& (1099511627775 : Int64)) + (1 : Int64)))) (FP.l2d ((1 : Int64) <<< (((p5 &&& (63 : Int32)) % (63 : Int32)) &&& 0x3f).toInt64)))), (.long (((p1 &&& (1023 : Int32)) + (1 : Int32)).toInt64)), (.long ((p2 &&& (1099511627775 : Int64)) + (1 : Int64))), (.long ((1 : Int64) <<< (((p5 &&& (63 : Int32)) % (63 : Int32)) &&& 0x3f).toInt64))]) (rest := []) (lenOf pd_rm0_4 rfl) rfl (by show 2 * 0 + _ ≤ _; exact Nat.le_of_eq rfl) (hb hby at_240)
    have hin124 : ¬ ((1 : Int32) < 0 ∨ cla119.slots.size ≤ ((1 : Int32)).toNatClampNeg) := inb_of Sa119 ⟨by decide, by decide⟩
    have hat125 : cla119.slots[((1 : Int32)).toNatClampNeg]? = some (.double (FP.ddiv (FP.l2d ((((p1 &&& (1023 : Int32)) + (1 : Int32)).toInt64) * ((p3 &&& (1099511627775 : Int64)) + (1 : Int64)))) (FP.l2d ((1 : Int64) <<< (((p5 &&& (63 : Int32)) % (63 : Int32)) &&& 0x3f).toInt64)))) := Has.at Ha119 hin124 rfl
    have s126 : Steps p.tables e below A₀ (T123.setTop (mkF m 274 #[.val (.int p0), .val (.int p1), .val (.long p2), .second, .val (.long p3), .second, .val (.long p4), .second, .val (.int p5), .val (.int (2 : Int32)), .val (.int z0), .val (.int z1), .val (.int z2), .val (.long (((p1 &&& (1023 : Int32)) + (1 : Int32)).toInt64)), .second, .val (.long ((p2 &&& (1099511627775 : Int64)) + (1 : Int64))), .second, .val (.long ((p3 &&& (1099511627775 : Int64)) + (1 : Int64))), .second, .val (.long ((p4 &&& (1099511627775 : Int64)) + (1 : Int64))), .second, .val (.long ((1 : Int64) <<< (((p5 &&& (63 : Int32)) % (63 : Int32)) &&& 0x3f).toInt64)), .second, .val (.ref b74), .val (.ref u117), .val (.int (1 : Int32))] [(.long ((1 : Int64) <<< (((p5 &&& (63 : Int32)) % (63 : Int32)) &&& 0x3f).toInt64)), (.long ((p3 &&& (1099511627775 : Int64)) + (1 : Int64))), (.long (((p1 &&& (1023 : Int32)) + (1 : Int32)).toInt64)), (.double (FP.ddiv (FP.l2d ((((p1 &&& (1023 : Int32)) + (1 : Int32)).toInt64) * ((p3 &&& (1099511627775 : Int64)) + (1 : Int64)))) (FP.l2d ((1 : Int64) <<< (((p5 &&& (63 : Int32)) % (63 : Int32)) &&& 0x3f).toInt64))))])) := by
      refine s122.trans ?_
      show Steps p.tables e below (T116.setTop (mkF m 240 #[.val (.int p0), .val (.int p1), .val (.long p2), .second, .val (.long p3), .second, .val (.long p4), .second, .val (.int p5), .val (.int (2 : Int32)), .val (.int z0), .val (.int z1), .val (.int z2), .val (.long (((p1 &&& (1023 : Int32)) + (1 : Int32)).toInt64)), .second, .val (.long ((p2 &&& (1099511627775 : Int64)) + (1 : Int64))), .second, .val (.long ((p3 &&& (1099511627775 : Int64)) + (1 : Int64))), .second, .val (.long ((p4 &&& (1099511627775 : Int64)) + (1 : Int64))), .second, .val (.long ((1 : Int64) <<< (((p5 &&& (63 : Int32)) % (63 : Int32)) &&& 0x3f).toInt64)), .second, .val (.ref b74), .val (.ref u117), .val (.int (1 : Int32))] [(.long ((1 : Int64) <<< (((p5 &&& (63 : Int32)) % (63 : Int32)) &&& 0x3f).toInt64)), (.long ((p2 &&& (1099511627775 : Int64)) + (1 : Int64))), (.long (((p1 &&& (1023 : Int32)) + (1 : Int32)).toInt64)), (.double (FP.ddiv (FP.l2d ((((p1 &&& (1023 : Int32)) + (1 : Int32)).toInt64) * ((p2 &&& (1099511627775 : Int64)) + (1 : Int64)))) (FP.l2d ((1 : Int64) <<< (((p5 &&& (63 : Int32)) % (63 : Int32)) &&& 0x3f).toInt64))))])) _
      refine st123 _ ?_
      refine XS.ifNo X123.here hx rfl (hb hby at_243) rfl ((if0 _ _).trans (feq (by decide)).1) ?_
      refine XS.iconst X123.here hx rfl (hb hby at_246) ?_
      refine XS.goto X123.here hx rfl (pc0 := 247) (pc' := 251) rfl (hb hby at_247) (by decide) (by decide) ?_
      refine XS.istore X123.here hx rfl (hb hby at_251) rfl (l' := #[.val (.int p0), .val (.int p1), .val (.long p2), .second, .val (.long p3), .second, .val (.long p4), .second, .val (.int p5), .val (.int (2 : Int32)), .val (.int z0), .val (.int z1), .val (.int z2), .val (.long (((p1 &&& (1023 : Int32)) + (1 : Int32)).toInt64)), .second, .val (.long ((p2 &&& (1099511627775 : Int64)) + (1 : Int64))), .second, .val (.long ((p3 &&& (1099511627775 : Int64)) + (1 : Int64))), .second, .val (.long ((p4 &&& (1099511627775 : Int64)) + (1 : Int64))), .second, .val (.long ((1 : Int64) <<< (((p5 &&& (63 : Int32)) % (63 : Int32)) &&& 0x3f).toInt64)), .second, .val (.ref b74), .val (.ref u117), .val (.int (1 : Int32))]) rfl ?_
      refine XS.iload X123.here hx rfl (hb hby at_253) rfl ?_
      refine XS.iconst X123.here hx rfl (hb hby at_255) ?_
      refine XS.icmpNo X123.here hx rfl (hb hby at_256) rfl (tlt (by decide)).2.2.2 ?_
      refine XS.iload X123.here hx rfl (hb hby at_259) rfl ?_
      refine XS.ifNo X123.here hx rfl (hb hby at_261) rfl ((if0 _ _).trans (feq (by decide)).1) ?_
      show Steps p.tables e below (T123.setTop (mkF m 264 #[.val (.int p0), .val (.int p1), .val (.long p2), .second, .val (.long p3), .second, .val (.long p4), .second, .val (.int p5), .val (.int (2 : Int32)), .val (.int z0), .val (.int z1), .val (.int z2), .val (.long (((p1 &&& (1023 : Int32)) + (1 : Int32)).toInt64)), .second, .val (.long ((p2 &&& (1099511627775 : Int64)) + (1 : Int64))), .second, .val (.long ((p3 &&& (1099511627775 : Int64)) + (1 : Int64))), .second, .val (.long ((p4 &&& (1099511627775 : Int64)) + (1 : Int64))), .second, .val (.long ((1 : Int64) <<< (((p5 &&& (63 : Int32)) % (63 : Int32)) &&& 0x3f).toInt64)), .second, .val (.ref b74), .val (.ref u117), .val (.int (1 : Int32))] [])) _
      refine XS.aload X123.here hx rfl (hb hby at_264) rfl rfl ?_
      refine XS.iconst X123.here hx rfl (hb hby at_266) ?_
      refine X123.daload hx (j := (1 : Int32)) (v := (.double (FP.ddiv (FP.l2d ((((p1 &&& (1023 : Int32)) + (1 : Int32)).toInt64) * ((p3 &&& (1099511627775 : Int64)) + (1 : Int64)))) (FP.l2d ((1 : Int64) <<< (((p5 &&& (63 : Int32)) % (63 : Int32)) &&& 0x3f).toInt64))))) (by rw [e123]; exact Ara119.1) (State.isArrayOf_alike hZ97.alike Ara119.2.1) Ara119.2.2 hin124 hat125 (g := (mkF m 267 #[.val (.int p0), .val (.int p1), .val (.long p2), .second, .val (.long p3), .second, .val (.long p4), .second, .val (.int p5), .val (.int (2 : Int32)), .val (.int z0), .val (.int z1), .val (.int z2), .val (.long (((p1 &&& (1023 : Int32)) + (1 : Int32)).toInt64)), .second, .val (.long ((p2 &&& (1099511627775 : Int64)) + (1 : Int64))), .second, .val (.long ((p3 &&& (1099511627775 : Int64)) + (1 : Int64))), .second, .val (.long ((p4 &&& (1099511627775 : Int64)) + (1 : Int64))), .second, .val (.long ((1 : Int64) <<< (((p5 &&& (63 : Int32)) % (63 : Int32)) &&& 0x3f).toInt64)), .second, .val (.ref b74), .val (.ref u117), .val (.int (1 : Int32))] [(.int (1 : Int32)), (.ref u117)])) rfl rfl (hb hby at_267) _ ?_
      refine XS.lload X123.here hx rfl (hb hby at_268) rfl ?_
      refine XS.lload X123.here hx rfl (hb hby at_270) rfl ?_
      refine XS.lload X123.here hx rfl (hb hby at_272) rfl ?_
      exact Steps.refl _
    obtain ⟨T127, L127, X127, e127, N127, st127⟩ := own_callP X123 hx hZ97 hown97 (wk129 hw) (wk130 hw) (wk131 hw) (wk132 hw) (by decide) (rmck l Z a0 hw [] (FP.ddiv (FP.l2d ((((p1 &&& (1023 : Int32)) + (1 : Int32)).toInt64) * ((p3 &&& (1099511627775 : Int64)) + (1 : Int64)))) (FP.l2d ((1 : Int64) <<< (((p5 &&& (63 : Int32)) % (63 : Int32)) &&& 0x3f).toInt64))) (((p1 &&& (1023 : Int32)) + (1 : Int32)).toInt64) ((p3 &&& (1099511627775 : Int64)) + (1 : Int64)) ((1 : Int64) <<< (((p5 &&& (63 : Int32)) % (63 : Int32)) &&& 0x3f).toInt64) T116.heap n0 O116 (own_pow ((((p1 &&& (1023 : Int32)) + (1 : Int32)).toInt64) * ((p3 &&& (1099511627775 : Int64)) + (1 : Int64))) ((1 : Int64) <<< (((p5 &&& (63 : Int32)) % (63 : Int32)) &&& 0x3f).toInt64) kk hkk hLL (own_mc (((p1 &&& (1023 : Int32)) + (1 : Int32)).toInt64) ((p3 &&& (1099511627775 : Int64)) + (1 : Int64)) (own_m p1).1 (own_m p1).2 (own_c p3).1 (own_c p3).2).2.1 (own_mc (((p1 &&& (1023 : Int32)) + (1 : Int32)).toInt64) ((p3 &&& (1099511627775 : Int64)) + (1 : Int64)) (own_m p1).1 (own_m p1).2 (own_c p3).1 (own_c p3).2).2.2)) e123 N123 (W := 0) (by decide) (by decide) (by decide) (by decide) (g := (mkF m 274 #[.val (.int p0), .val (.int p1), .val (.long p2), .second, .val (.long p3), .second, .val (.long p4), .second, .val (.int p5), .val (.int (2 : Int32)), .val (.int z0), .val (.int z1), .val (.int z2), .val (.long (((p1 &&& (1023 : Int32)) + (1 : Int32)).toInt64)), .second, .val (.long ((p2 &&& (1099511627775 : Int64)) + (1 : Int64))), .second, .val (.long ((p3 &&& (1099511627775 : Int64)) + (1 : Int64))), .second, .val (.long ((p4 &&& (1099511627775 : Int64)) + (1 : Int64))), .second, .val (.long ((1 : Int64) <<< (((p5 &&& (63 : Int32)) % (63 : Int32)) &&& 0x3f).toInt64)), .second, .val (.ref b74), .val (.ref u117), .val (.int (1 : Int32))] [(.long ((1 : Int64) <<< (((p5 &&& (63 : Int32)) % (63 : Int32)) &&& 0x3f).toInt64)), (.long ((p3 &&& (1099511627775 : Int64)) + (1 : Int64))), (.long (((p1 &&& (1023 : Int32)) + (1 : Int32)).toInt64)), (.double (FP.ddiv (FP.l2d ((((p1 &&& (1023 : Int32)) + (1 : Int32)).toInt64) * ((p3 &&& (1099511627775 : Int64)) + (1 : Int64)))) (FP.l2d ((1 : Int64) <<< (((p5 &&& (63 : Int32)) % (63 : Int32)) &&& 0x3f).toInt64))))])) rfl (by rw [hml]; rfl) (argsL := [(.double (FP.ddiv (FP.l2d ((((p1 &&& (1023 : Int32)) + (1 : Int32)).toInt64) * ((p3 &&& (1099511627775 : Int64)) + (1 : Int64)))) (FP.l2d ((1 : Int64) <<< (((p5 &&& (63 : Int32)) % (63 : Int32)) &&& 0x3f).toInt64)))), (.long (((p1 &&& (1023 : Int32)) + (1 : Int32)).toInt64)), (.long ((p3 &&& (1099511627775 : Int64)) + (1 : Int64))), (.long ((1 : Int64) <<< (((p5 &&& (63 : Int32)) % (63 : Int32)) &&& 0x3f).toInt64))]) (rest := []) (lenOf pd_rm0_4 rfl) rfl (by show 2 * 0 + _ ≤ _; exact Nat.le_of_eq rfl) (hb hby at_274)
    have s128 : Steps p.tables e below A₀ (T127.setTop (mkF m 323 #[.val (.int p0), .val (.int p1), .val (.long p2), .second, .val (.long p3), .second, .val (.long p4), .second, .val (.int p5), .val (.int (2 : Int32)), .val (.int z0), .val (.int z1), .val (.int z2), .val (.long (((p1 &&& (1023 : Int32)) + (1 : Int32)).toInt64)), .second, .val (.long ((p2 &&& (1099511627775 : Int64)) + (1 : Int64))), .second, .val (.long ((p3 &&& (1099511627775 : Int64)) + (1 : Int64))), .second, .val (.long ((p4 &&& (1099511627775 : Int64)) + (1 : Int64))), .second, .val (.long ((1 : Int64) <<< (((p5 &&& (63 : Int32)) % (63 : Int32)) &&& 0x3f).toInt64)), .second, .val (.ref b74), .val (.ref u117), .val (.int (1 : Int32))] [(.int (1 : Int32))])) := by
      refine s126.trans ?_
      show Steps p.tables e below (T123.setTop (mkF m 274 #[.val (.int p0), .val (.int p1), .val (.long p2), .second, .val (.long p3), .second, .val (.long p4), .second, .val (.int p5), .val (.int (2 : Int32)), .val (.int z0), .val (.int z1), .val (.int z2), .val (.long (((p1 &&& (1023 : Int32)) + (1 : Int32)).toInt64)), .second, .val (.long ((p2 &&& (1099511627775 : Int64)) + (1 : Int64))), .second, .val (.long ((p3 &&& (1099511627775 : Int64)) + (1 : Int64))), .second, .val (.long ((p4 &&& (1099511627775 : Int64)) + (1 : Int64))), .second, .val (.long ((1 : Int64) <<< (((p5 &&& (63 : Int32)) % (63 : Int32)) &&& 0x3f).toInt64)), .second, .val (.ref b74), .val (.ref u117), .val (.int (1 : Int32))] [(.long ((1 : Int64) <<< (((p5 &&& (63 : Int32)) % (63 : Int32)) &&& 0x3f).toInt64)), (.long ((p3 &&& (1099511627775 : Int64)) + (1 : Int64))), (.long (((p1 &&& (1023 : Int32)) + (1 : Int32)).toInt64)), (.double (FP.ddiv (FP.l2d ((((p1 &&& (1023 : Int32)) + (1 : Int32)).toInt64) * ((p3 &&& (1099511627775 : Int64)) + (1 : Int64)))) (FP.l2d ((1 : Int64) <<< (((p5 &&& (63 : Int32)) % (63 : Int32)) &&& 0x3f).toInt64))))])) _
      refine st127 _ ?_
      refine XS.ifNo X127.here hx rfl (hb hby at_277) rfl ((if0 _ _).trans (feq (by decide)).1) ?_
      refine XS.iconst X127.here hx rfl (hb hby at_280) ?_
      refine XS.goto X127.here hx rfl (pc0 := 281) (pc' := 285) rfl (hb hby at_281) (by decide) (by decide) ?_
      refine XS.istore X127.here hx rfl (hb hby at_285) rfl (l' := #[.val (.int p0), .val (.int p1), .val (.long p2), .second, .val (.long p3), .second, .val (.long p4), .second, .val (.int p5), .val (.int (2 : Int32)), .val (.int z0), .val (.int z1), .val (.int z2), .val (.long (((p1 &&& (1023 : Int32)) + (1 : Int32)).toInt64)), .second, .val (.long ((p2 &&& (1099511627775 : Int64)) + (1 : Int64))), .second, .val (.long ((p3 &&& (1099511627775 : Int64)) + (1 : Int64))), .second, .val (.long ((p4 &&& (1099511627775 : Int64)) + (1 : Int64))), .second, .val (.long ((1 : Int64) <<< (((p5 &&& (63 : Int32)) % (63 : Int32)) &&& 0x3f).toInt64)), .second, .val (.ref b74), .val (.ref u117), .val (.int (1 : Int32))]) rfl ?_
      refine XS.iload X127.here hx rfl (hb hby at_287) rfl ?_
      refine XS.iconst X127.here hx rfl (hb hby at_289) ?_
      refine XS.icmpYes X127.here hx rfl (pc0 := 290) (pc' := 321) rfl (hb hby at_290) rfl (flt (by decide)).2.2.2 (by decide) (by decide) ?_
      refine XS.iload X127.here hx rfl (hb hby at_321) rfl ?_
      exact Steps.refl _
    subst hA₀
    obtain ⟨fs, hr, hrun, hended, -, hW, hIn, hsame⟩ := X127.leaveW hS97 (by rw [e127]; exact hkk116) (v := some (.int (1 : Int32))) (fun h => by rw [Bd.returns] at h; cases h)
    refine ⟨_, _, s128.trans ?_, hrun, hended, _, _, rfl, ?_, ⟨_, rfl⟩, hW, hIn, hsame.mono (by decide) (by decide)⟩
    · show Steps p.tables e below (T127.setTop (mkF m 323 #[.val (.int p0), .val (.int p1), .val (.long p2), .second, .val (.long p3), .second, .val (.long p4), .second, .val (.int p5), .val (.int (2 : Int32)), .val (.int z0), .val (.int z1), .val (.int z2), .val (.long (((p1 &&& (1023 : Int32)) + (1 : Int32)).toInt64)), .second, .val (.long ((p2 &&& (1099511627775 : Int64)) + (1 : Int64))), .second, .val (.long ((p3 &&& (1099511627775 : Int64)) + (1 : Int64))), .second, .val (.long ((p4 &&& (1099511627775 : Int64)) + (1 : Int64))), .second, .val (.long ((1 : Int64) <<< (((p5 &&& (63 : Int32)) % (63 : Int32)) &&& 0x3f).toInt64)), .second, .val (.ref b74), .val (.ref u117), .val (.int (1 : Int32))] [(.int (1 : Int32))])) _
      exact retN X127 hx (t := .boolean) Bd.returns (by simp) (hb hby at_323) hr
    · show Q0 Z p0 p1 p2 p3 p4 p5 dc kd h0 n0 _ T127.heap _
      rw [e127]
      exact ⟨rfl, N127⟩
  · have s129 := s1
    rw [hk2] at s129
    have s130 : Steps p.tables e below A₀ (s₁.setTop (mkF m 10 #[.val (.int p0), .val (.int p1), .val (.long p2), .second, .val (.long p3), .second, .val (.long p4), .second, .val (.int p5), .val (.int (3 : Int32)), .unset, .unset, .unset, .unset, .unset, .unset, .unset, .unset, .unset, .unset, .unset, .unset, .unset, .unset, .unset, .unset] [(.int ((p0 >>> ((2 : Int32) &&& 31)) &&& (1 : Int32)))])) := by
      refine s129.trans ?_
      refine XS.iloadN X0.here hx rfl (hb hby at_5) rfl ?_
      refine XS.iconst X0.here hx rfl (hb hby at_6) ?_
      refine XS.ishr X0.here hx rfl (hb hby at_7) rfl ?_
      refine XS.iconst X0.here hx rfl (hb hby at_8) ?_
      refine XS.iand X0.here hx rfl (hb hby at_9) rfl ?_
      exact Steps.refl _
    have s132 : Steps p.tables e below A₀ (s₁.setTop (mkF m 18 #[.val (.int p0), .val (.int p1), .val (.long p2), .second, .val (.long p3), .second, .val (.long p4), .second, .val (.int p5), .val (.int (3 : Int32)), .unset, .unset, .unset, .unset, .unset, .unset, .unset, .unset, .unset, .unset, .unset, .unset, .unset, .unset, .unset, .unset] [(.int (if ((p0 >>> ((2 : Int32) &&& 31)) &&& (1 : Int32)) = (0 : Int32) then (0 : Int32) else (1 : Int32)))])) := by
      by_cases hm131 : ((p0 >>> ((2 : Int32) &&& 31)) &&& (1 : Int32)) = (0 : Int32)
      · simp only [if_pos hm131]
        refine s130.trans ?_
        refine XS.ifYes X0.here hx rfl (pc0 := 10) (pc' := 17) rfl (hb hby at_10) rfl ((if0 _ _).trans (teq hm131).1) (by decide) (by decide) ?_
        refine XS.iconst X0.here hx rfl (hb hby at_17) ?_
        exact Steps.refl _
      · simp only [if_neg hm131]
        refine s130.trans ?_
        refine XS.ifNo X0.here hx rfl (hb hby at_10) rfl ((if0 _ _).trans (feq hm131).1) ?_
        refine XS.iconst X0.here hx rfl (hb hby at_13) ?_
        refine XS.goto X0.here hx rfl (pc0 := 14) (pc' := 18) rfl (hb hby at_14) (by decide) (by decide) ?_
        exact Steps.refl _
    obtain ⟨z0, hz0⟩ : ∃ z, z = (if ((p0 >>> ((2 : Int32) &&& 31)) &&& (1 : Int32)) = (0 : Int32) then (0 : Int32) else (1 : Int32)) := ⟨_, rfl⟩
    rw [← hz0] at s132
    have s133 : Steps p.tables e below A₀ (s₁.setTop (mkF m 25 #[.val (.int p0), .val (.int p1), .val (.long p2), .second, .val (.long p3), .second, .val (.long p4), .second, .val (.int p5), .val (.int (3 : Int32)), .val (.int z0), .unset, .unset, .unset, .unset, .unset, .unset, .unset, .unset, .unset, .unset, .unset, .unset, .unset, .unset, .unset] [(.int ((p0 >>> ((3 : Int32) &&& 31)) &&& (1 : Int32)))])) := by
      refine s132.trans ?_
      refine XS.istore X0.here hx rfl (hb hby at_18) rfl (l' := #[.val (.int p0), .val (.int p1), .val (.long p2), .second, .val (.long p3), .second, .val (.long p4), .second, .val (.int p5), .val (.int (3 : Int32)), .val (.int z0), .unset, .unset, .unset, .unset, .unset, .unset, .unset, .unset, .unset, .unset, .unset, .unset, .unset, .unset, .unset]) rfl ?_
      refine XS.iloadN X0.here hx rfl (hb hby at_20) rfl ?_
      refine XS.iconst X0.here hx rfl (hb hby at_21) ?_
      refine XS.ishr X0.here hx rfl (hb hby at_22) rfl ?_
      refine XS.iconst X0.here hx rfl (hb hby at_23) ?_
      refine XS.iand X0.here hx rfl (hb hby at_24) rfl ?_
      exact Steps.refl _
    have s135 : Steps p.tables e below A₀ (s₁.setTop (mkF m 33 #[.val (.int p0), .val (.int p1), .val (.long p2), .second, .val (.long p3), .second, .val (.long p4), .second, .val (.int p5), .val (.int (3 : Int32)), .val (.int z0), .unset, .unset, .unset, .unset, .unset, .unset, .unset, .unset, .unset, .unset, .unset, .unset, .unset, .unset, .unset] [(.int (if ((p0 >>> ((3 : Int32) &&& 31)) &&& (1 : Int32)) = (0 : Int32) then (0 : Int32) else (1 : Int32)))])) := by
      by_cases hm134 : ((p0 >>> ((3 : Int32) &&& 31)) &&& (1 : Int32)) = (0 : Int32)
      · simp only [if_pos hm134]
        refine s133.trans ?_
        refine XS.ifYes X0.here hx rfl (pc0 := 25) (pc' := 32) rfl (hb hby at_25) rfl ((if0 _ _).trans (teq hm134).1) (by decide) (by decide) ?_
        refine XS.iconst X0.here hx rfl (hb hby at_32) ?_
        exact Steps.refl _
      · simp only [if_neg hm134]
        refine s133.trans ?_
        refine XS.ifNo X0.here hx rfl (hb hby at_25) rfl ((if0 _ _).trans (feq hm134).1) ?_
        refine XS.iconst X0.here hx rfl (hb hby at_28) ?_
        refine XS.goto X0.here hx rfl (pc0 := 29) (pc' := 33) rfl (hb hby at_29) (by decide) (by decide) ?_
        exact Steps.refl _
    obtain ⟨z1, hz1⟩ : ∃ z, z = (if ((p0 >>> ((3 : Int32) &&& 31)) &&& (1 : Int32)) = (0 : Int32) then (0 : Int32) else (1 : Int32)) := ⟨_, rfl⟩
    rw [← hz1] at s135
    have s136 : Steps p.tables e below A₀ (s₁.setTop (mkF m 40 #[.val (.int p0), .val (.int p1), .val (.long p2), .second, .val (.long p3), .second, .val (.long p4), .second, .val (.int p5), .val (.int (3 : Int32)), .val (.int z0), .val (.int z1), .unset, .unset, .unset, .unset, .unset, .unset, .unset, .unset, .unset, .unset, .unset, .unset, .unset, .unset] [(.int ((p0 >>> ((4 : Int32) &&& 31)) &&& (1 : Int32)))])) := by
      refine s135.trans ?_
      refine XS.istore X0.here hx rfl (hb hby at_33) rfl (l' := #[.val (.int p0), .val (.int p1), .val (.long p2), .second, .val (.long p3), .second, .val (.long p4), .second, .val (.int p5), .val (.int (3 : Int32)), .val (.int z0), .val (.int z1), .unset, .unset, .unset, .unset, .unset, .unset, .unset, .unset, .unset, .unset, .unset, .unset, .unset, .unset]) rfl ?_
      refine XS.iloadN X0.here hx rfl (hb hby at_35) rfl ?_
      refine XS.iconst X0.here hx rfl (hb hby at_36) ?_
      refine XS.ishr X0.here hx rfl (hb hby at_37) rfl ?_
      refine XS.iconst X0.here hx rfl (hb hby at_38) ?_
      refine XS.iand X0.here hx rfl (hb hby at_39) rfl ?_
      exact Steps.refl _
    have s138 : Steps p.tables e below A₀ (s₁.setTop (mkF m 48 #[.val (.int p0), .val (.int p1), .val (.long p2), .second, .val (.long p3), .second, .val (.long p4), .second, .val (.int p5), .val (.int (3 : Int32)), .val (.int z0), .val (.int z1), .unset, .unset, .unset, .unset, .unset, .unset, .unset, .unset, .unset, .unset, .unset, .unset, .unset, .unset] [(.int (if ((p0 >>> ((4 : Int32) &&& 31)) &&& (1 : Int32)) = (0 : Int32) then (0 : Int32) else (1 : Int32)))])) := by
      by_cases hm137 : ((p0 >>> ((4 : Int32) &&& 31)) &&& (1 : Int32)) = (0 : Int32)
      · simp only [if_pos hm137]
        refine s136.trans ?_
        refine XS.ifYes X0.here hx rfl (pc0 := 40) (pc' := 47) rfl (hb hby at_40) rfl ((if0 _ _).trans (teq hm137).1) (by decide) (by decide) ?_
        refine XS.iconst X0.here hx rfl (hb hby at_47) ?_
        exact Steps.refl _
      · simp only [if_neg hm137]
        refine s136.trans ?_
        refine XS.ifNo X0.here hx rfl (hb hby at_40) rfl ((if0 _ _).trans (feq hm137).1) ?_
        refine XS.iconst X0.here hx rfl (hb hby at_43) ?_
        refine XS.goto X0.here hx rfl (pc0 := 44) (pc' := 48) rfl (hb hby at_44) (by decide) (by decide) ?_
        exact Steps.refl _
    obtain ⟨z2, hz2⟩ : ∃ z, z = (if ((p0 >>> ((4 : Int32) &&& 31)) &&& (1 : Int32)) = (0 : Int32) then (0 : Int32) else (1 : Int32)) := ⟨_, rfl⟩
    rw [← hz2] at s138
    obtain ⟨T139, h139, X139, e139, E139, A139, D139, -, st139⟩ := newO X0 hx hZ hown (hw _ (List.mem_of_getElem? (i := 1) rfl)) (hw _ (List.mem_of_getElem? (i := 2) rfl)) (hw _ (List.mem_of_getElem? (i := 3) rfl)) e0 (g := (mkF m 101 #[.val (.int p0), .val (.int p1), .val (.long p2), .second, .val (.long p3), .second, .val (.long p4), .second, .val (.int p5), .val (.int (3 : Int32)), .val (.int z0), .val (.int z1), .val (.int z2), .val (.long (((p1 &&& (1023 : Int32)) + (1 : Int32)).toInt64)), .second, .val (.long ((p2 &&& (1099511627775 : Int64)) + (1 : Int64))), .second, .val (.long ((p3 &&& (1099511627775 : Int64)) + (1 : Int64))), .second, .val (.long ((p4 &&& (1099511627775 : Int64)) + (1 : Int64))), .second, .val (.long ((1 : Int64) <<< (((p5 &&& (63 : Int32)) % (63 : Int32)) &&& 0x3f).toInt64)), .second, .unset, .unset, .unset] [])) rfl (hb hby at_101) (by decide) (by decide)
    obtain ⟨b139, g139⟩ : ∃ z, z = h0.size := ⟨_, rfl⟩
    rw [← g139] at A139 D139 st139
    have g_b139 : n0 ≤ b139 := Nat.le_trans (Nat.le_of_eq O0.1.symm) (Nat.le_trans O0.2.1 (Nat.le_of_eq g139.symm))
    have O139 := O0.ext E139
    have hkk139 := Nat.le_trans hk0 E139.1
    have F139_modCount : Fld Z h139 b139 "java/util/AbstractList" "modCount" "I" (.int (0 : Int32)) := D139 (Or.inl (hw _ (List.mem_of_getElem? (i := 23) rfl))) (ty := .int) (by decide)
    have F139_elementData : Fld Z h139 b139 "java/util/ArrayList" "elementData" "[Ljava/lang/Object;" .null := D139 (Or.inl (hw _ (List.mem_of_getElem? (i := 26) rfl))) (ty := (.array (.object "java/lang/Object"))) (by decide)
    have F139_size : Fld Z h139 b139 "java/util/ArrayList" "size" "I" (.int (0 : Int32)) := D139 (Or.inl (hw _ (List.mem_of_getElem? (i := 41) rfl))) (ty := .int) (by decide)
    have s140 : Steps p.tables e below A₀ (T139.setTop (mkF m 105 #[.val (.int p0), .val (.int p1), .val (.long p2), .second, .val (.long p3), .second, .val (.long p4), .second, .val (.int p5), .val (.int (3 : Int32)), .val (.int z0), .val (.int z1), .val (.int z2), .val (.long (((p1 &&& (1023 : Int32)) + (1 : Int32)).toInt64)), .second, .val (.long ((p2 &&& (1099511627775 : Int64)) + (1 : Int64))), .second, .val (.long ((p3 &&& (1099511627775 : Int64)) + (1 : Int64))), .second, .val (.long ((p4 &&& (1099511627775 : Int64)) + (1 : Int64))), .second, .val (.long ((1 : Int64) <<< (((p5 &&& (63 : Int32)) % (63 : Int32)) &&& 0x3f).toInt64)), .second, .unset, .unset, .unset] [(.ref b139), (.ref b139)])) := by
      refine s138.trans ?_
      refine XS.istore X0.here hx rfl (hb hby at_48) rfl (l' := #[.val (.int p0), .val (.int p1), .val (.long p2), .second, .val (.long p3), .second, .val (.long p4), .second, .val (.int p5), .val (.int (3 : Int32)), .val (.int z0), .val (.int z1), .val (.int z2), .unset, .unset, .unset, .unset, .unset, .unset, .unset, .unset, .unset, .unset, .unset, .unset, .unset]) rfl ?_
      refine XS.iloadN X0.here hx rfl (hb hby at_50) rfl ?_
      refine XS.sipush X0.here hx rfl (hb hby at_51) ?_
      refine XS.iand X0.here hx rfl (hb hby at_54) rfl ?_
      refine XS.iconst X0.here hx rfl (hb hby at_55) ?_
      refine XS.iadd X0.here hx rfl (hb hby at_56) rfl ?_
      refine XS.i2l X0.here hx rfl (hb hby at_57) rfl ?_
      refine XS.lstore X0.here hx rfl (hb hby at_58) rfl (l' := #[.val (.int p0), .val (.int p1), .val (.long p2), .second, .val (.long p3), .second, .val (.long p4), .second, .val (.int p5), .val (.int (3 : Int32)), .val (.int z0), .val (.int z1), .val (.int z2), .val (.long (((p1 &&& (1023 : Int32)) + (1 : Int32)).toInt64)), .second, .unset, .unset, .unset, .unset, .unset, .unset, .unset, .unset, .unset, .unset, .unset]) rfl ?_
      show Steps p.tables e below (s₁.setTop (mkF m 60 #[.val (.int p0), .val (.int p1), .val (.long p2), .second, .val (.long p3), .second, .val (.long p4), .second, .val (.int p5), .val (.int (3 : Int32)), .val (.int z0), .val (.int z1), .val (.int z2), .val (.long (((p1 &&& (1023 : Int32)) + (1 : Int32)).toInt64)), .second, .unset, .unset, .unset, .unset, .unset, .unset, .unset, .unset, .unset, .unset, .unset] [])) _
      refine XS.lloadN X0.here hx rfl (hb hby at_60) rfl ?_
      refine X0.ldc2Long hx hown (mvT hZ (hw _ (List.mem_of_getElem? (i := 0) rfl))) (g := (mkF m 61 #[.val (.int p0), .val (.int p1), .val (.long p2), .second, .val (.long p3), .second, .val (.long p4), .second, .val (.int p5), .val (.int (3 : Int32)), .val (.int z0), .val (.int z1), .val (.int z2), .val (.long (((p1 &&& (1023 : Int32)) + (1 : Int32)).toInt64)), .second, .unset, .unset, .unset, .unset, .unset, .unset, .unset, .unset, .unset, .unset, .unset] [(.long p2)])) rfl (hb hby at_61) _ ?_
      refine XS.land X0.here hx rfl (hb hby at_64) rfl ?_
      refine XS.lconst X0.here hx rfl (hb hby at_65) ?_
      refine XS.ladd X0.here hx rfl (hb hby at_66) rfl ?_
      refine XS.lstore X0.here hx rfl (hb hby at_67) rfl (l' := #[.val (.int p0), .val (.int p1), .val (.long p2), .second, .val (.long p3), .second, .val (.long p4), .second, .val (.int p5), .val (.int (3 : Int32)), .val (.int z0), .val (.int z1), .val (.int z2), .val (.long (((p1 &&& (1023 : Int32)) + (1 : Int32)).toInt64)), .second, .val (.long ((p2 &&& (1099511627775 : Int64)) + (1 : Int64))), .second, .unset, .unset, .unset, .unset, .unset, .unset, .unset, .unset, .unset]) rfl ?_
      refine XS.lload X0.here hx rfl (hb hby at_69) rfl ?_
      refine X0.ldc2Long hx hown (mvT hZ (hw _ (List.mem_of_getElem? (i := 0) rfl))) (g := (mkF m 71 #[.val (.int p0), .val (.int p1), .val (.long p2), .second, .val (.long p3), .second, .val (.long p4), .second, .val (.int p5), .val (.int (3 : Int32)), .val (.int z0), .val (.int z1), .val (.int z2), .val (.long (((p1 &&& (1023 : Int32)) + (1 : Int32)).toInt64)), .second, .val (.long ((p2 &&& (1099511627775 : Int64)) + (1 : Int64))), .second, .unset, .unset, .unset, .unset, .unset, .unset, .unset, .unset, .unset] [(.long p3)])) rfl (hb hby at_71) _ ?_
      refine XS.land X0.here hx rfl (hb hby at_74) rfl ?_
      refine XS.lconst X0.here hx rfl (hb hby at_75) ?_
      show Steps p.tables e below (s₁.setTop (mkF m 76 #[.val (.int p0), .val (.int p1), .val (.long p2), .second, .val (.long p3), .second, .val (.long p4), .second, .val (.int p5), .val (.int (3 : Int32)), .val (.int z0), .val (.int z1), .val (.int z2), .val (.long (((p1 &&& (1023 : Int32)) + (1 : Int32)).toInt64)), .second, .val (.long ((p2 &&& (1099511627775 : Int64)) + (1 : Int64))), .second, .unset, .unset, .unset, .unset, .unset, .unset, .unset, .unset, .unset] [(.long (1 : Int64)), (.long (p3 &&& (1099511627775 : Int64)))])) _
      refine XS.ladd X0.here hx rfl (hb hby at_76) rfl ?_
      refine XS.lstore X0.here hx rfl (hb hby at_77) rfl (l' := #[.val (.int p0), .val (.int p1), .val (.long p2), .second, .val (.long p3), .second, .val (.long p4), .second, .val (.int p5), .val (.int (3 : Int32)), .val (.int z0), .val (.int z1), .val (.int z2), .val (.long (((p1 &&& (1023 : Int32)) + (1 : Int32)).toInt64)), .second, .val (.long ((p2 &&& (1099511627775 : Int64)) + (1 : Int64))), .second, .val (.long ((p3 &&& (1099511627775 : Int64)) + (1 : Int64))), .second, .unset, .unset, .unset, .unset, .unset, .unset, .unset]) rfl ?_
      refine XS.lload X0.here hx rfl (hb hby at_79) rfl ?_
      refine X0.ldc2Long hx hown (mvT hZ (hw _ (List.mem_of_getElem? (i := 0) rfl))) (g := (mkF m 81 #[.val (.int p0), .val (.int p1), .val (.long p2), .second, .val (.long p3), .second, .val (.long p4), .second, .val (.int p5), .val (.int (3 : Int32)), .val (.int z0), .val (.int z1), .val (.int z2), .val (.long (((p1 &&& (1023 : Int32)) + (1 : Int32)).toInt64)), .second, .val (.long ((p2 &&& (1099511627775 : Int64)) + (1 : Int64))), .second, .val (.long ((p3 &&& (1099511627775 : Int64)) + (1 : Int64))), .second, .unset, .unset, .unset, .unset, .unset, .unset, .unset] [(.long p4)])) rfl (hb hby at_81) _ ?_
      refine XS.land X0.here hx rfl (hb hby at_84) rfl ?_
      refine XS.lconst X0.here hx rfl (hb hby at_85) ?_
      refine XS.ladd X0.here hx rfl (hb hby at_86) rfl ?_
      refine XS.lstore X0.here hx rfl (hb hby at_87) rfl (l' := #[.val (.int p0), .val (.int p1), .val (.long p2), .second, .val (.long p3), .second, .val (.long p4), .second, .val (.int p5), .val (.int (3 : Int32)), .val (.int z0), .val (.int z1), .val (.int z2), .val (.long (((p1 &&& (1023 : Int32)) + (1 : Int32)).toInt64)), .second, .val (.long ((p2 &&& (1099511627775 : Int64)) + (1 : Int64))), .second, .val (.long ((p3 &&& (1099511627775 : Int64)) + (1 : Int64))), .second, .val (.long ((p4 &&& (1099511627775 : Int64)) + (1 : Int64))), .second, .unset, .unset, .unset, .unset, .unset]) rfl ?_
      refine XS.lconst X0.here hx rfl (hb hby at_89) ?_
      refine XS.iload X0.here hx rfl (hb hby at_90) rfl ?_
      show Steps p.tables e below (s₁.setTop (mkF m 92 #[.val (.int p0), .val (.int p1), .val (.long p2), .second, .val (.long p3), .second, .val (.long p4), .second, .val (.int p5), .val (.int (3 : Int32)), .val (.int z0), .val (.int z1), .val (.int z2), .val (.long (((p1 &&& (1023 : Int32)) + (1 : Int32)).toInt64)), .second, .val (.long ((p2 &&& (1099511627775 : Int64)) + (1 : Int64))), .second, .val (.long ((p3 &&& (1099511627775 : Int64)) + (1 : Int64))), .second, .val (.long ((p4 &&& (1099511627775 : Int64)) + (1 : Int64))), .second, .unset, .unset, .unset, .unset, .unset] [(.int p5), (.long (1 : Int64))])) _
      refine XS.bipush X0.here hx rfl (hb hby at_92) ?_
      refine XS.iand X0.here hx rfl (hb hby at_94) rfl ?_
      refine XS.bipush X0.here hx rfl (hb hby at_95) ?_
      refine Jvm.RoadKit.iremM (g := (mkF m 97 #[.val (.int p0), .val (.int p1), .val (.long p2), .second, .val (.long p3), .second, .val (.long p4), .second, .val (.int p5), .val (.int (3 : Int32)), .val (.int z0), .val (.int z1), .val (.int z2), .val (.long (((p1 &&& (1023 : Int32)) + (1 : Int32)).toInt64)), .second, .val (.long ((p2 &&& (1099511627775 : Int64)) + (1 : Int64))), .second, .val (.long ((p3 &&& (1099511627775 : Int64)) + (1 : Int64))), .second, .val (.long ((p4 &&& (1099511627775 : Int64)) + (1 : Int64))), .second, .unset, .unset, .unset, .unset, .unset] [(.int (63 : Int32)), (.int (p5 &&& (63 : Int32))), (.long (1 : Int64))])) X0 hx rfl (hb hby at_97) rfl (by decide) ?_
      refine XS.lshl X0.here hx rfl (hb hby at_98) rfl ?_
      refine XS.lstore X0.here hx rfl (hb hby at_99) rfl (l' := #[.val (.int p0), .val (.int p1), .val (.long p2), .second, .val (.long p3), .second, .val (.long p4), .second, .val (.int p5), .val (.int (3 : Int32)), .val (.int z0), .val (.int z1), .val (.int z2), .val (.long (((p1 &&& (1023 : Int32)) + (1 : Int32)).toInt64)), .second, .val (.long ((p2 &&& (1099511627775 : Int64)) + (1 : Int64))), .second, .val (.long ((p3 &&& (1099511627775 : Int64)) + (1 : Int64))), .second, .val (.long ((p4 &&& (1099511627775 : Int64)) + (1 : Int64))), .second, .val (.long ((1 : Int64) <<< (((p5 &&& (63 : Int32)) % (63 : Int32)) &&& 0x3f).toInt64)), .second, .unset, .unset, .unset]) rfl ?_
      refine st139 _ ?_
      refine XS.dup X139.here hx rfl (hb hby at_104) rfl rfl ?_
      exact Steps.refl _
    obtain ⟨_, _, ⟨T141, L141, k141, n141⟩, -, X141, ⟨Lc141, hQ141, l141, y141, z141⟩, st141⟩ := X139.specialBack hx (y := (⟨"java/util/ArrayList", "<init>", "()V"⟩ : MethodName)) rfl hown (mvT hZ (hw _ (List.mem_of_getElem? (i := 4) rfl))) (mvT hZ (hw _ (List.mem_of_getElem? (i := 5) rfl))) (mvT hZ (hw _ (List.mem_of_getElem? (i := 6) rfl))) (by decide) (backOf (W := 1) (rmalin l Z a0 hw [] b139 dc h139 n0 O139 A139 F139_elementData F139_size F139_modCount g_b139 F0_) hZ (hw _ (List.mem_of_getElem? (i := 6) rfl)) (hw _ (List.mem_of_getElem? (i := 3) rfl)) (by decide) (by decide)) (g := (mkF m 105 #[.val (.int p0), .val (.int p1), .val (.long p2), .second, .val (.long p3), .second, .val (.long p4), .second, .val (.int p5), .val (.int (3 : Int32)), .val (.int z0), .val (.int z1), .val (.int z2), .val (.long (((p1 &&& (1023 : Int32)) + (1 : Int32)).toInt64)), .second, .val (.long ((p2 &&& (1099511627775 : Int64)) + (1 : Int64))), .second, .val (.long ((p3 &&& (1099511627775 : Int64)) + (1 : Int64))), .second, .val (.long ((p4 &&& (1099511627775 : Int64)) + (1 : Int64))), .second, .val (.long ((1 : Int64) <<< (((p5 &&& (63 : Int32)) % (63 : Int32)) &&& 0x3f).toInt64)), .second, .unset, .unset, .unset] [(.ref b139), (.ref b139)])) rfl (by rw [hml]; rfl) (Steps.refl _) (a := b139) (argsL := []) (rest := [(.ref b139)]) (lenOf pd_rm0_0 rfl) rfl (by show 2 * 0 + _ ≤ _; exact Nat.le_of_eq rfl) (hb hby at_105) (fun _ _ => ⟨rfl, e139, (by decide : 1 + 0 ≤ _), (by decide : 3 + 0 ≤ _)⟩)
    dsimp only [Pt.U, Pt.locs, Pt.cells, Pt.slots] at X141 l141 y141 z141 st141 hQ141
    subst l141 y141 z141
    obtain ⟨rfl, Nq141, Kc141, f141_0, f141_1, f141_2, f141_3⟩ := hQ141
    have N141 := Fr.app N0 Nq141
    have O141 := O139.keep Kc141 (allS g_b139 all0)
    have hkk141 := Nat.le_trans hkk139 Kc141.1
    obtain ⟨T142, h142, X142, e142, E142, A142, D142, -, st142⟩ := newO X141 hx hZ hown (hw _ (List.mem_of_getElem? (i := 43) rfl)) (hw _ (List.mem_of_getElem? (i := 44) rfl)) (hw _ (List.mem_of_getElem? (i := 45) rfl)) (rfl : T141.heap = T141.heap) (g := (mkF m 117 #[.val (.int p0), .val (.int p1), .val (.long p2), .second, .val (.long p3), .second, .val (.long p4), .second, .val (.int p5), .val (.int (3 : Int32)), .val (.int z0), .val (.int z1), .val (.int z2), .val (.long (((p1 &&& (1023 : Int32)) + (1 : Int32)).toInt64)), .second, .val (.long ((p2 &&& (1099511627775 : Int64)) + (1 : Int64))), .second, .val (.long ((p3 &&& (1099511627775 : Int64)) + (1 : Int64))), .second, .val (.long ((p4 &&& (1099511627775 : Int64)) + (1 : Int64))), .second, .val (.long ((1 : Int64) <<< (((p5 &&& (63 : Int32)) % (63 : Int32)) &&& 0x3f).toInt64)), .second, .val (.ref b139), .unset, .unset] [(.ref b139)])) rfl (hb hby at_117) (by decide) (by decide)
    obtain ⟨b142, g142⟩ : ∃ z, z = T141.heap.size := ⟨_, rfl⟩
    rw [← g142] at A142 D142 st142
    have ne_b139_b142 : b139 ≠ b142 := Nat.ne_of_lt (Nat.lt_of_lt_of_le f141_0.lt (Nat.le_of_eq g142.symm))
    have g_b142 : n0 ≤ b142 := Nat.le_trans (Nat.le_of_eq O141.1.symm) (Nat.le_trans O141.2.1 (Nat.le_of_eq g142.symm))
    have O142 := O141.ext E142
    have hkk142 := Nat.le_trans hkk141 E142.1
    have F142_stem : Fld Z h142 b142 "com/example/libprox/libprox/RankingModel$QueryTerm" "stem" "Ljava/lang/String;" .null := D142 (Or.inr (hw _ (List.mem_of_getElem? (i := 64) rfl))) (ty := (.object "java/lang/String")) (by decide)
    have F142_collectionFrequency : Fld Z h142 b142 "com/example/libprox/libprox/RankingModel$QueryTerm" "collectionFrequency" "J" (.long (0 : Int64)) := D142 (Or.inr (hw _ (List.mem_of_getElem? (i := 66) rfl))) (ty := .long) (by decide)
    have F142_stopWord : Fld Z h142 b142 "com/example/libprox/libprox/RankingModel$QueryTerm" "stopWord" "Z" (.int (0 : Int32)) := D142 (Or.inr (hw _ (List.mem_of_getElem? (i := 68) rfl))) (ty := .boolean) (by decide)
    have s143 : Steps p.tables e below A₀ (T142.setTop (mkF m 121 #[.val (.int p0), .val (.int p1), .val (.long p2), .second, .val (.long p3), .second, .val (.long p4), .second, .val (.int p5), .val (.int (3 : Int32)), .val (.int z0), .val (.int z1), .val (.int z2), .val (.long (((p1 &&& (1023 : Int32)) + (1 : Int32)).toInt64)), .second, .val (.long ((p2 &&& (1099511627775 : Int64)) + (1 : Int64))), .second, .val (.long ((p3 &&& (1099511627775 : Int64)) + (1 : Int64))), .second, .val (.long ((p4 &&& (1099511627775 : Int64)) + (1 : Int64))), .second, .val (.long ((1 : Int64) <<< (((p5 &&& (63 : Int32)) % (63 : Int32)) &&& 0x3f).toInt64)), .second, .val (.ref b139), .unset, .unset] [(.ref b142), (.ref b142), (.ref b139)])) := by
      refine s140.trans ?_
      show Steps p.tables e below (T139.setTop (mkF m 105 #[.val (.int p0), .val (.int p1), .val (.long p2), .second, .val (.long p3), .second, .val (.long p4), .second, .val (.int p5), .val (.int (3 : Int32)), .val (.int z0), .val (.int z1), .val (.int z2), .val (.long (((p1 &&& (1023 : Int32)) + (1 : Int32)).toInt64)), .second, .val (.long ((p2 &&& (1099511627775 : Int64)) + (1 : Int64))), .second, .val (.long ((p3 &&& (1099511627775 : Int64)) + (1 : Int64))), .second, .val (.long ((p4 &&& (1099511627775 : Int64)) + (1 : Int64))), .second, .val (.long ((1 : Int64) <<< (((p5 &&& (63 : Int32)) % (63 : Int32)) &&& 0x3f).toInt64)), .second, .unset, .unset, .unset] [(.ref b139), (.ref b139)])) _
      refine st141.trans ?_
      refine XS.astore X141.here hx rfl (hb hby at_108) rfl rfl (l' := #[.val (.int p0), .val (.int p1), .val (.long p2), .second, .val (.long p3), .second, .val (.long p4), .second, .val (.int p5), .val (.int (3 : Int32)), .val (.int z0), .val (.int z1), .val (.int z2), .val (.long (((p1 &&& (1023 : Int32)) + (1 : Int32)).toInt64)), .second, .val (.long ((p2 &&& (1099511627775 : Int64)) + (1 : Int64))), .second, .val (.long ((p3 &&& (1099511627775 : Int64)) + (1 : Int64))), .second, .val (.long ((p4 &&& (1099511627775 : Int64)) + (1 : Int64))), .second, .val (.long ((1 : Int64) <<< (((p5 &&& (63 : Int32)) % (63 : Int32)) &&& 0x3f).toInt64)), .second, .val (.ref b139), .unset, .unset]) rfl ?_
      refine XS.iload X141.here hx rfl (hb hby at_110) rfl ?_
      refine XS.ifNo X141.here hx rfl (hb hby at_112) rfl ((if0 _ _).trans (tlt (by decide)).2.2.2) ?_
      refine XS.aload X141.here hx rfl (hb hby at_115) rfl rfl ?_
      refine st142 _ ?_
      refine XS.dup X142.here hx rfl (hb hby at_120) rfl rfl ?_
      exact Steps.refl _
    obtain ⟨a144, T144, h144, k144, X144, e144, E144, hS144, hk144, hZ144, hown144, st144⟩ := ldcS X142 hx hZ hown (hw _ (List.mem_of_getElem? (i := 46) rfl)) (own_wS hw) e142 hS0 hkk142 (g := (mkF m 121 #[.val (.int p0), .val (.int p1), .val (.long p2), .second, .val (.long p3), .second, .val (.long p4), .second, .val (.int p5), .val (.int (3 : Int32)), .val (.int z0), .val (.int z1), .val (.int z2), .val (.long (((p1 &&& (1023 : Int32)) + (1 : Int32)).toInt64)), .second, .val (.long ((p2 &&& (1099511627775 : Int64)) + (1 : Int64))), .second, .val (.long ((p3 &&& (1099511627775 : Int64)) + (1 : Int64))), .second, .val (.long ((p4 &&& (1099511627775 : Int64)) + (1 : Int64))), .second, .val (.long ((1 : Int64) <<< (((p5 &&& (63 : Int32)) % (63 : Int32)) &&& 0x3f).toInt64)), .second, .val (.ref b139), .unset, .unset] [(.ref b142), (.ref b142), (.ref b139)])) rfl (hb hby at_121) (n := 4) (by decide) (by decide) (by decide) (by decide)
    have O144 := O142.ext E144
    have hkk144 := Nat.le_trans hkk142 E144.1
    have s145 : Steps p.tables e below A₀ (T144.setTop (mkF m 127 #[.val (.int p0), .val (.int p1), .val (.long p2), .second, .val (.long p3), .second, .val (.long p4), .second, .val (.int p5), .val (.int (3 : Int32)), .val (.int z0), .val (.int z1), .val (.int z2), .val (.long (((p1 &&& (1023 : Int32)) + (1 : Int32)).toInt64)), .second, .val (.long ((p2 &&& (1099511627775 : Int64)) + (1 : Int64))), .second, .val (.long ((p3 &&& (1099511627775 : Int64)) + (1 : Int64))), .second, .val (.long ((p4 &&& (1099511627775 : Int64)) + (1 : Int64))), .second, .val (.long ((1 : Int64) <<< (((p5 &&& (63 : Int32)) % (63 : Int32)) &&& 0x3f).toInt64)), .second, .val (.ref b139), .unset, .unset] [(.int z0), (.long ((p2 &&& (1099511627775 : Int64)) + (1 : Int64))), (.ref a144), (.ref b142), (.ref b142), (.ref b139)])) := by
      refine s143.trans ?_
      show Steps p.tables e below (T142.setTop (mkF m 121 #[.val (.int p0), .val (.int p1), .val (.long p2), .second, .val (.long p3), .second, .val (.long p4), .second, .val (.int p5), .val (.int (3 : Int32)), .val (.int z0), .val (.int z1), .val (.int z2), .val (.long (((p1 &&& (1023 : Int32)) + (1 : Int32)).toInt64)), .second, .val (.long ((p2 &&& (1099511627775 : Int64)) + (1 : Int64))), .second, .val (.long ((p3 &&& (1099511627775 : Int64)) + (1 : Int64))), .second, .val (.long ((p4 &&& (1099511627775 : Int64)) + (1 : Int64))), .second, .val (.long ((1 : Int64) <<< (((p5 &&& (63 : Int32)) % (63 : Int32)) &&& 0x3f).toInt64)), .second, .val (.ref b139), .unset, .unset] [(.ref b142), (.ref b142), (.ref b139)])) _
      refine st144 _ ?_
      refine XS.lload X144.here hx rfl (hb hby at_123) rfl ?_
      refine XS.iload X144.here hx rfl (hb hby at_125) rfl ?_
      exact Steps.refl _
    have c146 : Exa Z h144 b142 "com/example/libprox/libprox/RankingModel$QueryTerm" := (A142.ext E144)
    have c147 : Fld Z h144 b142 "com/example/libprox/libprox/RankingModel$QueryTerm" "stem" "Ljava/lang/String;" .null := (F142_stem.ext E144)
    have c148 : Fld Z h144 b142 "com/example/libprox/libprox/RankingModel$QueryTerm" "collectionFrequency" "J" (.long (0 : Int64)) := (F142_collectionFrequency.ext E144)
    have c149 : Fld Z h144 b142 "com/example/libprox/libprox/RankingModel$QueryTerm" "stopWord" "Z" (.int (0 : Int32)) := (F142_stopWord.ext E144)
    obtain ⟨_, _, ⟨T150, L150, k150, n150⟩, -, X150, ⟨Lc150, hQ150, l150, y150, z150⟩, st150⟩ := X144.specialBack hx (y := (⟨"com/example/libprox/libprox/RankingModel$QueryTerm", "<init>", "(Ljava/lang/String;JZ)V"⟩ : MethodName)) rfl hown144 (mvT hZ144 (hw _ (List.mem_of_getElem? (i := 54) rfl))) (mvT hZ144 (hw _ (List.mem_of_getElem? (i := 55) rfl))) (mvT hZ144 (hw _ (List.mem_of_getElem? (i := 56) rfl))) (by decide) (backOf (W := 2) (rmqi l Z a0 hw [] b142 a144 ((p2 &&& (1099511627775 : Int64)) + (1 : Int64)) z0 h144 n0 O144 c146 c147 c148 c149 g_b142) hZ144 (hw _ (List.mem_of_getElem? (i := 56) rfl)) (hw _ (List.mem_of_getElem? (i := 45) rfl)) (by decide) (by decide)) (g := (mkF m 127 #[.val (.int p0), .val (.int p1), .val (.long p2), .second, .val (.long p3), .second, .val (.long p4), .second, .val (.int p5), .val (.int (3 : Int32)), .val (.int z0), .val (.int z1), .val (.int z2), .val (.long (((p1 &&& (1023 : Int32)) + (1 : Int32)).toInt64)), .second, .val (.long ((p2 &&& (1099511627775 : Int64)) + (1 : Int64))), .second, .val (.long ((p3 &&& (1099511627775 : Int64)) + (1 : Int64))), .second, .val (.long ((p4 &&& (1099511627775 : Int64)) + (1 : Int64))), .second, .val (.long ((1 : Int64) <<< (((p5 &&& (63 : Int32)) % (63 : Int32)) &&& 0x3f).toInt64)), .second, .val (.ref b139), .unset, .unset] [(.int z0), (.long ((p2 &&& (1099511627775 : Int64)) + (1 : Int64))), (.ref a144), (.ref b142), (.ref b142), (.ref b139)])) rfl (by rw [hml]; rfl) (Steps.refl _) (a := b142) (argsL := [(.ref a144), (.long ((p2 &&& (1099511627775 : Int64)) + (1 : Int64))), (.int z0)]) (rest := [(.ref b142), (.ref b139)]) (lenOf pd_rm0_2 rfl) rfl (by show 2 * 0 + _ ≤ _; exact Nat.le_of_eq rfl) (hb hby at_127) (fun _ _ => ⟨rfl, e144, (by decide : 4 + 0 ≤ _), (by decide : 14 + 0 ≤ _)⟩)
    dsimp only [Pt.U, Pt.locs, Pt.cells, Pt.slots] at X150 l150 y150 z150 st150 hQ150
    subst l150 y150 z150
    obtain ⟨rfl, Nq150, Kc150, f150_0, f150_1⟩ := hQ150
    have N150 := Fr.app N141 Nq150
    have O150 := O144.keep Kc150 (allS g_b142 all0)
    have hkk150 := Nat.le_trans hk144 Kc150.1
    have s151 : Steps p.tables e below A₀ (T150.setTop (mkF m 130 #[.val (.int p0), .val (.int p1), .val (.long p2), .second, .val (.long p3), .second, .val (.long p4), .second, .val (.int p5), .val (.int (3 : Int32)), .val (.int z0), .val (.int z1), .val (.int z2), .val (.long (((p1 &&& (1023 : Int32)) + (1 : Int32)).toInt64)), .second, .val (.long ((p2 &&& (1099511627775 : Int64)) + (1 : Int64))), .second, .val (.long ((p3 &&& (1099511627775 : Int64)) + (1 : Int64))), .second, .val (.long ((p4 &&& (1099511627775 : Int64)) + (1 : Int64))), .second, .val (.long ((1 : Int64) <<< (((p5 &&& (63 : Int32)) % (63 : Int32)) &&& 0x3f).toInt64)), .second, .val (.ref b139), .unset, .unset] [(.ref b142), (.ref b139)])) := by
      refine s145.trans ?_
      show Steps p.tables e below (T144.setTop (mkF m 127 #[.val (.int p0), .val (.int p1), .val (.long p2), .second, .val (.long p3), .second, .val (.long p4), .second, .val (.int p5), .val (.int (3 : Int32)), .val (.int z0), .val (.int z1), .val (.int z2), .val (.long (((p1 &&& (1023 : Int32)) + (1 : Int32)).toInt64)), .second, .val (.long ((p2 &&& (1099511627775 : Int64)) + (1 : Int64))), .second, .val (.long ((p3 &&& (1099511627775 : Int64)) + (1 : Int64))), .second, .val (.long ((p4 &&& (1099511627775 : Int64)) + (1 : Int64))), .second, .val (.long ((1 : Int64) <<< (((p5 &&& (63 : Int32)) % (63 : Int32)) &&& 0x3f).toInt64)), .second, .val (.ref b139), .unset, .unset] [(.int z0), (.long ((p2 &&& (1099511627775 : Int64)) + (1 : Int64))), (.ref a144), (.ref b142), (.ref b142), (.ref b139)])) _
      refine st150.trans ?_
      exact Steps.refl _
    have c152 : Exa Z T150.heap b139 "java/util/ArrayList" := (((f141_0.ext E142).ext E144).keep Kc150)
    have c153 : Fld Z T150.heap b139 "java/util/ArrayList" "elementData" "[Ljava/lang/Object;" (.ref dc) := (((f141_1.ext E142).ext E144).keep Kc150 (ninS ne_b139_b142 nin0))
    have c154 : Fld Z T150.heap b139 "java/util/ArrayList" "size" "I" (.int (0 : Int32)) := (((f141_2.ext E142).ext E144).keep Kc150 (ninS ne_b139_b142 nin0))
    have c155 : Fld Z T150.heap b139 "java/util/AbstractList" "modCount" "I" (.int (0 : Int32)) := (((f141_3.ext E142).ext E144).keep Kc150 (ninS ne_b139_b142 nin0))
    obtain ⟨cq156, kq156, q156a, q156b, q156c⟩ := isOf hZ144 (rfl : T150.heap = T150.heap) c152
    obtain ⟨_, _, ⟨T156, L156, k156, n156⟩, -, X156, ⟨Lc156, hQ156, l156, y156, z156⟩, st156⟩ := X150.interfaceBack hx (xi := (⟨"java/util/List", "add", "(Ljava/lang/Object;)Z"⟩ : MethodName)) (y := (⟨"java/util/ArrayList", "add", "(Ljava/lang/Object;)Z"⟩ : MethodName)) hown144 (mvT hZ144 (hw _ (List.mem_of_getElem? (i := 69) rfl))) (mvT hZ144 (hw _ (List.mem_of_getElem? (i := 70) rfl))) (mvT hZ144 (hw _ (List.mem_of_getElem? (i := 71) rfl))) (mvT hZ144 (hw _ (List.mem_of_getElem? (i := 72) rfl))) (mvT hZ144 (hw _ (List.mem_of_getElem? (i := 73) rfl))) (mvT hZ144 (hw _ (List.mem_of_getElem? (i := 74) rfl))) (mvT hZ144 (hw _ (List.mem_of_getElem? (i := 75) rfl))) (mvT hZ144 (hw _ (List.mem_of_getElem? (i := 38) rfl))) (by decide) (backOf (W := 0) (rmala_0 l Z a0 hw [] b139 b142 dc kd (0 : Int32) T150.heap n0 O150 c152 c153 c154 c155 g_b139 F0_ F1_ f150_0) hZ144 (hw _ (List.mem_of_getElem? (i := 76) rfl)) (hw _ (List.mem_of_getElem? (i := 3) rfl)) (by decide) (by decide)) q156a q156b q156c (g := (mkF m 130 #[.val (.int p0), .val (.int p1), .val (.long p2), .second, .val (.long p3), .second, .val (.long p4), .second, .val (.int p5), .val (.int (3 : Int32)), .val (.int z0), .val (.int z1), .val (.int z2), .val (.long (((p1 &&& (1023 : Int32)) + (1 : Int32)).toInt64)), .second, .val (.long ((p2 &&& (1099511627775 : Int64)) + (1 : Int64))), .second, .val (.long ((p3 &&& (1099511627775 : Int64)) + (1 : Int64))), .second, .val (.long ((p4 &&& (1099511627775 : Int64)) + (1 : Int64))), .second, .val (.long ((1 : Int64) <<< (((p5 &&& (63 : Int32)) % (63 : Int32)) &&& 0x3f).toInt64)), .second, .val (.ref b139), .unset, .unset] [(.ref b142), (.ref b139)])) rfl (by rw [hml]; rfl) (Steps.refl _) (argsL := [(.ref b142)]) (rest := []) (lenOf pd_rm0_3 rfl) rfl (by show 2 * 0 + _ ≤ _; exact Nat.le_of_eq rfl) (hb hby at_130) (fun _ _ => ⟨rfl, (rfl : T150.heap = T150.heap), (by decide : 4 + 1 ≤ _), (by decide : 14 + 10 ≤ _)⟩)
    dsimp only [Pt.U, Pt.locs, Pt.cells, Pt.slots] at X156 l156 y156 z156 st156 hQ156
    subst l156 y156 z156
    obtain ⟨u157, u158, rfl, Nq156, Kc156, f156_0, f156_1, f156_2, f156_3, f156_4, f156_5, f156_6, f156_7⟩ := hQ156
    have N156 := Fr.app N150 Nq156
    have ne_b139_u157 : b139 ≠ u157 := Nat.ne_of_lt (Nat.lt_of_lt_of_le c152.lt f156_6)
    have ne_b142_u157 : b142 ≠ u157 := Nat.ne_of_lt (Nat.lt_of_lt_of_le f150_0.lt f156_6)
    have g_u157 : n0 ≤ u157 := Nat.le_trans (Nat.le_of_eq O150.1.symm) (Nat.le_trans O150.2.1 f156_6)
    have O156 := O150.keep Kc156 (allS g_b139 all0)
    have hkk156 := Nat.le_trans hkk150 Kc156.1
    obtain ⟨T159, h159, X159, e159, E159, A159, D159, -, st159⟩ := newO X156 hx hZ144 hown144 (hw _ (List.mem_of_getElem? (i := 43) rfl)) (hw _ (List.mem_of_getElem? (i := 44) rfl)) (hw _ (List.mem_of_getElem? (i := 45) rfl)) (rfl : T156.heap = T156.heap) (g := (mkF m 144 #[.val (.int p0), .val (.int p1), .val (.long p2), .second, .val (.long p3), .second, .val (.long p4), .second, .val (.int p5), .val (.int (3 : Int32)), .val (.int z0), .val (.int z1), .val (.int z2), .val (.long (((p1 &&& (1023 : Int32)) + (1 : Int32)).toInt64)), .second, .val (.long ((p2 &&& (1099511627775 : Int64)) + (1 : Int64))), .second, .val (.long ((p3 &&& (1099511627775 : Int64)) + (1 : Int64))), .second, .val (.long ((p4 &&& (1099511627775 : Int64)) + (1 : Int64))), .second, .val (.long ((1 : Int64) <<< (((p5 &&& (63 : Int32)) % (63 : Int32)) &&& 0x3f).toInt64)), .second, .val (.ref b139), .unset, .unset] [(.ref b139)])) rfl (hb hby at_144) (by decide) (by decide)
    obtain ⟨b159, g159⟩ : ∃ z, z = T156.heap.size := ⟨_, rfl⟩
    rw [← g159] at A159 D159 st159
    have ne_b139_b159 : b139 ≠ b159 := Nat.ne_of_lt (Nat.lt_of_lt_of_le f156_0.lt (Nat.le_of_eq g159.symm))
    have c160 : Exa Z T156.heap b142 "com/example/libprox/libprox/RankingModel$QueryTerm" := (f150_0.keep Kc156)
    have ne_b142_b159 : b142 ≠ b159 := Nat.ne_of_lt (Nat.lt_of_lt_of_le c160.lt (Nat.le_of_eq g159.symm))
    have ne_u157_b159 : u157 ≠ b159 := Nat.ne_of_lt (Nat.lt_of_lt_of_le f156_4.lt (Nat.le_of_eq g159.symm))
    have g_b159 : n0 ≤ b159 := Nat.le_trans (Nat.le_of_eq O156.1.symm) (Nat.le_trans O156.2.1 (Nat.le_of_eq g159.symm))
    have O159 := O156.ext E159
    have hkk159 := Nat.le_trans hkk156 E159.1
    have F159_stem : Fld Z h159 b159 "com/example/libprox/libprox/RankingModel$QueryTerm" "stem" "Ljava/lang/String;" .null := D159 (Or.inr (hw _ (List.mem_of_getElem? (i := 64) rfl))) (ty := (.object "java/lang/String")) (by decide)
    have F159_collectionFrequency : Fld Z h159 b159 "com/example/libprox/libprox/RankingModel$QueryTerm" "collectionFrequency" "J" (.long (0 : Int64)) := D159 (Or.inr (hw _ (List.mem_of_getElem? (i := 66) rfl))) (ty := .long) (by decide)
    have F159_stopWord : Fld Z h159 b159 "com/example/libprox/libprox/RankingModel$QueryTerm" "stopWord" "Z" (.int (0 : Int32)) := D159 (Or.inr (hw _ (List.mem_of_getElem? (i := 68) rfl))) (ty := .boolean) (by decide)
    have s161 : Steps p.tables e below A₀ (T159.setTop (mkF m 148 #[.val (.int p0), .val (.int p1), .val (.long p2), .second, .val (.long p3), .second, .val (.long p4), .second, .val (.int p5), .val (.int (3 : Int32)), .val (.int z0), .val (.int z1), .val (.int z2), .val (.long (((p1 &&& (1023 : Int32)) + (1 : Int32)).toInt64)), .second, .val (.long ((p2 &&& (1099511627775 : Int64)) + (1 : Int64))), .second, .val (.long ((p3 &&& (1099511627775 : Int64)) + (1 : Int64))), .second, .val (.long ((p4 &&& (1099511627775 : Int64)) + (1 : Int64))), .second, .val (.long ((1 : Int64) <<< (((p5 &&& (63 : Int32)) % (63 : Int32)) &&& 0x3f).toInt64)), .second, .val (.ref b139), .unset, .unset] [(.ref b159), (.ref b159), (.ref b139)])) := by
      refine s151.trans ?_
      show Steps p.tables e below (T150.setTop (mkF m 130 #[.val (.int p0), .val (.int p1), .val (.long p2), .second, .val (.long p3), .second, .val (.long p4), .second, .val (.int p5), .val (.int (3 : Int32)), .val (.int z0), .val (.int z1), .val (.int z2), .val (.long (((p1 &&& (1023 : Int32)) + (1 : Int32)).toInt64)), .second, .val (.long ((p2 &&& (1099511627775 : Int64)) + (1 : Int64))), .second, .val (.long ((p3 &&& (1099511627775 : Int64)) + (1 : Int64))), .second, .val (.long ((p4 &&& (1099511627775 : Int64)) + (1 : Int64))), .second, .val (.long ((1 : Int64) <<< (((p5 &&& (63 : Int32)) % (63 : Int32)) &&& 0x3f).toInt64)), .second, .val (.ref b139), .unset, .unset] [(.ref b142), (.ref b139)])) _
      refine st156.trans ?_
      refine XS.pop X156.here hx rfl (hb hby at_135) rfl rfl ?_
      refine XS.iload X156.here hx rfl (hb hby at_136) rfl ?_
      refine XS.iconst X156.here hx rfl (hb hby at_138) ?_
      refine XS.icmpNo X156.here hx rfl (hb hby at_139) rfl (tlt (by decide)).2.2.2 ?_
      refine XS.aload X156.here hx rfl (hb hby at_142) rfl rfl ?_
      refine st159 _ ?_
      refine XS.dup X159.here hx rfl (hb hby at_147) rfl rfl ?_
      exact Steps.refl _
    obtain ⟨a162, T162, h162, k162, X162, e162, E162, hS162, hk162, hZ162, hown162, st162⟩ := ldcS X159 hx hZ144 hown144 (hw _ (List.mem_of_getElem? (i := 133) rfl)) (own_wS hw) e159 hS144 hkk159 (g := (mkF m 148 #[.val (.int p0), .val (.int p1), .val (.long p2), .second, .val (.long p3), .second, .val (.long p4), .second, .val (.int p5), .val (.int (3 : Int32)), .val (.int z0), .val (.int z1), .val (.int z2), .val (.long (((p1 &&& (1023 : Int32)) + (1 : Int32)).toInt64)), .second, .val (.long ((p2 &&& (1099511627775 : Int64)) + (1 : Int64))), .second, .val (.long ((p3 &&& (1099511627775 : Int64)) + (1 : Int64))), .second, .val (.long ((p4 &&& (1099511627775 : Int64)) + (1 : Int64))), .second, .val (.long ((1 : Int64) <<< (((p5 &&& (63 : Int32)) % (63 : Int32)) &&& 0x3f).toInt64)), .second, .val (.ref b139), .unset, .unset] [(.ref b159), (.ref b159), (.ref b139)])) rfl (hb hby at_148) (n := 4) (by decide) (by decide) (by decide) (by decide)
    have O162 := O159.ext E162
    have hkk162 := Nat.le_trans hkk159 E162.1
    have s163 : Steps p.tables e below A₀ (T162.setTop (mkF m 154 #[.val (.int p0), .val (.int p1), .val (.long p2), .second, .val (.long p3), .second, .val (.long p4), .second, .val (.int p5), .val (.int (3 : Int32)), .val (.int z0), .val (.int z1), .val (.int z2), .val (.long (((p1 &&& (1023 : Int32)) + (1 : Int32)).toInt64)), .second, .val (.long ((p2 &&& (1099511627775 : Int64)) + (1 : Int64))), .second, .val (.long ((p3 &&& (1099511627775 : Int64)) + (1 : Int64))), .second, .val (.long ((p4 &&& (1099511627775 : Int64)) + (1 : Int64))), .second, .val (.long ((1 : Int64) <<< (((p5 &&& (63 : Int32)) % (63 : Int32)) &&& 0x3f).toInt64)), .second, .val (.ref b139), .unset, .unset] [(.int z1), (.long ((p3 &&& (1099511627775 : Int64)) + (1 : Int64))), (.ref a162), (.ref b159), (.ref b159), (.ref b139)])) := by
      refine s161.trans ?_
      show Steps p.tables e below (T159.setTop (mkF m 148 #[.val (.int p0), .val (.int p1), .val (.long p2), .second, .val (.long p3), .second, .val (.long p4), .second, .val (.int p5), .val (.int (3 : Int32)), .val (.int z0), .val (.int z1), .val (.int z2), .val (.long (((p1 &&& (1023 : Int32)) + (1 : Int32)).toInt64)), .second, .val (.long ((p2 &&& (1099511627775 : Int64)) + (1 : Int64))), .second, .val (.long ((p3 &&& (1099511627775 : Int64)) + (1 : Int64))), .second, .val (.long ((p4 &&& (1099511627775 : Int64)) + (1 : Int64))), .second, .val (.long ((1 : Int64) <<< (((p5 &&& (63 : Int32)) % (63 : Int32)) &&& 0x3f).toInt64)), .second, .val (.ref b139), .unset, .unset] [(.ref b159), (.ref b159), (.ref b139)])) _
      refine st162 _ ?_
      refine XS.lload X162.here hx rfl (hb hby at_150) rfl ?_
      refine XS.iload X162.here hx rfl (hb hby at_152) rfl ?_
      exact Steps.refl _
    have c164 : Exa Z h162 b159 "com/example/libprox/libprox/RankingModel$QueryTerm" := (A159.ext E162)
    have c165 : Fld Z h162 b159 "com/example/libprox/libprox/RankingModel$QueryTerm" "stem" "Ljava/lang/String;" .null := (F159_stem.ext E162)
    have c166 : Fld Z h162 b159 "com/example/libprox/libprox/RankingModel$QueryTerm" "collectionFrequency" "J" (.long (0 : Int64)) := (F159_collectionFrequency.ext E162)
    have c167 : Fld Z h162 b159 "com/example/libprox/libprox/RankingModel$QueryTerm" "stopWord" "Z" (.int (0 : Int32)) := (F159_stopWord.ext E162)
    obtain ⟨_, _, ⟨T168, L168, k168, n168⟩, -, X168, ⟨Lc168, hQ168, l168, y168, z168⟩, st168⟩ := X162.specialBack hx (y := (⟨"com/example/libprox/libprox/RankingModel$QueryTerm", "<init>", "(Ljava/lang/String;JZ)V"⟩ : MethodName)) rfl hown162 (mvT hZ162 (hw _ (List.mem_of_getElem? (i := 54) rfl))) (mvT hZ162 (hw _ (List.mem_of_getElem? (i := 55) rfl))) (mvT hZ162 (hw _ (List.mem_of_getElem? (i := 56) rfl))) (by decide) (backOf (W := 2) (rmqi l Z a0 hw [] b159 a162 ((p3 &&& (1099511627775 : Int64)) + (1 : Int64)) z1 h162 n0 O162 c164 c165 c166 c167 g_b159) hZ162 (hw _ (List.mem_of_getElem? (i := 56) rfl)) (hw _ (List.mem_of_getElem? (i := 45) rfl)) (by decide) (by decide)) (g := (mkF m 154 #[.val (.int p0), .val (.int p1), .val (.long p2), .second, .val (.long p3), .second, .val (.long p4), .second, .val (.int p5), .val (.int (3 : Int32)), .val (.int z0), .val (.int z1), .val (.int z2), .val (.long (((p1 &&& (1023 : Int32)) + (1 : Int32)).toInt64)), .second, .val (.long ((p2 &&& (1099511627775 : Int64)) + (1 : Int64))), .second, .val (.long ((p3 &&& (1099511627775 : Int64)) + (1 : Int64))), .second, .val (.long ((p4 &&& (1099511627775 : Int64)) + (1 : Int64))), .second, .val (.long ((1 : Int64) <<< (((p5 &&& (63 : Int32)) % (63 : Int32)) &&& 0x3f).toInt64)), .second, .val (.ref b139), .unset, .unset] [(.int z1), (.long ((p3 &&& (1099511627775 : Int64)) + (1 : Int64))), (.ref a162), (.ref b159), (.ref b159), (.ref b139)])) rfl (by rw [hml]; rfl) (Steps.refl _) (a := b159) (argsL := [(.ref a162), (.long ((p3 &&& (1099511627775 : Int64)) + (1 : Int64))), (.int z1)]) (rest := [(.ref b159), (.ref b139)]) (lenOf pd_rm0_2 rfl) rfl (by show 2 * 0 + _ ≤ _; exact Nat.le_of_eq rfl) (hb hby at_154) (fun _ _ => ⟨rfl, e162, (by decide : 8 + 0 ≤ _), (by decide : 35 + 0 ≤ _)⟩)
    dsimp only [Pt.U, Pt.locs, Pt.cells, Pt.slots] at X168 l168 y168 z168 st168 hQ168
    subst l168 y168 z168
    obtain ⟨rfl, Nq168, Kc168, f168_0, f168_1⟩ := hQ168
    have N168 := Fr.app N156 Nq168
    have O168 := O162.keep Kc168 (allS g_b159 all0)
    have hkk168 := Nat.le_trans hk162 Kc168.1
    have s169 : Steps p.tables e below A₀ (T168.setTop (mkF m 157 #[.val (.int p0), .val (.int p1), .val (.long p2), .second, .val (.long p3), .second, .val (.long p4), .second, .val (.int p5), .val (.int (3 : Int32)), .val (.int z0), .val (.int z1), .val (.int z2), .val (.long (((p1 &&& (1023 : Int32)) + (1 : Int32)).toInt64)), .second, .val (.long ((p2 &&& (1099511627775 : Int64)) + (1 : Int64))), .second, .val (.long ((p3 &&& (1099511627775 : Int64)) + (1 : Int64))), .second, .val (.long ((p4 &&& (1099511627775 : Int64)) + (1 : Int64))), .second, .val (.long ((1 : Int64) <<< (((p5 &&& (63 : Int32)) % (63 : Int32)) &&& 0x3f).toInt64)), .second, .val (.ref b139), .unset, .unset] [(.ref b159), (.ref b139)])) := by
      refine s163.trans ?_
      show Steps p.tables e below (T162.setTop (mkF m 154 #[.val (.int p0), .val (.int p1), .val (.long p2), .second, .val (.long p3), .second, .val (.long p4), .second, .val (.int p5), .val (.int (3 : Int32)), .val (.int z0), .val (.int z1), .val (.int z2), .val (.long (((p1 &&& (1023 : Int32)) + (1 : Int32)).toInt64)), .second, .val (.long ((p2 &&& (1099511627775 : Int64)) + (1 : Int64))), .second, .val (.long ((p3 &&& (1099511627775 : Int64)) + (1 : Int64))), .second, .val (.long ((p4 &&& (1099511627775 : Int64)) + (1 : Int64))), .second, .val (.long ((1 : Int64) <<< (((p5 &&& (63 : Int32)) % (63 : Int32)) &&& 0x3f).toInt64)), .second, .val (.ref b139), .unset, .unset] [(.int z1), (.long ((p3 &&& (1099511627775 : Int64)) + (1 : Int64))), (.ref a162), (.ref b159), (.ref b159), (.ref b139)])) _
      refine st168.trans ?_
      exact Steps.refl _
    have c170 : Exa Z T168.heap b139 "java/util/ArrayList" := (((f156_0.ext E159).ext E162).keep Kc168)
    have c171 : Fld Z T168.heap b139 "java/util/ArrayList" "elementData" "[Ljava/lang/Object;" (.ref u157) := (((f156_1.ext E159).ext E162).keep Kc168 (ninS ne_b139_b159 nin0))
    have c172 : Fld Z T168.heap b139 "java/util/ArrayList" "size" "I" (.int (1 : Int32)) := (((f156_2.ext E159).ext E162).keep Kc168 (ninS ne_b139_b159 nin0))
    have c173 : Fld Z T168.heap b139 "java/util/AbstractList" "modCount" "I" (.int ((0 : Int32) + (1 : Int32))) := (((f156_3.ext E159).ext E162).keep Kc168 (ninS ne_b139_b159 nin0))
    have c174 : Arv Z T168.heap u157 u158 (.object "java/lang/Object") (10 : Int32) [(.ref b142), .null, .null, .null, .null, .null, .null, .null, .null, .null] .null := (((f156_4.ext E159).ext E162).keep Kc168 (ninS ne_u157_b159 nin0))
    obtain ⟨cq175, kq175, q175a, q175b, q175c⟩ := isOf hZ162 (rfl : T168.heap = T168.heap) c170
    obtain ⟨_, _, ⟨T175, L175, k175, n175⟩, -, X175, ⟨Lc175, hQ175, l175, y175, z175⟩, st175⟩ := X168.interfaceBack hx (xi := (⟨"java/util/List", "add", "(Ljava/lang/Object;)Z"⟩ : MethodName)) (y := (⟨"java/util/ArrayList", "add", "(Ljava/lang/Object;)Z"⟩ : MethodName)) hown162 (mvT hZ162 (hw _ (List.mem_of_getElem? (i := 69) rfl))) (mvT hZ162 (hw _ (List.mem_of_getElem? (i := 70) rfl))) (mvT hZ162 (hw _ (List.mem_of_getElem? (i := 71) rfl))) (mvT hZ162 (hw _ (List.mem_of_getElem? (i := 72) rfl))) (mvT hZ162 (hw _ (List.mem_of_getElem? (i := 73) rfl))) (mvT hZ162 (hw _ (List.mem_of_getElem? (i := 74) rfl))) (mvT hZ162 (hw _ (List.mem_of_getElem? (i := 75) rfl))) (mvT hZ162 (hw _ (List.mem_of_getElem? (i := 38) rfl))) (by decide) (backOf (W := 0) (rmala_1 l Z a0 hw [] b139 b159 u157 b142 u158 ((0 : Int32) + (1 : Int32)) T168.heap n0 O168 c170 c171 c172 c173 c174 f156_5 g_b139 g_u157 f156_7 f168_0) hZ162 (hw _ (List.mem_of_getElem? (i := 76) rfl)) (hw _ (List.mem_of_getElem? (i := 3) rfl)) (by decide) (by decide)) q175a q175b q175c (g := (mkF m 157 #[.val (.int p0), .val (.int p1), .val (.long p2), .second, .val (.long p3), .second, .val (.long p4), .second, .val (.int p5), .val (.int (3 : Int32)), .val (.int z0), .val (.int z1), .val (.int z2), .val (.long (((p1 &&& (1023 : Int32)) + (1 : Int32)).toInt64)), .second, .val (.long ((p2 &&& (1099511627775 : Int64)) + (1 : Int64))), .second, .val (.long ((p3 &&& (1099511627775 : Int64)) + (1 : Int64))), .second, .val (.long ((p4 &&& (1099511627775 : Int64)) + (1 : Int64))), .second, .val (.long ((1 : Int64) <<< (((p5 &&& (63 : Int32)) % (63 : Int32)) &&& 0x3f).toInt64)), .second, .val (.ref b139), .unset, .unset] [(.ref b159), (.ref b139)])) rfl (by rw [hml]; rfl) (Steps.refl _) (argsL := [(.ref b159)]) (rest := []) (lenOf pd_rm0_3 rfl) rfl (by show 2 * 0 + _ ≤ _; exact Nat.le_of_eq rfl) (hb hby at_157) (fun _ _ => ⟨rfl, (rfl : T168.heap = T168.heap), (by decide : 8 + 0 ≤ _), (by decide : 35 + 0 ≤ _)⟩)
    dsimp only [Pt.U, Pt.locs, Pt.cells, Pt.slots] at X175 l175 y175 z175 st175 hQ175
    subst l175 y175 z175
    obtain ⟨rfl, Nq175, Kc175, f175_0, f175_1, f175_2, f175_3, f175_4⟩ := hQ175
    have N175 := Fr.app N168 Nq175
    have O175 := O168.keep Kc175 (allS g_b139 (allS g_u157 all0))
    have hkk175 := Nat.le_trans hkk168 Kc175.1
    obtain ⟨T176, h176, X176, e176, E176, A176, D176, -, st176⟩ := newO X175 hx hZ162 hown162 (hw _ (List.mem_of_getElem? (i := 43) rfl)) (hw _ (List.mem_of_getElem? (i := 44) rfl)) (hw _ (List.mem_of_getElem? (i := 45) rfl)) (rfl : T175.heap = T175.heap) (g := (mkF m 171 #[.val (.int p0), .val (.int p1), .val (.long p2), .second, .val (.long p3), .second, .val (.long p4), .second, .val (.int p5), .val (.int (3 : Int32)), .val (.int z0), .val (.int z1), .val (.int z2), .val (.long (((p1 &&& (1023 : Int32)) + (1 : Int32)).toInt64)), .second, .val (.long ((p2 &&& (1099511627775 : Int64)) + (1 : Int64))), .second, .val (.long ((p3 &&& (1099511627775 : Int64)) + (1 : Int64))), .second, .val (.long ((p4 &&& (1099511627775 : Int64)) + (1 : Int64))), .second, .val (.long ((1 : Int64) <<< (((p5 &&& (63 : Int32)) % (63 : Int32)) &&& 0x3f).toInt64)), .second, .val (.ref b139), .unset, .unset] [(.ref b139)])) rfl (hb hby at_171) (by decide) (by decide)
    obtain ⟨b176, g176⟩ : ∃ z, z = T175.heap.size := ⟨_, rfl⟩
    rw [← g176] at A176 D176 st176
    have ne_b139_b176 : b139 ≠ b176 := Nat.ne_of_lt (Nat.lt_of_lt_of_le f175_0.lt (Nat.le_of_eq g176.symm))
    have c177 : Exa Z T175.heap b142 "com/example/libprox/libprox/RankingModel$QueryTerm" := ((((c160.ext E159).ext E162).keep Kc168).keep Kc175)
    have ne_b142_b176 : b142 ≠ b176 := Nat.ne_of_lt (Nat.lt_of_lt_of_le c177.lt (Nat.le_of_eq g176.symm))
    have ne_u157_b176 : u157 ≠ b176 := Nat.ne_of_lt (Nat.lt_of_lt_of_le f175_4.lt (Nat.le_of_eq g176.symm))
    have c178 : Exa Z T175.heap b159 "com/example/libprox/libprox/RankingModel$QueryTerm" := (f168_0.keep Kc175)
    have ne_b159_b176 : b159 ≠ b176 := Nat.ne_of_lt (Nat.lt_of_lt_of_le c178.lt (Nat.le_of_eq g176.symm))
    have g_b176 : n0 ≤ b176 := Nat.le_trans (Nat.le_of_eq O175.1.symm) (Nat.le_trans O175.2.1 (Nat.le_of_eq g176.symm))
    have O176 := O175.ext E176
    have hkk176 := Nat.le_trans hkk175 E176.1
    have F176_stem : Fld Z h176 b176 "com/example/libprox/libprox/RankingModel$QueryTerm" "stem" "Ljava/lang/String;" .null := D176 (Or.inr (hw _ (List.mem_of_getElem? (i := 64) rfl))) (ty := (.object "java/lang/String")) (by decide)
    have F176_collectionFrequency : Fld Z h176 b176 "com/example/libprox/libprox/RankingModel$QueryTerm" "collectionFrequency" "J" (.long (0 : Int64)) := D176 (Or.inr (hw _ (List.mem_of_getElem? (i := 66) rfl))) (ty := .long) (by decide)
    have F176_stopWord : Fld Z h176 b176 "com/example/libprox/libprox/RankingModel$QueryTerm" "stopWord" "Z" (.int (0 : Int32)) := D176 (Or.inr (hw _ (List.mem_of_getElem? (i := 68) rfl))) (ty := .boolean) (by decide)
    have s179 : Steps p.tables e below A₀ (T176.setTop (mkF m 175 #[.val (.int p0), .val (.int p1), .val (.long p2), .second, .val (.long p3), .second, .val (.long p4), .second, .val (.int p5), .val (.int (3 : Int32)), .val (.int z0), .val (.int z1), .val (.int z2), .val (.long (((p1 &&& (1023 : Int32)) + (1 : Int32)).toInt64)), .second, .val (.long ((p2 &&& (1099511627775 : Int64)) + (1 : Int64))), .second, .val (.long ((p3 &&& (1099511627775 : Int64)) + (1 : Int64))), .second, .val (.long ((p4 &&& (1099511627775 : Int64)) + (1 : Int64))), .second, .val (.long ((1 : Int64) <<< (((p5 &&& (63 : Int32)) % (63 : Int32)) &&& 0x3f).toInt64)), .second, .val (.ref b139), .unset, .unset] [(.ref b176), (.ref b176), (.ref b139)])) := by
      refine s169.trans ?_
      show Steps p.tables e below (T168.setTop (mkF m 157 #[.val (.int p0), .val (.int p1), .val (.long p2), .second, .val (.long p3), .second, .val (.long p4), .second, .val (.int p5), .val (.int (3 : Int32)), .val (.int z0), .val (.int z1), .val (.int z2), .val (.long (((p1 &&& (1023 : Int32)) + (1 : Int32)).toInt64)), .second, .val (.long ((p2 &&& (1099511627775 : Int64)) + (1 : Int64))), .second, .val (.long ((p3 &&& (1099511627775 : Int64)) + (1 : Int64))), .second, .val (.long ((p4 &&& (1099511627775 : Int64)) + (1 : Int64))), .second, .val (.long ((1 : Int64) <<< (((p5 &&& (63 : Int32)) % (63 : Int32)) &&& 0x3f).toInt64)), .second, .val (.ref b139), .unset, .unset] [(.ref b159), (.ref b139)])) _
      refine st175.trans ?_
      refine XS.pop X175.here hx rfl (hb hby at_162) rfl rfl ?_
      refine XS.iload X175.here hx rfl (hb hby at_163) rfl ?_
      refine XS.iconst X175.here hx rfl (hb hby at_165) ?_
      refine XS.icmpNo X175.here hx rfl (hb hby at_166) rfl (tlt (by decide)).2.2.2 ?_
      refine XS.aload X175.here hx rfl (hb hby at_169) rfl rfl ?_
      refine st176 _ ?_
      refine XS.dup X176.here hx rfl (hb hby at_174) rfl rfl ?_
      exact Steps.refl _
    obtain ⟨a180, T180, h180, k180, X180, e180, E180, hS180, hk180, hZ180, hown180, st180⟩ := ldcS X176 hx hZ162 hown162 (hw _ (List.mem_of_getElem? (i := 134) rfl)) (own_wS hw) e176 hS162 hkk176 (g := (mkF m 175 #[.val (.int p0), .val (.int p1), .val (.long p2), .second, .val (.long p3), .second, .val (.long p4), .second, .val (.int p5), .val (.int (3 : Int32)), .val (.int z0), .val (.int z1), .val (.int z2), .val (.long (((p1 &&& (1023 : Int32)) + (1 : Int32)).toInt64)), .second, .val (.long ((p2 &&& (1099511627775 : Int64)) + (1 : Int64))), .second, .val (.long ((p3 &&& (1099511627775 : Int64)) + (1 : Int64))), .second, .val (.long ((p4 &&& (1099511627775 : Int64)) + (1 : Int64))), .second, .val (.long ((1 : Int64) <<< (((p5 &&& (63 : Int32)) % (63 : Int32)) &&& 0x3f).toInt64)), .second, .val (.ref b139), .unset, .unset] [(.ref b176), (.ref b176), (.ref b139)])) rfl (hb hby at_175) (n := 4) (by decide) (by decide) (by decide) (by decide)
    have O180 := O176.ext E180
    have hkk180 := Nat.le_trans hkk176 E180.1
    have s181 : Steps p.tables e below A₀ (T180.setTop (mkF m 181 #[.val (.int p0), .val (.int p1), .val (.long p2), .second, .val (.long p3), .second, .val (.long p4), .second, .val (.int p5), .val (.int (3 : Int32)), .val (.int z0), .val (.int z1), .val (.int z2), .val (.long (((p1 &&& (1023 : Int32)) + (1 : Int32)).toInt64)), .second, .val (.long ((p2 &&& (1099511627775 : Int64)) + (1 : Int64))), .second, .val (.long ((p3 &&& (1099511627775 : Int64)) + (1 : Int64))), .second, .val (.long ((p4 &&& (1099511627775 : Int64)) + (1 : Int64))), .second, .val (.long ((1 : Int64) <<< (((p5 &&& (63 : Int32)) % (63 : Int32)) &&& 0x3f).toInt64)), .second, .val (.ref b139), .unset, .unset] [(.int z2), (.long ((p4 &&& (1099511627775 : Int64)) + (1 : Int64))), (.ref a180), (.ref b176), (.ref b176), (.ref b139)])) := by
      refine s179.trans ?_
      show Steps p.tables e below (T176.setTop (mkF m 175 #[.val (.int p0), .val (.int p1), .val (.long p2), .second, .val (.long p3), .second, .val (.long p4), .second, .val (.int p5), .val (.int (3 : Int32)), .val (.int z0), .val (.int z1), .val (.int z2), .val (.long (((p1 &&& (1023 : Int32)) + (1 : Int32)).toInt64)), .second, .val (.long ((p2 &&& (1099511627775 : Int64)) + (1 : Int64))), .second, .val (.long ((p3 &&& (1099511627775 : Int64)) + (1 : Int64))), .second, .val (.long ((p4 &&& (1099511627775 : Int64)) + (1 : Int64))), .second, .val (.long ((1 : Int64) <<< (((p5 &&& (63 : Int32)) % (63 : Int32)) &&& 0x3f).toInt64)), .second, .val (.ref b139), .unset, .unset] [(.ref b176), (.ref b176), (.ref b139)])) _
      refine st180 _ ?_
      refine XS.lload X180.here hx rfl (hb hby at_177) rfl ?_
      refine XS.iload X180.here hx rfl (hb hby at_179) rfl ?_
      exact Steps.refl _
    have c182 : Exa Z h180 b176 "com/example/libprox/libprox/RankingModel$QueryTerm" := (A176.ext E180)
    have c183 : Fld Z h180 b176 "com/example/libprox/libprox/RankingModel$QueryTerm" "stem" "Ljava/lang/String;" .null := (F176_stem.ext E180)
    have c184 : Fld Z h180 b176 "com/example/libprox/libprox/RankingModel$QueryTerm" "collectionFrequency" "J" (.long (0 : Int64)) := (F176_collectionFrequency.ext E180)
    have c185 : Fld Z h180 b176 "com/example/libprox/libprox/RankingModel$QueryTerm" "stopWord" "Z" (.int (0 : Int32)) := (F176_stopWord.ext E180)
    obtain ⟨_, _, ⟨T186, L186, k186, n186⟩, -, X186, ⟨Lc186, hQ186, l186, y186, z186⟩, st186⟩ := X180.specialBack hx (y := (⟨"com/example/libprox/libprox/RankingModel$QueryTerm", "<init>", "(Ljava/lang/String;JZ)V"⟩ : MethodName)) rfl hown180 (mvT hZ180 (hw _ (List.mem_of_getElem? (i := 54) rfl))) (mvT hZ180 (hw _ (List.mem_of_getElem? (i := 55) rfl))) (mvT hZ180 (hw _ (List.mem_of_getElem? (i := 56) rfl))) (by decide) (backOf (W := 2) (rmqi l Z a0 hw [] b176 a180 ((p4 &&& (1099511627775 : Int64)) + (1 : Int64)) z2 h180 n0 O180 c182 c183 c184 c185 g_b176) hZ180 (hw _ (List.mem_of_getElem? (i := 56) rfl)) (hw _ (List.mem_of_getElem? (i := 45) rfl)) (by decide) (by decide)) (g := (mkF m 181 #[.val (.int p0), .val (.int p1), .val (.long p2), .second, .val (.long p3), .second, .val (.long p4), .second, .val (.int p5), .val (.int (3 : Int32)), .val (.int z0), .val (.int z1), .val (.int z2), .val (.long (((p1 &&& (1023 : Int32)) + (1 : Int32)).toInt64)), .second, .val (.long ((p2 &&& (1099511627775 : Int64)) + (1 : Int64))), .second, .val (.long ((p3 &&& (1099511627775 : Int64)) + (1 : Int64))), .second, .val (.long ((p4 &&& (1099511627775 : Int64)) + (1 : Int64))), .second, .val (.long ((1 : Int64) <<< (((p5 &&& (63 : Int32)) % (63 : Int32)) &&& 0x3f).toInt64)), .second, .val (.ref b139), .unset, .unset] [(.int z2), (.long ((p4 &&& (1099511627775 : Int64)) + (1 : Int64))), (.ref a180), (.ref b176), (.ref b176), (.ref b139)])) rfl (by rw [hml]; rfl) (Steps.refl _) (a := b176) (argsL := [(.ref a180), (.long ((p4 &&& (1099511627775 : Int64)) + (1 : Int64))), (.int z2)]) (rest := [(.ref b176), (.ref b139)]) (lenOf pd_rm0_2 rfl) rfl (by show 2 * 0 + _ ≤ _; exact Nat.le_of_eq rfl) (hb hby at_181) (fun _ _ => ⟨rfl, e180, (by decide : 11 + 0 ≤ _), (by decide : 46 + 0 ≤ _)⟩)
    dsimp only [Pt.U, Pt.locs, Pt.cells, Pt.slots] at X186 l186 y186 z186 st186 hQ186
    subst l186 y186 z186
    obtain ⟨rfl, Nq186, Kc186, f186_0, f186_1⟩ := hQ186
    have N186 := Fr.app N175 Nq186
    have O186 := O180.keep Kc186 (allS g_b176 all0)
    have hkk186 := Nat.le_trans hk180 Kc186.1
    have s187 : Steps p.tables e below A₀ (T186.setTop (mkF m 184 #[.val (.int p0), .val (.int p1), .val (.long p2), .second, .val (.long p3), .second, .val (.long p4), .second, .val (.int p5), .val (.int (3 : Int32)), .val (.int z0), .val (.int z1), .val (.int z2), .val (.long (((p1 &&& (1023 : Int32)) + (1 : Int32)).toInt64)), .second, .val (.long ((p2 &&& (1099511627775 : Int64)) + (1 : Int64))), .second, .val (.long ((p3 &&& (1099511627775 : Int64)) + (1 : Int64))), .second, .val (.long ((p4 &&& (1099511627775 : Int64)) + (1 : Int64))), .second, .val (.long ((1 : Int64) <<< (((p5 &&& (63 : Int32)) % (63 : Int32)) &&& 0x3f).toInt64)), .second, .val (.ref b139), .unset, .unset] [(.ref b176), (.ref b139)])) := by
      refine s181.trans ?_
      show Steps p.tables e below (T180.setTop (mkF m 181 #[.val (.int p0), .val (.int p1), .val (.long p2), .second, .val (.long p3), .second, .val (.long p4), .second, .val (.int p5), .val (.int (3 : Int32)), .val (.int z0), .val (.int z1), .val (.int z2), .val (.long (((p1 &&& (1023 : Int32)) + (1 : Int32)).toInt64)), .second, .val (.long ((p2 &&& (1099511627775 : Int64)) + (1 : Int64))), .second, .val (.long ((p3 &&& (1099511627775 : Int64)) + (1 : Int64))), .second, .val (.long ((p4 &&& (1099511627775 : Int64)) + (1 : Int64))), .second, .val (.long ((1 : Int64) <<< (((p5 &&& (63 : Int32)) % (63 : Int32)) &&& 0x3f).toInt64)), .second, .val (.ref b139), .unset, .unset] [(.int z2), (.long ((p4 &&& (1099511627775 : Int64)) + (1 : Int64))), (.ref a180), (.ref b176), (.ref b176), (.ref b139)])) _
      refine st186.trans ?_
      exact Steps.refl _
    have c188 : Exa Z T186.heap b139 "java/util/ArrayList" := (((f175_0.ext E176).ext E180).keep Kc186)
    have c189 : Fld Z T186.heap b139 "java/util/ArrayList" "elementData" "[Ljava/lang/Object;" (.ref u157) := (((f175_1.ext E176).ext E180).keep Kc186 (ninS ne_b139_b176 nin0))
    have c190 : Fld Z T186.heap b139 "java/util/ArrayList" "size" "I" (.int (2 : Int32)) := (((f175_2.ext E176).ext E180).keep Kc186 (ninS ne_b139_b176 nin0))
    have c191 : Fld Z T186.heap b139 "java/util/AbstractList" "modCount" "I" (.int (((0 : Int32) + (1 : Int32)) + (1 : Int32))) := (((f175_3.ext E176).ext E180).keep Kc186 (ninS ne_b139_b176 nin0))
    have c192 : Arv Z T186.heap u157 u158 (.object "java/lang/Object") (10 : Int32) [(.ref b142), (.ref b159), .null, .null, .null, .null, .null, .null, .null, .null] .null := (((f175_4.ext E176).ext E180).keep Kc186 (ninS ne_u157_b176 nin0))
    obtain ⟨cq193, kq193, q193a, q193b, q193c⟩ := isOf hZ180 (rfl : T186.heap = T186.heap) c188
    obtain ⟨_, _, ⟨T193, L193, k193, n193⟩, -, X193, ⟨Lc193, hQ193, l193, y193, z193⟩, st193⟩ := X186.interfaceBack hx (xi := (⟨"java/util/List", "add", "(Ljava/lang/Object;)Z"⟩ : MethodName)) (y := (⟨"java/util/ArrayList", "add", "(Ljava/lang/Object;)Z"⟩ : MethodName)) hown180 (mvT hZ180 (hw _ (List.mem_of_getElem? (i := 69) rfl))) (mvT hZ180 (hw _ (List.mem_of_getElem? (i := 70) rfl))) (mvT hZ180 (hw _ (List.mem_of_getElem? (i := 71) rfl))) (mvT hZ180 (hw _ (List.mem_of_getElem? (i := 72) rfl))) (mvT hZ180 (hw _ (List.mem_of_getElem? (i := 73) rfl))) (mvT hZ180 (hw _ (List.mem_of_getElem? (i := 74) rfl))) (mvT hZ180 (hw _ (List.mem_of_getElem? (i := 75) rfl))) (mvT hZ180 (hw _ (List.mem_of_getElem? (i := 38) rfl))) (by decide) (backOf (W := 0) (rmala_2 l Z a0 hw [] b139 b176 u157 b142 b159 u158 (((0 : Int32) + (1 : Int32)) + (1 : Int32)) T186.heap n0 O186 c188 c189 c190 c191 c192 f156_5 g_b139 g_u157 f156_7 f186_0) hZ180 (hw _ (List.mem_of_getElem? (i := 76) rfl)) (hw _ (List.mem_of_getElem? (i := 3) rfl)) (by decide) (by decide)) q193a q193b q193c (g := (mkF m 184 #[.val (.int p0), .val (.int p1), .val (.long p2), .second, .val (.long p3), .second, .val (.long p4), .second, .val (.int p5), .val (.int (3 : Int32)), .val (.int z0), .val (.int z1), .val (.int z2), .val (.long (((p1 &&& (1023 : Int32)) + (1 : Int32)).toInt64)), .second, .val (.long ((p2 &&& (1099511627775 : Int64)) + (1 : Int64))), .second, .val (.long ((p3 &&& (1099511627775 : Int64)) + (1 : Int64))), .second, .val (.long ((p4 &&& (1099511627775 : Int64)) + (1 : Int64))), .second, .val (.long ((1 : Int64) <<< (((p5 &&& (63 : Int32)) % (63 : Int32)) &&& 0x3f).toInt64)), .second, .val (.ref b139), .unset, .unset] [(.ref b176), (.ref b139)])) rfl (by rw [hml]; rfl) (Steps.refl _) (argsL := [(.ref b176)]) (rest := []) (lenOf pd_rm0_3 rfl) rfl (by show 2 * 0 + _ ≤ _; exact Nat.le_of_eq rfl) (hb hby at_184) (fun _ _ => ⟨rfl, (rfl : T186.heap = T186.heap), (by decide : 11 + 0 ≤ _), (by decide : 46 + 0 ≤ _)⟩)
    dsimp only [Pt.U, Pt.locs, Pt.cells, Pt.slots] at X193 l193 y193 z193 st193 hQ193
    subst l193 y193 z193
    obtain ⟨rfl, Nq193, Kc193, f193_0, f193_1, f193_2, f193_3, f193_4⟩ := hQ193
    have N193 := Fr.app N186 Nq193
    have O193 := O186.keep Kc193 (allS g_b139 (allS g_u157 all0))
    have hkk193 := Nat.le_trans hkk186 Kc193.1
    have s194 : Steps p.tables e below A₀ (T193.setTop (mkF m 197 #[.val (.int p0), .val (.int p1), .val (.long p2), .second, .val (.long p3), .second, .val (.long p4), .second, .val (.int p5), .val (.int (3 : Int32)), .val (.int z0), .val (.int z1), .val (.int z2), .val (.long (((p1 &&& (1023 : Int32)) + (1 : Int32)).toInt64)), .second, .val (.long ((p2 &&& (1099511627775 : Int64)) + (1 : Int64))), .second, .val (.long ((p3 &&& (1099511627775 : Int64)) + (1 : Int64))), .second, .val (.long ((p4 &&& (1099511627775 : Int64)) + (1 : Int64))), .second, .val (.long ((1 : Int64) <<< (((p5 &&& (63 : Int32)) % (63 : Int32)) &&& 0x3f).toInt64)), .second, .val (.ref b139), .unset, .unset] [(.long ((1 : Int64) <<< (((p5 &&& (63 : Int32)) % (63 : Int32)) &&& 0x3f).toInt64)), (.ref b139), (.double (FP.l2d (((p1 &&& (1023 : Int32)) + (1 : Int32)).toInt64)))])) := by
      refine s187.trans ?_
      show Steps p.tables e below (T186.setTop (mkF m 184 #[.val (.int p0), .val (.int p1), .val (.long p2), .second, .val (.long p3), .second, .val (.long p4), .second, .val (.int p5), .val (.int (3 : Int32)), .val (.int z0), .val (.int z1), .val (.int z2), .val (.long (((p1 &&& (1023 : Int32)) + (1 : Int32)).toInt64)), .second, .val (.long ((p2 &&& (1099511627775 : Int64)) + (1 : Int64))), .second, .val (.long ((p3 &&& (1099511627775 : Int64)) + (1 : Int64))), .second, .val (.long ((p4 &&& (1099511627775 : Int64)) + (1 : Int64))), .second, .val (.long ((1 : Int64) <<< (((p5 &&& (63 : Int32)) % (63 : Int32)) &&& 0x3f).toInt64)), .second, .val (.ref b139), .unset, .unset] [(.ref b176), (.ref b139)])) _
      refine st193.trans ?_
      refine XS.pop X193.here hx rfl (hb hby at_189) rfl rfl ?_
      refine XS.lload X193.here hx rfl (hb hby at_190) rfl ?_
      refine XS.l2dS X193.here hx rfl (hb hby at_192) rfl rfl ?_
      refine XS.aload X193.here hx rfl (hb hby at_193) rfl rfl ?_
      refine XS.lload X193.here hx rfl (hb hby at_195) rfl ?_
      exact Steps.refl _
    have c195 : Exa Z T193.heap b142 "com/example/libprox/libprox/RankingModel$QueryTerm" := ((((c177.ext E176).ext E180).keep Kc186).keep Kc193)
    have c196 : Fld Z T193.heap b142 "com/example/libprox/libprox/RankingModel$QueryTerm" "collectionFrequency" "J" (.long ((p2 &&& (1099511627775 : Int64)) + (1 : Int64))) := (((((((((f150_1.keep Kc156 (ninS (Ne.symm ne_b139_b142) nin0)).ext E159).ext E162).keep Kc168 (ninS ne_b142_b159 nin0)).keep Kc175 (ninS (Ne.symm ne_b139_b142) (ninS ne_b142_u157 nin0))).ext E176).ext E180).keep Kc186 (ninS ne_b142_b176 nin0)).keep Kc193 (ninS (Ne.symm ne_b139_b142) (ninS ne_b142_u157 nin0)))
    have c197 : Exa Z T193.heap b159 "com/example/libprox/libprox/RankingModel$QueryTerm" := ((((c178.ext E176).ext E180).keep Kc186).keep Kc193)
    have c198 : Fld Z T193.heap b159 "com/example/libprox/libprox/RankingModel$QueryTerm" "collectionFrequency" "J" (.long ((p3 &&& (1099511627775 : Int64)) + (1 : Int64))) := (((((f168_1.keep Kc175 (ninS (Ne.symm ne_b139_b159) (ninS (Ne.symm ne_u157_b159) nin0))).ext E176).ext E180).keep Kc186 (ninS ne_b159_b176 nin0)).keep Kc193 (ninS (Ne.symm ne_b139_b159) (ninS (Ne.symm ne_u157_b159) nin0)))
    have c199 : Exa Z T193.heap b176 "com/example/libprox/libprox/RankingModel$QueryTerm" := (f186_0.keep Kc193)
    have c200 : Fld Z T193.heap b176 "com/example/libprox/libprox/RankingModel$QueryTerm" "collectionFrequency" "J" (.long ((p4 &&& (1099511627775 : Int64)) + (1 : Int64))) := (f186_1.keep Kc193 (ninS (Ne.symm ne_b139_b176) (ninS (Ne.symm ne_u157_b176) nin0)))
    obtain ⟨_, _, ⟨T201, L201, k201, n201⟩, -, X201, ⟨Lc201, hQ201, l201, y201, z201⟩, st201⟩ := Jvm.LawKit.callS X193 hx (y := (⟨"com/example/libprox/libprox/Kld", "priors", "(DLjava/util/List;J)[D"⟩ : MethodName)) hown180 (mvT hZ180 (hw _ (List.mem_of_getElem? (i := 27) rfl))) (mvT hZ180 (hw _ (List.mem_of_getElem? (i := 28) rfl))) (mvT hZ180 (hw _ (List.mem_of_getElem? (i := 29) rfl))) (mvT hZ180 (hw _ (List.mem_of_getElem? (i := 30) rfl))) (by decide) (backOf (W := 0) (rmpri_3 l Z a0 hw [] (FP.l2d (((p1 &&& (1023 : Int32)) + (1 : Int32)).toInt64)) b139 ((1 : Int64) <<< (((p5 &&& (63 : Int32)) % (63 : Int32)) &&& 0x3f).toInt64) u157 u158 b142 b159 b176 ((p2 &&& (1099511627775 : Int64)) + (1 : Int64)) ((p3 &&& (1099511627775 : Int64)) + (1 : Int64)) ((p4 &&& (1099511627775 : Int64)) + (1 : Int64)) ((((p1 &&& (1023 : Int32)) + (1 : Int32)).toInt64) * ((p2 &&& (1099511627775 : Int64)) + (1 : Int64))) ((((p1 &&& (1023 : Int32)) + (1 : Int32)).toInt64) * ((p3 &&& (1099511627775 : Int64)) + (1 : Int64))) ((((p1 &&& (1023 : Int32)) + (1 : Int32)).toInt64) * ((p4 &&& (1099511627775 : Int64)) + (1 : Int64))) T193.heap n0 O193 f193_0 f193_2 f193_1 f193_4 c195 c196 c197 c198 c199 c200 (own_mc (((p1 &&& (1023 : Int32)) + (1 : Int32)).toInt64) ((p2 &&& (1099511627775 : Int64)) + (1 : Int64)) (own_m p1).1 (own_m p1).2 (own_c p2).1 (own_c p2).2).1 (own_nz ((1 : Int64) <<< (((p5 &&& (63 : Int32)) % (63 : Int32)) &&& 0x3f).toInt64) kk hLL ((((p1 &&& (1023 : Int32)) + (1 : Int32)).toInt64) * ((p2 &&& (1099511627775 : Int64)) + (1 : Int64)))) (own_mc (((p1 &&& (1023 : Int32)) + (1 : Int32)).toInt64) ((p3 &&& (1099511627775 : Int64)) + (1 : Int64)) (own_m p1).1 (own_m p1).2 (own_c p3).1 (own_c p3).2).1 (own_nz ((1 : Int64) <<< (((p5 &&& (63 : Int32)) % (63 : Int32)) &&& 0x3f).toInt64) kk hLL ((((p1 &&& (1023 : Int32)) + (1 : Int32)).toInt64) * ((p3 &&& (1099511627775 : Int64)) + (1 : Int64)))) (own_mc (((p1 &&& (1023 : Int32)) + (1 : Int32)).toInt64) ((p4 &&& (1099511627775 : Int64)) + (1 : Int64)) (own_m p1).1 (own_m p1).2 (own_c p4).1 (own_c p4).2).1 (own_nz ((1 : Int64) <<< (((p5 &&& (63 : Int32)) % (63 : Int32)) &&& 0x3f).toInt64) kk hLL ((((p1 &&& (1023 : Int32)) + (1 : Int32)).toInt64) * ((p4 &&& (1099511627775 : Int64)) + (1 : Int64))))) hZ180 (hw _ (List.mem_of_getElem? (i := 30) rfl)) (hw _ (List.mem_of_getElem? (i := 29) rfl)) (by decide) (by decide)) (g := (mkF m 197 #[.val (.int p0), .val (.int p1), .val (.long p2), .second, .val (.long p3), .second, .val (.long p4), .second, .val (.int p5), .val (.int (3 : Int32)), .val (.int z0), .val (.int z1), .val (.int z2), .val (.long (((p1 &&& (1023 : Int32)) + (1 : Int32)).toInt64)), .second, .val (.long ((p2 &&& (1099511627775 : Int64)) + (1 : Int64))), .second, .val (.long ((p3 &&& (1099511627775 : Int64)) + (1 : Int64))), .second, .val (.long ((p4 &&& (1099511627775 : Int64)) + (1 : Int64))), .second, .val (.long ((1 : Int64) <<< (((p5 &&& (63 : Int32)) % (63 : Int32)) &&& 0x3f).toInt64)), .second, .val (.ref b139), .unset, .unset] [(.long ((1 : Int64) <<< (((p5 &&& (63 : Int32)) % (63 : Int32)) &&& 0x3f).toInt64)), (.ref b139), (.double (FP.l2d (((p1 &&& (1023 : Int32)) + (1 : Int32)).toInt64)))])) rfl (by rw [hml]; rfl) (argsL := [(.double (FP.l2d (((p1 &&& (1023 : Int32)) + (1 : Int32)).toInt64))), (.ref b139), (.long ((1 : Int64) <<< (((p5 &&& (63 : Int32)) % (63 : Int32)) &&& 0x3f).toInt64))]) (rest := []) (lenOf pd_rm0_1 rfl) rfl (by show 2 * 0 + _ ≤ _; exact Nat.le_of_eq rfl) (hb hby at_197) (fun _ _ => ⟨rfl, (rfl : T193.heap = T193.heap), (by decide : 11 + 1 ≤ _), (by decide : 46 + 3 ≤ _)⟩)
    dsimp only [Pt.U, Pt.locs, Pt.cells, Pt.slots] at X201 l201 y201 z201 st201 hQ201
    subst l201 y201 z201
    obtain ⟨u202, u203, rfl, Nq201, Kc201, f201_0, f201_1⟩ := hQ201
    have N201 := Fr.app N193 Nq201
    have ne_b139_u202 : b139 ≠ u202 := Nat.ne_of_lt (Nat.lt_of_lt_of_le f193_0.lt f201_1)
    have ne_b142_u202 : b142 ≠ u202 := Nat.ne_of_lt (Nat.lt_of_lt_of_le c195.lt f201_1)
    have ne_u157_u202 : u157 ≠ u202 := Nat.ne_of_lt (Nat.lt_of_lt_of_le f193_4.lt f201_1)
    have ne_b159_u202 : b159 ≠ u202 := Nat.ne_of_lt (Nat.lt_of_lt_of_le c197.lt f201_1)
    have ne_b176_u202 : b176 ≠ u202 := Nat.ne_of_lt (Nat.lt_of_lt_of_le c199.lt f201_1)
    have g_u202 : n0 ≤ u202 := Nat.le_trans (Nat.le_of_eq O193.1.symm) (Nat.le_trans O193.2.1 f201_1)
    have O201 := O193.keep Kc201 all0
    have hkk201 := Nat.le_trans hkk193 Kc201.1
    obtain ⟨cla204, Ara204, qa204, Sa204, Za204, Ha204, Ga204⟩ := id f201_0
    have hin205 : ¬ ((0 : Int32) < 0 ∨ cla204.slots.size ≤ ((0 : Int32)).toNatClampNeg) := inb_of Sa204 ⟨by decide, by decide⟩
    have hat206 : cla204.slots[((0 : Int32)).toNatClampNeg]? = some (.double (FP.ddiv (FP.l2d ((((p1 &&& (1023 : Int32)) + (1 : Int32)).toInt64) * ((p2 &&& (1099511627775 : Int64)) + (1 : Int64)))) (FP.l2d ((1 : Int64) <<< (((p5 &&& (63 : Int32)) % (63 : Int32)) &&& 0x3f).toInt64)))) := Has.at Ha204 hin205 rfl
    have s207 : Steps p.tables e below A₀ (T201.setTop (mkF m 240 #[.val (.int p0), .val (.int p1), .val (.long p2), .second, .val (.long p3), .second, .val (.long p4), .second, .val (.int p5), .val (.int (3 : Int32)), .val (.int z0), .val (.int z1), .val (.int z2), .val (.long (((p1 &&& (1023 : Int32)) + (1 : Int32)).toInt64)), .second, .val (.long ((p2 &&& (1099511627775 : Int64)) + (1 : Int64))), .second, .val (.long ((p3 &&& (1099511627775 : Int64)) + (1 : Int64))), .second, .val (.long ((p4 &&& (1099511627775 : Int64)) + (1 : Int64))), .second, .val (.long ((1 : Int64) <<< (((p5 &&& (63 : Int32)) % (63 : Int32)) &&& 0x3f).toInt64)), .second, .val (.ref b139), .val (.ref u202), .val (.int (1 : Int32))] [(.long ((1 : Int64) <<< (((p5 &&& (63 : Int32)) % (63 : Int32)) &&& 0x3f).toInt64)), (.long ((p2 &&& (1099511627775 : Int64)) + (1 : Int64))), (.long (((p1 &&& (1023 : Int32)) + (1 : Int32)).toInt64)), (.double (FP.ddiv (FP.l2d ((((p1 &&& (1023 : Int32)) + (1 : Int32)).toInt64) * ((p2 &&& (1099511627775 : Int64)) + (1 : Int64)))) (FP.l2d ((1 : Int64) <<< (((p5 &&& (63 : Int32)) % (63 : Int32)) &&& 0x3f).toInt64))))])) := by
      refine s194.trans ?_
      show Steps p.tables e below (T193.setTop (mkF m 197 #[.val (.int p0), .val (.int p1), .val (.long p2), .second, .val (.long p3), .second, .val (.long p4), .second, .val (.int p5), .val (.int (3 : Int32)), .val (.int z0), .val (.int z1), .val (.int z2), .val (.long (((p1 &&& (1023 : Int32)) + (1 : Int32)).toInt64)), .second, .val (.long ((p2 &&& (1099511627775 : Int64)) + (1 : Int64))), .second, .val (.long ((p3 &&& (1099511627775 : Int64)) + (1 : Int64))), .second, .val (.long ((p4 &&& (1099511627775 : Int64)) + (1 : Int64))), .second, .val (.long ((1 : Int64) <<< (((p5 &&& (63 : Int32)) % (63 : Int32)) &&& 0x3f).toInt64)), .second, .val (.ref b139), .unset, .unset] [(.long ((1 : Int64) <<< (((p5 &&& (63 : Int32)) % (63 : Int32)) &&& 0x3f).toInt64)), (.ref b139), (.double (FP.l2d (((p1 &&& (1023 : Int32)) + (1 : Int32)).toInt64)))])) _
      refine st201 _ ?_
      refine XS.astore X201.here hx rfl (hb hby at_200) rfl rfl (l' := #[.val (.int p0), .val (.int p1), .val (.long p2), .second, .val (.long p3), .second, .val (.long p4), .second, .val (.int p5), .val (.int (3 : Int32)), .val (.int z0), .val (.int z1), .val (.int z2), .val (.long (((p1 &&& (1023 : Int32)) + (1 : Int32)).toInt64)), .second, .val (.long ((p2 &&& (1099511627775 : Int64)) + (1 : Int64))), .second, .val (.long ((p3 &&& (1099511627775 : Int64)) + (1 : Int64))), .second, .val (.long ((p4 &&& (1099511627775 : Int64)) + (1 : Int64))), .second, .val (.long ((1 : Int64) <<< (((p5 &&& (63 : Int32)) % (63 : Int32)) &&& 0x3f).toInt64)), .second, .val (.ref b139), .val (.ref u202), .unset]) rfl ?_
      refine XS.aload X201.here hx rfl (hb hby at_202) rfl rfl ?_
      refine XS.ifnullNo X201.here hx rfl (hb hby at_204) rfl ?_
      refine XS.aload X201.here hx rfl (hb hby at_207) rfl rfl ?_
      refine X201.arraylength hx (by rw [(rfl : T201.heap = T201.heap)]; exact Ara204.1) (State.isArrayOf_alike hZ180.alike Ara204.2.1) (g := (mkF m 209 #[.val (.int p0), .val (.int p1), .val (.long p2), .second, .val (.long p3), .second, .val (.long p4), .second, .val (.int p5), .val (.int (3 : Int32)), .val (.int z0), .val (.int z1), .val (.int z2), .val (.long (((p1 &&& (1023 : Int32)) + (1 : Int32)).toInt64)), .second, .val (.long ((p2 &&& (1099511627775 : Int64)) + (1 : Int64))), .second, .val (.long ((p3 &&& (1099511627775 : Int64)) + (1 : Int64))), .second, .val (.long ((p4 &&& (1099511627775 : Int64)) + (1 : Int64))), .second, .val (.long ((1 : Int64) <<< (((p5 &&& (63 : Int32)) % (63 : Int32)) &&& 0x3f).toInt64)), .second, .val (.ref b139), .val (.ref u202), .unset] [(.ref u202)])) rfl rfl (hb hby at_209) _ ?_
      rw [len_of Sa204 Za204]
      show Steps p.tables e below (T201.setTop (mkF m 210 #[.val (.int p0), .val (.int p1), .val (.long p2), .second, .val (.long p3), .second, .val (.long p4), .second, .val (.int p5), .val (.int (3 : Int32)), .val (.int z0), .val (.int z1), .val (.int z2), .val (.long (((p1 &&& (1023 : Int32)) + (1 : Int32)).toInt64)), .second, .val (.long ((p2 &&& (1099511627775 : Int64)) + (1 : Int64))), .second, .val (.long ((p3 &&& (1099511627775 : Int64)) + (1 : Int64))), .second, .val (.long ((p4 &&& (1099511627775 : Int64)) + (1 : Int64))), .second, .val (.long ((1 : Int64) <<< (((p5 &&& (63 : Int32)) % (63 : Int32)) &&& 0x3f).toInt64)), .second, .val (.ref b139), .val (.ref u202), .unset] [(.int (3 : Int32))])) _
      refine XS.iload X201.here hx rfl (hb hby at_210) rfl ?_
      refine XS.icmpYes X201.here hx rfl (pc0 := 212) (pc' := 217) rfl (hb hby at_212) rfl (teq (by decide)).1 (by decide) (by decide) ?_
      refine XS.iconst X201.here hx rfl (hb hby at_217) ?_
      refine XS.istore X201.here hx rfl (hb hby at_218) rfl (l' := #[.val (.int p0), .val (.int p1), .val (.long p2), .second, .val (.long p3), .second, .val (.long p4), .second, .val (.int p5), .val (.int (3 : Int32)), .val (.int z0), .val (.int z1), .val (.int z2), .val (.long (((p1 &&& (1023 : Int32)) + (1 : Int32)).toInt64)), .second, .val (.long ((p2 &&& (1099511627775 : Int64)) + (1 : Int64))), .second, .val (.long ((p3 &&& (1099511627775 : Int64)) + (1 : Int64))), .second, .val (.long ((p4 &&& (1099511627775 : Int64)) + (1 : Int64))), .second, .val (.long ((1 : Int64) <<< (((p5 &&& (63 : Int32)) % (63 : Int32)) &&& 0x3f).toInt64)), .second, .val (.ref b139), .val (.ref u202), .val (.int (1 : Int32))]) rfl ?_
      refine XS.iload X201.here hx rfl (hb hby at_220) rfl ?_
      refine XS.ifNo X201.here hx rfl (hb hby at_222) rfl ((if0 _ _).trans (tlt (by decide)).2.2.2) ?_
      refine XS.iload X201.here hx rfl (hb hby at_225) rfl ?_
      refine XS.ifNo X201.here hx rfl (hb hby at_227) rfl ((if0 _ _).trans (feq (by decide)).1) ?_
      refine XS.aload X201.here hx rfl (hb hby at_230) rfl rfl ?_
      refine XS.iconst X201.here hx rfl (hb hby at_232) ?_
      show Steps p.tables e below (T201.setTop (mkF m 233 #[.val (.int p0), .val (.int p1), .val (.long p2), .second, .val (.long p3), .second, .val (.long p4), .second, .val (.int p5), .val (.int (3 : Int32)), .val (.int z0), .val (.int z1), .val (.int z2), .val (.long (((p1 &&& (1023 : Int32)) + (1 : Int32)).toInt64)), .second, .val (.long ((p2 &&& (1099511627775 : Int64)) + (1 : Int64))), .second, .val (.long ((p3 &&& (1099511627775 : Int64)) + (1 : Int64))), .second, .val (.long ((p4 &&& (1099511627775 : Int64)) + (1 : Int64))), .second, .val (.long ((1 : Int64) <<< (((p5 &&& (63 : Int32)) % (63 : Int32)) &&& 0x3f).toInt64)), .second, .val (.ref b139), .val (.ref u202), .val (.int (1 : Int32))] [(.int (0 : Int32)), (.ref u202)])) _
      refine X201.daload hx (j := (0 : Int32)) (v := (.double (FP.ddiv (FP.l2d ((((p1 &&& (1023 : Int32)) + (1 : Int32)).toInt64) * ((p2 &&& (1099511627775 : Int64)) + (1 : Int64)))) (FP.l2d ((1 : Int64) <<< (((p5 &&& (63 : Int32)) % (63 : Int32)) &&& 0x3f).toInt64))))) (by rw [(rfl : T201.heap = T201.heap)]; exact Ara204.1) (State.isArrayOf_alike hZ180.alike Ara204.2.1) Ara204.2.2 hin205 hat206 (g := (mkF m 233 #[.val (.int p0), .val (.int p1), .val (.long p2), .second, .val (.long p3), .second, .val (.long p4), .second, .val (.int p5), .val (.int (3 : Int32)), .val (.int z0), .val (.int z1), .val (.int z2), .val (.long (((p1 &&& (1023 : Int32)) + (1 : Int32)).toInt64)), .second, .val (.long ((p2 &&& (1099511627775 : Int64)) + (1 : Int64))), .second, .val (.long ((p3 &&& (1099511627775 : Int64)) + (1 : Int64))), .second, .val (.long ((p4 &&& (1099511627775 : Int64)) + (1 : Int64))), .second, .val (.long ((1 : Int64) <<< (((p5 &&& (63 : Int32)) % (63 : Int32)) &&& 0x3f).toInt64)), .second, .val (.ref b139), .val (.ref u202), .val (.int (1 : Int32))] [(.int (0 : Int32)), (.ref u202)])) rfl rfl (hb hby at_233) _ ?_
      refine XS.lload X201.here hx rfl (hb hby at_234) rfl ?_
      refine XS.lload X201.here hx rfl (hb hby at_236) rfl ?_
      refine XS.lload X201.here hx rfl (hb hby at_238) rfl ?_
      exact Steps.refl _
    obtain ⟨T208, L208, X208, e208, N208, st208⟩ := own_callP X201 hx hZ180 hown180 (wk129 hw) (wk130 hw) (wk131 hw) (wk132 hw) (by decide) (rmck l Z a0 hw [] (FP.ddiv (FP.l2d ((((p1 &&& (1023 : Int32)) + (1 : Int32)).toInt64) * ((p2 &&& (1099511627775 : Int64)) + (1 : Int64)))) (FP.l2d ((1 : Int64) <<< (((p5 &&& (63 : Int32)) % (63 : Int32)) &&& 0x3f).toInt64))) (((p1 &&& (1023 : Int32)) + (1 : Int32)).toInt64) ((p2 &&& (1099511627775 : Int64)) + (1 : Int64)) ((1 : Int64) <<< (((p5 &&& (63 : Int32)) % (63 : Int32)) &&& 0x3f).toInt64) T201.heap n0 O201 (own_pow ((((p1 &&& (1023 : Int32)) + (1 : Int32)).toInt64) * ((p2 &&& (1099511627775 : Int64)) + (1 : Int64))) ((1 : Int64) <<< (((p5 &&& (63 : Int32)) % (63 : Int32)) &&& 0x3f).toInt64) kk hkk hLL (own_mc (((p1 &&& (1023 : Int32)) + (1 : Int32)).toInt64) ((p2 &&& (1099511627775 : Int64)) + (1 : Int64)) (own_m p1).1 (own_m p1).2 (own_c p2).1 (own_c p2).2).2.1 (own_mc (((p1 &&& (1023 : Int32)) + (1 : Int32)).toInt64) ((p2 &&& (1099511627775 : Int64)) + (1 : Int64)) (own_m p1).1 (own_m p1).2 (own_c p2).1 (own_c p2).2).2.2)) (rfl : T201.heap = T201.heap) N201 (W := 0) (by decide) (by decide) (by decide) (by decide) (g := (mkF m 240 #[.val (.int p0), .val (.int p1), .val (.long p2), .second, .val (.long p3), .second, .val (.long p4), .second, .val (.int p5), .val (.int (3 : Int32)), .val (.int z0), .val (.int z1), .val (.int z2), .val (.long (((p1 &&& (1023 : Int32)) + (1 : Int32)).toInt64)), .second, .val (.long ((p2 &&& (1099511627775 : Int64)) + (1 : Int64))), .second, .val (.long ((p3 &&& (1099511627775 : Int64)) + (1 : Int64))), .second, .val (.long ((p4 &&& (1099511627775 : Int64)) + (1 : Int64))), .second, .val (.long ((1 : Int64) <<< (((p5 &&& (63 : Int32)) % (63 : Int32)) &&& 0x3f).toInt64)), .second, .val (.ref b139), .val (.ref u202), .val (.int (1 : Int32))] [(.long ((1 : Int64) <<< (((p5 &&& (63 : Int32)) % (63 : Int32)) &&& 0x3f).toInt64)), (.long ((p2 &&& (1099511627775 : Int64)) + (1 : Int64))), (.long (((p1 &&& (1023 : Int32)) + (1 : Int32)).toInt64)), (.double (FP.ddiv (FP.l2d ((((p1 &&& (1023 : Int32)) + (1 : Int32)).toInt64) * ((p2 &&& (1099511627775 : Int64)) + (1 : Int64)))) (FP.l2d ((1 : Int64) <<< (((p5 &&& (63 : Int32)) % (63 : Int32)) &&& 0x3f).toInt64))))])) rfl (by rw [hml]; rfl) (argsL := [(.double (FP.ddiv (FP.l2d ((((p1 &&& (1023 : Int32)) + (1 : Int32)).toInt64) * ((p2 &&& (1099511627775 : Int64)) + (1 : Int64)))) (FP.l2d ((1 : Int64) <<< (((p5 &&& (63 : Int32)) % (63 : Int32)) &&& 0x3f).toInt64)))), (.long (((p1 &&& (1023 : Int32)) + (1 : Int32)).toInt64)), (.long ((p2 &&& (1099511627775 : Int64)) + (1 : Int64))), (.long ((1 : Int64) <<< (((p5 &&& (63 : Int32)) % (63 : Int32)) &&& 0x3f).toInt64))]) (rest := []) (lenOf pd_rm0_4 rfl) rfl (by show 2 * 0 + _ ≤ _; exact Nat.le_of_eq rfl) (hb hby at_240)
    have hin209 : ¬ ((1 : Int32) < 0 ∨ cla204.slots.size ≤ ((1 : Int32)).toNatClampNeg) := inb_of Sa204 ⟨by decide, by decide⟩
    have hat210 : cla204.slots[((1 : Int32)).toNatClampNeg]? = some (.double (FP.ddiv (FP.l2d ((((p1 &&& (1023 : Int32)) + (1 : Int32)).toInt64) * ((p3 &&& (1099511627775 : Int64)) + (1 : Int64)))) (FP.l2d ((1 : Int64) <<< (((p5 &&& (63 : Int32)) % (63 : Int32)) &&& 0x3f).toInt64)))) := Has.at Ha204 hin209 rfl
    have s211 : Steps p.tables e below A₀ (T208.setTop (mkF m 274 #[.val (.int p0), .val (.int p1), .val (.long p2), .second, .val (.long p3), .second, .val (.long p4), .second, .val (.int p5), .val (.int (3 : Int32)), .val (.int z0), .val (.int z1), .val (.int z2), .val (.long (((p1 &&& (1023 : Int32)) + (1 : Int32)).toInt64)), .second, .val (.long ((p2 &&& (1099511627775 : Int64)) + (1 : Int64))), .second, .val (.long ((p3 &&& (1099511627775 : Int64)) + (1 : Int64))), .second, .val (.long ((p4 &&& (1099511627775 : Int64)) + (1 : Int64))), .second, .val (.long ((1 : Int64) <<< (((p5 &&& (63 : Int32)) % (63 : Int32)) &&& 0x3f).toInt64)), .second, .val (.ref b139), .val (.ref u202), .val (.int (1 : Int32))] [(.long ((1 : Int64) <<< (((p5 &&& (63 : Int32)) % (63 : Int32)) &&& 0x3f).toInt64)), (.long ((p3 &&& (1099511627775 : Int64)) + (1 : Int64))), (.long (((p1 &&& (1023 : Int32)) + (1 : Int32)).toInt64)), (.double (FP.ddiv (FP.l2d ((((p1 &&& (1023 : Int32)) + (1 : Int32)).toInt64) * ((p3 &&& (1099511627775 : Int64)) + (1 : Int64)))) (FP.l2d ((1 : Int64) <<< (((p5 &&& (63 : Int32)) % (63 : Int32)) &&& 0x3f).toInt64))))])) := by
      refine s207.trans ?_
      show Steps p.tables e below (T201.setTop (mkF m 240 #[.val (.int p0), .val (.int p1), .val (.long p2), .second, .val (.long p3), .second, .val (.long p4), .second, .val (.int p5), .val (.int (3 : Int32)), .val (.int z0), .val (.int z1), .val (.int z2), .val (.long (((p1 &&& (1023 : Int32)) + (1 : Int32)).toInt64)), .second, .val (.long ((p2 &&& (1099511627775 : Int64)) + (1 : Int64))), .second, .val (.long ((p3 &&& (1099511627775 : Int64)) + (1 : Int64))), .second, .val (.long ((p4 &&& (1099511627775 : Int64)) + (1 : Int64))), .second, .val (.long ((1 : Int64) <<< (((p5 &&& (63 : Int32)) % (63 : Int32)) &&& 0x3f).toInt64)), .second, .val (.ref b139), .val (.ref u202), .val (.int (1 : Int32))] [(.long ((1 : Int64) <<< (((p5 &&& (63 : Int32)) % (63 : Int32)) &&& 0x3f).toInt64)), (.long ((p2 &&& (1099511627775 : Int64)) + (1 : Int64))), (.long (((p1 &&& (1023 : Int32)) + (1 : Int32)).toInt64)), (.double (FP.ddiv (FP.l2d ((((p1 &&& (1023 : Int32)) + (1 : Int32)).toInt64) * ((p2 &&& (1099511627775 : Int64)) + (1 : Int64)))) (FP.l2d ((1 : Int64) <<< (((p5 &&& (63 : Int32)) % (63 : Int32)) &&& 0x3f).toInt64))))])) _
      refine st208 _ ?_
      refine XS.ifNo X208.here hx rfl (hb hby at_243) rfl ((if0 _ _).trans (feq (by decide)).1) ?_
      refine XS.iconst X208.here hx rfl (hb hby at_246) ?_
      refine XS.goto X208.here hx rfl (pc0 := 247) (pc' := 251) rfl (hb hby at_247) (by decide) (by decide) ?_
      refine XS.istore X208.here hx rfl (hb hby at_251) rfl (l' := #[.val (.int p0), .val (.int p1), .val (.long p2), .second, .val (.long p3), .second, .val (.long p4), .second, .val (.int p5), .val (.int (3 : Int32)), .val (.int z0), .val (.int z1), .val (.int z2), .val (.long (((p1 &&& (1023 : Int32)) + (1 : Int32)).toInt64)), .second, .val (.long ((p2 &&& (1099511627775 : Int64)) + (1 : Int64))), .second, .val (.long ((p3 &&& (1099511627775 : Int64)) + (1 : Int64))), .second, .val (.long ((p4 &&& (1099511627775 : Int64)) + (1 : Int64))), .second, .val (.long ((1 : Int64) <<< (((p5 &&& (63 : Int32)) % (63 : Int32)) &&& 0x3f).toInt64)), .second, .val (.ref b139), .val (.ref u202), .val (.int (1 : Int32))]) rfl ?_
      refine XS.iload X208.here hx rfl (hb hby at_253) rfl ?_
      refine XS.iconst X208.here hx rfl (hb hby at_255) ?_
      refine XS.icmpNo X208.here hx rfl (hb hby at_256) rfl (tlt (by decide)).2.2.2 ?_
      refine XS.iload X208.here hx rfl (hb hby at_259) rfl ?_
      refine XS.ifNo X208.here hx rfl (hb hby at_261) rfl ((if0 _ _).trans (feq (by decide)).1) ?_
      show Steps p.tables e below (T208.setTop (mkF m 264 #[.val (.int p0), .val (.int p1), .val (.long p2), .second, .val (.long p3), .second, .val (.long p4), .second, .val (.int p5), .val (.int (3 : Int32)), .val (.int z0), .val (.int z1), .val (.int z2), .val (.long (((p1 &&& (1023 : Int32)) + (1 : Int32)).toInt64)), .second, .val (.long ((p2 &&& (1099511627775 : Int64)) + (1 : Int64))), .second, .val (.long ((p3 &&& (1099511627775 : Int64)) + (1 : Int64))), .second, .val (.long ((p4 &&& (1099511627775 : Int64)) + (1 : Int64))), .second, .val (.long ((1 : Int64) <<< (((p5 &&& (63 : Int32)) % (63 : Int32)) &&& 0x3f).toInt64)), .second, .val (.ref b139), .val (.ref u202), .val (.int (1 : Int32))] [])) _
      refine XS.aload X208.here hx rfl (hb hby at_264) rfl rfl ?_
      refine XS.iconst X208.here hx rfl (hb hby at_266) ?_
      refine X208.daload hx (j := (1 : Int32)) (v := (.double (FP.ddiv (FP.l2d ((((p1 &&& (1023 : Int32)) + (1 : Int32)).toInt64) * ((p3 &&& (1099511627775 : Int64)) + (1 : Int64)))) (FP.l2d ((1 : Int64) <<< (((p5 &&& (63 : Int32)) % (63 : Int32)) &&& 0x3f).toInt64))))) (by rw [e208]; exact Ara204.1) (State.isArrayOf_alike hZ180.alike Ara204.2.1) Ara204.2.2 hin209 hat210 (g := (mkF m 267 #[.val (.int p0), .val (.int p1), .val (.long p2), .second, .val (.long p3), .second, .val (.long p4), .second, .val (.int p5), .val (.int (3 : Int32)), .val (.int z0), .val (.int z1), .val (.int z2), .val (.long (((p1 &&& (1023 : Int32)) + (1 : Int32)).toInt64)), .second, .val (.long ((p2 &&& (1099511627775 : Int64)) + (1 : Int64))), .second, .val (.long ((p3 &&& (1099511627775 : Int64)) + (1 : Int64))), .second, .val (.long ((p4 &&& (1099511627775 : Int64)) + (1 : Int64))), .second, .val (.long ((1 : Int64) <<< (((p5 &&& (63 : Int32)) % (63 : Int32)) &&& 0x3f).toInt64)), .second, .val (.ref b139), .val (.ref u202), .val (.int (1 : Int32))] [(.int (1 : Int32)), (.ref u202)])) rfl rfl (hb hby at_267) _ ?_
      refine XS.lload X208.here hx rfl (hb hby at_268) rfl ?_
      refine XS.lload X208.here hx rfl (hb hby at_270) rfl ?_
      refine XS.lload X208.here hx rfl (hb hby at_272) rfl ?_
      exact Steps.refl _
    obtain ⟨T212, L212, X212, e212, N212, st212⟩ := own_callP X208 hx hZ180 hown180 (wk129 hw) (wk130 hw) (wk131 hw) (wk132 hw) (by decide) (rmck l Z a0 hw [] (FP.ddiv (FP.l2d ((((p1 &&& (1023 : Int32)) + (1 : Int32)).toInt64) * ((p3 &&& (1099511627775 : Int64)) + (1 : Int64)))) (FP.l2d ((1 : Int64) <<< (((p5 &&& (63 : Int32)) % (63 : Int32)) &&& 0x3f).toInt64))) (((p1 &&& (1023 : Int32)) + (1 : Int32)).toInt64) ((p3 &&& (1099511627775 : Int64)) + (1 : Int64)) ((1 : Int64) <<< (((p5 &&& (63 : Int32)) % (63 : Int32)) &&& 0x3f).toInt64) T201.heap n0 O201 (own_pow ((((p1 &&& (1023 : Int32)) + (1 : Int32)).toInt64) * ((p3 &&& (1099511627775 : Int64)) + (1 : Int64))) ((1 : Int64) <<< (((p5 &&& (63 : Int32)) % (63 : Int32)) &&& 0x3f).toInt64) kk hkk hLL (own_mc (((p1 &&& (1023 : Int32)) + (1 : Int32)).toInt64) ((p3 &&& (1099511627775 : Int64)) + (1 : Int64)) (own_m p1).1 (own_m p1).2 (own_c p3).1 (own_c p3).2).2.1 (own_mc (((p1 &&& (1023 : Int32)) + (1 : Int32)).toInt64) ((p3 &&& (1099511627775 : Int64)) + (1 : Int64)) (own_m p1).1 (own_m p1).2 (own_c p3).1 (own_c p3).2).2.2)) e208 N208 (W := 0) (by decide) (by decide) (by decide) (by decide) (g := (mkF m 274 #[.val (.int p0), .val (.int p1), .val (.long p2), .second, .val (.long p3), .second, .val (.long p4), .second, .val (.int p5), .val (.int (3 : Int32)), .val (.int z0), .val (.int z1), .val (.int z2), .val (.long (((p1 &&& (1023 : Int32)) + (1 : Int32)).toInt64)), .second, .val (.long ((p2 &&& (1099511627775 : Int64)) + (1 : Int64))), .second, .val (.long ((p3 &&& (1099511627775 : Int64)) + (1 : Int64))), .second, .val (.long ((p4 &&& (1099511627775 : Int64)) + (1 : Int64))), .second, .val (.long ((1 : Int64) <<< (((p5 &&& (63 : Int32)) % (63 : Int32)) &&& 0x3f).toInt64)), .second, .val (.ref b139), .val (.ref u202), .val (.int (1 : Int32))] [(.long ((1 : Int64) <<< (((p5 &&& (63 : Int32)) % (63 : Int32)) &&& 0x3f).toInt64)), (.long ((p3 &&& (1099511627775 : Int64)) + (1 : Int64))), (.long (((p1 &&& (1023 : Int32)) + (1 : Int32)).toInt64)), (.double (FP.ddiv (FP.l2d ((((p1 &&& (1023 : Int32)) + (1 : Int32)).toInt64) * ((p3 &&& (1099511627775 : Int64)) + (1 : Int64)))) (FP.l2d ((1 : Int64) <<< (((p5 &&& (63 : Int32)) % (63 : Int32)) &&& 0x3f).toInt64))))])) rfl (by rw [hml]; rfl) (argsL := [(.double (FP.ddiv (FP.l2d ((((p1 &&& (1023 : Int32)) + (1 : Int32)).toInt64) * ((p3 &&& (1099511627775 : Int64)) + (1 : Int64)))) (FP.l2d ((1 : Int64) <<< (((p5 &&& (63 : Int32)) % (63 : Int32)) &&& 0x3f).toInt64)))), (.long (((p1 &&& (1023 : Int32)) + (1 : Int32)).toInt64)), (.long ((p3 &&& (1099511627775 : Int64)) + (1 : Int64))), (.long ((1 : Int64) <<< (((p5 &&& (63 : Int32)) % (63 : Int32)) &&& 0x3f).toInt64))]) (rest := []) (lenOf pd_rm0_4 rfl) rfl (by show 2 * 0 + _ ≤ _; exact Nat.le_of_eq rfl) (hb hby at_274)
    have hin213 : ¬ ((2 : Int32) < 0 ∨ cla204.slots.size ≤ ((2 : Int32)).toNatClampNeg) := inb_of Sa204 ⟨by decide, by decide⟩
    have hat214 : cla204.slots[((2 : Int32)).toNatClampNeg]? = some (.double (FP.ddiv (FP.l2d ((((p1 &&& (1023 : Int32)) + (1 : Int32)).toInt64) * ((p4 &&& (1099511627775 : Int64)) + (1 : Int64)))) (FP.l2d ((1 : Int64) <<< (((p5 &&& (63 : Int32)) % (63 : Int32)) &&& 0x3f).toInt64)))) := Has.at Ha204 hin213 rfl
    have s215 : Steps p.tables e below A₀ (T212.setTop (mkF m 308 #[.val (.int p0), .val (.int p1), .val (.long p2), .second, .val (.long p3), .second, .val (.long p4), .second, .val (.int p5), .val (.int (3 : Int32)), .val (.int z0), .val (.int z1), .val (.int z2), .val (.long (((p1 &&& (1023 : Int32)) + (1 : Int32)).toInt64)), .second, .val (.long ((p2 &&& (1099511627775 : Int64)) + (1 : Int64))), .second, .val (.long ((p3 &&& (1099511627775 : Int64)) + (1 : Int64))), .second, .val (.long ((p4 &&& (1099511627775 : Int64)) + (1 : Int64))), .second, .val (.long ((1 : Int64) <<< (((p5 &&& (63 : Int32)) % (63 : Int32)) &&& 0x3f).toInt64)), .second, .val (.ref b139), .val (.ref u202), .val (.int (1 : Int32))] [(.long ((1 : Int64) <<< (((p5 &&& (63 : Int32)) % (63 : Int32)) &&& 0x3f).toInt64)), (.long ((p4 &&& (1099511627775 : Int64)) + (1 : Int64))), (.long (((p1 &&& (1023 : Int32)) + (1 : Int32)).toInt64)), (.double (FP.ddiv (FP.l2d ((((p1 &&& (1023 : Int32)) + (1 : Int32)).toInt64) * ((p4 &&& (1099511627775 : Int64)) + (1 : Int64)))) (FP.l2d ((1 : Int64) <<< (((p5 &&& (63 : Int32)) % (63 : Int32)) &&& 0x3f).toInt64))))])) := by
      refine s211.trans ?_
      show Steps p.tables e below (T208.setTop (mkF m 274 #[.val (.int p0), .val (.int p1), .val (.long p2), .second, .val (.long p3), .second, .val (.long p4), .second, .val (.int p5), .val (.int (3 : Int32)), .val (.int z0), .val (.int z1), .val (.int z2), .val (.long (((p1 &&& (1023 : Int32)) + (1 : Int32)).toInt64)), .second, .val (.long ((p2 &&& (1099511627775 : Int64)) + (1 : Int64))), .second, .val (.long ((p3 &&& (1099511627775 : Int64)) + (1 : Int64))), .second, .val (.long ((p4 &&& (1099511627775 : Int64)) + (1 : Int64))), .second, .val (.long ((1 : Int64) <<< (((p5 &&& (63 : Int32)) % (63 : Int32)) &&& 0x3f).toInt64)), .second, .val (.ref b139), .val (.ref u202), .val (.int (1 : Int32))] [(.long ((1 : Int64) <<< (((p5 &&& (63 : Int32)) % (63 : Int32)) &&& 0x3f).toInt64)), (.long ((p3 &&& (1099511627775 : Int64)) + (1 : Int64))), (.long (((p1 &&& (1023 : Int32)) + (1 : Int32)).toInt64)), (.double (FP.ddiv (FP.l2d ((((p1 &&& (1023 : Int32)) + (1 : Int32)).toInt64) * ((p3 &&& (1099511627775 : Int64)) + (1 : Int64)))) (FP.l2d ((1 : Int64) <<< (((p5 &&& (63 : Int32)) % (63 : Int32)) &&& 0x3f).toInt64))))])) _
      refine st212 _ ?_
      refine XS.ifNo X212.here hx rfl (hb hby at_277) rfl ((if0 _ _).trans (feq (by decide)).1) ?_
      refine XS.iconst X212.here hx rfl (hb hby at_280) ?_
      refine XS.goto X212.here hx rfl (pc0 := 281) (pc' := 285) rfl (hb hby at_281) (by decide) (by decide) ?_
      refine XS.istore X212.here hx rfl (hb hby at_285) rfl (l' := #[.val (.int p0), .val (.int p1), .val (.long p2), .second, .val (.long p3), .second, .val (.long p4), .second, .val (.int p5), .val (.int (3 : Int32)), .val (.int z0), .val (.int z1), .val (.int z2), .val (.long (((p1 &&& (1023 : Int32)) + (1 : Int32)).toInt64)), .second, .val (.long ((p2 &&& (1099511627775 : Int64)) + (1 : Int64))), .second, .val (.long ((p3 &&& (1099511627775 : Int64)) + (1 : Int64))), .second, .val (.long ((p4 &&& (1099511627775 : Int64)) + (1 : Int64))), .second, .val (.long ((1 : Int64) <<< (((p5 &&& (63 : Int32)) % (63 : Int32)) &&& 0x3f).toInt64)), .second, .val (.ref b139), .val (.ref u202), .val (.int (1 : Int32))]) rfl ?_
      refine XS.iload X212.here hx rfl (hb hby at_287) rfl ?_
      refine XS.iconst X212.here hx rfl (hb hby at_289) ?_
      refine XS.icmpNo X212.here hx rfl (hb hby at_290) rfl (tlt (by decide)).2.2.2 ?_
      refine XS.iload X212.here hx rfl (hb hby at_293) rfl ?_
      refine XS.ifNo X212.here hx rfl (hb hby at_295) rfl ((if0 _ _).trans (feq (by decide)).1) ?_
      show Steps p.tables e below (T212.setTop (mkF m 298 #[.val (.int p0), .val (.int p1), .val (.long p2), .second, .val (.long p3), .second, .val (.long p4), .second, .val (.int p5), .val (.int (3 : Int32)), .val (.int z0), .val (.int z1), .val (.int z2), .val (.long (((p1 &&& (1023 : Int32)) + (1 : Int32)).toInt64)), .second, .val (.long ((p2 &&& (1099511627775 : Int64)) + (1 : Int64))), .second, .val (.long ((p3 &&& (1099511627775 : Int64)) + (1 : Int64))), .second, .val (.long ((p4 &&& (1099511627775 : Int64)) + (1 : Int64))), .second, .val (.long ((1 : Int64) <<< (((p5 &&& (63 : Int32)) % (63 : Int32)) &&& 0x3f).toInt64)), .second, .val (.ref b139), .val (.ref u202), .val (.int (1 : Int32))] [])) _
      refine XS.aload X212.here hx rfl (hb hby at_298) rfl rfl ?_
      refine XS.iconst X212.here hx rfl (hb hby at_300) ?_
      refine X212.daload hx (j := (2 : Int32)) (v := (.double (FP.ddiv (FP.l2d ((((p1 &&& (1023 : Int32)) + (1 : Int32)).toInt64) * ((p4 &&& (1099511627775 : Int64)) + (1 : Int64)))) (FP.l2d ((1 : Int64) <<< (((p5 &&& (63 : Int32)) % (63 : Int32)) &&& 0x3f).toInt64))))) (by rw [e212]; exact Ara204.1) (State.isArrayOf_alike hZ180.alike Ara204.2.1) Ara204.2.2 hin213 hat214 (g := (mkF m 301 #[.val (.int p0), .val (.int p1), .val (.long p2), .second, .val (.long p3), .second, .val (.long p4), .second, .val (.int p5), .val (.int (3 : Int32)), .val (.int z0), .val (.int z1), .val (.int z2), .val (.long (((p1 &&& (1023 : Int32)) + (1 : Int32)).toInt64)), .second, .val (.long ((p2 &&& (1099511627775 : Int64)) + (1 : Int64))), .second, .val (.long ((p3 &&& (1099511627775 : Int64)) + (1 : Int64))), .second, .val (.long ((p4 &&& (1099511627775 : Int64)) + (1 : Int64))), .second, .val (.long ((1 : Int64) <<< (((p5 &&& (63 : Int32)) % (63 : Int32)) &&& 0x3f).toInt64)), .second, .val (.ref b139), .val (.ref u202), .val (.int (1 : Int32))] [(.int (2 : Int32)), (.ref u202)])) rfl rfl (hb hby at_301) _ ?_
      refine XS.lload X212.here hx rfl (hb hby at_302) rfl ?_
      refine XS.lload X212.here hx rfl (hb hby at_304) rfl ?_
      refine XS.lload X212.here hx rfl (hb hby at_306) rfl ?_
      exact Steps.refl _
    obtain ⟨T216, L216, X216, e216, N216, st216⟩ := own_callP X212 hx hZ180 hown180 (wk129 hw) (wk130 hw) (wk131 hw) (wk132 hw) (by decide) (rmck l Z a0 hw [] (FP.ddiv (FP.l2d ((((p1 &&& (1023 : Int32)) + (1 : Int32)).toInt64) * ((p4 &&& (1099511627775 : Int64)) + (1 : Int64)))) (FP.l2d ((1 : Int64) <<< (((p5 &&& (63 : Int32)) % (63 : Int32)) &&& 0x3f).toInt64))) (((p1 &&& (1023 : Int32)) + (1 : Int32)).toInt64) ((p4 &&& (1099511627775 : Int64)) + (1 : Int64)) ((1 : Int64) <<< (((p5 &&& (63 : Int32)) % (63 : Int32)) &&& 0x3f).toInt64) T201.heap n0 O201 (own_pow ((((p1 &&& (1023 : Int32)) + (1 : Int32)).toInt64) * ((p4 &&& (1099511627775 : Int64)) + (1 : Int64))) ((1 : Int64) <<< (((p5 &&& (63 : Int32)) % (63 : Int32)) &&& 0x3f).toInt64) kk hkk hLL (own_mc (((p1 &&& (1023 : Int32)) + (1 : Int32)).toInt64) ((p4 &&& (1099511627775 : Int64)) + (1 : Int64)) (own_m p1).1 (own_m p1).2 (own_c p4).1 (own_c p4).2).2.1 (own_mc (((p1 &&& (1023 : Int32)) + (1 : Int32)).toInt64) ((p4 &&& (1099511627775 : Int64)) + (1 : Int64)) (own_m p1).1 (own_m p1).2 (own_c p4).1 (own_c p4).2).2.2)) e212 N212 (W := 0) (by decide) (by decide) (by decide) (by decide) (g := (mkF m 308 #[.val (.int p0), .val (.int p1), .val (.long p2), .second, .val (.long p3), .second, .val (.long p4), .second, .val (.int p5), .val (.int (3 : Int32)), .val (.int z0), .val (.int z1), .val (.int z2), .val (.long (((p1 &&& (1023 : Int32)) + (1 : Int32)).toInt64)), .second, .val (.long ((p2 &&& (1099511627775 : Int64)) + (1 : Int64))), .second, .val (.long ((p3 &&& (1099511627775 : Int64)) + (1 : Int64))), .second, .val (.long ((p4 &&& (1099511627775 : Int64)) + (1 : Int64))), .second, .val (.long ((1 : Int64) <<< (((p5 &&& (63 : Int32)) % (63 : Int32)) &&& 0x3f).toInt64)), .second, .val (.ref b139), .val (.ref u202), .val (.int (1 : Int32))] [(.long ((1 : Int64) <<< (((p5 &&& (63 : Int32)) % (63 : Int32)) &&& 0x3f).toInt64)), (.long ((p4 &&& (1099511627775 : Int64)) + (1 : Int64))), (.long (((p1 &&& (1023 : Int32)) + (1 : Int32)).toInt64)), (.double (FP.ddiv (FP.l2d ((((p1 &&& (1023 : Int32)) + (1 : Int32)).toInt64) * ((p4 &&& (1099511627775 : Int64)) + (1 : Int64)))) (FP.l2d ((1 : Int64) <<< (((p5 &&& (63 : Int32)) % (63 : Int32)) &&& 0x3f).toInt64))))])) rfl (by rw [hml]; rfl) (argsL := [(.double (FP.ddiv (FP.l2d ((((p1 &&& (1023 : Int32)) + (1 : Int32)).toInt64) * ((p4 &&& (1099511627775 : Int64)) + (1 : Int64)))) (FP.l2d ((1 : Int64) <<< (((p5 &&& (63 : Int32)) % (63 : Int32)) &&& 0x3f).toInt64)))), (.long (((p1 &&& (1023 : Int32)) + (1 : Int32)).toInt64)), (.long ((p4 &&& (1099511627775 : Int64)) + (1 : Int64))), (.long ((1 : Int64) <<< (((p5 &&& (63 : Int32)) % (63 : Int32)) &&& 0x3f).toInt64))]) (rest := []) (lenOf pd_rm0_4 rfl) rfl (by show 2 * 0 + _ ≤ _; exact Nat.le_of_eq rfl) (hb hby at_308)
    have s217 : Steps p.tables e below A₀ (T216.setTop (mkF m 323 #[.val (.int p0), .val (.int p1), .val (.long p2), .second, .val (.long p3), .second, .val (.long p4), .second, .val (.int p5), .val (.int (3 : Int32)), .val (.int z0), .val (.int z1), .val (.int z2), .val (.long (((p1 &&& (1023 : Int32)) + (1 : Int32)).toInt64)), .second, .val (.long ((p2 &&& (1099511627775 : Int64)) + (1 : Int64))), .second, .val (.long ((p3 &&& (1099511627775 : Int64)) + (1 : Int64))), .second, .val (.long ((p4 &&& (1099511627775 : Int64)) + (1 : Int64))), .second, .val (.long ((1 : Int64) <<< (((p5 &&& (63 : Int32)) % (63 : Int32)) &&& 0x3f).toInt64)), .second, .val (.ref b139), .val (.ref u202), .val (.int (1 : Int32))] [(.int (1 : Int32))])) := by
      refine s215.trans ?_
      show Steps p.tables e below (T212.setTop (mkF m 308 #[.val (.int p0), .val (.int p1), .val (.long p2), .second, .val (.long p3), .second, .val (.long p4), .second, .val (.int p5), .val (.int (3 : Int32)), .val (.int z0), .val (.int z1), .val (.int z2), .val (.long (((p1 &&& (1023 : Int32)) + (1 : Int32)).toInt64)), .second, .val (.long ((p2 &&& (1099511627775 : Int64)) + (1 : Int64))), .second, .val (.long ((p3 &&& (1099511627775 : Int64)) + (1 : Int64))), .second, .val (.long ((p4 &&& (1099511627775 : Int64)) + (1 : Int64))), .second, .val (.long ((1 : Int64) <<< (((p5 &&& (63 : Int32)) % (63 : Int32)) &&& 0x3f).toInt64)), .second, .val (.ref b139), .val (.ref u202), .val (.int (1 : Int32))] [(.long ((1 : Int64) <<< (((p5 &&& (63 : Int32)) % (63 : Int32)) &&& 0x3f).toInt64)), (.long ((p4 &&& (1099511627775 : Int64)) + (1 : Int64))), (.long (((p1 &&& (1023 : Int32)) + (1 : Int32)).toInt64)), (.double (FP.ddiv (FP.l2d ((((p1 &&& (1023 : Int32)) + (1 : Int32)).toInt64) * ((p4 &&& (1099511627775 : Int64)) + (1 : Int64)))) (FP.l2d ((1 : Int64) <<< (((p5 &&& (63 : Int32)) % (63 : Int32)) &&& 0x3f).toInt64))))])) _
      refine st216 _ ?_
      refine XS.ifNo X216.here hx rfl (hb hby at_311) rfl ((if0 _ _).trans (feq (by decide)).1) ?_
      refine XS.iconst X216.here hx rfl (hb hby at_314) ?_
      refine XS.goto X216.here hx rfl (pc0 := 315) (pc' := 319) rfl (hb hby at_315) (by decide) (by decide) ?_
      refine XS.istore X216.here hx rfl (hb hby at_319) rfl (l' := #[.val (.int p0), .val (.int p1), .val (.long p2), .second, .val (.long p3), .second, .val (.long p4), .second, .val (.int p5), .val (.int (3 : Int32)), .val (.int z0), .val (.int z1), .val (.int z2), .val (.long (((p1 &&& (1023 : Int32)) + (1 : Int32)).toInt64)), .second, .val (.long ((p2 &&& (1099511627775 : Int64)) + (1 : Int64))), .second, .val (.long ((p3 &&& (1099511627775 : Int64)) + (1 : Int64))), .second, .val (.long ((p4 &&& (1099511627775 : Int64)) + (1 : Int64))), .second, .val (.long ((1 : Int64) <<< (((p5 &&& (63 : Int32)) % (63 : Int32)) &&& 0x3f).toInt64)), .second, .val (.ref b139), .val (.ref u202), .val (.int (1 : Int32))]) rfl ?_
      refine XS.iload X216.here hx rfl (hb hby at_321) rfl ?_
      exact Steps.refl _
    subst hA₀
    obtain ⟨fs, hr, hrun, hended, -, hW, hIn, hsame⟩ := X216.leaveW hS180 (by rw [e216]; exact hkk201) (v := some (.int (1 : Int32))) (fun h => by rw [Bd.returns] at h; cases h)
    refine ⟨_, _, s217.trans ?_, hrun, hended, _, _, rfl, ?_, ⟨_, rfl⟩, hW, hIn, hsame.mono (by decide) (by decide)⟩
    · show Steps p.tables e below (T216.setTop (mkF m 323 #[.val (.int p0), .val (.int p1), .val (.long p2), .second, .val (.long p3), .second, .val (.long p4), .second, .val (.int p5), .val (.int (3 : Int32)), .val (.int z0), .val (.int z1), .val (.int z2), .val (.long (((p1 &&& (1023 : Int32)) + (1 : Int32)).toInt64)), .second, .val (.long ((p2 &&& (1099511627775 : Int64)) + (1 : Int64))), .second, .val (.long ((p3 &&& (1099511627775 : Int64)) + (1 : Int64))), .second, .val (.long ((p4 &&& (1099511627775 : Int64)) + (1 : Int64))), .second, .val (.long ((1 : Int64) <<< (((p5 &&& (63 : Int32)) % (63 : Int32)) &&& 0x3f).toInt64)), .second, .val (.ref b139), .val (.ref u202), .val (.int (1 : Int32))] [(.int (1 : Int32))])) _
      exact retN X216 hx (t := .boolean) Bd.returns (by simp) (hb hby at_323) hr
    · show Q0 Z p0 p1 p2 p3 p4 p5 dc kd h0 n0 _ T216.heap _
      rw [e216]
      exact ⟨rfl, N216⟩
set_option maxRecDepth 65536 in
set_option maxHeartbeats 40000000 in
theorem comes_1 {Post : Tables → Env → Array Value → State → Outcome → State → Prop} (hpost : ∀ tb e args s v u, (limb_1_1.after args s (.returned v) u = true ∧ limb_1_2.after args s (.returned v) u = true ∧ True) → ReturnedEndW s (.returned v) u (Jvm.fieldLocs frame_1_writes args s ++ Jvm.arrayLocs frame_1_arrays args s ++ Jvm.staticLocs frame_1_statics s) 32 3200 → Post tb e args s (.returned v) u) :
    ArmFor flags0 classFile x code maxLocals ret World_1 tables_1 room_1 Calls_1 rest_1 Pre_1 Post := by
  intro l hfl _ _ p e ha hc hk s m args below hf hA hF happ hP
  obtain ⟨hcalls, hrest, hpre⟩ := hP
  obtain ⟨-, -, -, hnamed, -, -, -, hat⟩ := (Spec.applies_iff hf).mp happ
  obtain ⟨hg, hn⟩ := and_e (Cond.before_iff.mp (show (Jvm.Cond.and given_1 narrow_1).before args s = true from hpre))
  obtain ⟨gc, gk0⟩ := and_e hg
  obtain ⟨ga0, gk1⟩ := and_e gk0
  obtain ⟨ga1, gk2⟩ := and_e gk1
  obtain ⟨ga2, gk3⟩ := and_e gk2
  obtain ⟨ga3, gk4⟩ := and_e gk3
  obtain ⟨ga4, gk5⟩ := and_e gk4
  obtain ⟨w0, w1, w2, w3, w4, w5, rfl⟩ : ∃ w0 w1 w2 w3 w4 w5 : Value, args = #[w0, w1, w2, w3, w4, w5] := by
    have hs : args.size = 6 := by simpa [Cond.value, given_1] using gc
    obtain ⟨L⟩ := args
    match L, hs with
    | [w0, w1, w2, w3, w4, w5], _ => exact ⟨w0, w1, w2, w3, w4, w5, rfl⟩
  have hw := fun d (hd : d ∈ tables_1) => atoms_spec (ws := Jvm.Cond.code x code maxLocals ret :: tables_1) hat d (List.mem_cons_of_mem _ hd)
  have hfit : Fit s := fun {y c} hc i hi => by
    obtain ⟨ha, rfl⟩ := Array.getElem?_eq_some_iff.mp hc
    have q := List.all_eq_true.mp ((Array.all_eq_true_iff_forall_mem.mp hF) _ (Array.getElem_mem ha)) i (List.mem_range.mpr hi)
    simpa [Array.getElem?_eq_getElem hi] using q
  obtain ⟨hsets, hown0⟩ := atoms_of _ (rest_1_c_eq ▸ (show rest_1_c.before _ s = true from hrest))
  have hr0 := Cond.before_iff.mp hown0
  obtain ⟨i0, ei0⟩ := is_v ga0
  obtain rfl : w0 = (.int i0) := Option.some.inj ei0
  obtain ⟨i1, ei1⟩ := is_v ga1
  obtain rfl : w1 = (.int i1) := Option.some.inj ei1
  obtain ⟨i2, ei2⟩ := isL_v ga2
  obtain rfl : w2 = (.long i2) := Option.some.inj ei2
  obtain ⟨i3, ei3⟩ := isL_v ga3
  obtain rfl : w3 = (.long i3) := Option.some.inj ei3
  obtain ⟨i4, ei4⟩ := isL_v ga4
  obtain rfl : w4 = (.long i4) := Option.some.inj ei4
  obtain ⟨i5, ei5⟩ := is_v gk5
  obtain rfl : w5 = (.int i5) := Option.some.inj ei5
  obtain ⟨dc, edc⟩ := exa_v (Cond.before_iff.mp (hsets _ (List.mem_of_getElem? (i := 7) rfl)))
  have Sd := Sta.start edc (Or.inr ⟨(hw _ (List.mem_of_getElem? (i := 3) rfl)), (hsets _ (List.mem_of_getElem? (i := 2) rfl))⟩)
  obtain ⟨cd, Ad⟩ := Arr.start edc (Cond.before_iff.mp (hsets _ (List.mem_of_getElem? (i := 6) rfl)))
  have ld := own_len edc Ad (own_eq_int (Cond.before_iff.mp (hsets _ (List.mem_of_getElem? (i := 8) rfl))))
  have Vd : Arv s s.heap dc cd.cls (.object "java/lang/Object") (0 : Int32) [] .null := Arv.start hfit Ad ld.1 ld.2 (by decide) rfl trivial
  obtain ⟨n, o, h1, h2, h3, _, L, rfl, ⟨rfl, N⟩, hq⟩ := rm0 l s _ hw tables_1 i0 i1 i2 i3 i4 i5 dc cd.cls s.heap s.heap.size (Old.start s) Sd Vd p e ha hc hk s m _ below hf ((Spec.applies_iff_loose hf).mp happ).1 ⟨rfl, State.Warmed39.refl s, rfl⟩ trivial
  refine ⟨n, _, h1, h2, h3, hpost _ _ _ _ _ _ ⟨Cond.after_iff.mpr rfl, Cond.after_iff.mpr (eq_i res_at (Term.int_eval (1)) rfl), trivial⟩ ⟨hq.1, hq.2.1, hq.2.2.1, (hq.2.2.2.sift fun y hy => Or.inr (N y hy)).mono (by decide) (by decide)⟩⟩
theorem main_1_1 : Claimed_1_1 := comes_1 fun _ _ _ _ _ _ h hF => ⟨h.1, hF⟩
theorem main_1_2 : Claimed_1_2 := comes_1 fun _ _ _ _ _ _ h hF => ⟨h.2.1, hF⟩
end Jvm.Pilot.@@N@@
namespace Jvm.Pilot.@@N@@
open Jvm Jvm.ClassFile Sem Op Lib Jvm.Free Jvm.Stand Jvm.Pilot.@@N@@.Jvm.D
/-! MADE BY PROGRAM (witnessworld.py) out of the Statement's table words and the real class files: 29 classes; the members and pool entries that the words name. The judged class is class 1, her method 1. -/
namespace start1
open Jvm.ClassFile
def u (s : String) : CpInfo := .utf8 (stringToUtf16 s)
/-- a pool by its gaps: so many unusable entries, then the entry; so many at the end -/
def gap : Nat → List CpInfo → List CpInfo
  | 0, r => r
  | n + 1, r => .unusable :: gap n r
def poolList (es : List (Nat × CpInfo)) (last : Nat) : List CpInfo := es.foldr (fun e r => gap e.1 (e.2 :: r)) (gap last [])
def pool (es : List (Nat × CpInfo)) (last : Nat) : Array CpInfo := ⟨poolList es last⟩
def fileOf (pool : Array CpInfo) (this : Nat) (attrs : Array Attribute := #[]) (ms : Array MethodInfo := #[]) (fl : Nat := 33) (sup : Nat := 0) (ifs : Array Nat := #[]) (fds : Array FieldInfo := #[]) : ClassFile where
  minorVersion := 0
  majorVersion := 65
  constantPool := pool
  accessFlags := fl
  thisClass := this
  superClass := sup
  interfaces := ifs
  fields := fds
  methods := ms
  attributes := attrs
def plain (name : String) (sup : Option ClassId) : Class where
  name := name
  kind := .ordinary
  loader := none
  accessFlags := 33
  super := sup
  interfaces := #[]
  cf := none
  fields := #[]
  methods := #[]
  instanceTypes := #[]
  staticTypes := #[]
  resolved := #[]
  callSites := []
  init := .initialized
  statics := none
  mirror := none

def pool0 : Array CpInfo := pool [(5, u "<init>"), (0, u "()V"), (1, .class_ 10), (1, u "java/lang/Object")] 113

def k0c0 : Code := { maxStack := 0, maxLocals := 1, code := object_method_1_code, exceptionTable := #[], attributes := #[] }
def k0m0 : Method := { name := "<init>", desc := "()V", sig := { parameters := [], returnType := none }, accessFlags := 1, code := some k0c0 }
/-- java/lang/Object -/
def k0 : Class := { plain "java/lang/Object" none with
  accessFlags := 33
  interfaces := #[]
  cf := some (fileOf pool0 8 #[] #[{ accessFlags := 1, nameIndex := 5, descriptorIndex := 6, attributes := #[] }] 33 0 #[] #[])
  fields := #[]
  methods := #[k0m0]
  instanceTypes := #[]
  staticTypes := #[]
  resolved := Array.replicate 124 none
  statics := none }

def pool1 : Array CpInfo := pool [(2, .class_ 4), (0, .nameAndType 5 6), (0, u "java/lang/Object"), (0, u "<init>"), (0, u "()V"), (0, .long 1099511627775), (1, .class_ 10), (0, u "java/util/ArrayList"), (0, .methodref 9 3), (0, .class_ 13), (0, u "com/example/libprox/libprox/RankingModel$QueryTerm"), (0, .string 15), (0, u "a"), (0, .methodref 12 17), (0, .nameAndType 5 18), (0, u "(Ljava/lang/String;JZ)V"), (0, .interfaceMethodref 20 21), (0, .class_ 22), (0, .nameAndType 23 24), (0, u "java/util/List"), (0, u "add"), (0, u "(Ljava/lang/Object;)Z"), (0, .string 26), (0, u "b"), (0, .string 28), (0, u "c"), (0, .methodref 30 31), (0, .class_ 32), (0, .nameAndType 33 34), (0, u "com/example/libprox/libprox/Kld"), (0, u "priors"), (0, u "(DLjava/util/List;J)[D"), (0, .methodref 36 37), (0, .class_ 38), (0, .nameAndType 39 40), (0, u "com/example/libprox/libprox/KldPriorsPinLaw"), (0, u "check"), (0, u "(DJJJ)Z"), (2, u "law"), (0, u "(IIJJJI)Z")] 9

def k1m0 : Method := { name := "<init>", desc := "()V", sig := { parameters := [], returnType := none }, accessFlags := 1, code := none }
def k1c1 : Code := { maxStack := 8, maxLocals := 26, code := code, exceptionTable := #[], attributes := #[] }
def k1m1 : Method := { name := "law", desc := "(IIJJJI)Z", sig := { parameters := [.int, .int, .long, .long, .long, .int], returnType := some .boolean }, accessFlags := 9, code := some k1c1 }
def k1c2 : Code := { maxStack := 6, maxLocals := 8, code := method_3_code, exceptionTable := #[], attributes := #[] }
def k1m2 : Method := { name := "check", desc := "(DJJJ)Z", sig := { parameters := [.double, .long, .long, .long], returnType := some .boolean }, accessFlags := 10, code := some k1c2 }
/-- com/example/libprox/libprox/KldPriorsPinLaw -/
def k1 : Class := { plain "com/example/libprox/libprox/KldPriorsPinLaw" (some 0) with
  accessFlags := 49
  interfaces := #[]
  cf := some (fileOf pool1 36 #[] #[{ accessFlags := 1, nameIndex := 5, descriptorIndex := 6, attributes := #[] }, { accessFlags := 9, nameIndex := 43, descriptorIndex := 44, attributes := #[] }, { accessFlags := 10, nameIndex := 39, descriptorIndex := 40, attributes := #[] }] 49 2 #[] #[])
  fields := #[]
  methods := #[k1m0, k1m1, k1m2]
  instanceTypes := #[]
  staticTypes := #[]
  resolved := Array.replicate 54 none
  statics := none }

def pool2 : Array CpInfo := pool [(8, .class_ 10), (1, u "java/lang/Iterable"), (24, .class_ 36), (0, u "java/lang/Object")] 25

/-- java/lang/Iterable -/
def k2 : Class := { plain "java/lang/Iterable" (some 0) with
  accessFlags := 1537
  interfaces := #[]
  cf := some (fileOf pool2 8 #[] #[] 1537 35 #[] #[])
  fields := #[]
  methods := #[]
  instanceTypes := #[]
  staticTypes := #[]
  resolved := Array.replicate 62 none
  statics := none }

def pool3 : Array CpInfo := pool [(10, .class_ 12), (1, u "java/util/Collection"), (47, .class_ 61), (0, u "java/lang/Object"), (0, .class_ 63), (0, u "java/lang/Iterable")] 51

/-- java/util/Collection -/
def k3 : Class := { plain "java/util/Collection" (some 0) with
  accessFlags := 1537
  interfaces := #[2]
  cf := some (fileOf pool3 10 #[] #[] 1537 60 #[62] #[])
  fields := #[]
  methods := #[]
  instanceTypes := #[]
  staticTypes := #[]
  resolved := Array.replicate 115 none
  statics := none }

def pool4 : Array CpInfo := pool [(1, .methodref 2 3), (0, .class_ 4), (0, .nameAndType 5 6), (0, u "java/lang/Object"), (0, u "<init>"), (0, u "()V"), (1, .class_ 10), (1, u "java/util/AbstractCollection"), (66, .class_ 78), (0, u "java/util/Collection")] 81

def k4c0 : Code := { maxStack := 1, maxLocals := 1, code := jdk_22_method_1_code, exceptionTable := #[], attributes := #[] }
def k4m0 : Method := { name := "<init>", desc := "()V", sig := { parameters := [], returnType := none }, accessFlags := 4, code := some k4c0 }
/-- java/util/AbstractCollection -/
def k4 : Class := { plain "java/util/AbstractCollection" (some 0) with
  accessFlags := 1057
  interfaces := #[3]
  cf := some (fileOf pool4 8 #[] #[{ accessFlags := 4, nameIndex := 5, descriptorIndex := 6, attributes := #[] }] 1057 2 #[77] #[])
  fields := #[]
  methods := #[k4m0]
  instanceTypes := #[]
  staticTypes := #[]
  resolved := Array.replicate 160 none
  statics := none }

def pool5 : Array CpInfo := pool [(8, .class_ 10), (1, u "java/util/SequencedCollection"), (15, .class_ 27), (0, u "java/lang/Object"), (0, .class_ 29), (0, u "java/util/Collection")] 27

/-- java/util/SequencedCollection -/
def k5 : Class := { plain "java/util/SequencedCollection" (some 0) with
  accessFlags := 1537
  interfaces := #[3]
  cf := some (fileOf pool5 8 #[] #[] 1537 26 #[28] #[])
  fields := #[]
  methods := #[]
  instanceTypes := #[]
  staticTypes := #[]
  resolved := Array.replicate 57 none
  statics := none }

def pool6 : Array CpInfo := pool [(8, .class_ 10), (1, u "java/util/List"), (49, u "add"), (3, u "(Ljava/lang/Object;)Z"), (10, u "get"), (0, u "(I)Ljava/lang/Object;"), (2, u "size"), (0, u "()I"), (22, .class_ 104), (0, u "java/lang/Object"), (15, .class_ 121), (0, u "java/util/SequencedCollection")] 129

def k6m0 : Method := { name := "size", desc := "()I", sig := { parameters := [], returnType := some .int }, accessFlags := 1025, code := none }
def k6m1 : Method := { name := "add", desc := "(Ljava/lang/Object;)Z", sig := { parameters := [(.object "java/lang/Object")], returnType := some .boolean }, accessFlags := 1025, code := none }
def k6m2 : Method := { name := "get", desc := "(I)Ljava/lang/Object;", sig := { parameters := [.int], returnType := some (.object "java/lang/Object") }, accessFlags := 1025, code := none }
/-- java/util/List -/
def k6 : Class := { plain "java/util/List" (some 0) with
  accessFlags := 1537
  interfaces := #[5]
  cf := some (fileOf pool6 8 #[] #[{ accessFlags := 1025, nameIndex := 79, descriptorIndex := 80, attributes := #[] }, { accessFlags := 1025, nameIndex := 60, descriptorIndex := 64, attributes := #[] }, { accessFlags := 1025, nameIndex := 75, descriptorIndex := 76, attributes := #[] }] 1537 103 #[120] #[])
  fields := #[]
  methods := #[k6m0, k6m1, k6m2]
  instanceTypes := #[]
  staticTypes := #[]
  resolved := Array.replicate 251 none
  statics := none }

def pool7 : Array CpInfo := pool [(1, .methodref 2 3), (0, .class_ 4), (0, .nameAndType 5 6), (0, u "java/util/AbstractCollection"), (0, u "<init>"), (0, u "()V"), (0, .fieldref 8 9), (0, .class_ 10), (0, .nameAndType 11 12), (0, u "java/util/AbstractList"), (0, u "modCount"), (0, u "I"), (64, .class_ 78), (0, u "java/util/AbstractList$Itr"), (3, .class_ 83), (0, u "java/util/AbstractList$ListItr"), (9, .class_ 94), (0, u "java/util/AbstractList$RandomAccessSubList"), (3, .class_ 99), (0, u "java/util/AbstractList$SubList"), (33, .class_ 134), (0, u "java/util/List"), (73, .class_ 209), (0, u "java/util/AbstractList$SubList$1"), (0, .class_ 211), (0, u "java/util/AbstractList$RandomAccessSpliterator")] 6

def k7c0 : Code := { maxStack := 2, maxLocals := 1, code := jdk_39_method_1_code, exceptionTable := #[], attributes := #[] }
def k7m0 : Method := { name := "<init>", desc := "()V", sig := { parameters := [], returnType := none }, accessFlags := 4, code := some k7c0 }
/-- java/util/AbstractList -/
def k7 : Class := { plain "java/util/AbstractList" (some 4) with
  accessFlags := 1057
  interfaces := #[6]
  cf := some (fileOf pool7 8 #[.nestMembers #[93, 98, 208, 210, 82, 77]] #[{ accessFlags := 4, nameIndex := 5, descriptorIndex := 6, attributes := #[] }] 1057 2 #[133] #[{ accessFlags := 132, nameIndex := 11, descriptorIndex := 12, attributes := #[] }])
  fields := #[{ name := "modCount", type := .int, accessFlags := 132, slot := 0, constantValue := 0 }]
  methods := #[k7m0]
  instanceTypes := #[.int]
  staticTypes := #[]
  resolved := Array.replicate 218 none
  statics := none }

def pool8 : Array CpInfo := pool [(1, .class_ 2), (0, u "java/util/RandomAccess"), (0, .class_ 4), (0, u "java/lang/Object")] 2

/-- java/util/RandomAccess -/
def k8 : Class := { plain "java/util/RandomAccess" (some 0) with
  accessFlags := 1537
  interfaces := #[]
  cf := some (fileOf pool8 1 #[] #[] 1537 3 #[] #[])
  fields := #[]
  methods := #[]
  instanceTypes := #[]
  staticTypes := #[]
  resolved := Array.replicate 7 none
  statics := none }

def pool9 : Array CpInfo := pool [(1, .class_ 2), (0, u "java/lang/Cloneable"), (0, .class_ 4), (0, u "java/lang/Object")] 2

/-- java/lang/Cloneable -/
def k9 : Class := { plain "java/lang/Cloneable" (some 0) with
  accessFlags := 1537
  interfaces := #[]
  cf := some (fileOf pool9 1 #[] #[] 1537 3 #[] #[])
  fields := #[]
  methods := #[]
  instanceTypes := #[]
  staticTypes := #[]
  resolved := Array.replicate 7 none
  statics := none }

def pool10 : Array CpInfo := pool [(1, .class_ 2), (0, u "java/io/Serializable"), (0, .class_ 4), (0, u "java/lang/Object")] 2

/-- java/io/Serializable -/
def k10 : Class := { plain "java/io/Serializable" (some 0) with
  accessFlags := 1537
  interfaces := #[]
  cf := some (fileOf pool10 1 #[] #[] 1537 3 #[] #[])
  fields := #[]
  methods := #[]
  instanceTypes := #[]
  staticTypes := #[]
  resolved := Array.replicate 7 none
  statics := none }

def pool11 : Array CpInfo := pool [(1, .methodref 2 3), (0, .class_ 4), (0, .nameAndType 5 6), (0, u "java/util/AbstractList"), (0, u "<init>"), (0, u "()V"), (0, .class_ 8), (0, u "java/lang/Object"), (0, .fieldref 10 11), (0, .class_ 12), (0, .nameAndType 13 14), (0, u "java/util/ArrayList"), (0, u "elementData"), (0, u "[Ljava/lang/Object;"), (2, u "EMPTY_ELEMENTDATA"), (21, .fieldref 10 40), (0, .nameAndType 41 14), (0, u "DEFAULTCAPACITY_EMPTY_ELEMENTDATA"), (5, u "()[Ljava/lang/Object;"), (0, .fieldref 10 49), (0, .nameAndType 50 51), (0, u "size"), (0, u "I"), (11, .fieldref 10 64), (0, .nameAndType 65 51), (0, u "modCount"), (3, .methodref 10 70), (0, .nameAndType 71 72), (0, u "grow"), (0, u "(I)[Ljava/lang/Object;"), (6, .methodref 80 81), (0, .class_ 82), (0, .nameAndType 83 84), (0, u "java/lang/Math"), (0, u "max"), (0, u "(II)I"), (11, u "(Ljava/lang/Object;)Z"), (21, .methodref 119 120), (0, .class_ 121), (0, .nameAndType 122 84), (0, u "java/util/Objects"), (0, u "checkIndex"), (0, .methodref 10 124), (0, .nameAndType 13 125), (0, u "(I)Ljava/lang/Object;"), (3, .methodref 10 130), (0, .nameAndType 71 47), (0, .methodref 10 132), (0, .nameAndType 133 134), (0, u "add"), (0, u "(Ljava/lang/Object;[Ljava/lang/Object;I)V"), (13, .class_ 149), (0, u "java/util/List"), (36, u "()I"), (75, .class_ 263), (0, u "java/util/ArrayList$ListItr"), (3, .class_ 268), (0, u "java/util/ArrayList$Itr"), (7, .class_ 277), (0, u "java/util/ArrayList$SubList"), (12, .class_ 291), (0, u "java/util/ArrayList$ArrayListSpliterator"), (37, .class_ 330), (0, u "java/util/RandomAccess"), (0, .class_ 332), (0, u "java/lang/Cloneable"), (0, .class_ 334), (0, u "java/io/Serializable"), (0, u "serialVersionUID"), (0, u "J"), (3, u "DEFAULT_CAPACITY"), (40, u "get"), (118, .class_ 501), (0, u "java/util/ArrayList$SubList$2"), (0, .class_ 503), (0, u "java/util/ArrayList$SubList$1")] 5

def k11c0 : Code := { maxStack := 2, maxLocals := 1, code := jdk_38_method_2_code, exceptionTable := #[], attributes := #[] }
def k11m0 : Method := { name := "<init>", desc := "()V", sig := { parameters := [], returnType := none }, accessFlags := 1, code := some k11c0 }
def k11c1 : Code := { maxStack := 4, maxLocals := 4, code := jdk_38_method_6_code, exceptionTable := #[], attributes := #[] }
def k11m1 : Method := { name := "grow", desc := "(I)[Ljava/lang/Object;", sig := { parameters := [.int], returnType := some (.array (.object "java/lang/Object")) }, accessFlags := 2, code := some k11c1 }
def k11c2 : Code := { maxStack := 3, maxLocals := 1, code := jdk_38_method_7_code, exceptionTable := #[], attributes := #[] }
def k11m2 : Method := { name := "grow", desc := "()[Ljava/lang/Object;", sig := { parameters := [], returnType := some (.array (.object "java/lang/Object")) }, accessFlags := 2, code := some k11c2 }
def k11c3 : Code := { maxStack := 1, maxLocals := 1, code := jdk_38_method_8_code, exceptionTable := #[], attributes := #[] }
def k11m3 : Method := { name := "size", desc := "()I", sig := { parameters := [], returnType := some .int }, accessFlags := 1, code := some k11c3 }
def k11c4 : Code := { maxStack := 2, maxLocals := 2, code := jdk_38_method_18_code, exceptionTable := #[], attributes := #[] }
def k11m4 : Method := { name := "elementData", desc := "(I)Ljava/lang/Object;", sig := { parameters := [.int], returnType := some (.object "java/lang/Object") }, accessFlags := 0, code := some k11c4 }
def k11c5 : Code := { maxStack := 2, maxLocals := 2, code := jdk_38_method_20_code, exceptionTable := #[], attributes := #[] }
def k11m5 : Method := { name := "get", desc := "(I)Ljava/lang/Object;", sig := { parameters := [.int], returnType := some (.object "java/lang/Object") }, accessFlags := 1, code := some k11c5 }
def k11c6 : Code := { maxStack := 3, maxLocals := 4, code := jdk_38_method_24_code, exceptionTable := #[], attributes := #[] }
def k11m6 : Method := { name := "add", desc := "(Ljava/lang/Object;[Ljava/lang/Object;I)V", sig := { parameters := [(.object "java/lang/Object"), (.array (.object "java/lang/Object")), .int], returnType := none }, accessFlags := 2, code := some k11c6 }
def k11c7 : Code := { maxStack := 4, maxLocals := 2, code := jdk_38_method_25_code, exceptionTable := #[], attributes := #[] }
def k11m7 : Method := { name := "add", desc := "(Ljava/lang/Object;)Z", sig := { parameters := [(.object "java/lang/Object")], returnType := some .boolean }, accessFlags := 1, code := some k11c7 }
/-- java/util/ArrayList -/
def k11 : Class := { plain "java/util/ArrayList" (some 7) with
  accessFlags := 33
  interfaces := #[6, 8, 9, 10]
  cf := some (fileOf pool11 10 #[.nestMembers #[290, 276, 500, 502, 262, 267]] #[{ accessFlags := 1, nameIndex := 5, descriptorIndex := 6, attributes := #[] }, { accessFlags := 2, nameIndex := 71, descriptorIndex := 72, attributes := #[] }, { accessFlags := 2, nameIndex := 71, descriptorIndex := 47, attributes := #[] }, { accessFlags := 1, nameIndex := 50, descriptorIndex := 186, attributes := #[] }, { accessFlags := 0, nameIndex := 13, descriptorIndex := 125, attributes := #[] }, { accessFlags := 1, nameIndex := 381, descriptorIndex := 125, attributes := #[] }, { accessFlags := 2, nameIndex := 133, descriptorIndex := 134, attributes := #[] }, { accessFlags := 1, nameIndex := 133, descriptorIndex := 96, attributes := #[] }] 33 2 #[148, 329, 331, 333] #[{ accessFlags := 26, nameIndex := 335, descriptorIndex := 336, attributes := #[] }, { accessFlags := 26, nameIndex := 340, descriptorIndex := 51, attributes := #[] }, { accessFlags := 26, nameIndex := 17, descriptorIndex := 14, attributes := #[] }, { accessFlags := 26, nameIndex := 41, descriptorIndex := 14, attributes := #[] }, { accessFlags := 128, nameIndex := 13, descriptorIndex := 14, attributes := #[] }, { accessFlags := 2, nameIndex := 50, descriptorIndex := 51, attributes := #[] }])
  fields := #[{ name := "serialVersionUID", type := .long, accessFlags := 26, slot := 0, constantValue := 0 }, { name := "DEFAULT_CAPACITY", type := .int, accessFlags := 26, slot := 1, constantValue := 0 }, { name := "EMPTY_ELEMENTDATA", type := (.array (.object "java/lang/Object")), accessFlags := 26, slot := 2, constantValue := 0 }, { name := "DEFAULTCAPACITY_EMPTY_ELEMENTDATA", type := (.array (.object "java/lang/Object")), accessFlags := 26, slot := 3, constantValue := 0 }, { name := "elementData", type := (.array (.object "java/lang/Object")), accessFlags := 128, slot := 1, constantValue := 0 }, { name := "size", type := .int, accessFlags := 2, slot := 2, constantValue := 0 }]
  methods := #[k11m0, k11m1, k11m2, k11m3, k11m4, k11m5, k11m6, k11m7]
  instanceTypes := #[.int, (.array (.object "java/lang/Object")), .int]
  staticTypes := #[.long, .int, (.array (.object "java/lang/Object")), (.array (.object "java/lang/Object"))]
  resolved := Array.replicate 509 none
  statics := some 0 }

def pool12 : Array CpInfo := pool [(1, .class_ 2), (0, u "com/example/libprox/libprox/RankingModel"), (0, .class_ 4), (0, u "java/lang/Object"), (15, .class_ 21), (0, u "com/example/libprox/libprox/RankingModel$DocumentMatch"), (0, .class_ 23), (0, u "com/example/libprox/libprox/RankingModel$DocumentScorer"), (0, .class_ 25), (0, u "com/example/libprox/libprox/RankingModel$DocumentScorer$ScoreVisitor"), (0, .class_ 27), (0, u "com/example/libprox/libprox/RankingModel$Documents"), (0, .class_ 29), (0, u "com/example/libprox/libprox/RankingModel$Documents$Visitor"), (0, .class_ 31), (0, u "com/example/libprox/libprox/RankingModel$QueryTerm")] 7

/-- com/example/libprox/libprox/RankingModel -/
def k12 : Class := { plain "com/example/libprox/libprox/RankingModel" (some 0) with
  accessFlags := 1536
  interfaces := #[]
  cf := some (fileOf pool12 1 #[.nestMembers #[20, 22, 24, 26, 28, 30]] #[] 1536 3 #[] #[])
  fields := #[]
  methods := #[]
  instanceTypes := #[]
  staticTypes := #[]
  resolved := Array.replicate 39 none
  statics := none }

def pool13 : Array CpInfo := pool [(2, .class_ 4), (1, u "java/lang/Object"), (3, .class_ 10), (1, u "com/example/libprox/libprox/Kld"), (0, u "mu"), (0, u "D"), (0, .class_ 14), (0, u "com/example/libprox/libprox/Kld$Scorer"), (3, .interfaceMethodref 19 20), (0, .class_ 21), (0, .nameAndType 22 23), (0, u "java/util/List"), (0, u "size"), (0, u "()I"), (0, .interfaceMethodref 19 25), (0, .nameAndType 26 27), (0, u "get"), (0, u "(I)Ljava/lang/Object;"), (0, .class_ 29), (0, u "com/example/libprox/libprox/RankingModel$QueryTerm"), (0, .methodref 28 31), (0, .nameAndType 32 33), (0, u "collectionFrequency"), (0, u "()J"), (4, .class_ 39), (0, u "com/example/libprox/libprox/RankingModel"), (5, u "priors"), (0, u "(DLjava/util/List;J)[D")] 21

def k13c0 : Code := { maxStack := 6, maxLocals := 7, code := prog_18_method_3_code, exceptionTable := #[], attributes := #[] }
def k13m0 : Method := { name := "priors", desc := "(DLjava/util/List;J)[D", sig := { parameters := [.double, (.object "java/util/List"), .long], returnType := some (.array .double) }, accessFlags := 8, code := some k13c0 }
/-- com/example/libprox/libprox/Kld -/
def k13 : Class := { plain "com/example/libprox/libprox/Kld" (some 0) with
  accessFlags := 32
  interfaces := #[12]
  cf := some (fileOf pool13 8 #[.nestMembers #[13]] #[{ accessFlags := 8, nameIndex := 45, descriptorIndex := 46, attributes := #[] }] 32 2 #[38] #[{ accessFlags := 18, nameIndex := 11, descriptorIndex := 12, attributes := #[] }])
  fields := #[{ name := "mu", type := .double, accessFlags := 18, slot := 0, constantValue := 0 }]
  methods := #[k13m0]
  instanceTypes := #[.double]
  staticTypes := #[]
  resolved := Array.replicate 68 none
  statics := none }

def pool14 : Array CpInfo := pool [(1, .methodref 2 3), (0, .class_ 4), (0, .nameAndType 5 6), (0, u "java/lang/Object"), (0, u "<init>"), (0, u "()V"), (0, .class_ 8), (0, u "java/lang/Record")] 13

def k14c0 : Code := { maxStack := 1, maxLocals := 1, code := jdk_30_method_1_code, exceptionTable := #[], attributes := #[] }
def k14m0 : Method := { name := "<init>", desc := "()V", sig := { parameters := [], returnType := none }, accessFlags := 4, code := some k14c0 }
/-- java/lang/Record -/
def k14 : Class := { plain "java/lang/Record" (some 0) with
  accessFlags := 1057
  interfaces := #[]
  cf := some (fileOf pool14 7 #[] #[{ accessFlags := 4, nameIndex := 5, descriptorIndex := 6, attributes := #[] }] 1057 2 #[] #[])
  fields := #[]
  methods := #[k14m0]
  instanceTypes := #[]
  staticTypes := #[]
  resolved := Array.replicate 22 none
  statics := none }

def pool15 : Array CpInfo := pool [(1, .methodref 2 3), (0, .class_ 4), (0, .nameAndType 5 6), (0, u "java/lang/Record"), (0, u "<init>"), (0, u "()V"), (0, .fieldref 8 9), (0, .class_ 10), (0, .nameAndType 11 12), (0, u "com/example/libprox/libprox/RankingModel$QueryTerm"), (0, u "stem"), (0, u "Ljava/lang/String;"), (0, .fieldref 8 14), (0, .nameAndType 15 16), (0, u "collectionFrequency"), (0, u "J"), (0, .fieldref 8 18), (0, .nameAndType 19 20), (0, u "stopWord"), (0, u "Z"), (12, u "(Ljava/lang/String;JZ)V"), (6, u "()J"), (4, .class_ 46), (0, u "com/example/libprox/libprox/RankingModel")] 21

def k15c0 : Code := { maxStack := 3, maxLocals := 5, code := prog_47_method_1_code, exceptionTable := #[], attributes := #[] }
def k15m0 : Method := { name := "<init>", desc := "(Ljava/lang/String;JZ)V", sig := { parameters := [(.object "java/lang/String"), .long, .boolean], returnType := none }, accessFlags := 1, code := some k15c0 }
def k15c1 : Code := { maxStack := 2, maxLocals := 1, code := prog_47_method_6_code, exceptionTable := #[], attributes := #[] }
def k15m1 : Method := { name := "collectionFrequency", desc := "()J", sig := { parameters := [], returnType := some .long }, accessFlags := 1, code := some k15c1 }
/-- com/example/libprox/libprox/RankingModel$QueryTerm -/
def k15 : Class := { plain "com/example/libprox/libprox/RankingModel$QueryTerm" (some 14) with
  accessFlags := 49
  interfaces := #[]
  cf := some (fileOf pool15 8 #[.nestHost 45] #[{ accessFlags := 1, nameIndex := 5, descriptorIndex := 33, attributes := #[] }, { accessFlags := 1, nameIndex := 15, descriptorIndex := 40, attributes := #[] }] 49 2 #[] #[{ accessFlags := 18, nameIndex := 11, descriptorIndex := 12, attributes := #[] }, { accessFlags := 18, nameIndex := 15, descriptorIndex := 16, attributes := #[] }, { accessFlags := 18, nameIndex := 19, descriptorIndex := 20, attributes := #[] }])
  fields := #[{ name := "stem", type := (.object "java/lang/String"), accessFlags := 18, slot := 0, constantValue := 0 }, { name := "collectionFrequency", type := .long, accessFlags := 18, slot := 1, constantValue := 0 }, { name := "stopWord", type := .boolean, accessFlags := 18, slot := 2, constantValue := 0 }]
  methods := #[k15m0, k15m1]
  instanceTypes := #[(.object "java/lang/String"), .long, .boolean]
  staticTypes := #[]
  resolved := Array.replicate 68 none
  statics := none }

def pool16 : Array CpInfo := pool [(1, .class_ 2), (0, u "java/lang/Comparable"), (0, .class_ 4), (0, u "java/lang/Object")] 7

/-- java/lang/Comparable -/
def k16 : Class := { plain "java/lang/Comparable" (some 0) with
  accessFlags := 1537
  interfaces := #[]
  cf := some (fileOf pool16 1 #[] #[] 1537 3 #[] #[])
  fields := #[]
  methods := #[]
  instanceTypes := #[]
  staticTypes := #[]
  resolved := Array.replicate 12 none
  statics := none }

def pool17 : Array CpInfo := pool [(2, .class_ 4), (1, u "java/lang/CharSequence"), (42, .class_ 48), (0, u "java/lang/CharSequence$1CodePointIterator"), (10, .class_ 60), (0, u "java/lang/CharSequence$1CharIterator"), (5, .class_ 67), (0, u "java/lang/Object")] 63

/-- java/lang/CharSequence -/
def k17 : Class := { plain "java/lang/CharSequence" (some 0) with
  accessFlags := 1537
  interfaces := #[]
  cf := some (fileOf pool17 2 #[.nestMembers #[47, 59]] #[] 1537 66 #[] #[])
  fields := #[]
  methods := #[]
  instanceTypes := #[]
  staticTypes := #[]
  resolved := Array.replicate 131 none
  statics := none }

def pool18 : Array CpInfo := pool [(1, .class_ 2), (0, u "java/lang/constant/Constable"), (0, .class_ 4), (0, u "java/lang/Object")] 6

/-- java/lang/constant/Constable -/
def k18 : Class := { plain "java/lang/constant/Constable" (some 0) with
  accessFlags := 1537
  interfaces := #[]
  cf := some (fileOf pool18 1 #[] #[] 1537 3 #[] #[])
  fields := #[]
  methods := #[]
  instanceTypes := #[]
  staticTypes := #[]
  resolved := Array.replicate 11 none
  statics := none }

def pool19 : Array CpInfo := pool [(1, .class_ 2), (0, u "java/lang/constant/ConstantDesc"), (0, .class_ 4), (0, u "java/lang/Object")] 32

/-- java/lang/constant/ConstantDesc -/
def k19 : Class := { plain "java/lang/constant/ConstantDesc" (some 0) with
  accessFlags := 1537
  interfaces := #[]
  cf := some (fileOf pool19 1 #[] #[] 1537 3 #[] #[])
  fields := #[]
  methods := #[]
  instanceTypes := #[]
  staticTypes := #[]
  resolved := Array.replicate 37 none
  statics := none }

def pool20 : Array CpInfo := pool [(2, .class_ 4), (1, u "java/lang/Object"), (0, u "<init>"), (0, u "()V"), (3, .class_ 12), (1, u "java/lang/String"), (0, u "value"), (0, u "[B"), (2, u "coder"), (0, u "B"), (2, u "hash"), (0, u "I"), (2, u "hashIsZero"), (0, u "Z"), (13, u "COMPACT_STRINGS"), (534, .class_ 576), (0, u "java/lang/CharSequence"), (22, u "CASE_INSENSITIVE_ORDER"), (0, u "Ljava/util/Comparator;"), (500, u "serialPersistentFields"), (0, u "[Ljava/io/ObjectStreamField;"), (0, .class_ 1104), (0, u "java/lang/String$CaseInsensitiveComparator"), (1, .class_ 1107), (0, u "java/io/Serializable"), (0, .class_ 1109), (0, u "java/lang/Comparable"), (0, .class_ 1111), (0, u "java/lang/constant/Constable"), (0, .class_ 1113), (0, u "java/lang/constant/ConstantDesc"), (2, u "serialVersionUID"), (0, u "J"), (3, u "REPL"), (0, u "C"), (2, u "LATIN1"), (1, u "UTF16")] 323

def k20m0 : Method := { name := "<init>", desc := "()V", sig := { parameters := [], returnType := none }, accessFlags := 1, code := none }
/-- java/lang/String -/
def k20 : Class := { plain "java/lang/String" (some 0) with
  accessFlags := 49
  interfaces := #[10, 16, 17, 18, 19]
  cf := some (fileOf pool20 10 #[.nestMembers #[1103]] #[{ accessFlags := 1, nameIndex := 5, descriptorIndex := 6, attributes := #[] }] 49 2 #[1106, 1108, 575, 1110, 1112] #[{ accessFlags := 18, nameIndex := 13, descriptorIndex := 14, attributes := #[] }, { accessFlags := 18, nameIndex := 17, descriptorIndex := 18, attributes := #[] }, { accessFlags := 2, nameIndex := 21, descriptorIndex := 22, attributes := #[] }, { accessFlags := 2, nameIndex := 25, descriptorIndex := 26, attributes := #[] }, { accessFlags := 26, nameIndex := 1116, descriptorIndex := 1117, attributes := #[] }, { accessFlags := 24, nameIndex := 40, descriptorIndex := 26, attributes := #[] }, { accessFlags := 26, nameIndex := 1101, descriptorIndex := 1102, attributes := #[] }, { accessFlags := 26, nameIndex := 1121, descriptorIndex := 1122, attributes := #[] }, { accessFlags := 25, nameIndex := 599, descriptorIndex := 600, attributes := #[] }, { accessFlags := 24, nameIndex := 1125, descriptorIndex := 18, attributes := #[] }, { accessFlags := 24, nameIndex := 1127, descriptorIndex := 18, attributes := #[] }])
  fields := #[{ name := "value", type := (.array .byte), accessFlags := 18, slot := 0, constantValue := 0 }, { name := "coder", type := .byte, accessFlags := 18, slot := 1, constantValue := 0 }, { name := "hash", type := .int, accessFlags := 2, slot := 2, constantValue := 0 }, { name := "hashIsZero", type := .boolean, accessFlags := 2, slot := 3, constantValue := 0 }, { name := "serialVersionUID", type := .long, accessFlags := 26, slot := 0, constantValue := 0 }, { name := "COMPACT_STRINGS", type := .boolean, accessFlags := 24, slot := 1, constantValue := 0 }, { name := "serialPersistentFields", type := (.array (.object "java/io/ObjectStreamField")), accessFlags := 26, slot := 2, constantValue := 0 }, { name := "REPL", type := .char, accessFlags := 26, slot := 3, constantValue := 0 }, { name := "CASE_INSENSITIVE_ORDER", type := (.object "java/util/Comparator"), accessFlags := 25, slot := 4, constantValue := 0 }, { name := "LATIN1", type := .byte, accessFlags := 24, slot := 5, constantValue := 0 }, { name := "UTF16", type := .byte, accessFlags := 24, slot := 6, constantValue := 0 }]
  methods := #[k20m0]
  instanceTypes := #[(.array .byte), .byte, .int, .boolean]
  staticTypes := #[.long, .boolean, (.array (.object "java/io/ObjectStreamField")), .char, (.object "java/util/Comparator"), .byte, .byte]
  resolved := Array.replicate 1451 none
  statics := none }

def pool21 : Array CpInfo := pool [(1, .class_ 2), (0, u "java/lang/Math"), (1, .class_ 6), (1, u "java/lang/Object"), (0, u "<init>"), (0, u "()V"), (89, .class_ 100), (1, u "java/lang/Math$RandomNumberGeneratorHolder"), (71, u "negativeZeroFloatBits"), (0, u "J"), (2, u "negativeZeroDoubleBits"), (21, u "max"), (46, u "$assertionsDisabled"), (0, u "Z"), (88, u "(II)I"), (2, u "twoToTheDoubleScaleDown"), (0, u "D"), (4, u "twoToTheDoubleScaleUp"), (9, u "E"), (3, u "PI"), (2, u "TAU"), (2, u "DEGREES_TO_RADIANS"), (0, u "RADIANS_TO_DEGREES")] 94

def k21m0 : Method := { name := "<init>", desc := "()V", sig := { parameters := [], returnType := none }, accessFlags := 2, code := none }
def k21c1 : Code := { maxStack := 2, maxLocals := 2, code := jdk_29_method_65_code, exceptionTable := #[], attributes := #[] }
def k21m1 : Method := { name := "max", desc := "(II)I", sig := { parameters := [.int, .int], returnType := some .int }, accessFlags := 9, code := some k21c1 }
/-- java/lang/Math -/
def k21 : Class := { plain "java/lang/Math" (some 0) with
  accessFlags := 49
  interfaces := #[]
  cf := some (fileOf pool21 1 #[.nestMembers #[98]] #[{ accessFlags := 2, nameIndex := 7, descriptorIndex := 8, attributes := #[] }, { accessFlags := 9, nameIndex := 198, descriptorIndex := 335, attributes := #[] }] 49 4 #[] #[{ accessFlags := 25, nameIndex := 354, descriptorIndex := 339, attributes := #[] }, { accessFlags := 25, nameIndex := 358, descriptorIndex := 339, attributes := #[] }, { accessFlags := 25, nameIndex := 361, descriptorIndex := 339, attributes := #[] }, { accessFlags := 26, nameIndex := 364, descriptorIndex := 339, attributes := #[] }, { accessFlags := 26, nameIndex := 365, descriptorIndex := 339, attributes := #[] }, { accessFlags := 26, nameIndex := 172, descriptorIndex := 173, attributes := #[] }, { accessFlags := 26, nameIndex := 176, descriptorIndex := 173, attributes := #[] }, { accessFlags := 8, nameIndex := 344, descriptorIndex := 339, attributes := #[] }, { accessFlags := 8, nameIndex := 338, descriptorIndex := 339, attributes := #[] }, { accessFlags := 4120, nameIndex := 245, descriptorIndex := 246, attributes := #[] }])
  fields := #[{ name := "E", type := .double, accessFlags := 25, slot := 0, constantValue := 0 }, { name := "PI", type := .double, accessFlags := 25, slot := 1, constantValue := 0 }, { name := "TAU", type := .double, accessFlags := 25, slot := 2, constantValue := 0 }, { name := "DEGREES_TO_RADIANS", type := .double, accessFlags := 26, slot := 3, constantValue := 0 }, { name := "RADIANS_TO_DEGREES", type := .double, accessFlags := 26, slot := 4, constantValue := 0 }, { name := "negativeZeroFloatBits", type := .long, accessFlags := 26, slot := 5, constantValue := 0 }, { name := "negativeZeroDoubleBits", type := .long, accessFlags := 26, slot := 6, constantValue := 0 }, { name := "twoToTheDoubleScaleUp", type := .double, accessFlags := 8, slot := 7, constantValue := 0 }, { name := "twoToTheDoubleScaleDown", type := .double, accessFlags := 8, slot := 8, constantValue := 0 }, { name := "$assertionsDisabled", type := .boolean, accessFlags := 4120, slot := 9, constantValue := 0 }]
  methods := #[k21m0, k21m1]
  instanceTypes := #[]
  staticTypes := #[.double, .double, .double, .double, .double, .long, .long, .double, .double, .boolean]
  resolved := Array.replicate 460 none
  statics := none }

def pool22 : Array CpInfo := pool [(2, .class_ 4), (1, u "java/lang/Object"), (0, u "<init>"), (0, u "()V"), (35, .class_ 44), (1, u "java/util/Objects"), (60, .methodref 106 107), (0, .class_ 108), (0, .nameAndType 109 110), (0, u "jdk/internal/util/Preconditions"), (0, u "checkIndex"), (0, u "(IILjava/util/function/BiFunction;)I"), (60, u "(II)I")] 12

def k22m0 : Method := { name := "<init>", desc := "()V", sig := { parameters := [], returnType := none }, accessFlags := 2, code := none }
def k22c1 : Code := { maxStack := 3, maxLocals := 2, code := jdk_31_method_17_code, exceptionTable := #[], attributes := #[] }
def k22m1 : Method := { name := "checkIndex", desc := "(II)I", sig := { parameters := [.int, .int], returnType := some .int }, accessFlags := 9, code := some k22c1 }
/-- java/util/Objects -/
def k22 : Class := { plain "java/util/Objects" (some 0) with
  accessFlags := 49
  interfaces := #[]
  cf := some (fileOf pool22 42 #[] #[{ accessFlags := 2, nameIndex := 5, descriptorIndex := 6, attributes := #[] }, { accessFlags := 9, nameIndex := 109, descriptorIndex := 171, attributes := #[] }] 49 2 #[] #[])
  fields := #[]
  methods := #[k22m0, k22m1]
  instanceTypes := #[]
  staticTypes := #[]
  resolved := Array.replicate 184 none
  statics := none }

def pool23 : Array CpInfo := pool [(2, .class_ 4), (1, u "java/lang/Object"), (0, u "<init>"), (0, u "()V"), (17, .class_ 26), (1, u "jdk/internal/util/Preconditions"), (6, u "checkIndex"), (21, .class_ 56), (0, u "jdk/internal/util/Preconditions$4"), (57, .class_ 115), (0, u "jdk/internal/util/Preconditions$1"), (7, u "SIOOBE_FORMATTER"), (0, u "Ljava/util/function/BiFunction;"), (0, .class_ 126), (0, u "jdk/internal/util/Preconditions$2"), (3, u "AIOOBE_FORMATTER"), (0, .class_ 132), (0, u "jdk/internal/util/Preconditions$3"), (3, u "IOOBE_FORMATTER"), (41, u "(IILjava/util/function/BiFunction;)I")] 15

def k23m0 : Method := { name := "<init>", desc := "()V", sig := { parameters := [], returnType := none }, accessFlags := 1, code := none }
def k23c1 : Code := { maxStack := 3, maxLocals := 3, code := jdk_41_method_11_code, exceptionTable := #[], attributes := #[] }
def k23m1 : Method := { name := "checkIndex", desc := "(IILjava/util/function/BiFunction;)I", sig := { parameters := [.int, .int, (.object "java/util/function/BiFunction")], returnType := some .int }, accessFlags := 9, code := some k23c1 }
/-- jdk/internal/util/Preconditions -/
def k23 : Class := { plain "jdk/internal/util/Preconditions" (some 0) with
  accessFlags := 33
  interfaces := #[]
  cf := some (fileOf pool23 24 #[.nestMembers #[55, 131, 125, 114]] #[{ accessFlags := 1, nameIndex := 5, descriptorIndex := 6, attributes := #[] }, { accessFlags := 9, nameIndex := 33, descriptorIndex := 178, attributes := #[] }] 33 2 #[] #[{ accessFlags := 25, nameIndex := 123, descriptorIndex := 124, attributes := #[] }, { accessFlags := 25, nameIndex := 130, descriptorIndex := 124, attributes := #[] }, { accessFlags := 25, nameIndex := 136, descriptorIndex := 124, attributes := #[] }])
  fields := #[{ name := "SIOOBE_FORMATTER", type := (.object "java/util/function/BiFunction"), accessFlags := 25, slot := 0, constantValue := 0 }, { name := "AIOOBE_FORMATTER", type := (.object "java/util/function/BiFunction"), accessFlags := 25, slot := 1, constantValue := 0 }, { name := "IOOBE_FORMATTER", type := (.object "java/util/function/BiFunction"), accessFlags := 25, slot := 2, constantValue := 0 }]
  methods := #[k23m0, k23m1]
  instanceTypes := #[]
  staticTypes := #[(.object "java/util/function/BiFunction"), (.object "java/util/function/BiFunction"), (.object "java/util/function/BiFunction")]
  resolved := Array.replicate 194 none
  statics := none }

/-- the primitive byte -/
def k24 : Class := { plain "byte" none with kind := .primitive 'B', accessFlags := 0x411 }
/-- [B -/
def k25 : Class := { plain "[B" (some 0) with kind := .array 24 .byte, interfaces := #[9, 10], accessFlags := 1041 }

/-- the primitive int -/
def k26 : Class := { plain "int" none with kind := .primitive 'I', accessFlags := 0x411 }
/-- [I -/
def k27 : Class := { plain "[I" (some 0) with kind := .array 26 .int, interfaces := #[9, 10], accessFlags := 1041 }

/-- [Ljava/lang/Object; -/
def k28 : Class := { plain "[Ljava/lang/Object;" (some 0) with kind := .array 0 (.object "java/lang/Object"), interfaces := #[9, 10], accessFlags := 1041 }

/-- the primitive double -/
def k29 : Class := { plain "double" none with kind := .primitive 'D', accessFlags := 0x411 }
/-- [D -/
def k30 : Class := { plain "[D" (some 0) with kind := .array 29 .double, interfaces := #[9, 10], accessFlags := 1041 }
def heap : Heap := #[{ cls := 11, slots := #[.long 0, .int 0, .ref 1, .ref 2], vm := .statics 11 },
  { cls := 28, slots := #[], vm := .none },
  { cls := 28, slots := #[], vm := .none }]
def classes : Array Class := #[k0, k1, k2, k3, k4, k5, k6, k7, k8, k9, k10, k11, k12, k13, k14, k15, k16, k17, k18, k19, k20, k21, k22, k23, k24, k25, k26, k27, k28, k29, k30]
def interned : List (Array UInt16 × Addr) := []
def slotsUsed : Nat := 4
def theMethod : MethodId := ⟨1, 1⟩
def args0 : Array Value := #[.int 5, .int 3, .long 7, .long 8, .long 9, .int 4]
def aboutOver (below : List Frame) : State where
  vm := { classes := classes, interned := interned.toArray }
  heap := heap
  slotsUsed := slotsUsed
  threads := #[{ frames := .invoking theMethod args0 :: below }]
def below0 : List Frame := [.native { method := ⟨0, 0⟩, args := #[] }]
def about1 : State := aboutOver below0
def p0 : Program := .bare "" "" ""
def e0 : Env := launch0.env 0 0 0
theorem w_frames : about1.frames = Frame.invoking theMethod args0 :: below0 := rfl
set_option maxRecDepth 65536 in
theorem w_args : argsFit about1.vm theMethod args0 = true := by decide +kernel
set_option maxRecDepth 65536 in
theorem w_heap : heapFits about1 = true := by decide +kernel
set_option maxRecDepth 65536 in
theorem w_runnable : about1.curStatus? = some .runnable := by decide +kernel
set_option maxRecDepth 65536 in
theorem w_alone : about1.alone = true := by decide +kernel
set_option maxRecDepth 65536 in
theorem w_named : about1.methodNamed? x = some theMethod := by decide +kernel
set_option maxRecDepth 65536 in
theorem w_hears : about1.hears theMethod below0 = true := by decide +kernel
set_option maxRecDepth 65536 in
theorem w_ripe : about1.ripe theMethod args0 below0 = true := by decide +kernel
theorem w_running : about1.status = .running := rfl
set_option maxRecDepth 65536 in
theorem w_room : about1.hasRoom e0.platform room_1 = true :=
  launch0.hasRoom_least _ room_1 (by decide +kernel) (by decide +kernel) (by decide +kernel) (by decide +kernel) (by decide +kernel) (by decide +kernel)
theorem allAtoms_all (ts : List Jvm.Cond) (a : Array Jvm.Value) (st : Jvm.State) : (allAtoms ts).before a st = ts.all (fun c => c.before a st) := by
  induction ts with
  | nil => rfl
  | cons c t ih =>
    show (Jvm.Cond.and c (allAtoms t)).before a st = _
    rw [Jvm.Cond.before_and, ih, List.all_cons]
def words1 : List Jvm.Cond := Jvm.Cond.code x code maxLocals ret :: tables_1
/-- a 'code' word, met by the world's own term for the bytes: nothing is compared byte by byte -/
theorem code_word {y : MethodName} {bytes : ByteArray} {mx : Nat} {rt : Option FieldType} {a : Array Value} {s : State} {m : MethodId} {meth : Method} {c : Code} (h1 : s.methodNamed? y = some m) (h2 : s.vm.method? m = some meth) (h3 : meth.code = some c) (h4 : c.code = bytes)
    (h5 : (c.maxLocals == mx && c.exceptionTable.isEmpty && decide (c.maxStack ≤ mostOperands) && decide (meth.sig.returnType = rt) && !meth.locks && decide (parseMethodDescriptor y.desc = some meth.sig)) = true) : (Jvm.Cond.code y bytes mx rt).before a s = true := by
  simp only [Bool.and_eq_true, beq_iff_eq, Bool.not_eq_true', decide_eq_true_eq] at h5
  obtain ⟨⟨⟨⟨⟨g1, g2⟩, g3⟩, g4⟩, g5⟩, g6⟩ := h5
  simp [Cond.before, Cond.holds, Cond.value, h1, h2, h3, h4, g1, g2, g3, g4, g5, g6]
def isCode : Jvm.Cond → Bool
  | .code _ _ _ _ => true
  | _ => false
theorem all_split {L : List Jvm.Cond} {P : Jvm.Cond → Bool} (h1 : L.all (fun c => isCode c || P c) = true) (h2 : ∀ c ∈ L.filter isCode, P c = true) : L.all P = true := by
  refine List.all_eq_true.mpr fun c hc => ?_
  have h := List.all_eq_true.mp h1 c hc
  rcases Bool.eq_false_or_eq_true (isCode c) with hi | hi
  · exact h2 c (List.mem_filter.mpr ⟨hc, hi⟩)
  · simpa [hi] using h
set_option maxRecDepth 65536 in
theorem w_c0 : (Jvm.Cond.code x code maxLocals ret).before args0 about1 = true := code_word (m := ⟨1, 1⟩) (meth := k1m1) (c := k1c1) (by decide +kernel) rfl rfl rfl (by decide +kernel)
set_option maxRecDepth 65536 in
theorem w_c1 : (Jvm.Cond.code ({ cls := "java/util/ArrayList", name := "<init>", desc := "()V" } : Jvm.MethodName) jdk_38_method_2_code (1 : Nat) (Option.none : Option Jvm.ClassFile.FieldType)).before args0 about1 = true := code_word (m := ⟨11, 0⟩) (meth := k11m0) (c := k11c0) (by decide +kernel) rfl rfl rfl (by decide +kernel)
set_option maxRecDepth 65536 in
theorem w_c2 : (Jvm.Cond.code ({ cls := "java/util/AbstractList", name := "<init>", desc := "()V" } : Jvm.MethodName) jdk_39_method_1_code (1 : Nat) (Option.none : Option Jvm.ClassFile.FieldType)).before args0 about1 = true := code_word (m := ⟨7, 0⟩) (meth := k7m0) (c := k7c0) (by decide +kernel) rfl rfl rfl (by decide +kernel)
set_option maxRecDepth 65536 in
theorem w_c3 : (Jvm.Cond.code ({ cls := "java/util/AbstractCollection", name := "<init>", desc := "()V" } : Jvm.MethodName) jdk_22_method_1_code (1 : Nat) (Option.none : Option Jvm.ClassFile.FieldType)).before args0 about1 = true := code_word (m := ⟨4, 0⟩) (meth := k4m0) (c := k4c0) (by decide +kernel) rfl rfl rfl (by decide +kernel)
set_option maxRecDepth 65536 in
theorem w_c4 : (Jvm.Cond.code ({ cls := "java/lang/Object", name := "<init>", desc := "()V" } : Jvm.MethodName) object_method_1_code (1 : Nat) (Option.none : Option Jvm.ClassFile.FieldType)).before args0 about1 = true := code_word (m := ⟨0, 0⟩) (meth := k0m0) (c := k0c0) (by decide +kernel) rfl rfl rfl (by decide +kernel)
set_option maxRecDepth 65536 in
theorem w_c5 : (Jvm.Cond.code ({ cls := "com/example/libprox/libprox/Kld", name := "priors", desc := "(DLjava/util/List;J)[D" } : Jvm.MethodName) prog_18_method_3_code (7 : Nat) (Option.some (Jvm.ClassFile.FieldType.array Jvm.ClassFile.FieldType.double))).before args0 about1 = true := code_word (m := ⟨13, 0⟩) (meth := k13m0) (c := k13c0) (by decide +kernel) rfl rfl rfl (by decide +kernel)
set_option maxRecDepth 65536 in
theorem w_c6 : (Jvm.Cond.code ({ cls := "java/util/ArrayList", name := "size", desc := "()I" } : Jvm.MethodName) jdk_38_method_8_code (1 : Nat) (Option.some Jvm.ClassFile.FieldType.int)).before args0 about1 = true := code_word (m := ⟨11, 3⟩) (meth := k11m3) (c := k11c3) (by decide +kernel) rfl rfl rfl (by decide +kernel)
set_option maxRecDepth 65536 in
theorem w_c7 : (Jvm.Cond.code ({ cls := "com/example/libprox/libprox/RankingModel$QueryTerm", name := "<init>", desc := "(Ljava/lang/String;JZ)V" } : Jvm.MethodName) prog_47_method_1_code (5 : Nat) (Option.none : Option Jvm.ClassFile.FieldType)).before args0 about1 = true := code_word (m := ⟨15, 0⟩) (meth := k15m0) (c := k15c0) (by decide +kernel) rfl rfl rfl (by decide +kernel)
set_option maxRecDepth 65536 in
theorem w_c8 : (Jvm.Cond.code ({ cls := "java/lang/Record", name := "<init>", desc := "()V" } : Jvm.MethodName) jdk_30_method_1_code (1 : Nat) (Option.none : Option Jvm.ClassFile.FieldType)).before args0 about1 = true := code_word (m := ⟨14, 0⟩) (meth := k14m0) (c := k14c0) (by decide +kernel) rfl rfl rfl (by decide +kernel)
set_option maxRecDepth 65536 in
theorem w_c9 : (Jvm.Cond.code ({ cls := "java/util/ArrayList", name := "add", desc := "(Ljava/lang/Object;)Z" } : Jvm.MethodName) jdk_38_method_25_code (2 : Nat) (Option.some Jvm.ClassFile.FieldType.boolean)).before args0 about1 = true := code_word (m := ⟨11, 7⟩) (meth := k11m7) (c := k11c7) (by decide +kernel) rfl rfl rfl (by decide +kernel)
set_option maxRecDepth 65536 in
theorem w_c10 : (Jvm.Cond.code ({ cls := "java/util/ArrayList", name := "add", desc := "(Ljava/lang/Object;[Ljava/lang/Object;I)V" } : Jvm.MethodName) jdk_38_method_24_code (4 : Nat) (Option.none : Option Jvm.ClassFile.FieldType)).before args0 about1 = true := code_word (m := ⟨11, 6⟩) (meth := k11m6) (c := k11c6) (by decide +kernel) rfl rfl rfl (by decide +kernel)
set_option maxRecDepth 65536 in
theorem w_c11 : (Jvm.Cond.code ({ cls := "java/util/ArrayList", name := "grow", desc := "()[Ljava/lang/Object;" } : Jvm.MethodName) jdk_38_method_7_code (1 : Nat) (Option.some (Jvm.ClassFile.FieldType.array (Jvm.ClassFile.FieldType.object "java/lang/Object")))).before args0 about1 = true := code_word (m := ⟨11, 2⟩) (meth := k11m2) (c := k11c2) (by decide +kernel) rfl rfl rfl (by decide +kernel)
set_option maxRecDepth 65536 in
theorem w_c12 : (Jvm.Cond.code ({ cls := "java/util/ArrayList", name := "grow", desc := "(I)[Ljava/lang/Object;" } : Jvm.MethodName) jdk_38_method_6_code (4 : Nat) (Option.some (Jvm.ClassFile.FieldType.array (Jvm.ClassFile.FieldType.object "java/lang/Object")))).before args0 about1 = true := code_word (m := ⟨11, 1⟩) (meth := k11m1) (c := k11c1) (by decide +kernel) rfl rfl rfl (by decide +kernel)
set_option maxRecDepth 65536 in
theorem w_c13 : (Jvm.Cond.code ({ cls := "java/lang/Math", name := "max", desc := "(II)I" } : Jvm.MethodName) jdk_29_method_65_code (2 : Nat) (Option.some Jvm.ClassFile.FieldType.int)).before args0 about1 = true := code_word (m := ⟨21, 1⟩) (meth := k21m1) (c := k21c1) (by decide +kernel) rfl rfl rfl (by decide +kernel)
set_option maxRecDepth 65536 in
theorem w_c14 : (Jvm.Cond.code ({ cls := "java/util/ArrayList", name := "get", desc := "(I)Ljava/lang/Object;" } : Jvm.MethodName) jdk_38_method_20_code (2 : Nat) (Option.some (Jvm.ClassFile.FieldType.object "java/lang/Object"))).before args0 about1 = true := code_word (m := ⟨11, 5⟩) (meth := k11m5) (c := k11c5) (by decide +kernel) rfl rfl rfl (by decide +kernel)
set_option maxRecDepth 65536 in
theorem w_c15 : (Jvm.Cond.code ({ cls := "java/util/Objects", name := "checkIndex", desc := "(II)I" } : Jvm.MethodName) jdk_31_method_17_code (2 : Nat) (Option.some Jvm.ClassFile.FieldType.int)).before args0 about1 = true := code_word (m := ⟨22, 1⟩) (meth := k22m1) (c := k22c1) (by decide +kernel) rfl rfl rfl (by decide +kernel)
set_option maxRecDepth 65536 in
theorem w_c16 : (Jvm.Cond.code ({ cls := "jdk/internal/util/Preconditions", name := "checkIndex", desc := "(IILjava/util/function/BiFunction;)I" } : Jvm.MethodName) jdk_41_method_11_code (3 : Nat) (Option.some Jvm.ClassFile.FieldType.int)).before args0 about1 = true := code_word (m := ⟨23, 1⟩) (meth := k23m1) (c := k23c1) (by decide +kernel) rfl rfl rfl (by decide +kernel)
set_option maxRecDepth 65536 in
theorem w_c17 : (Jvm.Cond.code ({ cls := "java/util/ArrayList", name := "elementData", desc := "(I)Ljava/lang/Object;" } : Jvm.MethodName) jdk_38_method_18_code (2 : Nat) (Option.some (Jvm.ClassFile.FieldType.object "java/lang/Object"))).before args0 about1 = true := code_word (m := ⟨11, 4⟩) (meth := k11m4) (c := k11c4) (by decide +kernel) rfl rfl rfl (by decide +kernel)
set_option maxRecDepth 65536 in
theorem w_c18 : (Jvm.Cond.code ({ cls := "com/example/libprox/libprox/RankingModel$QueryTerm", name := "collectionFrequency", desc := "()J" } : Jvm.MethodName) prog_47_method_6_code (1 : Nat) (Option.some Jvm.ClassFile.FieldType.long)).before args0 about1 = true := code_word (m := ⟨15, 1⟩) (meth := k15m1) (c := k15c1) (by decide +kernel) rfl rfl rfl (by decide +kernel)
set_option maxRecDepth 65536 in
theorem w_c19 : (Jvm.Cond.code ({ cls := "com/example/libprox/libprox/KldPriorsPinLaw", name := "check", desc := "(DJJJ)Z" } : Jvm.MethodName) method_3_code (8 : Nat) (Option.some Jvm.ClassFile.FieldType.boolean)).before args0 about1 = true := code_word (m := ⟨1, 2⟩) (meth := k1m2) (c := k1c2) (by decide +kernel) rfl rfl rfl (by decide +kernel)
def codes1 : List Jvm.Cond := [Jvm.Cond.code x code maxLocals ret, Jvm.Cond.code ({ cls := "java/util/ArrayList", name := "<init>", desc := "()V" } : Jvm.MethodName) jdk_38_method_2_code (1 : Nat) (Option.none : Option Jvm.ClassFile.FieldType), Jvm.Cond.code ({ cls := "java/util/AbstractList", name := "<init>", desc := "()V" } : Jvm.MethodName) jdk_39_method_1_code (1 : Nat) (Option.none : Option Jvm.ClassFile.FieldType), Jvm.Cond.code ({ cls := "java/util/AbstractCollection", name := "<init>", desc := "()V" } : Jvm.MethodName) jdk_22_method_1_code (1 : Nat) (Option.none : Option Jvm.ClassFile.FieldType), Jvm.Cond.code ({ cls := "java/lang/Object", name := "<init>", desc := "()V" } : Jvm.MethodName) object_method_1_code (1 : Nat) (Option.none : Option Jvm.ClassFile.FieldType), Jvm.Cond.code ({ cls := "com/example/libprox/libprox/Kld", name := "priors", desc := "(DLjava/util/List;J)[D" } : Jvm.MethodName) prog_18_method_3_code (7 : Nat) (Option.some (Jvm.ClassFile.FieldType.array Jvm.ClassFile.FieldType.double)), Jvm.Cond.code ({ cls := "java/util/ArrayList", name := "size", desc := "()I" } : Jvm.MethodName) jdk_38_method_8_code (1 : Nat) (Option.some Jvm.ClassFile.FieldType.int), Jvm.Cond.code ({ cls := "com/example/libprox/libprox/RankingModel$QueryTerm", name := "<init>", desc := "(Ljava/lang/String;JZ)V" } : Jvm.MethodName) prog_47_method_1_code (5 : Nat) (Option.none : Option Jvm.ClassFile.FieldType), Jvm.Cond.code ({ cls := "java/lang/Record", name := "<init>", desc := "()V" } : Jvm.MethodName) jdk_30_method_1_code (1 : Nat) (Option.none : Option Jvm.ClassFile.FieldType), Jvm.Cond.code ({ cls := "java/util/ArrayList", name := "add", desc := "(Ljava/lang/Object;)Z" } : Jvm.MethodName) jdk_38_method_25_code (2 : Nat) (Option.some Jvm.ClassFile.FieldType.boolean), Jvm.Cond.code ({ cls := "java/util/ArrayList", name := "add", desc := "(Ljava/lang/Object;[Ljava/lang/Object;I)V" } : Jvm.MethodName) jdk_38_method_24_code (4 : Nat) (Option.none : Option Jvm.ClassFile.FieldType), Jvm.Cond.code ({ cls := "java/util/ArrayList", name := "grow", desc := "()[Ljava/lang/Object;" } : Jvm.MethodName) jdk_38_method_7_code (1 : Nat) (Option.some (Jvm.ClassFile.FieldType.array (Jvm.ClassFile.FieldType.object "java/lang/Object"))), Jvm.Cond.code ({ cls := "java/util/ArrayList", name := "grow", desc := "(I)[Ljava/lang/Object;" } : Jvm.MethodName) jdk_38_method_6_code (4 : Nat) (Option.some (Jvm.ClassFile.FieldType.array (Jvm.ClassFile.FieldType.object "java/lang/Object"))), Jvm.Cond.code ({ cls := "java/lang/Math", name := "max", desc := "(II)I" } : Jvm.MethodName) jdk_29_method_65_code (2 : Nat) (Option.some Jvm.ClassFile.FieldType.int), Jvm.Cond.code ({ cls := "java/util/ArrayList", name := "get", desc := "(I)Ljava/lang/Object;" } : Jvm.MethodName) jdk_38_method_20_code (2 : Nat) (Option.some (Jvm.ClassFile.FieldType.object "java/lang/Object")), Jvm.Cond.code ({ cls := "java/util/Objects", name := "checkIndex", desc := "(II)I" } : Jvm.MethodName) jdk_31_method_17_code (2 : Nat) (Option.some Jvm.ClassFile.FieldType.int), Jvm.Cond.code ({ cls := "jdk/internal/util/Preconditions", name := "checkIndex", desc := "(IILjava/util/function/BiFunction;)I" } : Jvm.MethodName) jdk_41_method_11_code (3 : Nat) (Option.some Jvm.ClassFile.FieldType.int), Jvm.Cond.code ({ cls := "java/util/ArrayList", name := "elementData", desc := "(I)Ljava/lang/Object;" } : Jvm.MethodName) jdk_38_method_18_code (2 : Nat) (Option.some (Jvm.ClassFile.FieldType.object "java/lang/Object")), Jvm.Cond.code ({ cls := "com/example/libprox/libprox/RankingModel$QueryTerm", name := "collectionFrequency", desc := "()J" } : Jvm.MethodName) prog_47_method_6_code (1 : Nat) (Option.some Jvm.ClassFile.FieldType.long), Jvm.Cond.code ({ cls := "com/example/libprox/libprox/KldPriorsPinLaw", name := "check", desc := "(DJJJ)Z" } : Jvm.MethodName) method_3_code (8 : Nat) (Option.some Jvm.ClassFile.FieldType.boolean)]
set_option maxRecDepth 65536 in
theorem codes_eq : words1.filter isCode = codes1 := rfl
theorem w_codes : ∀ c ∈ words1.filter isCode, c.before args0 about1 = true := by
  rw [codes_eq]
  intro c hc
  simp only [codes1, List.mem_cons, List.not_mem_nil, or_false] at hc
  rcases hc with rfl | rfl | rfl | rfl | rfl | rfl | rfl | rfl | rfl | rfl | rfl | rfl | rfl | rfl | rfl | rfl | rfl | rfl | rfl | rfl
  · exact w_c0
  · exact w_c1
  · exact w_c2
  · exact w_c3
  · exact w_c4
  · exact w_c5
  · exact w_c6
  · exact w_c7
  · exact w_c8
  · exact w_c9
  · exact w_c10
  · exact w_c11
  · exact w_c12
  · exact w_c13
  · exact w_c14
  · exact w_c15
  · exact w_c16
  · exact w_c17
  · exact w_c18
  · exact w_c19
set_option maxRecDepth 65536 in
theorem w_t1 : (words1.take 24).all (fun c => isCode c || c.before args0 about1) = true := by decide +kernel
set_option maxRecDepth 65536 in
theorem w_t2 : ((words1.drop 24).take 24).all (fun c => isCode c || c.before args0 about1) = true := by decide +kernel
set_option maxRecDepth 65536 in
theorem w_t3 : (((words1.drop 24).drop 24).take 24).all (fun c => isCode c || c.before args0 about1) = true := by decide +kernel
set_option maxRecDepth 65536 in
theorem w_t4 : ((((words1.drop 24).drop 24).drop 24).take 24).all (fun c => isCode c || c.before args0 about1) = true := by decide +kernel
set_option maxRecDepth 65536 in
theorem w_t5 : (((((words1.drop 24).drop 24).drop 24).drop 24).take 24).all (fun c => isCode c || c.before args0 about1) = true := by decide +kernel
set_option maxRecDepth 65536 in
theorem w_t6 : (((((words1.drop 24).drop 24).drop 24).drop 24).drop 24).all (fun c => isCode c || c.before args0 about1) = true := by decide +kernel
theorem w_tables : (allAtoms (Jvm.Cond.code x code maxLocals ret :: tables_1)).before args0 about1 = true := by
  rw [allAtoms_all]
  show words1.all (fun c => c.before args0 about1) = true
  refine all_split ?_ w_codes
  rw [← List.take_append_drop 24 words1, List.all_append, w_t1, ← List.take_append_drop 24 (words1.drop 24), List.all_append, w_t2, ← List.take_append_drop 24 ((words1.drop 24).drop 24), List.all_append, w_t3, ← List.take_append_drop 24 (((words1.drop 24).drop 24).drop 24), List.all_append, w_t4, ← List.take_append_drop 24 ((((words1.drop 24).drop 24).drop 24).drop 24), List.all_append, w_t5, w_t6]
  rfl
set_option maxRecDepth 65536 in
theorem w_rest : rest_1_c.before args0 about1 = true := by decide +kernel
set_option maxRecDepth 65536 in
theorem w_case : (Jvm.Cond.and given_1 narrow_1).before args0 about1 = true := by decide +kernel
theorem w_applies : (headSpec (Jvm.Cond.code x code maxLocals ret :: tables_1) room_1).applies x e0.platform about1 = true :=
  (Spec.applies_iff w_frames).mpr ⟨w_running, w_runnable, w_alone, w_named, w_hears, w_ripe, w_room, w_tables⟩
theorem atStart : AtStart classFile x code maxLocals ret World_1 tables_1 room_1 Calls_1 rest_1 Pre_1 launch0 p0 e0 about1 theMethod args0 below0 :=
  ⟨lists_1, trivial, launch0.admits_env _ _ _, launch0.least_env, fairChoices_fair.cas, fairChoices_fair.clock, w_frames, w_args, w_heap, w_applies, trivial, w_rest, w_case⟩
end start1
theorem witness_1 : WitnessClaimed_1 := ⟨start1.p0, start1.e0, start1.about1, start1.theMethod, start1.args0, start1.below0, start1.atStart⟩
end Jvm.Pilot.@@N@@
