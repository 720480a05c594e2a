import JvmDerived
import JvmDerived.Pilot.@@N@@Statement
import JvmDerived.Pilot.@@N@@Code
set_option linter.unusedVariables false
set_option linter.unusedSimpArgs false
namespace Jvm.RoadKit
open Sem ClassFile Op Lib Jvm.Stand Jvm.Free Jvm.LawKit
section New
variable {p : Program} {l : Launch} {e : Env} {R : Room} {s : State} {m : MethodId} {args : Array Value} {below : List Frame} {meth : Method} {c : Code} {T : State} {locs : List Loc} {cells slots : Nat}
theorem retI (X : Stand p l e R s m args below meth c T locs cells slots) (hx : p.tables.exec = Jvm.exec) {pc : Nat} {Ls : Array Slot} {z : Int32} {rest : List Value} (hret : meth.sig.returnType = some .int) (hd : decode c.code pc = .ok (.ireturn, 1)) {fs : List Frame}
    (hl : ∀ (f : JFrame) (acts : List Action), f.method = m → f.locked = none → f.entered = [] → (doReturn e (T.setTop f) acts (some (.int z))).1 = T.setFrames fs) : Steps p.tables e below (T.setTop (mkF m pc Ls (.int z :: rest))) (T.setFrames fs) := by
  have hm' : T.vm.method? m = some meth := X.method'
  have hn : narrow .int (.int z) = .int z := rfl
  show Steps p.tables e below (T.setTop { method := m, pc := pc, locals := Ls, stack := _ :: rest, locked := none }) _
  jvm_step X.here [X.here.top, hx, hd, hm', hret, hn]
  first | (intro acts; rw [hl _ acts rfl rfl rfl]) | rw [hl _ _ rfl rfl rfl]
  exact Steps.refl _
end New
end Jvm.RoadKit
namespace Jvm.Pilot.@@N@@
open Jvm Jvm.ClassFile Sem Op Lib Jvm.Free Jvm.Stand Jvm.LawKit Jvm.RoadKit Bundle Jvm.Pilot.@@N@@.Jvm.D
theorem wq {a0 : Array Value} {Z : State} (hw : ∀ d ∈ tables_1, d.before a0 Z = true) (i : Nat) {d : Jvm.Cond} (h : tables_1[i]? = some d) : d.before a0 Z = true := hw _ (List.mem_of_getElem? h)
abbrev nm0 : MethodName := ⟨"java/lang/StringUTF16", "getChar", "([BI)C"⟩
abbrev nm1 : MethodName := ⟨"java/lang/StringUTF16", "newBytesLength", "(I)I"⟩
abbrev nm2 : MethodName := ⟨"java/lang/StringUTF16", "newBytesFor", "(I)[B"⟩
abbrev nm3 : MethodName := ⟨"java/lang/StringUTF16", "putChar", "([BII)V"⟩
abbrev nm4 : MethodName := ⟨"java/lang/StringUTF16", "toBytes", "([CII)[B"⟩
abbrev nm5 : MethodName := ⟨"java/lang/StringUTF16", "compress", "([CI[BII)I"⟩
abbrev nm6 : MethodName := ⟨"java/lang/StringUTF16", "compress", "([CII)[B"⟩
abbrev nm7 : MethodName := ⟨"java/lang/StringUTF16", "coderFromArrayLen", "([BI)B"⟩
abbrev nm8 : MethodName := ⟨"java/lang/String", "<init>", "([CIILjava/lang/Void;)V"⟩
abbrev nm9 : MethodName := ⟨"java/lang/String", "<init>", "([C)V"⟩
abbrev nm10 : MethodName := ⟨"com/example/lintel/lintel/message/HeaderCursorAtEndPinLaw", "make", "(ICCC)Ljava/lang/String;"⟩
abbrev nm11 : MethodName := ⟨"java/lang/String", "coder", "()B"⟩
abbrev nm12 : MethodName := ⟨"java/lang/String", "isLatin1", "()Z"⟩
abbrev nm13 : MethodName := ⟨"jdk/internal/util/Preconditions", "checkIndex", "(IILjava/util/function/BiFunction;)I"⟩
abbrev nm14 : MethodName := ⟨"java/lang/String", "checkIndex", "(II)V"⟩
abbrev nm15 : MethodName := ⟨"java/lang/StringLatin1", "charAt", "([BI)C"⟩
abbrev nm16 : MethodName := ⟨"java/lang/StringUTF16", "length", "([B)I"⟩
abbrev nm17 : MethodName := ⟨"java/lang/StringUTF16", "checkIndex", "(I[B)V"⟩
abbrev nm18 : MethodName := ⟨"java/lang/StringUTF16", "charAt", "([BI)C"⟩
abbrev nm19 : MethodName := ⟨"java/lang/String", "charAt", "(I)C"⟩
abbrev nm20 : MethodName := ⟨"java/lang/String", "length", "()I"⟩
abbrev nm21 : MethodName := ⟨"com/example/lintel/lintel/message/HeaderCursor", "atEnd", "()Z"⟩
abbrev nm22 : MethodName := ⟨"com/example/lintel/lintel/message/HeaderCursor", "next", "()C"⟩
abbrev nm23 : MethodName := ⟨"com/example/lintel/lintel/message/HeaderCursor", "<init>", "(Ljava/lang/String;Ljava/lang/String;)V"⟩
abbrev nm24 : MethodName := ⟨"com/example/lintel/lintel/message/HeaderCursor", "reset", "(I)V"⟩
abbrev nm25 : MethodName := ⟨"java/lang/Math", "min", "(II)I"⟩
theorem wk6 {a0 : Array Value} {Z : State} (hw : ∀ d ∈ tables_1, d.before a0 Z = true) : (Jvm.Cond.initialized "java/lang/String").before a0 Z = true := hw _ (List.mem_of_getElem? (i := 6) rfl)
theorem wk21 {a0 : Array Value} {Z : State} (hw : ∀ d ∈ tables_1, d.before a0 Z = true) : (Jvm.Cond.initialized "java/lang/StringUTF16").before a0 Z = true := hw _ (List.mem_of_getElem? (i := 21) rfl)
theorem wk27 {a0 : Array Value} {Z : State} (hw : ∀ d ∈ tables_1, d.before a0 Z = true) : (Jvm.Cond.methodLink "java/lang/String" (47 : Nat) ({ cls := "java/lang/StringUTF16", name := "coderFromArrayLen", desc := "([BI)B" } : Jvm.MethodName)).before a0 Z = true := hw _ (List.mem_of_getElem? (i := 27) rfl)
theorem wk28 {a0 : Array Value} {Z : State} (hw : ∀ d ∈ tables_1, d.before a0 Z = true) : (Jvm.Cond.static ({ cls := "java/lang/StringUTF16", name := "coderFromArrayLen", desc := "([BI)B" } : Jvm.MethodName)).before a0 Z = true := hw _ (List.mem_of_getElem? (i := 28) rfl)
theorem wk29 {a0 : Array Value} {Z : State} (hw : ∀ d ∈ tables_1, d.before a0 Z = true) : (Jvm.Cond.code ({ cls := "java/lang/StringUTF16", name := "coderFromArrayLen", desc := "([BI)B" } : Jvm.MethodName) jdk_52_method_15_code (2 : Nat) (Option.some Jvm.ClassFile.FieldType.byte)).before a0 Z = true := hw _ (List.mem_of_getElem? (i := 29) rfl)
theorem wk36 {a0 : Array Value} {Z : State} (hw : ∀ d ∈ tables_1, d.before a0 Z = true) : (Jvm.Cond.initialized "com/example/lintel/lintel/message/HeaderCursor").before a0 Z = true := hw _ (List.mem_of_getElem? (i := 36) rfl)
theorem wk48 {a0 : Array Value} {Z : State} (hw : ∀ d ∈ tables_1, d.before a0 Z = true) : (Jvm.Cond.methodLink "com/example/lintel/lintel/message/HeaderCursorAtEndPinLaw" (25 : Nat) ({ cls := "com/example/lintel/lintel/message/HeaderCursor", name := "atEnd", desc := "()Z" } : Jvm.MethodName)).before a0 Z = true := hw _ (List.mem_of_getElem? (i := 48) rfl)
theorem wk49 {a0 : Array Value} {Z : State} (hw : ∀ d ∈ tables_1, d.before a0 Z = true) : (Jvm.Cond.declares ({ cls := "com/example/lintel/lintel/message/HeaderCursor", name := "atEnd", desc := "()Z" } : Jvm.MethodName)).before a0 Z = true := hw _ (List.mem_of_getElem? (i := 49) rfl)
theorem wk50 {a0 : Array Value} {Z : State} (hw : ∀ d ∈ tables_1, d.before a0 Z = true) : (Jvm.Cond.instanceMethod ({ cls := "com/example/lintel/lintel/message/HeaderCursor", name := "atEnd", desc := "()Z" } : Jvm.MethodName)).before a0 Z = true := hw _ (List.mem_of_getElem? (i := 50) rfl)
theorem wk51 {a0 : Array Value} {Z : State} (hw : ∀ d ∈ tables_1, d.before a0 Z = true) : (Jvm.Cond.selects "com/example/lintel/lintel/message/HeaderCursor" ({ cls := "com/example/lintel/lintel/message/HeaderCursor", name := "atEnd", desc := "()Z" } : Jvm.MethodName) ({ cls := "com/example/lintel/lintel/message/HeaderCursor", name := "atEnd", desc := "()Z" } : Jvm.MethodName)).before a0 Z = true := hw _ (List.mem_of_getElem? (i := 51) rfl)
theorem wk52 {a0 : Array Value} {Z : State} (hw : ∀ d ∈ tables_1, d.before a0 Z = true) : (Jvm.Cond.code ({ cls := "com/example/lintel/lintel/message/HeaderCursor", name := "atEnd", desc := "()Z" } : Jvm.MethodName) prog_1_method_2_code (1 : Nat) (Option.some Jvm.ClassFile.FieldType.boolean)).before a0 Z = true := hw _ (List.mem_of_getElem? (i := 52) rfl)
theorem wk55 {a0 : Array Value} {Z : State} (hw : ∀ d ∈ tables_1, d.before a0 Z = true) : (Jvm.Cond.methodLink "com/example/lintel/lintel/message/HeaderCursor" (20 : Nat) ({ cls := "java/lang/String", name := "length", desc := "()I" } : Jvm.MethodName)).before a0 Z = true := hw _ (List.mem_of_getElem? (i := 55) rfl)
theorem wk56 {a0 : Array Value} {Z : State} (hw : ∀ d ∈ tables_1, d.before a0 Z = true) : (Jvm.Cond.declares ({ cls := "java/lang/String", name := "length", desc := "()I" } : Jvm.MethodName)).before a0 Z = true := hw _ (List.mem_of_getElem? (i := 56) rfl)
theorem wk57 {a0 : Array Value} {Z : State} (hw : ∀ d ∈ tables_1, d.before a0 Z = true) : (Jvm.Cond.instanceMethod ({ cls := "java/lang/String", name := "length", desc := "()I" } : Jvm.MethodName)).before a0 Z = true := hw _ (List.mem_of_getElem? (i := 57) rfl)
theorem wk58 {a0 : Array Value} {Z : State} (hw : ∀ d ∈ tables_1, d.before a0 Z = true) : (Jvm.Cond.selects "java/lang/String" ({ cls := "java/lang/String", name := "length", desc := "()I" } : Jvm.MethodName) ({ cls := "java/lang/String", name := "length", desc := "()I" } : Jvm.MethodName)).before a0 Z = true := hw _ (List.mem_of_getElem? (i := 58) rfl)
theorem wk59 {a0 : Array Value} {Z : State} (hw : ∀ d ∈ tables_1, d.before a0 Z = true) : (Jvm.Cond.code ({ cls := "java/lang/String", name := "length", desc := "()I" } : Jvm.MethodName) jdk_42_method_54_code (1 : Nat) (Option.some Jvm.ClassFile.FieldType.int)).before a0 Z = true := hw _ (List.mem_of_getElem? (i := 59) rfl)
theorem wk60 {a0 : Array Value} {Z : State} (hw : ∀ d ∈ tables_1, d.before a0 Z = true) : (Jvm.Cond.methodLink "java/lang/String" (335 : Nat) ({ cls := "java/lang/String", name := "coder", desc := "()B" } : Jvm.MethodName)).before a0 Z = true := hw _ (List.mem_of_getElem? (i := 60) rfl)
theorem wk61 {a0 : Array Value} {Z : State} (hw : ∀ d ∈ tables_1, d.before a0 Z = true) : (Jvm.Cond.declares ({ cls := "java/lang/String", name := "coder", desc := "()B" } : Jvm.MethodName)).before a0 Z = true := hw _ (List.mem_of_getElem? (i := 61) rfl)
theorem wk62 {a0 : Array Value} {Z : State} (hw : ∀ d ∈ tables_1, d.before a0 Z = true) : (Jvm.Cond.instanceMethod ({ cls := "java/lang/String", name := "coder", desc := "()B" } : Jvm.MethodName)).before a0 Z = true := hw _ (List.mem_of_getElem? (i := 62) rfl)
theorem wk63 {a0 : Array Value} {Z : State} (hw : ∀ d ∈ tables_1, d.before a0 Z = true) : (Jvm.Cond.selects "java/lang/String" ({ cls := "java/lang/String", name := "coder", desc := "()B" } : Jvm.MethodName) ({ cls := "java/lang/String", name := "coder", desc := "()B" } : Jvm.MethodName)).before a0 Z = true := hw _ (List.mem_of_getElem? (i := 63) rfl)
theorem wk64 {a0 : Array Value} {Z : State} (hw : ∀ d ∈ tables_1, d.before a0 Z = true) : (Jvm.Cond.code ({ cls := "java/lang/String", name := "coder", desc := "()B" } : Jvm.MethodName) jdk_42_method_152_code (1 : Nat) (Option.some Jvm.ClassFile.FieldType.byte)).before a0 Z = true := hw _ (List.mem_of_getElem? (i := 64) rfl)
theorem wk65 {a0 : Array Value} {Z : State} (hw : ∀ d ∈ tables_1, d.before a0 Z = true) : (Jvm.Cond.methodLink "com/example/lintel/lintel/message/HeaderCursorAtEndPinLaw" (29 : Nat) ({ cls := "java/lang/Math", name := "min", desc := "(II)I" } : Jvm.MethodName)).before a0 Z = true := hw _ (List.mem_of_getElem? (i := 65) rfl)
theorem wk66 {a0 : Array Value} {Z : State} (hw : ∀ d ∈ tables_1, d.before a0 Z = true) : (Jvm.Cond.static ({ cls := "java/lang/Math", name := "min", desc := "(II)I" } : Jvm.MethodName)).before a0 Z = true := hw _ (List.mem_of_getElem? (i := 66) rfl)
theorem wk67 {a0 : Array Value} {Z : State} (hw : ∀ d ∈ tables_1, d.before a0 Z = true) : (Jvm.Cond.initialized "java/lang/Math").before a0 Z = true := hw _ (List.mem_of_getElem? (i := 67) rfl)
theorem wk68 {a0 : Array Value} {Z : State} (hw : ∀ d ∈ tables_1, d.before a0 Z = true) : (Jvm.Cond.code ({ cls := "java/lang/Math", name := "min", desc := "(II)I" } : Jvm.MethodName) jdk_29_method_69_code (2 : Nat) (Option.some Jvm.ClassFile.FieldType.int)).before a0 Z = true := hw _ (List.mem_of_getElem? (i := 68) rfl)
theorem wk81 {a0 : Array Value} {Z : State} (hw : ∀ d ∈ tables_1, d.before a0 Z = true) : (Jvm.Cond.methodLink "java/lang/StringUTF16" (11 : Nat) ({ cls := "java/lang/StringUTF16", name := "newBytesLength", desc := "(I)I" } : Jvm.MethodName)).before a0 Z = true := hw _ (List.mem_of_getElem? (i := 81) rfl)
theorem wk82 {a0 : Array Value} {Z : State} (hw : ∀ d ∈ tables_1, d.before a0 Z = true) : (Jvm.Cond.static ({ cls := "java/lang/StringUTF16", name := "newBytesLength", desc := "(I)I" } : Jvm.MethodName)).before a0 Z = true := hw _ (List.mem_of_getElem? (i := 82) rfl)
theorem wk83 {a0 : Array Value} {Z : State} (hw : ∀ d ∈ tables_1, d.before a0 Z = true) : (Jvm.Cond.code ({ cls := "java/lang/StringUTF16", name := "newBytesLength", desc := "(I)I" } : Jvm.MethodName) jdk_52_method_3_code (1 : Nat) (Option.some Jvm.ClassFile.FieldType.int)).before a0 Z = true := hw _ (List.mem_of_getElem? (i := 83) rfl)
theorem wk91 {a0 : Array Value} {Z : State} (hw : ∀ d ∈ tables_1, d.before a0 Z = true) : (Jvm.Cond.methodLink "java/lang/StringUTF16" (71 : Nat) ({ cls := "java/lang/StringUTF16", name := "getChar", desc := "([BI)C" } : Jvm.MethodName)).before a0 Z = true := hw _ (List.mem_of_getElem? (i := 91) rfl)
theorem wk92 {a0 : Array Value} {Z : State} (hw : ∀ d ∈ tables_1, d.before a0 Z = true) : (Jvm.Cond.static ({ cls := "java/lang/StringUTF16", name := "getChar", desc := "([BI)C" } : Jvm.MethodName)).before a0 Z = true := hw _ (List.mem_of_getElem? (i := 92) rfl)
theorem wk93 {a0 : Array Value} {Z : State} (hw : ∀ d ∈ tables_1, d.before a0 Z = true) : (Jvm.Cond.code ({ cls := "java/lang/StringUTF16", name := "getChar", desc := "([BI)C" } : Jvm.MethodName) jdk_52_method_5_code (2 : Nat) (Option.some Jvm.ClassFile.FieldType.char)).before a0 Z = true := hw _ (List.mem_of_getElem? (i := 93) rfl)
theorem wk104 {a0 : Array Value} {Z : State} (hw : ∀ d ∈ tables_1, d.before a0 Z = true) : (Jvm.Cond.methodLink "java/lang/String" (492 : Nat) ({ cls := "java/lang/String", name := "isLatin1", desc := "()Z" } : Jvm.MethodName)).before a0 Z = true := hw _ (List.mem_of_getElem? (i := 104) rfl)
theorem wk105 {a0 : Array Value} {Z : State} (hw : ∀ d ∈ tables_1, d.before a0 Z = true) : (Jvm.Cond.declares ({ cls := "java/lang/String", name := "isLatin1", desc := "()Z" } : Jvm.MethodName)).before a0 Z = true := hw _ (List.mem_of_getElem? (i := 105) rfl)
theorem wk106 {a0 : Array Value} {Z : State} (hw : ∀ d ∈ tables_1, d.before a0 Z = true) : (Jvm.Cond.instanceMethod ({ cls := "java/lang/String", name := "isLatin1", desc := "()Z" } : Jvm.MethodName)).before a0 Z = true := hw _ (List.mem_of_getElem? (i := 106) rfl)
theorem wk107 {a0 : Array Value} {Z : State} (hw : ∀ d ∈ tables_1, d.before a0 Z = true) : (Jvm.Cond.selects "java/lang/String" ({ cls := "java/lang/String", name := "isLatin1", desc := "()Z" } : Jvm.MethodName) ({ cls := "java/lang/String", name := "isLatin1", desc := "()Z" } : Jvm.MethodName)).before a0 Z = true := hw _ (List.mem_of_getElem? (i := 107) rfl)
theorem wk108 {a0 : Array Value} {Z : State} (hw : ∀ d ∈ tables_1, d.before a0 Z = true) : (Jvm.Cond.code ({ cls := "java/lang/String", name := "isLatin1", desc := "()Z" } : Jvm.MethodName) jdk_42_method_154_code (1 : Nat) (Option.some Jvm.ClassFile.FieldType.boolean)).before a0 Z = true := hw _ (List.mem_of_getElem? (i := 108) rfl)
theorem wk115 {a0 : Array Value} {Z : State} (hw : ∀ d ∈ tables_1, d.before a0 Z = true) : (Jvm.Cond.methodLink "java/lang/StringUTF16" (48 : Nat) ({ cls := "java/lang/StringUTF16", name := "length", desc := "([B)I" } : Jvm.MethodName)).before a0 Z = true := hw _ (List.mem_of_getElem? (i := 115) rfl)
theorem wk116 {a0 : Array Value} {Z : State} (hw : ∀ d ∈ tables_1, d.before a0 Z = true) : (Jvm.Cond.static ({ cls := "java/lang/StringUTF16", name := "length", desc := "([B)I" } : Jvm.MethodName)).before a0 Z = true := hw _ (List.mem_of_getElem? (i := 116) rfl)
theorem wk117 {a0 : Array Value} {Z : State} (hw : ∀ d ∈ tables_1, d.before a0 Z = true) : (Jvm.Cond.code ({ cls := "java/lang/StringUTF16", name := "length", desc := "([B)I" } : Jvm.MethodName) jdk_52_method_6_code (1 : Nat) (Option.some Jvm.ClassFile.FieldType.int)).before a0 Z = true := hw _ (List.mem_of_getElem? (i := 117) rfl)
theorem wk122 {a0 : Array Value} {Z : State} (hw : ∀ d ∈ tables_1, d.before a0 Z = true) : (Jvm.Cond.initialized "jdk/internal/util/Preconditions").before a0 Z = true := hw _ (List.mem_of_getElem? (i := 122) rfl)
theorem wk123 {a0 : Array Value} {Z : State} (hw : ∀ d ∈ tables_1, d.before a0 Z = true) : (Jvm.Cond.methodLink "java/lang/String" (1059 : Nat) ({ cls := "jdk/internal/util/Preconditions", name := "checkIndex", desc := "(IILjava/util/function/BiFunction;)I" } : Jvm.MethodName)).before a0 Z = true := hw _ (List.mem_of_getElem? (i := 123) rfl)
theorem wk124 {a0 : Array Value} {Z : State} (hw : ∀ d ∈ tables_1, d.before a0 Z = true) : (Jvm.Cond.static ({ cls := "jdk/internal/util/Preconditions", name := "checkIndex", desc := "(IILjava/util/function/BiFunction;)I" } : Jvm.MethodName)).before a0 Z = true := hw _ (List.mem_of_getElem? (i := 124) rfl)
theorem wk125 {a0 : Array Value} {Z : State} (hw : ∀ d ∈ tables_1, d.before a0 Z = true) : (Jvm.Cond.code ({ cls := "jdk/internal/util/Preconditions", name := "checkIndex", desc := "(IILjava/util/function/BiFunction;)I" } : Jvm.MethodName) jdk_41_method_11_code (3 : Nat) (Option.some Jvm.ClassFile.FieldType.int)).before a0 Z = true := hw _ (List.mem_of_getElem? (i := 125) rfl)
theorem own_callP {p : Program} {l : Launch} {e : Env} {R : Room} {s : State} {m : MethodId} {args : Array Value} {below : List Frame} {meth : Method} {c : Code} {T Z : State} {locs : List Loc} {cells slots : Nat} {a0 : Array Value} {h : Heap} {n0 : Nat} (X : Stand p l e R s m args below meth c T locs cells slots) (hx : p.tables.exec = Jvm.exec) (hZ : Z.Warmed39 s.vm) {own : String} {index : Nat} {y : MethodName} {bytes : ByteArray} {maxL : Nat} {ret : Option FieldType} {rm : Room} {rv : Value} {argsL rest : List Value} {W : Nat}
    (hown : s.vm.findClass own = some m.cls) (w1 : (Jvm.Cond.methodLink own index y).before a0 Z = true) (w2 : (Jvm.Cond.static y).before a0 Z = true) (w3 : (Jvm.Cond.initialized y.cls).before a0 Z = true) (w4 : (Jvm.Cond.code y bytes maxL ret).before a0 Z = true) (hy : y.cls ≠ "java/lang/invoke/MethodHandle" ∧ y.cls ≠ "java/lang/invoke/VarHandle")
    (hM : MetFree l y (head1 [Jvm.Cond.code y bytes maxL ret] rm) (fun a U => a = argsL.toArray ∧ Z.Warmed39 U.vm ∧ U.heap = h) (fun _ _ _ _ _ => True) (fun _ U o U' => ∃ v L, o = .returned v ∧ (v = some rv ∧ Fr n0 L ∧ U'.heap = h) ∧ FrameEnd U o U' L rm.cells rm.slots))
    (eT : T.heap = h) (N : Fr n0 locs) (hf : rm.frames + 1 ≤ R.frames) (hl : W + (maxL + 11) + rm.locals ≤ R.locals) (hc : cells + rm.cells ≤ R.cells) (hsl : slots + rm.slots ≤ R.slots)
    {g : JFrame} (hg : g.method = m) (hsize : g.locals.size = c.maxLocals) (hlen : ∀ sig, parseMethodDescriptor y.desc = some sig → argsL.length = sig.parameters.length) (hstack : g.stack = argsL.reverse ++ rest) (hW : 2 * g.monitorRoom + (rest.map fun v => v.category).sum ≤ W) (hdg : decode c.code g.pc = .ok (.invokestatic index, 3)) :
    ∃ T' L, Stand p l e R s m args below meth c T' L (cells + rm.cells) (slots + rm.slots) ∧ T'.heap = h ∧ Fr n0 L ∧ ∀ target, Steps p.tables e below (T'.setTop { g with pc := g.pc + 3, stack := rv :: rest }) target → Steps p.tables e below (T.setTop g) target := by
  obtain ⟨_, _, ⟨T', L', k', n'⟩, -, X', ⟨Lc, hQ, l1, y1, z1⟩, st⟩ := Jvm.LawKit.callS X hx (y := y) hown (mvT hZ w1) (mvT hZ w2) (mvT hZ w3) (mvT hZ w4) hy (backOf (W := W) (Q := fun v hh L => v = some rv ∧ Fr n0 L ∧ hh = h) hM hZ w4 w3 hf hl) hg hsize (argsL := argsL) (rest := rest) hlen hstack hW hdg (fun _ _ => ⟨rfl, eT, hc, hsl⟩)
  dsimp only [Pt.U, Pt.locs, Pt.cells, Pt.slots] at X' l1 y1 z1 st hQ
  subst l1 y1 z1
  obtain ⟨rfl, Nq, e'⟩ := hQ
  exact ⟨T', _, X', e', Fr.app N Nq, st⟩
theorem own_callVP {p : Program} {l : Launch} {e : Env} {R : Room} {s : State} {m : MethodId} {args : Array Value} {below : List Frame} {meth : Method} {c : Code} {T Z : State} {locs : List Loc} {cells slots : Nat} {a0 : Array Value} {h : Heap} {n0 : Nat} (X : Stand p l e R s m args below meth c T locs cells slots) (hx : p.tables.exec = Jvm.exec) (hZ : Z.Warmed39 s.vm) {own C : String} {index : Nat} {y : MethodName} {bytes : ByteArray} {maxL : Nat} {ret : Option FieldType} {rm : Room} {rv : Value} {argsL rest : List Value} {W : Nat} {a : Addr}
    (hown : s.vm.findClass own = some m.cls) (w1 : (Jvm.Cond.methodLink own index y).before a0 Z = true) (w2 : (Jvm.Cond.declares y).before a0 Z = true) (w5 : (Jvm.Cond.selects C y y).before a0 Z = true) (w6 : (Jvm.Cond.instanceMethod y).before a0 Z = true) (hy : y.cls ≠ "java/lang/invoke/MethodHandle" ∧ y.cls ≠ "java/lang/invoke/VarHandle") (w3 : (Jvm.Cond.initialized y.cls).before a0 Z = true) (w4 : (Jvm.Cond.code y bytes maxL ret).before a0 Z = true)
    (hM : MetFree l y (head1 [Jvm.Cond.code y bytes maxL ret] rm) (fun a' U => a' = (Value.ref a :: argsL).toArray ∧ Z.Warmed39 U.vm ∧ U.heap = h) (fun _ _ _ _ _ => True) (fun _ U o U' => ∃ v L, o = .returned v ∧ (v = some rv ∧ Fr n0 L ∧ U'.heap = h) ∧ FrameEnd U o U' L rm.cells rm.slots))
    (eT : T.heap = h) (N : Fr n0 locs) (hf : rm.frames + 1 ≤ R.frames) (hl : W + (maxL + 11) + rm.locals ≤ R.locals) (hc : cells + rm.cells ≤ R.cells) (hsl : slots + rm.slots ≤ R.slots) (E : Exa Z h a C)
    {g : JFrame} (hg : g.method = m) (hsize : g.locals.size = c.maxLocals) (hlen : ∀ sig, parseMethodDescriptor y.desc = some sig → argsL.length = sig.parameters.length) (hstack : g.stack = argsL.reverse ++ .ref a :: rest) (hW : 2 * g.monitorRoom + (rest.map fun v => v.category).sum ≤ W) (hdg : decode c.code g.pc = .ok (.invokevirtual index, 3)) :
    ∃ T' L, Stand p l e R s m args below meth c T' L (cells + rm.cells) (slots + rm.slots) ∧ T'.heap = h ∧ Fr n0 L ∧ ∀ target, Steps p.tables e below (T'.setTop { g with pc := g.pc + 3, stack := rv :: rest }) target → Steps p.tables e below (T.setTop g) target := by
  obtain ⟨cq, kq, qa, qb, qc⟩ := isOf hZ eT E
  obtain ⟨_, _, ⟨T', L', k', n'⟩, -, X', ⟨Lc, hQ, l1, y1, z1⟩, st⟩ := X.virtualBack hx (y := y) (z := y) hown (mvT hZ w1) (mvT hZ w2) (notFace_of_selects (args := #[]) (mvT hZ w5)) (mvT hZ w5) (mvT hZ w6) hy (backOf (W := W) (Q := fun v hh L => v = some rv ∧ Fr n0 L ∧ hh = h) hM hZ w4 w3 hf hl) qa qc hg hsize (Steps.refl _) (argsL := argsL) (rest := rest) hlen hstack hW hdg (fun _ _ => ⟨rfl, eT, hc, hsl⟩)
  dsimp only [Pt.U, Pt.locs, Pt.cells, Pt.slots] at X' l1 y1 z1 st hQ
  subst l1 y1 z1
  obtain ⟨rfl, Nq, e'⟩ := hQ
  exact ⟨T', _, X', e', Fr.app N Nq, fun target k => st.trans k⟩
theorem catV {v : Value} (h : v.isRef = true) : v.category = 1 := by cases v <;> first | rfl | cases h
theorem fitsV {C : String} {v : Value} (h : v.isRef = true) : fits (.object C) v = true := by cases v <;> first | rfl | cases h
theorem own_wS {Z : State} {a0 : Array Value} (hw : ∀ d ∈ tables_1, d.before a0 Z = true) : ∀ a ∈ Bundle.stringAtoms, a.before a0 Z = true := by
  intro a ha
  simp only [Bundle.stringAtoms, List.mem_cons, List.not_mem_nil, or_false] at ha
  rcases ha with rfl | rfl | rfl | rfl | rfl | rfl | rfl
  · exact (wq hw 6 rfl)
  · exact (wq hw 5 rfl)
  · exact (wq hw 23 rfl)
  · exact (wq hw 33 rfl)
  · exact (wq hw 31 rfl)
  · exact (wq hw 38 rfl)
  · exact (wq hw 39 rfl)
def own_lit (vm : Vm) (a : Addr) : Prop := ∀ s : State, Lit (s.setVm vm) "java/lang/String" 7 a
def own_R (Z : State) (h : Heap) (vm : Vm) : Prop := IB Z vm [] ∨ ∃ (a b : Addr) (k : ClassId), own_lit vm a ∧ Exa Z h a "java/lang/String" ∧ Fld Z h a "java/lang/String" "coder" "B" (.int 0) ∧ Fld Z h a "java/lang/String" "value" "[B" (.ref b) ∧ Arv Z h b k .byte 0 [] (.int 0)
theorem own_lit_of {s : State} {vm : Vm} {a : Addr} (L : Lit (s.setVm vm) "java/lang/String" 7 a) : own_lit vm a := fun _ => L
theorem own_lit_warm {s : State} {vm1 : Vm} {a : Addr} (L : own_lit s.vm a) (hW : s.WarmedH vm1) : own_lit vm1 a := own_lit_of (Lit.stays (s := s) (vm0 := s.vm) (L s) hW.wide)
theorem own_R_warm {Z s : State} {h : Heap} {vm1 : Vm} (hW : s.WarmedH vm1) (r : own_R Z h s.vm) : own_R Z h vm1 := by
  rcases r with ⟨more, e, hm⟩ | ⟨a, b, k, L, E, C, V, A⟩
  · exact Or.inl ⟨more, hW.interned_eq.trans e, hm⟩
  · exact Or.inr ⟨a, b, k, own_lit_warm L hW, E, C, V, A⟩
theorem own_R_keep {Z : State} {h h' : Heap} {vm : Vm} (r : own_R Z h vm) (K : Keep h h' []) : own_R Z h' vm := by
  rcases r with r | ⟨a, b, k, L, E, C, V, A⟩
  · exact Or.inl r
  · exact Or.inr ⟨a, b, k, L, E.keep K, C.keep K nin0, V.keep K nin0, A.keep K nin0⟩
theorem own_backW {l : Launch} {R : Room} {p : Program} {e : Env} {below : List Frame} {s Z : State} {args a0 : Array Value} {h : Heap} {y : MethodName} {bytes : ByteArray} {maxL : Nat} {ret : Option FieldType} {rm : Room} {len W : Nat} {as' : Array Value} {Q : Option Value → Heap → List Loc → Prop}
    (hM : MetFree l y (head1 [Jvm.Cond.code y bytes maxL ret] rm) (fun a U => a = as' ∧ Z.Warmed39 U.vm ∧ U.heap = h ∧ own_R Z h U.vm) (fun _ _ _ _ _ => True) (fun _ U o U' => ∃ v L, o = .returned v ∧ (Q v U'.heap L ∧ own_R Z U'.heap U'.vm) ∧ ReturnedEndW U o U' L rm.cells rm.slots))
    (hZ : Z.Warmed39 s.vm) (wc : (Jvm.Cond.code y bytes maxL ret).before a0 Z = true) (wz : (Jvm.Cond.initialized y.cls).before a0 Z = true) (hf : rm.frames + 1 ≤ R.frames) (hl : W + (maxL + 11) + rm.locals ≤ R.locals) :
    BackS l R p e below s args y len W (fun A a => a = as' ∧ A.U.heap = h ∧ own_R Z h A.U.vm ∧ A.cells + rm.cells ≤ R.cells ∧ A.slots + rm.slots ≤ R.slots)
      (fun A _ v B => ∃ L, Q v B.U.heap L ∧ own_R Z B.U.heap B.U.vm ∧ B.locs = A.locs ++ L ∧ B.cells = A.cells + rm.cells ∧ B.slots = A.slots + rm.slots) :=
  BackS.of_freeW (bytes := bytes) (maxL := maxL) (ret := ret) (E := fun _ _ o t L k n => k = rm.cells ∧ n = rm.slots ∧ ∃ v, o = .returned v ∧ Q v t.heap L ∧ own_R Z t.heap t.vm) hM hf hl
    (fun m meth c A a Y hp => have hU : Z.Warmed39 A.U.vm := wtrans hZ Y.warmed
      ⟨by show (Jvm.Cond.and _ .tt).before a A.U = true; rw [Cond.before_and, mv hU wc]; rfl, mv hU wc, mv hU wz, hp.2.2.2.1, hp.2.2.2.2⟩)
    (fun m meth c A a g mk Y hp => ⟨hp.1, wtrans hZ Y.warmed, hp.2.1, hp.2.2.1⟩) (fun _ _ _ _ _ _ _ _ _ => trivial)
    (fun _ _ _ _ ⟨v, L, h1, h2, h3⟩ => ⟨L, _, _, h3, rfl, rfl, v, h1, h2⟩)
    (fun m meth c A a g mk v t L k n Y hp _ _ ⟨e1, e2, v', e3, e4⟩ => by cases e3; subst e1 e2; exact ⟨L, e4.1, e4.2, rfl, rfl, rfl⟩)
theorem own_ne_arr {Z : State} {h : Heap} {a b : Addr} {C : String} {a0 : Array Value} {n : Nat} {k : ClassId} {ty : FieldType} {z : Int32} {vs : List Value} {d : Value} (E : Exa Z h a C) (wi : (Jvm.Cond.instantiable C n).before a0 Z = true) (A : Arv Z h b k ty z vs d) : b ≠ a := by
  obtain ⟨c, G, -⟩ := A
  exact Ne.symm (ne_arr E wi G)
theorem own_k0 : (0 : Int32).toInt = 0 := rfl
theorem own_k1 : (1 : Int32).toInt = 1 := rfl
theorem own_k2 : (2 : Int32).toInt = 2 := rfl
theorem own_k3 : (3 : Int32).toInt = 3 := rfl
theorem own_k4 : (4 : Int32).toInt = 4 := rfl
theorem own_k5 : (5 : Int32).toInt = 5 := rfl
theorem own_k6 : (6 : Int32).toInt = 6 := rfl
theorem own_and3 (p : Int32) : (p &&& (3 : Int32)) = (0 : Int32) ∨ (p &&& (3 : Int32)) = (1 : Int32) ∨ (p &&& (3 : Int32)) = (2 : Int32) ∨ (p &&& (3 : Int32)) = (3 : Int32) := by
  have h1 := c_mask p 3 2 (by decide) (by decide)
  simp only [← Int32.toInt_inj, own_k0, own_k1, own_k2, own_k3]
  omega
def own_at (xs : List Int32) (j : Int32) : Int32 := xs.getD j.toNatClampNeg 0
theorem own_getD (xs : List Int32) (i : Nat) : (xs.map Value.int).getD i (.int 0) = .int (xs.getD i 0) := by
  induction xs generalizing i with
  | nil => rfl
  | cons a t ih => cases i with
    | zero => rfl
    | succ n => exact ih n
def own_gc (x y : Int32) : Int32 := nar .char ((((x &&& (255 : Int32)) <<< ((0 : Int32) &&& 31)) ||| ((y &&& (255 : Int32)) <<< ((8 : Int32) &&& 31))).toUInt32.toUInt16.toUInt32.toInt32)
theorem own_gc_gt (c : Int32) (h : (255 : Int32) < c) (hf : fits .char (.int c) = true) : (255 : Int32) < own_gc (((c >>> ((0 : Int32) &&& 31)).toInt8.toInt32).toInt8.toInt32) (((c >>> ((8 : Int32) &&& 31)).toInt8.toInt32).toInt8.toInt32) := by
  obtain ⟨f1, f2⟩ := rng_char hf
  have k0 : (0 : Int32).toInt = 0 := rfl
  have k255 : (255 : Int32).toInt = 255 := rfl
  have k65 : (65535 : Int32).toInt = 65535 := rfl
  rw [Int32.lt_iff_toInt_lt] at f1 f2 h ⊢
  have e : own_gc (((c >>> ((0 : Int32) &&& 31)).toInt8.toInt32).toInt8.toInt32) (((c >>> ((8 : Int32) &&& 31)).toInt8.toInt32).toInt8.toInt32) = (((((((((c >>> ((0 : Int32) &&& 31)).toInt8.toInt32).toInt8.toInt32) &&& (255 : Int32)) <<< ((0 : Int32) &&& 31)) ||| (((((c >>> ((8 : Int32) &&& 31)).toInt8.toInt32).toInt8.toInt32) &&& (255 : Int32)) <<< ((8 : Int32) &&& 31))).toUInt32.toUInt16.toUInt32.toInt32)).toUInt32.toUInt16.toUInt32.toInt32) := rfl
  rw [e]
  have a1 := c_ishr c 0 0 (by decide)
  have b1 := c_ishr c 8 8 (by decide)
  generalize c >>> ((0 : Int32) &&& 31) = A at *
  generalize c >>> ((8 : Int32) &&& 31) = B at *
  have a2 := c_i2b A
  have b2 := c_i2b B
  generalize A.toInt8.toInt32 = A1 at *
  generalize B.toInt8.toInt32 = B1 at *
  have a3 := c_i2b A1
  have b3 := c_i2b B1
  generalize A1.toInt8.toInt32 = A2 at *
  generalize B1.toInt8.toInt32 = B2 at *
  have a4 := c_mask A2 255 8 (by decide) (by decide)
  have b4 := c_mask B2 255 8 (by decide) (by decide)
  generalize A2 &&& 255 = A3 at *
  generalize B2 &&& 255 = B3 at *
  have a5 := c_ishl A3 0 0 (by decide)
  have b5 := c_ishl B3 8 8 (by decide)
  have ra := rng32 (A3 <<< ((0 : Int32) &&& 31))
  have rb := rng32 (B3 <<< ((8 : Int32) &&& 31))
  generalize A3 <<< ((0 : Int32) &&& 31) = A4 at *
  generalize B3 <<< ((8 : Int32) &&& 31) = B4 at *
  have o1 := c_or' A4 B4 8 (by decide) 256 rfl (by omega) (by omega) (by omega)
  have r1 := rng32 (A4 ||| B4)
  generalize A4 ||| B4 = D1 at *
  have d1 := c_i2c D1
  generalize D1.toUInt32.toUInt16.toUInt32.toInt32 = D2 at *
  have d2 := c_i2c D2
  omega
def own_min (p0 p1 : Int32) : Int32 := (if p1 < p0 then p1 else p0)
theorem own_min0 (p : Int32) : (own_min (p &&& (3 : Int32)) (0 : Int32)) = (0 : Int32) := by
  rcases own_and3 p with h | h | h | h <;> rw [h] <;> decide
theorem own_min1 (p : Int32) : (own_min (p &&& (3 : Int32)) (1 : Int32)) = (0 : Int32) ∨ (own_min (p &&& (3 : Int32)) (1 : Int32)) = (1 : Int32) := by
  rcases own_and3 p with h | h | h | h <;> rw [h] <;> decide
theorem own_min2 (p : Int32) : (own_min (p &&& (3 : Int32)) (2 : Int32)) = (0 : Int32) ∨ (own_min (p &&& (3 : Int32)) (2 : Int32)) = (1 : Int32) ∨ (own_min (p &&& (3 : Int32)) (2 : Int32)) = (2 : Int32) := by
  rcases own_and3 p with h | h | h | h <;> rw [h] <;> decide
theorem own_min3 (p : Int32) : (own_min (p &&& (3 : Int32)) (3 : Int32)) = (0 : Int32) ∨ (own_min (p &&& (3 : Int32)) (3 : Int32)) = (1 : Int32) ∨ (own_min (p &&& (3 : Int32)) (3 : Int32)) = (2 : Int32) ∨ (own_min (p &&& (3 : Int32)) (3 : Int32)) = (3 : Int32) := by
  rcases own_and3 p with h | h | h | h <;> rw [h] <;> decide
theorem own_eq_int {a : Term} {n : Int32} {args : Array Value} {s : State} (h : (Jvm.Cond.eq a (.int n)).value args s none s [] = some true) : a.eval args s none [] s = some (.int n) := by
  obtain ⟨x, y, e1, e2, -, k⟩ := cmp_v (Or.inl h)
  cases (Term.int_eval n).symm.trans e2
  obtain ⟨z, rfl⟩ := k
  have q := gotT (Cond.eq_ints e1 e2) h
  rw [e1, q]
theorem own_eq_ref {a b : Term} {y : Addr} {args : Array Value} {s : State} (h : (Jvm.Cond.eq a b).value args s none s [] = some true) (hb : b.eval args s none [] s = some (.ref y)) : a.eval args s none [] s = some (.ref y) := by
  obtain ⟨x, y', e1, e2, -, k⟩ := cmp_v (Or.inl h)
  cases hb.symm.trans e2
  have q := gotT (eq_R e1 e2 k.2 rfl) h
  rw [e1, q]
theorem d18_0 : decode jdk_52_method_5_code 0 = .ok (.getstatic 44, 3) := by decide +kernel
theorem d18_3 : decode jdk_52_method_5_code 3 = .ok (.ifCond .ne 25, 3) := by decide +kernel
theorem d18_28 : decode jdk_52_method_5_code 28 = .ok (.iload_n 1, 1) := by decide +kernel
theorem d18_29 : decode jdk_52_method_5_code 29 = .ok (.iconst 1, 1) := by decide +kernel
theorem d18_30 : decode jdk_52_method_5_code 30 = .ok (.ishl, 1) := by decide +kernel
theorem d18_31 : decode jdk_52_method_5_code 31 = .ok (.istore_n 1, 1) := by decide +kernel
theorem d18_32 : decode jdk_52_method_5_code 32 = .ok (.aload_n 0, 1) := by decide +kernel
theorem d18_33 : decode jdk_52_method_5_code 33 = .ok (.iload_n 1, 1) := by decide +kernel
theorem d18_34 : decode jdk_52_method_5_code 34 = .ok (.iinc 1 1, 3) := by decide +kernel
theorem d18_37 : decode jdk_52_method_5_code 37 = .ok (.baload, 1) := by decide +kernel
theorem d18_38 : decode jdk_52_method_5_code 38 = .ok (.sipush 255, 3) := by decide +kernel
theorem d18_41 : decode jdk_52_method_5_code 41 = .ok (.iand, 1) := by decide +kernel
theorem d18_42 : decode jdk_52_method_5_code 42 = .ok (.getstatic 59, 3) := by decide +kernel
theorem d18_45 : decode jdk_52_method_5_code 45 = .ok (.ishl, 1) := by decide +kernel
theorem d18_46 : decode jdk_52_method_5_code 46 = .ok (.aload_n 0, 1) := by decide +kernel
theorem d18_47 : decode jdk_52_method_5_code 47 = .ok (.iload_n 1, 1) := by decide +kernel
theorem d18_48 : decode jdk_52_method_5_code 48 = .ok (.baload, 1) := by decide +kernel
theorem d18_49 : decode jdk_52_method_5_code 49 = .ok (.sipush 255, 3) := by decide +kernel
theorem d18_52 : decode jdk_52_method_5_code 52 = .ok (.iand, 1) := by decide +kernel
theorem d18_53 : decode jdk_52_method_5_code 53 = .ok (.getstatic 63, 3) := by decide +kernel
theorem d18_56 : decode jdk_52_method_5_code 56 = .ok (.ishl, 1) := by decide +kernel
theorem d18_57 : decode jdk_52_method_5_code 57 = .ok (.ior, 1) := by decide +kernel
theorem d18_58 : decode jdk_52_method_5_code 58 = .ok (.i2c, 1) := by decide +kernel
theorem d18_59 : decode jdk_52_method_5_code 59 = .ok (.ireturn, 1) := by decide +kernel
theorem pn_18 : plainName "java/lang/StringUTF16" = true := by first | (simp [plainName, overriddenIn]; done) | decide +kernel
theorem ef_rmug (m : MethodId) (p0 : Addr) (p1 : Int32) : entryFrame m #[(.ref p0), (.int p1)] 2 = mkF m 0 #[.val (.ref p0), .val (.int p1)] [] := by first | (simp [entryFrame, mkF, argsToLocals, Value.category]; done) | rfl
def Qug (Z : State) (p0 : Addr) (p1 : Int32) (kb : ClassId) (nn : Int32) (xs : List Int32) (h0 : Heap) (n0 : Nat) (v : Option Value) (h : Heap) (L : List Loc) : Prop := v = some (.int (own_gc (own_at xs (p1 <<< ((1 : Int32) &&& 31))) (own_at xs ((p1 <<< ((1 : Int32) &&& 31)) + (1 : Int32))))) ∧ Fr n0 L ∧ h = h0
set_option maxRecDepth 65536 in
set_option maxHeartbeats 40000000 in
theorem rmug (l : Launch) (Z : State) (a0 : Array Value) (hw : ∀ d ∈ tables_1, d.before a0 Z = true) (ws : List Jvm.Cond) (p0 : Addr) (p1 : Int32) (kb : ClassId) (nn : Int32) (xs : List Int32) (h0 : Heap) (n0 : Nat) (O0 : Old Z n0 h0) (F0_ : Arv Z h0 p0 kb .byte nn (xs.map Value.int) (.int 0)) (F1_ : Sta Z Z.heap "java/lang/StringUTF16" "$assertionsDisabled" "Z" (.int 1)) (F2_ : Sta Z Z.heap "java/lang/StringUTF16" "HI_BYTE_SHIFT" "I" (.int 0)) (F3_ : Sta Z Z.heap "java/lang/StringUTF16" "LO_BYTE_SHIFT" "I" (.int 8)) (h3 : ¬ (p1 <<< ((1 : Int32) &&& 31)) < (0 : Int32) ∧ (p1 <<< ((1 : Int32) &&& 31)) < nn) (h4 : ¬ ((p1 <<< ((1 : Int32) &&& 31)) + (1 : Int32)) < (0 : Int32) ∧ ((p1 <<< ((1 : Int32) &&& 31)) + (1 : Int32)) < nn) :
    MetFree l nm0 (head1 (Jvm.Cond.code nm0 jdk_52_method_5_code 2 (some .char) :: ws) ({ frames := 0, cells := 0, slots := 0, locals := 0 } : Room)) (fun a U => a = #[(.ref p0), (.int p1)] ∧ Z.Warmed39 U.vm ∧ U.heap = h0) (fun _ _ _ _ _ => True) (fun _ U o U' => ∃ v L, o = .returned v ∧ Qug Z p0 p1 kb nn xs h0 n0 v U'.heap L ∧ FrameEnd U o U' L ({ frames := 0, cells := 0, slots := 0, locals := 0 } : Room).cells ({ frames := 0, cells := 0, slots := 0, locals := 0 } : Room).slots) := by
  refine MetFree.of_bodySF (plainFor_of_name pn_18) hisR ?_
  intro p e s m args below meth c s₁ Bd hml0 hP hK
  obtain ⟨rfl, hZ, hh⟩ := hP
  have hx := Bd.exec
  have hby := Bd.bytes
  have hml : c.maxLocals = 2 := hml0
  have hown : s.vm.findClass "java/lang/StringUTF16" = some m.cls := findClass_of_methodNamed Bd.named
  have X0 : Stand p l e ({ frames := 0, cells := 0, slots := 0, locals := 0 } : Room) s m #[(.ref p0), (.int p1)] below meth c s₁ [] 0 0 := Stand.of_body Bd
  have e0 : s₁.heap = h0 := by rw [← hh, Bd.state]; rfl
  have N0 := Fr.nil n0
  have s0 : Steps p.tables e below (s₁.setTop (entryFrame m #[(.ref p0), (.int p1)] 2)) (s₁.setTop (mkF m 0 #[.val (.ref p0), .val (.int p1)] [])) := castTop (ef_rmug m p0 p1) (Steps.refl _)
  obtain ⟨A₀, hA₀⟩ : ∃ z, z = (s₁.setTop (entryFrame m #[(.ref p0), (.int p1)] 2)) := ⟨_, rfl⟩
  rw [← hA₀] at s0
  obtain ⟨T1, X1, e1, st1⟩ := getS2 X0 hx hZ hown (host := "") (Or.inl (wq hw 88 rfl)) Via.refl e0 (F1_.ext O0.2) (g := (mkF m 0 #[.val (.ref p0), .val (.int p1)] [])) rfl (hb hby d18_0)
  obtain ⟨cla2, Ara2, qa2, Sa2, Za2, Ha2, Ga2⟩ := id F0_
  have hin3 : ¬ ((p1 <<< ((1 : Int32) &&& 31)) < 0 ∨ cla2.slots.size ≤ ((p1 <<< ((1 : Int32) &&& 31))).toNatClampNeg) := inb_of Sa2 h3
  have hat4 : cla2.slots[((p1 <<< ((1 : Int32) &&& 31))).toNatClampNeg]? = some (.int (own_at xs (p1 <<< ((1 : Int32) &&& 31)))) := Has.at Ha2 hin3 (own_getD xs _)
  obtain ⟨T5, X5, e5, st5⟩ := getS2 X1 hx hZ hown (host := "") (Or.inl (wq hw 89 rfl)) Via.refl e1 (F2_.ext O0.2) (g := (mkF m 42 #[.val (.ref p0), .val (.int ((p1 <<< ((1 : Int32) &&& 31)) + (1 : Int32)))] [(.int ((own_at xs (p1 <<< ((1 : Int32) &&& 31))) &&& (255 : Int32)))])) rfl (hb hby d18_42)
  have hin6 : ¬ (((p1 <<< ((1 : Int32) &&& 31)) + (1 : Int32)) < 0 ∨ cla2.slots.size ≤ (((p1 <<< ((1 : Int32) &&& 31)) + (1 : Int32))).toNatClampNeg) := inb_of Sa2 h4
  have hat7 : cla2.slots[(((p1 <<< ((1 : Int32) &&& 31)) + (1 : Int32))).toNatClampNeg]? = some (.int (own_at xs ((p1 <<< ((1 : Int32) &&& 31)) + (1 : Int32)))) := Has.at Ha2 hin6 (own_getD xs _)
  obtain ⟨T8, X8, e8, st8⟩ := getS2 X5 hx hZ hown (host := "") (Or.inl (wq hw 90 rfl)) Via.refl e5 (F3_.ext O0.2) (g := (mkF m 53 #[.val (.ref p0), .val (.int ((p1 <<< ((1 : Int32) &&& 31)) + (1 : Int32)))] [(.int ((own_at xs ((p1 <<< ((1 : Int32) &&& 31)) + (1 : Int32))) &&& (255 : Int32))), (.int (((own_at xs (p1 <<< ((1 : Int32) &&& 31))) &&& (255 : Int32)) <<< ((0 : Int32) &&& 31)))])) rfl (hb hby d18_53)
  have s9 : Steps p.tables e below A₀ (T8.setTop (mkF m 59 #[.val (.ref p0), .val (.int ((p1 <<< ((1 : Int32) &&& 31)) + (1 : Int32)))] [(.int (((((own_at xs (p1 <<< ((1 : Int32) &&& 31))) &&& (255 : Int32)) <<< ((0 : Int32) &&& 31)) ||| (((own_at xs ((p1 <<< ((1 : Int32) &&& 31)) + (1 : Int32))) &&& (255 : Int32)) <<< ((8 : Int32) &&& 31))).toUInt32.toUInt16.toUInt32.toInt32))])) := by
    refine s0.trans ?_
    refine st1 _ ?_
    refine XS.ifYes X1.here hx rfl (pc0 := 3) (pc' := 28) rfl (hb hby d18_3) rfl ((if0 _ _).trans (feq (by decide)).2) (by decide) (by decide) ?_
    refine XS.iloadN X1.here hx rfl (hb hby d18_28) rfl ?_
    refine XS.iconst X1.here hx rfl (hb hby d18_29) ?_
    refine XS.ishl X1.here hx rfl (hb hby d18_30) rfl ?_
    refine XS.istoreN X1.here hx rfl (hb hby d18_31) rfl (l' := #[.val (.ref p0), .val (.int (p1 <<< ((1 : Int32) &&& 31)))]) rfl ?_
    refine XS.aloadN X1.here hx rfl (hb hby d18_32) rfl rfl ?_
    refine XS.iloadN X1.here hx rfl (hb hby d18_33) rfl ?_
    show Steps p.tables e below (T1.setTop (mkF m 34 #[.val (.ref p0), .val (.int (p1 <<< ((1 : Int32) &&& 31)))] [(.int (p1 <<< ((1 : Int32) &&& 31))), (.ref p0)])) _
    refine XS.iinc X1.here hx rfl (hb hby d18_34) rfl (l' := #[.val (.ref p0), .val (.int ((p1 <<< ((1 : Int32) &&& 31)) + (1 : Int32)))]) rfl ?_
    refine X1.baloadBytes hx (j := (p1 <<< ((1 : Int32) &&& 31))) (v := (.int (own_at xs (p1 <<< ((1 : Int32) &&& 31))))) (by rw [e1]; exact Ara2.1) (State.isArrayOf_alike hZ.alike Ara2.2.1) Ara2.2.2 hin3 hat4 (g := (mkF m 37 #[.val (.ref p0), .val (.int ((p1 <<< ((1 : Int32) &&& 31)) + (1 : Int32)))] [(.int (p1 <<< ((1 : Int32) &&& 31))), (.ref p0)])) rfl rfl (hb hby d18_37) _ ?_
    refine XS.sipush X1.here hx rfl (hb hby d18_38) ?_
    refine XS.iand X1.here hx rfl (hb hby d18_41) rfl ?_
    refine st5 _ ?_
    refine XS.ishl X5.here hx rfl (hb hby d18_45) rfl ?_
    refine XS.aloadN X5.here hx rfl (hb hby d18_46) rfl rfl ?_
    refine XS.iloadN X5.here hx rfl (hb hby d18_47) rfl ?_
    refine X5.baloadBytes hx (j := ((p1 <<< ((1 : Int32) &&& 31)) + (1 : Int32))) (v := (.int (own_at xs ((p1 <<< ((1 : Int32) &&& 31)) + (1 : Int32))))) (by rw [e5]; exact Ara2.1) (State.isArrayOf_alike hZ.alike Ara2.2.1) Ara2.2.2 hin6 hat7 (g := (mkF m 48 #[.val (.ref p0), .val (.int ((p1 <<< ((1 : Int32) &&& 31)) + (1 : Int32)))] [(.int ((p1 <<< ((1 : Int32) &&& 31)) + (1 : Int32))), (.ref p0), (.int (((own_at xs (p1 <<< ((1 : Int32) &&& 31))) &&& (255 : Int32)) <<< ((0 : Int32) &&& 31)))])) rfl rfl (hb hby d18_48) _ ?_
    refine XS.sipush X5.here hx rfl (hb hby d18_49) ?_
    show Steps p.tables e below (T5.setTop (mkF m 52 #[.val (.ref p0), .val (.int ((p1 <<< ((1 : Int32) &&& 31)) + (1 : Int32)))] [(.int 255), (.int (own_at xs ((p1 <<< ((1 : Int32) &&& 31)) + (1 : Int32)))), (.int (((own_at xs (p1 <<< ((1 : Int32) &&& 31))) &&& (255 : Int32)) <<< ((0 : Int32) &&& 31)))])) _
    refine XS.iand X5.here hx rfl (hb hby d18_52) rfl ?_
    refine st8 _ ?_
    refine XS.ishl X8.here hx rfl (hb hby d18_56) rfl ?_
    refine XS.ior X8.here hx rfl (hb hby d18_57) rfl ?_
    refine XS.i2c X8.here hx rfl (hb hby d18_58) rfl ?_
    exact Steps.refl _
  subst hA₀
  obtain ⟨fs, hr, hrun, hended, hW, hsame⟩ := X8.leave (v := some (.int (nar .char (((((own_at xs (p1 <<< ((1 : Int32) &&& 31))) &&& (255 : Int32)) <<< ((0 : Int32) &&& 31)) ||| (((own_at xs ((p1 <<< ((1 : Int32) &&& 31)) + (1 : Int32))) &&& (255 : Int32)) <<< ((8 : Int32) &&& 31))).toUInt32.toUInt16.toUInt32.toInt32)))) (fun h => by rw [Bd.returns] at h; cases h)
  refine ⟨_, _, s9.trans ?_, hrun, hended, _, _, rfl, ?_, ⟨_, rfl⟩, hW, hsame.mono (by decide) (by decide)⟩
  · show Steps p.tables e below (T8.setTop (mkF m 59 #[.val (.ref p0), .val (.int ((p1 <<< ((1 : Int32) &&& 31)) + (1 : Int32)))] [(.int (((((own_at xs (p1 <<< ((1 : Int32) &&& 31))) &&& (255 : Int32)) <<< ((0 : Int32) &&& 31)) ||| (((own_at xs ((p1 <<< ((1 : Int32) &&& 31)) + (1 : Int32))) &&& (255 : Int32)) <<< ((8 : Int32) &&& 31))).toUInt32.toUInt16.toUInt32.toInt32))])) _
    exact retN X8 hx (t := .char) Bd.returns (by simp) (hb hby d18_59) hr
  · show Qug Z p0 p1 kb nn xs h0 n0 _ T8.heap _
    rw [e8]
    exact ⟨rfl, N0, rfl⟩
theorem d16_0 : decode jdk_52_method_3_code 0 = .ok (.iload_n 0, 1) := by decide +kernel
theorem d16_1 : decode jdk_52_method_3_code 1 = .ok (.ifCond .ge 11, 3) := by decide +kernel
theorem d16_12 : decode jdk_52_method_3_code 12 = .ok (.iload_n 0, 1) := by decide +kernel
theorem d16_13 : decode jdk_52_method_3_code 13 = .ok (.ldc 20, 2) := by decide +kernel
theorem d16_15 : decode jdk_52_method_3_code 15 = .ok (.if_icmp .lt 40, 3) := by decide +kernel
theorem d16_55 : decode jdk_52_method_3_code 55 = .ok (.iload_n 0, 1) := by decide +kernel
theorem d16_56 : decode jdk_52_method_3_code 56 = .ok (.iconst 1, 1) := by decide +kernel
theorem d16_57 : decode jdk_52_method_3_code 57 = .ok (.ishl, 1) := by decide +kernel
theorem d16_58 : decode jdk_52_method_3_code 58 = .ok (.ireturn, 1) := by decide +kernel
theorem ef_rmnl1 (m : MethodId)  : entryFrame m #[(.int 1)] 1 = mkF m 0 #[.val (.int 1)] [] := by first | (simp [entryFrame, mkF, argsToLocals, Value.category]; done) | rfl
def Qnl1 (Z : State)  (h0 : Heap) (n0 : Nat) (v : Option Value) (h : Heap) (L : List Loc) : Prop := v = some (.int 2) ∧ Fr n0 L ∧ h = h0
set_option maxRecDepth 65536 in
set_option maxHeartbeats 40000000 in
theorem rmnl1 (l : Launch) (Z : State) (a0 : Array Value) (hw : ∀ d ∈ tables_1, d.before a0 Z = true) (ws : List Jvm.Cond)  (h0 : Heap) (n0 : Nat) (O0 : Old Z n0 h0) :
    MetFree l nm1 (head1 (Jvm.Cond.code nm1 jdk_52_method_3_code 1 (some .int) :: ws) ({ frames := 0, cells := 0, slots := 0, locals := 0 } : Room)) (fun a U => a = #[(.int 1)] ∧ Z.Warmed39 U.vm ∧ U.heap = h0) (fun _ _ _ _ _ => True) (fun _ U o U' => ∃ v L, o = .returned v ∧ Qnl1 Z  h0 n0 v U'.heap L ∧ FrameEnd U o U' L ({ frames := 0, cells := 0, slots := 0, locals := 0 } : Room).cells ({ frames := 0, cells := 0, slots := 0, locals := 0 } : Room).slots) := by
  refine MetFree.of_bodySF (plainFor_of_name pn_18) hisR ?_
  intro p e s m args below meth c s₁ Bd hml0 hP hK
  obtain ⟨rfl, hZ, hh⟩ := hP
  have hx := Bd.exec
  have hby := Bd.bytes
  have hml : c.maxLocals = 1 := hml0
  have hown : s.vm.findClass "java/lang/StringUTF16" = some m.cls := findClass_of_methodNamed Bd.named
  have X0 : Stand p l e ({ frames := 0, cells := 0, slots := 0, locals := 0 } : Room) s m #[(.int 1)] below meth c s₁ [] 0 0 := Stand.of_body Bd
  have e0 : s₁.heap = h0 := by rw [← hh, Bd.state]; rfl
  have N0 := Fr.nil n0
  have s0 : Steps p.tables e below (s₁.setTop (entryFrame m #[(.int 1)] 1)) (s₁.setTop (mkF m 0 #[.val (.int 1)] [])) := castTop (ef_rmnl1 m ) (Steps.refl _)
  obtain ⟨A₀, hA₀⟩ : ∃ z, z = (s₁.setTop (entryFrame m #[(.int 1)] 1)) := ⟨_, rfl⟩
  rw [← hA₀] at s0
  have s1 : Steps p.tables e below A₀ (s₁.setTop (mkF m 58 #[.val (.int 1)] [(.int 2)])) := by
    refine s0.trans ?_
    refine XS.iloadN X0.here hx rfl (hb hby d16_0) rfl ?_
    refine XS.ifYes X0.here hx rfl (pc0 := 1) (pc' := 12) rfl (hb hby d16_1) rfl ((if0 _ _).trans (flt (by decide)).2.1) (by decide) (by decide) ?_
    refine XS.iloadN X0.here hx rfl (hb hby d16_12) rfl ?_
    refine X0.ldcInt hx hown (mvT hZ (wq hw 84 rfl)) (g := (mkF m 13 #[.val (.int 1)] [(.int 1)])) rfl (hb hby d16_13) _ ?_
    refine XS.icmpYes X0.here hx rfl (pc0 := 15) (pc' := 55) rfl (hb hby d16_15) rfl (tlt (by decide)).1 (by decide) (by decide) ?_
    refine XS.iloadN X0.here hx rfl (hb hby d16_55) rfl ?_
    refine XS.iconst X0.here hx rfl (hb hby d16_56) ?_
    refine XS.ishl X0.here hx rfl (hb hby d16_57) rfl ?_
    exact Steps.refl _
  subst hA₀
  obtain ⟨fs, hr, hrun, hended, hW, hsame⟩ := X0.leave (v := some (.int 2)) (fun h => by rw [Bd.returns] at h; cases h)
  refine ⟨_, _, s1.trans ?_, hrun, hended, _, _, rfl, ?_, ⟨_, rfl⟩, hW, hsame.mono (by decide) (by decide)⟩
  · show Steps p.tables e below (s₁.setTop (mkF m 58 #[.val (.int 1)] [(.int 2)])) _
    exact retI X0 hx Bd.returns (hb hby d16_58) hr
  · show Qnl1 Z  h0 n0 _ s₁.heap _
    rw [e0]
    exact ⟨rfl, N0, rfl⟩
theorem d15_0 : decode jdk_52_method_2_code 0 = .ok (.iload_n 0, 1) := by decide +kernel
theorem d15_1 : decode jdk_52_method_2_code 1 = .ok (.invokestatic 11, 3) := by decide +kernel
theorem d15_4 : decode jdk_52_method_2_code 4 = .ok (.newarray .byte, 2) := by decide +kernel
theorem d15_6 : decode jdk_52_method_2_code 6 = .ok (.areturn, 1) := by decide +kernel
theorem pd_rmnf1_0 : parseMethodDescriptor "(I)I" = some ⟨[.int], some .int⟩ := by decide +kernel
theorem ef_rmnf1 (m : MethodId)  : entryFrame m #[(.int 1)] 1 = mkF m 0 #[.val (.int 1)] [] := by first | (simp [entryFrame, mkF, argsToLocals, Value.category]; done) | rfl
def Qnf1 (Z : State)  (h0 : Heap) (n0 : Nat) (v : Option Value) (h : Heap) (L : List Loc) : Prop := ∃ b : Addr, ∃ kb : ClassId, v = some (.ref b) ∧ Fr n0 L ∧ Keep h0 h [] ∧ (Arv Z h b kb .byte 2 [(.int 0), (.int 0)] (.int 0)) ∧ (h0.size ≤ b)
set_option maxRecDepth 65536 in
set_option maxHeartbeats 40000000 in
theorem rmnf1 (l : Launch) (Z : State) (a0 : Array Value) (hw : ∀ d ∈ tables_1, d.before a0 Z = true) (ws : List Jvm.Cond)  (h0 : Heap) (n0 : Nat) (O0 : Old Z n0 h0) :
    MetFree l nm2 (head1 (Jvm.Cond.code nm2 jdk_52_method_2_code 1 (some (.array .byte)) :: ws) ({ frames := 1, cells := 1, slots := 2, locals := 12 } : Room)) (fun a U => a = #[(.int 1)] ∧ Z.Warmed39 U.vm ∧ U.heap = h0) (fun _ _ _ _ _ => True) (fun _ U o U' => ∃ v L, o = .returned v ∧ Qnf1 Z  h0 n0 v U'.heap L ∧ FrameEnd U o U' L ({ frames := 1, cells := 1, slots := 2, locals := 12 } : Room).cells ({ frames := 1, cells := 1, slots := 2, locals := 12 } : Room).slots) := by
  refine MetFree.of_bodySF (plainFor_of_name pn_18) hisR ?_
  intro p e s m args below meth c s₁ Bd hml0 hP hK
  obtain ⟨rfl, hZ, hh⟩ := hP
  have hx := Bd.exec
  have hby := Bd.bytes
  have hml : c.maxLocals = 1 := hml0
  have hown : s.vm.findClass "java/lang/StringUTF16" = some m.cls := findClass_of_methodNamed Bd.named
  have X0 : Stand p l e ({ frames := 1, cells := 1, slots := 2, locals := 12 } : Room) s m #[(.int 1)] below meth c s₁ [] 0 0 := Stand.of_body Bd
  have e0 : s₁.heap = h0 := by rw [← hh, Bd.state]; rfl
  have N0 := Fr.nil n0
  have s0 : Steps p.tables e below (s₁.setTop (entryFrame m #[(.int 1)] 1)) (s₁.setTop (mkF m 0 #[.val (.int 1)] [])) := castTop (ef_rmnf1 m ) (Steps.refl _)
  obtain ⟨A₀, hA₀⟩ : ∃ z, z = (s₁.setTop (entryFrame m #[(.int 1)] 1)) := ⟨_, rfl⟩
  rw [← hA₀] at s0
  obtain ⟨T1, L1, X1, e1, N1, st1⟩ := own_callP X0 hx hZ hown (wk81 hw) (wk82 hw) (wk21 hw) (wk83 hw) (by decide) (rmnl1 l Z a0 hw []  h0 n0 O0 ) e0 N0 (W := 0) (by decide) (by decide) (by decide) (by decide) (g := (mkF m 1 #[.val (.int 1)] [(.int 1)])) rfl (by rw [hml]; rfl) (argsL := [(.int 1)]) (rest := []) (lenOf pd_rmnf1_0 rfl) rfl (by exact Nat.le_refl _) (hb hby d15_1)
  obtain ⟨T2, h2, k2, X2, e2, E2, A2, st2⟩ := newP X1 hx hZ (wq hw 23 rfl) e1 (g := (mkF m 4 #[.val (.int 1)] [(.int 2)])) rfl (hb hby d15_4) rfl (by decide) (cap := 2) (by decide) (by decide) (by decide) (by decide)
  obtain ⟨b2, g2⟩ : ∃ z, z = h0.size := ⟨_, rfl⟩
  rw [← g2] at A2 st2
  have g_b2 : n0 ≤ b2 := Nat.le_trans (Nat.le_of_eq O0.1.symm) (Nat.le_trans O0.2.1 (Nat.le_of_eq g2.symm))
  have sz_b2 : h0.size ≤ b2 := Nat.le_trans (Keep.refl h0 []).1 (Nat.le_of_eq g2.symm)
  have O2 := O0.ext E2
  have K2 : Keep h0 h2 [] := (Keep.refl h0 []).ext E2
  have V2 : Arv Z h2 b2 k2 .byte 2 [(.int 0), (.int 0)] (.int 0) := (Arv.new A2 (by decide)).pad (pad_rep [] (.int 0) 2)
  have s3 : Steps p.tables e below A₀ (T2.setTop (mkF m 6 #[.val (.int 1)] [(.ref b2)])) := by
    refine s0.trans ?_
    refine XS.iloadN X0.here hx rfl (hb hby d15_0) rfl ?_
    refine st1 _ ?_
    refine st2 _ ?_
    exact Steps.refl _
  subst hA₀
  obtain ⟨fs, hr, hrun, hended, hW, hsame⟩ := X2.leave (v := some (.ref b2)) (fun h => by rw [Bd.returns] at h; cases h)
  refine ⟨_, _, s3.trans ?_, hrun, hended, _, _, rfl, ?_, ⟨_, rfl⟩, hW, hsame.mono (by decide) (by decide)⟩
  · show Steps p.tables e below (T2.setTop (mkF m 6 #[.val (.int 1)] [(.ref b2)])) _
    jvm_step X2.here [X2.here.top, hx, (hb hby d15_6), X2.method', Bd.returns, Value.isRef, FieldType.isReference]
    first | (intro acts; rw [hr _ acts rfl rfl rfl]) | rw [hr _ _ rfl rfl rfl]
    exact Steps.refl _
  · show Qnf1 Z  h0 n0 _ T2.heap _
    rw [e2]
    exact ⟨b2, k2, rfl, N1, K2, V2, sz_b2⟩
theorem d17_0 : decode jdk_52_method_4_code 0 = .ok (.getstatic 44, 3) := by decide +kernel
theorem d17_3 : decode jdk_52_method_4_code 3 = .ok (.ifCond .ne 25, 3) := by decide +kernel
theorem d17_28 : decode jdk_52_method_4_code 28 = .ok (.iload_n 1, 1) := by decide +kernel
theorem d17_29 : decode jdk_52_method_4_code 29 = .ok (.iconst 1, 1) := by decide +kernel
theorem d17_30 : decode jdk_52_method_4_code 30 = .ok (.ishl, 1) := by decide +kernel
theorem d17_31 : decode jdk_52_method_4_code 31 = .ok (.istore_n 1, 1) := by decide +kernel
theorem d17_32 : decode jdk_52_method_4_code 32 = .ok (.aload_n 0, 1) := by decide +kernel
theorem d17_33 : decode jdk_52_method_4_code 33 = .ok (.iload_n 1, 1) := by decide +kernel
theorem d17_34 : decode jdk_52_method_4_code 34 = .ok (.iinc 1 1, 3) := by decide +kernel
theorem d17_37 : decode jdk_52_method_4_code 37 = .ok (.iload_n 2, 1) := by decide +kernel
theorem d17_38 : decode jdk_52_method_4_code 38 = .ok (.getstatic 59, 3) := by decide +kernel
theorem d17_41 : decode jdk_52_method_4_code 41 = .ok (.ishr, 1) := by decide +kernel
theorem d17_42 : decode jdk_52_method_4_code 42 = .ok (.i2b, 1) := by decide +kernel
theorem d17_43 : decode jdk_52_method_4_code 43 = .ok (.bastore, 1) := by decide +kernel
theorem d17_44 : decode jdk_52_method_4_code 44 = .ok (.aload_n 0, 1) := by decide +kernel
theorem d17_45 : decode jdk_52_method_4_code 45 = .ok (.iload_n 1, 1) := by decide +kernel
theorem d17_46 : decode jdk_52_method_4_code 46 = .ok (.iload_n 2, 1) := by decide +kernel
theorem d17_47 : decode jdk_52_method_4_code 47 = .ok (.getstatic 63, 3) := by decide +kernel
theorem d17_50 : decode jdk_52_method_4_code 50 = .ok (.ishr, 1) := by decide +kernel
theorem d17_51 : decode jdk_52_method_4_code 51 = .ok (.i2b, 1) := by decide +kernel
theorem d17_52 : decode jdk_52_method_4_code 52 = .ok (.bastore, 1) := by decide +kernel
theorem d17_53 : decode jdk_52_method_4_code 53 = .ok (.return_, 1) := by decide +kernel
theorem ef_rmpc1_0 (m : MethodId) (p0 : Addr) (p2 : Int32) : entryFrame m #[(.ref p0), (.int 0), (.int p2)] 3 = mkF m 0 #[.val (.ref p0), .val (.int 0), .val (.int p2)] [] := by first | (simp [entryFrame, mkF, argsToLocals, Value.category]; done) | rfl
def Qpc1_0 (Z : State) (p0 : Addr) (p2 : Int32) (kb : ClassId) (x0 : Int32) (x1 : Int32) (h0 : Heap) (n0 : Nat) (v : Option Value) (h : Heap) (L : List Loc) : Prop := v = none ∧ Fr n0 L ∧ Keep h0 h [p0] ∧ (Arv Z h p0 kb .byte 2 [(.int (((p2 >>> ((0 : Int32) &&& 31)).toInt8.toInt32).toInt8.toInt32)), (.int (((p2 >>> ((8 : Int32) &&& 31)).toInt8.toInt32).toInt8.toInt32))] (.int 0))
set_option maxRecDepth 65536 in
set_option maxHeartbeats 40000000 in
theorem rmpc1_0 (l : Launch) (Z : State) (a0 : Array Value) (hw : ∀ d ∈ tables_1, d.before a0 Z = true) (ws : List Jvm.Cond) (p0 : Addr) (p2 : Int32) (kb : ClassId) (x0 : Int32) (x1 : Int32) (h0 : Heap) (n0 : Nat) (O0 : Old Z n0 h0) (F0_ : Arv Z h0 p0 kb .byte 2 [(.int x0), (.int x1)] (.int 0)) (F1_ : n0 ≤ p0) (F2_ : Sta Z Z.heap "java/lang/StringUTF16" "$assertionsDisabled" "Z" (.int 1)) (F3_ : Sta Z Z.heap "java/lang/StringUTF16" "HI_BYTE_SHIFT" "I" (.int 0)) (F4_ : Sta Z Z.heap "java/lang/StringUTF16" "LO_BYTE_SHIFT" "I" (.int 8)) :
    MetFree l nm3 (head1 (Jvm.Cond.code nm3 jdk_52_method_4_code 3 none :: ws) ({ frames := 0, cells := 0, slots := 0, locals := 0 } : Room)) (fun a U => a = #[(.ref p0), (.int 0), (.int p2)] ∧ Z.Warmed39 U.vm ∧ U.heap = h0) (fun _ _ _ _ _ => True) (fun _ U o U' => ∃ v L, o = .returned v ∧ Qpc1_0 Z p0 p2 kb x0 x1 h0 n0 v U'.heap L ∧ FrameEnd U o U' L ({ frames := 0, cells := 0, slots := 0, locals := 0 } : Room).cells ({ frames := 0, cells := 0, slots := 0, locals := 0 } : Room).slots) := by
  refine MetFree.of_bodySF (plainFor_of_name pn_18) hisR ?_
  intro p e s m args below meth c s₁ Bd hml0 hP hK
  obtain ⟨rfl, hZ, hh⟩ := hP
  have hx := Bd.exec
  have hby := Bd.bytes
  have hml : c.maxLocals = 3 := hml0
  have hown : s.vm.findClass "java/lang/StringUTF16" = some m.cls := findClass_of_methodNamed Bd.named
  have X0 : Stand p l e ({ frames := 0, cells := 0, slots := 0, locals := 0 } : Room) s m #[(.ref p0), (.int 0), (.int p2)] below meth c s₁ [] 0 0 := Stand.of_body Bd
  have e0 : s₁.heap = h0 := by rw [← hh, Bd.state]; rfl
  have N0 := Fr.nil n0
  have s0 : Steps p.tables e below (s₁.setTop (entryFrame m #[(.ref p0), (.int 0), (.int p2)] 3)) (s₁.setTop (mkF m 0 #[.val (.ref p0), .val (.int 0), .val (.int p2)] [])) := castTop (ef_rmpc1_0 m p0 p2) (Steps.refl _)
  obtain ⟨A₀, hA₀⟩ : ∃ z, z = (s₁.setTop (entryFrame m #[(.ref p0), (.int 0), (.int p2)] 3)) := ⟨_, rfl⟩
  rw [← hA₀] at s0
  obtain ⟨T1, X1, e1, st1⟩ := getS2 X0 hx hZ hown (host := "") (Or.inl (wq hw 88 rfl)) Via.refl e0 (F2_.ext O0.2) (g := (mkF m 0 #[.val (.ref p0), .val (.int 0), .val (.int p2)] [])) rfl (hb hby d17_0)
  obtain ⟨T2, X2, e2, st2⟩ := getS2 X1 hx hZ hown (host := "") (Or.inl (wq hw 89 rfl)) Via.refl e1 (F3_.ext O0.2) (g := (mkF m 38 #[.val (.ref p0), .val (.int 1), .val (.int p2)] [(.int p2), (.int 0), (.ref p0)])) rfl (hb hby d17_38)
  obtain ⟨cla3, Ara3, qa3, Sa3, Za3, Ha3, Ga3⟩ := id F0_
  have hin4 : ¬ ((0 : Int32) < 0 ∨ cla3.slots.size ≤ ((0 : Int32)).toNatClampNeg) := inb_of Sa3 ⟨by decide, by decide⟩
  obtain ⟨T5, h5, X5, e5, W5, st5⟩ := stB X2 hx hZ e2 Ara3 (j := (0 : Int32)) hin4 (g := (mkF m 43 #[.val (.ref p0), .val (.int 1), .val (.int p2)] [(.int ((p2 >>> ((0 : Int32) &&& 31)).toInt8.toInt32)), (.int 0), (.ref p0)])) rfl rfl (hb hby d17_43)
  have O5 := O0.wr W5 F1_
  have K5 : Keep h0 h5 [p0] := (Keep.refl h0 [p0]).wr W5 (Or.inl (List.mem_of_getElem? (i := 0) rfl))
  have N5 := Fr.snoc X5 N0 F1_
  have V5 : Arv Z h5 p0 kb .byte 2 [(.int (((p2 >>> ((0 : Int32) &&& 31)).toInt8.toInt32).toInt8.toInt32)), (.int x1)] (.int 0) := Arv.set Ara3 qa3 Sa3 Za3 Ha3 Ga3 (fits_nar_byte _) W5 0 rfl (Nat.le_of_ble_eq_true rfl)
  obtain ⟨T6, X6, e6, st6⟩ := getS2 X5 hx hZ hown (host := "") (Or.inl (wq hw 90 rfl)) Via.refl e5 (F4_.ext O5.2) (g := (mkF m 47 #[.val (.ref p0), .val (.int 1), .val (.int p2)] [(.int p2), (.int 1), (.ref p0)])) rfl (hb hby d17_47)
  obtain ⟨cla7, Ara7, qa7, Sa7, Za7, Ha7, Ga7⟩ := id V5
  have hin8 : ¬ ((1 : Int32) < 0 ∨ cla7.slots.size ≤ ((1 : Int32)).toNatClampNeg) := inb_of Sa7 ⟨by decide, by decide⟩
  obtain ⟨T9, h9, X9, e9, W9, st9⟩ := stB X6 hx hZ e6 Ara7 (j := (1 : Int32)) hin8 (g := (mkF m 52 #[.val (.ref p0), .val (.int 1), .val (.int p2)] [(.int ((p2 >>> ((8 : Int32) &&& 31)).toInt8.toInt32)), (.int 1), (.ref p0)])) rfl rfl (hb hby d17_52)
  have O9 := O5.wr W9 F1_
  have K9 : Keep h0 h9 [p0] := K5.wr W9 (Or.inl (List.mem_of_getElem? (i := 0) rfl))
  have N9 := Fr.snoc X9 N5 F1_
  have V9 : Arv Z h9 p0 kb .byte 2 [(.int (((p2 >>> ((0 : Int32) &&& 31)).toInt8.toInt32).toInt8.toInt32)), (.int (((p2 >>> ((8 : Int32) &&& 31)).toInt8.toInt32).toInt8.toInt32))] (.int 0) := Arv.set Ara7 qa7 Sa7 Za7 Ha7 Ga7 (fits_nar_byte _) W9 1 rfl (Nat.le_of_ble_eq_true rfl)
  have s10 : Steps p.tables e below A₀ (T9.setTop (mkF m 53 #[.val (.ref p0), .val (.int 1), .val (.int p2)] [])) := by
    refine s0.trans ?_
    refine st1 _ ?_
    refine XS.ifYes X1.here hx rfl (pc0 := 3) (pc' := 28) rfl (hb hby d17_3) rfl ((if0 _ _).trans (feq (by decide)).2) (by decide) (by decide) ?_
    refine XS.iloadN X1.here hx rfl (hb hby d17_28) rfl ?_
    refine XS.iconst X1.here hx rfl (hb hby d17_29) ?_
    refine XS.ishl X1.here hx rfl (hb hby d17_30) rfl ?_
    refine XS.istoreN X1.here hx rfl (hb hby d17_31) rfl (l' := #[.val (.ref p0), .val (.int 0), .val (.int p2)]) rfl ?_
    refine XS.aloadN X1.here hx rfl (hb hby d17_32) rfl rfl ?_
    refine XS.iloadN X1.here hx rfl (hb hby d17_33) rfl ?_
    show Steps p.tables e below (T1.setTop (mkF m 34 #[.val (.ref p0), .val (.int 0), .val (.int p2)] [(.int 0), (.ref p0)])) _
    refine XS.iinc X1.here hx rfl (hb hby d17_34) rfl (l' := #[.val (.ref p0), .val (.int 1), .val (.int p2)]) rfl ?_
    refine XS.iloadN X1.here hx rfl (hb hby d17_37) rfl ?_
    refine st2 _ ?_
    refine XS.ishr X2.here hx rfl (hb hby d17_41) rfl ?_
    refine XS.i2b X2.here hx rfl (hb hby d17_42) rfl ?_
    refine st5 _ ?_
    refine XS.aloadN X5.here hx rfl (hb hby d17_44) rfl rfl ?_
    refine XS.iloadN X5.here hx rfl (hb hby d17_45) rfl ?_
    refine XS.iloadN X5.here hx rfl (hb hby d17_46) rfl ?_
    refine st6 _ ?_
    show Steps p.tables e below (T6.setTop (mkF m 50 #[.val (.ref p0), .val (.int 1), .val (.int p2)] [(.int 8), (.int p2), (.int 1), (.ref p0)])) _
    refine XS.ishr X6.here hx rfl (hb hby d17_50) rfl ?_
    refine XS.i2b X6.here hx rfl (hb hby d17_51) rfl ?_
    refine st9 _ ?_
    exact Steps.refl _
  subst hA₀
  obtain ⟨fs, hr, hrun, hended, hW, hsame⟩ := X9.leave (v := none) (fun _ => rfl)
  refine ⟨_, _, s10.trans ?_, hrun, hended, _, _, rfl, ?_, ⟨_, rfl⟩, hW, hsame.mono (by decide) (by decide)⟩
  · show Steps p.tables e below (T9.setTop (mkF m 53 #[.val (.ref p0), .val (.int 1), .val (.int p2)] [])) _
    exact X9.returnOut hx Bd.returns (hb hby d17_53) hr
  · show Qpc1_0 Z p0 p2 kb x0 x1 h0 n0 _ T9.heap _
    rw [e9]
    exact ⟨rfl, N9, K9, V9⟩
theorem d14_0 : decode jdk_52_method_14_code 0 = .ok (.iload_n 2, 1) := by decide +kernel
theorem d14_1 : decode jdk_52_method_14_code 1 = .ok (.invokestatic 107, 3) := by decide +kernel
theorem d14_4 : decode jdk_52_method_14_code 4 = .ok (.astore_n 3, 1) := by decide +kernel
theorem d14_5 : decode jdk_52_method_14_code 5 = .ok (.iconst 0, 1) := by decide +kernel
theorem d14_6 : decode jdk_52_method_14_code 6 = .ok (.istore 4, 2) := by decide +kernel
theorem d14_8 : decode jdk_52_method_14_code 8 = .ok (.iload 4, 2) := by decide +kernel
theorem d14_10 : decode jdk_52_method_14_code 10 = .ok (.iload_n 2, 1) := by decide +kernel
theorem d14_11 : decode jdk_52_method_14_code 11 = .ok (.if_icmp .ge 21, 3) := by decide +kernel
theorem d14_14 : decode jdk_52_method_14_code 14 = .ok (.aload_n 3, 1) := by decide +kernel
theorem d14_15 : decode jdk_52_method_14_code 15 = .ok (.iload 4, 2) := by decide +kernel
theorem d14_17 : decode jdk_52_method_14_code 17 = .ok (.aload_n 0, 1) := by decide +kernel
theorem d14_18 : decode jdk_52_method_14_code 18 = .ok (.iload_n 1, 1) := by decide +kernel
theorem d14_19 : decode jdk_52_method_14_code 19 = .ok (.caload, 1) := by decide +kernel
theorem d14_20 : decode jdk_52_method_14_code 20 = .ok (.invokestatic 111, 3) := by decide +kernel
theorem d14_23 : decode jdk_52_method_14_code 23 = .ok (.iinc 1 1, 3) := by decide +kernel
theorem d14_26 : decode jdk_52_method_14_code 26 = .ok (.iinc 4 1, 3) := by decide +kernel
theorem d14_29 : decode jdk_52_method_14_code 29 = .ok (.goto (-21), 3) := by decide +kernel
theorem d14_32 : decode jdk_52_method_14_code 32 = .ok (.aload_n 3, 1) := by decide +kernel
theorem d14_33 : decode jdk_52_method_14_code 33 = .ok (.areturn, 1) := by decide +kernel
theorem pd_rmtb1_0 : parseMethodDescriptor "(I)[B" = some ⟨[.int], some (.array .byte)⟩ := by decide +kernel
theorem pd_rmtb1_1 : parseMethodDescriptor "([BII)V" = some ⟨[(.array .byte), .int, .int], none⟩ := by decide +kernel
theorem ef_rmtb1 (m : MethodId) (p0 : Addr) : entryFrame m #[(.ref p0), (.int 0), (.int 1)] 5 = mkF m 0 #[.val (.ref p0), .val (.int 0), .val (.int 1), .unset, .unset] [] := by first | (simp [entryFrame, mkF, argsToLocals, Value.category]; done) | rfl
def Qtb1 (Z : State) (p0 : Addr) (kc : ClassId) (c0 : Int32) (h0 : Heap) (n0 : Nat) (v : Option Value) (h : Heap) (L : List Loc) : Prop := ∃ b : Addr, ∃ kb : ClassId, v = some (.ref b) ∧ Fr n0 L ∧ Keep h0 h [] ∧ (Arv Z h b kb .byte 2 [(.int (((c0 >>> ((0 : Int32) &&& 31)).toInt8.toInt32).toInt8.toInt32)), (.int (((c0 >>> ((8 : Int32) &&& 31)).toInt8.toInt32).toInt8.toInt32))] (.int 0)) ∧ (h0.size ≤ b)
set_option maxRecDepth 65536 in
set_option maxHeartbeats 40000000 in
theorem rmtb1 (l : Launch) (Z : State) (a0 : Array Value) (hw : ∀ d ∈ tables_1, d.before a0 Z = true) (ws : List Jvm.Cond) (p0 : Addr) (kc : ClassId) (c0 : Int32) (h0 : Heap) (n0 : Nat) (O0 : Old Z n0 h0) (F0_ : Arv Z h0 p0 kc .char 1 [(.int c0)] (.int 0)) (F1_ : Sta Z Z.heap "java/lang/StringUTF16" "$assertionsDisabled" "Z" (.int 1)) (F2_ : Sta Z Z.heap "java/lang/StringUTF16" "HI_BYTE_SHIFT" "I" (.int 0)) (F3_ : Sta Z Z.heap "java/lang/StringUTF16" "LO_BYTE_SHIFT" "I" (.int 8)) :
    MetFree l nm4 (head1 (Jvm.Cond.code nm4 jdk_52_method_14_code 5 (some (.array .byte)) :: ws) ({ frames := 2, cells := 1, slots := 2, locals := 24 } : Room)) (fun a U => a = #[(.ref p0), (.int 0), (.int 1)] ∧ Z.Warmed39 U.vm ∧ U.heap = h0) (fun _ _ _ _ _ => True) (fun _ U o U' => ∃ v L, o = .returned v ∧ Qtb1 Z p0 kc c0 h0 n0 v U'.heap L ∧ FrameEnd U o U' L ({ frames := 2, cells := 1, slots := 2, locals := 24 } : Room).cells ({ frames := 2, cells := 1, slots := 2, locals := 24 } : Room).slots) := by
  refine MetFree.of_bodySF (plainFor_of_name pn_18) hisR ?_
  intro p e s m args below meth c s₁ Bd hml0 hP hK
  obtain ⟨rfl, hZ, hh⟩ := hP
  have hx := Bd.exec
  have hby := Bd.bytes
  have hml : c.maxLocals = 5 := hml0
  have hown : s.vm.findClass "java/lang/StringUTF16" = some m.cls := findClass_of_methodNamed Bd.named
  have X0 : Stand p l e ({ frames := 2, cells := 1, slots := 2, locals := 24 } : Room) s m #[(.ref p0), (.int 0), (.int 1)] below meth c s₁ [] 0 0 := Stand.of_body Bd
  have e0 : s₁.heap = h0 := by rw [← hh, Bd.state]; rfl
  have N0 := Fr.nil n0
  have s0 : Steps p.tables e below (s₁.setTop (entryFrame m #[(.ref p0), (.int 0), (.int 1)] 5)) (s₁.setTop (mkF m 0 #[.val (.ref p0), .val (.int 0), .val (.int 1), .unset, .unset] [])) := castTop (ef_rmtb1 m p0) (Steps.refl _)
  obtain ⟨A₀, hA₀⟩ : ∃ z, z = (s₁.setTop (entryFrame m #[(.ref p0), (.int 0), (.int 1)] 5)) := ⟨_, rfl⟩
  rw [← hA₀] at s0
  obtain ⟨_, _, ⟨T1, L1, k1, n1⟩, -, X1, ⟨Lc1, hQ1, l1, y1, z1⟩, st1⟩ := Jvm.LawKit.callS X0 hx (y := (⟨"java/lang/StringUTF16", "newBytesFor", "(I)[B"⟩ : MethodName)) hown (mvT hZ (wq hw 78 rfl)) (mvT hZ (wq hw 79 rfl)) (mvT hZ (wq hw 21 rfl)) (mvT hZ (wq hw 80 rfl)) (by decide) (backOf (W := 0) (rmnf1 l Z a0 hw []  h0 n0 O0 ) hZ (wq hw 80 rfl) (wq hw 21 rfl) (by decide) (by decide)) (g := (mkF m 1 #[.val (.ref p0), .val (.int 0), .val (.int 1), .unset, .unset] [(.int 1)])) rfl (by rw [hml]; rfl) (argsL := [(.int 1)]) (rest := []) (lenOf pd_rmtb1_0 rfl) rfl (by exact Nat.le_refl _) (hb hby d14_1) (fun _ _ => ⟨rfl, e0, (by decide : 0 + 1 ≤ _), (by decide : 0 + 2 ≤ _)⟩)
  dsimp only [Pt.U, Pt.locs, Pt.cells, Pt.slots] at X1 l1 y1 z1 st1 hQ1
  subst l1 y1 z1
  obtain ⟨u2, u3, rfl, Nq1, Kc1, f1_0, f1_1⟩ := hQ1
  have N1 := Fr.app N0 Nq1
  have ne_p0_u2 : p0 ≠ u2 := Nat.ne_of_lt (Nat.lt_of_lt_of_le F0_.lt f1_1)
  have g_u2 : n0 ≤ u2 := Nat.le_trans (Nat.le_of_eq O0.1.symm) (Nat.le_trans O0.2.1 f1_1)
  have sz_u2 : h0.size ≤ u2 := Nat.le_trans (Keep.refl h0 []).1 f1_1
  have K1 : Keep h0 T1.heap [] := (Keep.refl h0 []).trans Kc1 all0
  have O1 := O0.keep Kc1 all0
  have c4 : Arv Z T1.heap p0 kc .char 1 [(.int c0)] (.int 0) := (F0_.keep Kc1 nin0)
  obtain ⟨cla5, Ara5, qa5, Sa5, Za5, Ha5, Ga5⟩ := id c4
  have hin6 : ¬ ((0 : Int32) < 0 ∨ cla5.slots.size ≤ ((0 : Int32)).toNatClampNeg) := inb_of Sa5 ⟨by decide, by decide⟩
  have hat7 : cla5.slots[((0 : Int32)).toNatClampNeg]? = some (.int c0) := Has.at Ha5 hin6 rfl
  obtain ⟨_, _, ⟨T8, L8, k8, n8⟩, -, X8, ⟨Lc8, hQ8, l8, y8, z8⟩, st8⟩ := Jvm.LawKit.callS X1 hx (y := (⟨"java/lang/StringUTF16", "putChar", "([BII)V"⟩ : MethodName)) hown (mvT hZ (wq hw 85 rfl)) (mvT hZ (wq hw 86 rfl)) (mvT hZ (wq hw 21 rfl)) (mvT hZ (wq hw 87 rfl)) (by decide) (backOf (W := 0) (rmpc1_0 l Z a0 hw [] u2 c0 u3 (0 : Int32) (0 : Int32) T1.heap n0 O1 f1_0 g_u2 F1_ F2_ F3_) hZ (wq hw 87 rfl) (wq hw 21 rfl) (by decide) (by decide)) (g := (mkF m 20 #[.val (.ref p0), .val (.int 0), .val (.int 1), .val (.ref u2), .val (.int 0)] [(.int c0), (.int 0), (.ref u2)])) rfl (by rw [hml]; rfl) (argsL := [(.ref u2), (.int 0), (.int c0)]) (rest := []) (lenOf pd_rmtb1_1 rfl) rfl (by exact Nat.le_refl _) (hb hby d14_20) (fun _ _ => ⟨rfl, (rfl : T1.heap = T1.heap), (by decide : 1 + 0 ≤ _), (by decide : 2 + 0 ≤ _)⟩)
  dsimp only [Pt.U, Pt.locs, Pt.cells, Pt.slots] at X8 l8 y8 z8 st8 hQ8
  subst l8 y8 z8
  obtain ⟨rfl, Nq8, Kc8, f8_0⟩ := hQ8
  have N8 := Fr.app N1 Nq8
  have K8 : Keep h0 T8.heap [] := K1.trans Kc8 (allS (Or.inr sz_u2) all0)
  have O8 := O1.keep Kc8 (allS g_u2 all0)
  have s9 : Steps p.tables e below A₀ (T8.setTop (mkF m 33 #[.val (.ref p0), .val (.int 1), .val (.int 1), .val (.ref u2), .val (.int 1)] [(.ref u2)])) := by
    refine s0.trans ?_
    refine XS.iloadN X0.here hx rfl (hb hby d14_0) rfl ?_
    refine st1 _ ?_
    refine XS.astoreN X1.here hx rfl (hb hby d14_4) rfl rfl (l' := #[.val (.ref p0), .val (.int 0), .val (.int 1), .val (.ref u2), .unset]) rfl ?_
    refine XS.iconst X1.here hx rfl (hb hby d14_5) ?_
    refine XS.istore X1.here hx rfl (hb hby d14_6) rfl (l' := #[.val (.ref p0), .val (.int 0), .val (.int 1), .val (.ref u2), .val (.int 0)]) rfl ?_
    refine XS.iload X1.here hx rfl (hb hby d14_8) rfl ?_
    refine XS.iloadN X1.here hx rfl (hb hby d14_10) rfl ?_
    refine XS.icmpNo X1.here hx rfl (hb hby d14_11) rfl (tlt (by decide)).2.1 ?_
    show Steps p.tables e below (T1.setTop (mkF m 14 #[.val (.ref p0), .val (.int 0), .val (.int 1), .val (.ref u2), .val (.int 0)] [])) _
    refine XS.aloadN X1.here hx rfl (hb hby d14_14) rfl rfl ?_
    refine XS.iload X1.here hx rfl (hb hby d14_15) rfl ?_
    refine XS.aloadN X1.here hx rfl (hb hby d14_17) rfl rfl ?_
    refine XS.iloadN X1.here hx rfl (hb hby d14_18) rfl ?_
    refine X1.caload hx (j := (0 : Int32)) (v := (.int c0)) (by rw [(rfl : T1.heap = T1.heap)]; exact Ara5.1) (State.isArrayOf_alike hZ.alike Ara5.2.1) Ara5.2.2 hin6 hat7 (g := (mkF m 19 #[.val (.ref p0), .val (.int 0), .val (.int 1), .val (.ref u2), .val (.int 0)] [(.int 0), (.ref p0), (.int 0), (.ref u2)])) rfl rfl (hb hby d14_19) _ ?_
    refine st8 _ ?_
    refine XS.iinc X8.here hx rfl (hb hby d14_23) rfl (l' := #[.val (.ref p0), .val (.int 1), .val (.int 1), .val (.ref u2), .val (.int 0)]) rfl ?_
    refine XS.iinc X8.here hx rfl (hb hby d14_26) rfl (l' := #[.val (.ref p0), .val (.int 1), .val (.int 1), .val (.ref u2), .val (.int 1)]) rfl ?_
    refine XS.goto X8.here hx rfl (pc0 := 29) (pc' := 8) rfl (hb hby d14_29) (by decide) (by decide) ?_
    refine XS.iload X8.here hx rfl (hb hby d14_8) rfl ?_
    show Steps p.tables e below (T8.setTop (mkF m 10 #[.val (.ref p0), .val (.int 1), .val (.int 1), .val (.ref u2), .val (.int 1)] [(.int 1)])) _
    refine XS.iloadN X8.here hx rfl (hb hby d14_10) rfl ?_
    refine XS.icmpYes X8.here hx rfl (pc0 := 11) (pc' := 32) rfl (hb hby d14_11) rfl (flt (by decide)).2.1 (by decide) (by decide) ?_
    refine XS.aloadN X8.here hx rfl (hb hby d14_32) rfl rfl ?_
    exact Steps.refl _
  subst hA₀
  obtain ⟨fs, hr, hrun, hended, hW, hsame⟩ := X8.leave (v := some (.ref u2)) (fun h => by rw [Bd.returns] at h; cases h)
  refine ⟨_, _, s9.trans ?_, hrun, hended, _, _, rfl, ?_, ⟨_, rfl⟩, hW, hsame.mono (by decide) (by decide)⟩
  · show Steps p.tables e below (T8.setTop (mkF m 33 #[.val (.ref p0), .val (.int 1), .val (.int 1), .val (.ref u2), .val (.int 1)] [(.ref u2)])) _
    jvm_step X8.here [X8.here.top, hx, (hb hby d14_33), X8.method', Bd.returns, Value.isRef, FieldType.isReference]
    first | (intro acts; rw [hr _ acts rfl rfl rfl]) | rw [hr _ _ rfl rfl rfl]
    exact Steps.refl _
  · show Qtb1 Z p0 kc c0 h0 n0 _ T8.heap _
    exact ⟨u2, u3, rfl, N8, K8, f8_0, sz_u2⟩
theorem d6_0 : decode jdk_52_method_21_code 0 = .ok (.iconst 0, 1) := by decide +kernel
theorem d6_1 : decode jdk_52_method_21_code 1 = .ok (.istore 5, 2) := by decide +kernel
theorem d6_3 : decode jdk_52_method_21_code 3 = .ok (.iload 5, 2) := by decide +kernel
theorem d6_5 : decode jdk_52_method_21_code 5 = .ok (.iload 4, 2) := by decide +kernel
theorem d6_7 : decode jdk_52_method_21_code 7 = .ok (.if_icmp .ge 37, 3) := by decide +kernel
theorem d6_10 : decode jdk_52_method_21_code 10 = .ok (.aload_n 0, 1) := by decide +kernel
theorem d6_11 : decode jdk_52_method_21_code 11 = .ok (.iload_n 1, 1) := by decide +kernel
theorem d6_12 : decode jdk_52_method_21_code 12 = .ok (.caload, 1) := by decide +kernel
theorem d6_13 : decode jdk_52_method_21_code 13 = .ok (.istore 6, 2) := by decide +kernel
theorem d6_15 : decode jdk_52_method_21_code 15 = .ok (.iload 6, 2) := by decide +kernel
theorem d6_17 : decode jdk_52_method_21_code 17 = .ok (.sipush 255, 3) := by decide +kernel
theorem d6_20 : decode jdk_52_method_21_code 20 = .ok (.if_icmp .le 6, 3) := by decide +kernel
theorem d6_23 : decode jdk_52_method_21_code 23 = .ok (.iload 5, 2) := by decide +kernel
theorem d6_25 : decode jdk_52_method_21_code 25 = .ok (.ireturn, 1) := by decide +kernel
theorem ef_rmc5_1_0 (m : MethodId) (p0 : Addr) (p2 : Addr) : entryFrame m #[(.ref p0), (.int 0), (.ref p2), (.int 0), (.int 1)] 7 = mkF m 0 #[.val (.ref p0), .val (.int 0), .val (.ref p2), .val (.int 0), .val (.int 1), .unset, .unset] [] := by first | (simp [entryFrame, mkF, argsToLocals, Value.category]; done) | rfl
def Qc5_1_0 (Z : State) (p0 : Addr) (p2 : Addr) (kc : ClassId) (c0 : Int32) (kb : ClassId) (h0 : Heap) (n0 : Nat) (v : Option Value) (h : Heap) (L : List Loc) : Prop := v = some (.int 0) ∧ Fr n0 L ∧ Keep h0 h [p2] ∧ (Arv Z h p2 kb .byte 1 [(.int 0)] (.int 0))
set_option maxRecDepth 65536 in
set_option maxHeartbeats 40000000 in
theorem rmc5_1_0 (l : Launch) (Z : State) (a0 : Array Value) (hw : ∀ d ∈ tables_1, d.before a0 Z = true) (ws : List Jvm.Cond) (p0 : Addr) (p2 : Addr) (kc : ClassId) (c0 : Int32) (kb : ClassId) (h0 : Heap) (n0 : Nat) (O0 : Old Z n0 h0) (F0_ : Arv Z h0 p0 kc .char 1 [(.int c0)] (.int 0)) (F1_ : Arv Z h0 p2 kb .byte 1 [(.int 0)] (.int 0)) (F2_ : n0 ≤ p2) (F3_ : p0 ≠ p2) (hc0 : (255 : Int32) < c0) :
    MetFree l nm5 (head1 (Jvm.Cond.code nm5 jdk_52_method_21_code 7 (some .int) :: ws) ({ frames := 0, cells := 0, slots := 0, locals := 0 } : Room)) (fun a U => a = #[(.ref p0), (.int 0), (.ref p2), (.int 0), (.int 1)] ∧ Z.Warmed39 U.vm ∧ U.heap = h0) (fun _ _ _ _ _ => True) (fun _ U o U' => ∃ v L, o = .returned v ∧ Qc5_1_0 Z p0 p2 kc c0 kb h0 n0 v U'.heap L ∧ FrameEnd U o U' L ({ frames := 0, cells := 0, slots := 0, locals := 0 } : Room).cells ({ frames := 0, cells := 0, slots := 0, locals := 0 } : Room).slots) := by
  refine MetFree.of_bodySF (plainFor_of_name pn_18) hisR ?_
  intro p e s m args below meth c s₁ Bd hml0 hP hK
  obtain ⟨rfl, hZ, hh⟩ := hP
  have hx := Bd.exec
  have hby := Bd.bytes
  have hml : c.maxLocals = 7 := hml0
  have hown : s.vm.findClass "java/lang/StringUTF16" = some m.cls := findClass_of_methodNamed Bd.named
  have X0 : Stand p l e ({ frames := 0, cells := 0, slots := 0, locals := 0 } : Room) s m #[(.ref p0), (.int 0), (.ref p2), (.int 0), (.int 1)] below meth c s₁ [] 0 0 := Stand.of_body Bd
  have e0 : s₁.heap = h0 := by rw [← hh, Bd.state]; rfl
  have N0 := Fr.nil n0
  have s0 : Steps p.tables e below (s₁.setTop (entryFrame m #[(.ref p0), (.int 0), (.ref p2), (.int 0), (.int 1)] 7)) (s₁.setTop (mkF m 0 #[.val (.ref p0), .val (.int 0), .val (.ref p2), .val (.int 0), .val (.int 1), .unset, .unset] [])) := castTop (ef_rmc5_1_0 m p0 p2) (Steps.refl _)
  obtain ⟨A₀, hA₀⟩ : ∃ z, z = (s₁.setTop (entryFrame m #[(.ref p0), (.int 0), (.ref p2), (.int 0), (.int 1)] 7)) := ⟨_, rfl⟩
  rw [← hA₀] at s0
  obtain ⟨cla1, Ara1, qa1, Sa1, Za1, Ha1, Ga1⟩ := id F0_
  have hin2 : ¬ ((0 : Int32) < 0 ∨ cla1.slots.size ≤ ((0 : Int32)).toNatClampNeg) := inb_of Sa1 ⟨by decide, by decide⟩
  have hat3 : cla1.slots[((0 : Int32)).toNatClampNeg]? = some (.int c0) := Has.at Ha1 hin2 rfl
  have s4 : Steps p.tables e below A₀ (s₁.setTop (mkF m 25 #[.val (.ref p0), .val (.int 0), .val (.ref p2), .val (.int 0), .val (.int 1), .val (.int 0), .val (.int c0)] [(.int 0)])) := by
    refine s0.trans ?_
    refine XS.iconst X0.here hx rfl (hb hby d6_0) ?_
    refine XS.istore X0.here hx rfl (hb hby d6_1) rfl (l' := #[.val (.ref p0), .val (.int 0), .val (.ref p2), .val (.int 0), .val (.int 1), .val (.int 0), .unset]) rfl ?_
    refine XS.iload X0.here hx rfl (hb hby d6_3) rfl ?_
    refine XS.iload X0.here hx rfl (hb hby d6_5) rfl ?_
    refine XS.icmpNo X0.here hx rfl (hb hby d6_7) rfl (tlt (by decide)).2.1 ?_
    refine XS.aloadN X0.here hx rfl (hb hby d6_10) rfl rfl ?_
    refine XS.iloadN X0.here hx rfl (hb hby d6_11) rfl ?_
    refine X0.caload hx (j := (0 : Int32)) (v := (.int c0)) (by rw [e0]; exact Ara1.1) (State.isArrayOf_alike hZ.alike Ara1.2.1) Ara1.2.2 hin2 hat3 (g := (mkF m 12 #[.val (.ref p0), .val (.int 0), .val (.ref p2), .val (.int 0), .val (.int 1), .val (.int 0), .unset] [(.int 0), (.ref p0)])) rfl rfl (hb hby d6_12) _ ?_
    show Steps p.tables e below (s₁.setTop (mkF m 13 #[.val (.ref p0), .val (.int 0), .val (.ref p2), .val (.int 0), .val (.int 1), .val (.int 0), .unset] [(.int c0)])) _
    refine XS.istore X0.here hx rfl (hb hby d6_13) rfl (l' := #[.val (.ref p0), .val (.int 0), .val (.ref p2), .val (.int 0), .val (.int 1), .val (.int 0), .val (.int c0)]) rfl ?_
    refine XS.iload X0.here hx rfl (hb hby d6_15) rfl ?_
    refine XS.sipush X0.here hx rfl (hb hby d6_17) ?_
    refine XS.icmpNo X0.here hx rfl (hb hby d6_20) rfl (tlt hc0).2.2.2 ?_
    refine XS.iload X0.here hx rfl (hb hby d6_23) rfl ?_
    exact Steps.refl _
  subst hA₀
  obtain ⟨fs, hr, hrun, hended, hW, hsame⟩ := X0.leave (v := some (.int 0)) (fun h => by rw [Bd.returns] at h; cases h)
  refine ⟨_, _, s4.trans ?_, hrun, hended, _, _, rfl, ?_, ⟨_, rfl⟩, hW, hsame.mono (by decide) (by decide)⟩
  · show Steps p.tables e below (s₁.setTop (mkF m 25 #[.val (.ref p0), .val (.int 0), .val (.ref p2), .val (.int 0), .val (.int 1), .val (.int 0), .val (.int c0)] [(.int 0)])) _
    exact retI X0 hx Bd.returns (hb hby d6_25) hr
  · show Qc5_1_0 Z p0 p2 kc c0 kb h0 n0 _ s₁.heap _
    rw [e0]
    exact ⟨rfl, N0, (Keep.refl h0 [p2]), F1_⟩
theorem d6_26 : decode jdk_52_method_21_code 26 = .ok (.aload_n 2, 1) := by decide +kernel
theorem d6_27 : decode jdk_52_method_21_code 27 = .ok (.iload_n 3, 1) := by decide +kernel
theorem d6_28 : decode jdk_52_method_21_code 28 = .ok (.iload 6, 2) := by decide +kernel
theorem d6_30 : decode jdk_52_method_21_code 30 = .ok (.i2b, 1) := by decide +kernel
theorem d6_31 : decode jdk_52_method_21_code 31 = .ok (.bastore, 1) := by decide +kernel
theorem d6_32 : decode jdk_52_method_21_code 32 = .ok (.iinc 1 1, 3) := by decide +kernel
theorem d6_35 : decode jdk_52_method_21_code 35 = .ok (.iinc 3 1, 3) := by decide +kernel
theorem d6_38 : decode jdk_52_method_21_code 38 = .ok (.iinc 5 1, 3) := by decide +kernel
theorem d6_41 : decode jdk_52_method_21_code 41 = .ok (.goto (-38), 3) := by decide +kernel
theorem d6_44 : decode jdk_52_method_21_code 44 = .ok (.iload 4, 2) := by decide +kernel
theorem d6_46 : decode jdk_52_method_21_code 46 = .ok (.ireturn, 1) := by decide +kernel
theorem ef_rmc5_1_n (m : MethodId) (p0 : Addr) (p2 : Addr) : entryFrame m #[(.ref p0), (.int 0), (.ref p2), (.int 0), (.int 1)] 7 = mkF m 0 #[.val (.ref p0), .val (.int 0), .val (.ref p2), .val (.int 0), .val (.int 1), .unset, .unset] [] := by first | (simp [entryFrame, mkF, argsToLocals, Value.category]; done) | rfl
def Qc5_1_n (Z : State) (p0 : Addr) (p2 : Addr) (kc : ClassId) (c0 : Int32) (kb : ClassId) (h0 : Heap) (n0 : Nat) (v : Option Value) (h : Heap) (L : List Loc) : Prop := v = some (.int 1) ∧ Fr n0 L ∧ Keep h0 h [p2] ∧ (Arv Z h p2 kb .byte 1 [(.int ((c0.toInt8.toInt32).toInt8.toInt32))] (.int 0))
set_option maxRecDepth 65536 in
set_option maxHeartbeats 40000000 in
theorem rmc5_1_n (l : Launch) (Z : State) (a0 : Array Value) (hw : ∀ d ∈ tables_1, d.before a0 Z = true) (ws : List Jvm.Cond) (p0 : Addr) (p2 : Addr) (kc : ClassId) (c0 : Int32) (kb : ClassId) (h0 : Heap) (n0 : Nat) (O0 : Old Z n0 h0) (F0_ : Arv Z h0 p0 kc .char 1 [(.int c0)] (.int 0)) (F1_ : Arv Z h0 p2 kb .byte 1 [(.int 0)] (.int 0)) (F2_ : n0 ≤ p2) (F3_ : p0 ≠ p2) (hc0 : ¬ ((255 : Int32) < c0)) :
    MetFree l nm5 (head1 (Jvm.Cond.code nm5 jdk_52_method_21_code 7 (some .int) :: ws) ({ frames := 0, cells := 0, slots := 0, locals := 0 } : Room)) (fun a U => a = #[(.ref p0), (.int 0), (.ref p2), (.int 0), (.int 1)] ∧ Z.Warmed39 U.vm ∧ U.heap = h0) (fun _ _ _ _ _ => True) (fun _ U o U' => ∃ v L, o = .returned v ∧ Qc5_1_n Z p0 p2 kc c0 kb h0 n0 v U'.heap L ∧ FrameEnd U o U' L ({ frames := 0, cells := 0, slots := 0, locals := 0 } : Room).cells ({ frames := 0, cells := 0, slots := 0, locals := 0 } : Room).slots) := by
  refine MetFree.of_bodySF (plainFor_of_name pn_18) hisR ?_
  intro p e s m args below meth c s₁ Bd hml0 hP hK
  obtain ⟨rfl, hZ, hh⟩ := hP
  have hx := Bd.exec
  have hby := Bd.bytes
  have hml : c.maxLocals = 7 := hml0
  have hown : s.vm.findClass "java/lang/StringUTF16" = some m.cls := findClass_of_methodNamed Bd.named
  have X0 : Stand p l e ({ frames := 0, cells := 0, slots := 0, locals := 0 } : Room) s m #[(.ref p0), (.int 0), (.ref p2), (.int 0), (.int 1)] below meth c s₁ [] 0 0 := Stand.of_body Bd
  have e0 : s₁.heap = h0 := by rw [← hh, Bd.state]; rfl
  have N0 := Fr.nil n0
  have s0 : Steps p.tables e below (s₁.setTop (entryFrame m #[(.ref p0), (.int 0), (.ref p2), (.int 0), (.int 1)] 7)) (s₁.setTop (mkF m 0 #[.val (.ref p0), .val (.int 0), .val (.ref p2), .val (.int 0), .val (.int 1), .unset, .unset] [])) := castTop (ef_rmc5_1_n m p0 p2) (Steps.refl _)
  obtain ⟨A₀, hA₀⟩ : ∃ z, z = (s₁.setTop (entryFrame m #[(.ref p0), (.int 0), (.ref p2), (.int 0), (.int 1)] 7)) := ⟨_, rfl⟩
  rw [← hA₀] at s0
  obtain ⟨cla1, Ara1, qa1, Sa1, Za1, Ha1, Ga1⟩ := id F0_
  have hin2 : ¬ ((0 : Int32) < 0 ∨ cla1.slots.size ≤ ((0 : Int32)).toNatClampNeg) := inb_of Sa1 ⟨by decide, by decide⟩
  have hat3 : cla1.slots[((0 : Int32)).toNatClampNeg]? = some (.int c0) := Has.at Ha1 hin2 rfl
  obtain ⟨cla4, Ara4, qa4, Sa4, Za4, Ha4, Ga4⟩ := id F1_
  have hin5 : ¬ ((0 : Int32) < 0 ∨ cla4.slots.size ≤ ((0 : Int32)).toNatClampNeg) := inb_of Sa4 ⟨by decide, by decide⟩
  obtain ⟨T6, h6, X6, e6, W6, st6⟩ := stB X0 hx hZ e0 Ara4 (j := (0 : Int32)) hin5 (g := (mkF m 31 #[.val (.ref p0), .val (.int 0), .val (.ref p2), .val (.int 0), .val (.int 1), .val (.int 0), .val (.int c0)] [(.int (c0.toInt8.toInt32)), (.int 0), (.ref p2)])) rfl rfl (hb hby d6_31)
  have O6 := O0.wr W6 F2_
  have K6 : Keep h0 h6 [p2] := (Keep.refl h0 [p2]).wr W6 (Or.inl (List.mem_of_getElem? (i := 0) rfl))
  have N6 := Fr.snoc X6 N0 F2_
  have V6 : Arv Z h6 p2 kb .byte 1 [(.int ((c0.toInt8.toInt32).toInt8.toInt32))] (.int 0) := Arv.set Ara4 qa4 Sa4 Za4 Ha4 Ga4 (fits_nar_byte _) W6 0 rfl (Nat.le_of_ble_eq_true rfl)
  have s7 : Steps p.tables e below A₀ (T6.setTop (mkF m 46 #[.val (.ref p0), .val (.int 1), .val (.ref p2), .val (.int 1), .val (.int 1), .val (.int 1), .val (.int c0)] [(.int 1)])) := by
    refine s0.trans ?_
    refine XS.iconst X0.here hx rfl (hb hby d6_0) ?_
    refine XS.istore X0.here hx rfl (hb hby d6_1) rfl (l' := #[.val (.ref p0), .val (.int 0), .val (.ref p2), .val (.int 0), .val (.int 1), .val (.int 0), .unset]) rfl ?_
    refine XS.iload X0.here hx rfl (hb hby d6_3) rfl ?_
    refine XS.iload X0.here hx rfl (hb hby d6_5) rfl ?_
    refine XS.icmpNo X0.here hx rfl (hb hby d6_7) rfl (tlt (by decide)).2.1 ?_
    refine XS.aloadN X0.here hx rfl (hb hby d6_10) rfl rfl ?_
    refine XS.iloadN X0.here hx rfl (hb hby d6_11) rfl ?_
    refine X0.caload hx (j := (0 : Int32)) (v := (.int c0)) (by rw [e0]; exact Ara1.1) (State.isArrayOf_alike hZ.alike Ara1.2.1) Ara1.2.2 hin2 hat3 (g := (mkF m 12 #[.val (.ref p0), .val (.int 0), .val (.ref p2), .val (.int 0), .val (.int 1), .val (.int 0), .unset] [(.int 0), (.ref p0)])) rfl rfl (hb hby d6_12) _ ?_
    show Steps p.tables e below (s₁.setTop (mkF m 13 #[.val (.ref p0), .val (.int 0), .val (.ref p2), .val (.int 0), .val (.int 1), .val (.int 0), .unset] [(.int c0)])) _
    refine XS.istore X0.here hx rfl (hb hby d6_13) rfl (l' := #[.val (.ref p0), .val (.int 0), .val (.ref p2), .val (.int 0), .val (.int 1), .val (.int 0), .val (.int c0)]) rfl ?_
    refine XS.iload X0.here hx rfl (hb hby d6_15) rfl ?_
    refine XS.sipush X0.here hx rfl (hb hby d6_17) ?_
    refine XS.icmpYes X0.here hx rfl (pc0 := 20) (pc' := 26) rfl (hb hby d6_20) rfl (flt hc0).2.2.2 (by decide) (by decide) ?_
    refine XS.aloadN X0.here hx rfl (hb hby d6_26) rfl rfl ?_
    refine XS.iloadN X0.here hx rfl (hb hby d6_27) rfl ?_
    refine XS.iload X0.here hx rfl (hb hby d6_28) rfl ?_
    refine XS.i2b X0.here hx rfl (hb hby d6_30) rfl ?_
    refine st6 _ ?_
    refine XS.iinc X6.here hx rfl (hb hby d6_32) rfl (l' := #[.val (.ref p0), .val (.int 1), .val (.ref p2), .val (.int 0), .val (.int 1), .val (.int 0), .val (.int c0)]) rfl ?_
    show Steps p.tables e below (T6.setTop (mkF m 35 #[.val (.ref p0), .val (.int 1), .val (.ref p2), .val (.int 0), .val (.int 1), .val (.int 0), .val (.int c0)] [])) _
    refine XS.iinc X6.here hx rfl (hb hby d6_35) rfl (l' := #[.val (.ref p0), .val (.int 1), .val (.ref p2), .val (.int 1), .val (.int 1), .val (.int 0), .val (.int c0)]) rfl ?_
    refine XS.iinc X6.here hx rfl (hb hby d6_38) rfl (l' := #[.val (.ref p0), .val (.int 1), .val (.ref p2), .val (.int 1), .val (.int 1), .val (.int 1), .val (.int c0)]) rfl ?_
    refine XS.goto X6.here hx rfl (pc0 := 41) (pc' := 3) rfl (hb hby d6_41) (by decide) (by decide) ?_
    refine XS.iload X6.here hx rfl (hb hby d6_3) rfl ?_
    refine XS.iload X6.here hx rfl (hb hby d6_5) rfl ?_
    refine XS.icmpYes X6.here hx rfl (pc0 := 7) (pc' := 44) rfl (hb hby d6_7) rfl (flt (by decide)).2.1 (by decide) (by decide) ?_
    refine XS.iload X6.here hx rfl (hb hby d6_44) rfl ?_
    exact Steps.refl _
  subst hA₀
  obtain ⟨fs, hr, hrun, hended, hW, hsame⟩ := X6.leave (v := some (.int 1)) (fun h => by rw [Bd.returns] at h; cases h)
  refine ⟨_, _, s7.trans ?_, hrun, hended, _, _, rfl, ?_, ⟨_, rfl⟩, hW, hsame.mono (by decide) (by decide)⟩
  · show Steps p.tables e below (T6.setTop (mkF m 46 #[.val (.ref p0), .val (.int 1), .val (.ref p2), .val (.int 1), .val (.int 1), .val (.int 1), .val (.int c0)] [(.int 1)])) _
    exact retI X6 hx Bd.returns (hb hby d6_46) hr
  · show Qc5_1_n Z p0 p2 kc c0 kb h0 n0 _ T6.heap _
    rw [e6]
    exact ⟨rfl, N6, K6, V6⟩
theorem d5_0 : decode jdk_52_method_16_code 0 = .ok (.iload_n 2, 1) := by decide +kernel
theorem d5_1 : decode jdk_52_method_16_code 1 = .ok (.newarray .byte, 2) := by decide +kernel
theorem d5_3 : decode jdk_52_method_16_code 3 = .ok (.astore_n 3, 1) := by decide +kernel
theorem d5_4 : decode jdk_52_method_16_code 4 = .ok (.aload_n 0, 1) := by decide +kernel
theorem d5_5 : decode jdk_52_method_16_code 5 = .ok (.iload_n 1, 1) := by decide +kernel
theorem d5_6 : decode jdk_52_method_16_code 6 = .ok (.aload_n 3, 1) := by decide +kernel
theorem d5_7 : decode jdk_52_method_16_code 7 = .ok (.iconst 0, 1) := by decide +kernel
theorem d5_8 : decode jdk_52_method_16_code 8 = .ok (.iload_n 2, 1) := by decide +kernel
theorem d5_9 : decode jdk_52_method_16_code 9 = .ok (.invokestatic 115, 3) := by decide +kernel
theorem d5_12 : decode jdk_52_method_16_code 12 = .ok (.istore 4, 2) := by decide +kernel
theorem d5_14 : decode jdk_52_method_16_code 14 = .ok (.iload 4, 2) := by decide +kernel
theorem d5_16 : decode jdk_52_method_16_code 16 = .ok (.iload_n 2, 1) := by decide +kernel
theorem d5_17 : decode jdk_52_method_16_code 17 = .ok (.if_icmp .eq 40, 3) := by decide +kernel
theorem d5_20 : decode jdk_52_method_16_code 20 = .ok (.aload_n 0, 1) := by decide +kernel
theorem d5_21 : decode jdk_52_method_16_code 21 = .ok (.iload_n 1, 1) := by decide +kernel
theorem d5_22 : decode jdk_52_method_16_code 22 = .ok (.iload_n 2, 1) := by decide +kernel
theorem d5_23 : decode jdk_52_method_16_code 23 = .ok (.invokestatic 119, 3) := by decide +kernel
theorem d5_26 : decode jdk_52_method_16_code 26 = .ok (.astore 5, 2) := by decide +kernel
theorem d5_28 : decode jdk_52_method_16_code 28 = .ok (.aload 5, 2) := by decide +kernel
theorem d5_30 : decode jdk_52_method_16_code 30 = .ok (.iload 4, 2) := by decide +kernel
theorem d5_32 : decode jdk_52_method_16_code 32 = .ok (.invokestatic 71, 3) := by decide +kernel
theorem d5_35 : decode jdk_52_method_16_code 35 = .ok (.sipush 255, 3) := by decide +kernel
theorem d5_38 : decode jdk_52_method_16_code 38 = .ok (.if_icmp .gt 16, 3) := by decide +kernel
theorem d5_54 : decode jdk_52_method_16_code 54 = .ok (.aload 5, 2) := by decide +kernel
theorem d5_56 : decode jdk_52_method_16_code 56 = .ok (.areturn, 1) := by decide +kernel
theorem d5_57 : decode jdk_52_method_16_code 57 = .ok (.aload_n 3, 1) := by decide +kernel
theorem d5_58 : decode jdk_52_method_16_code 58 = .ok (.areturn, 1) := by decide +kernel
theorem pd_rmc3_1_0 : parseMethodDescriptor "([CI[BII)I" = some ⟨[(.array .char), .int, (.array .byte), .int, .int], some .int⟩ := by decide +kernel
theorem pd_rmc3_1_1 : parseMethodDescriptor "([CII)[B" = some ⟨[(.array .char), .int, .int], some (.array .byte)⟩ := by decide +kernel
theorem pd_rmc3_1_2 : parseMethodDescriptor "([BI)C" = some ⟨[(.array .byte), .int], some .char⟩ := by decide +kernel
theorem ef_rmc3_1 (m : MethodId) (p0 : Addr) : entryFrame m #[(.ref p0), (.int 0), (.int 1)] 6 = mkF m 0 #[.val (.ref p0), .val (.int 0), .val (.int 1), .unset, .unset, .unset] [] := by first | (simp [entryFrame, mkF, argsToLocals, Value.category]; done) | rfl
def Qc3_1 (Z : State) (p0 : Addr) (kc : ClassId) (c0 : Int32) (h0 : Heap) (n0 : Nat) (v : Option Value) (h : Heap) (L : List Loc) : Prop := ∃ b : Addr, ∃ kb : ClassId, ∃ ln : Int32, ∃ xs : List Int32, v = some (.ref b) ∧ Fr n0 L ∧ Keep h0 h [] ∧ (Arv Z h b kb .byte ln (xs.map Value.int) (.int 0)) ∧ (h0.size ≤ b) ∧ (ln = (1 : Int32) ∨ ln = (2 : Int32))
set_option maxRecDepth 65536 in
set_option maxHeartbeats 40000000 in
theorem rmc3_1 (l : Launch) (Z : State) (a0 : Array Value) (hw : ∀ d ∈ tables_1, d.before a0 Z = true) (ws : List Jvm.Cond) (p0 : Addr) (kc : ClassId) (c0 : Int32) (h0 : Heap) (n0 : Nat) (O0 : Old Z n0 h0) (F0_ : Arv Z h0 p0 kc .char 1 [(.int c0)] (.int 0)) (F1_ : Sta Z Z.heap "java/lang/StringUTF16" "$assertionsDisabled" "Z" (.int 1)) (F2_ : Sta Z Z.heap "java/lang/StringUTF16" "HI_BYTE_SHIFT" "I" (.int 0)) (F3_ : Sta Z Z.heap "java/lang/StringUTF16" "LO_BYTE_SHIFT" "I" (.int 8)) :
    MetFree l nm6 (head1 (Jvm.Cond.code nm6 jdk_52_method_16_code 6 (some (.array .byte)) :: ws) ({ frames := 3, cells := 2, slots := 3, locals := 40 } : Room)) (fun a U => a = #[(.ref p0), (.int 0), (.int 1)] ∧ Z.Warmed39 U.vm ∧ U.heap = h0) (fun _ _ _ _ _ => True) (fun _ U o U' => ∃ v L, o = .returned v ∧ Qc3_1 Z p0 kc c0 h0 n0 v U'.heap L ∧ FrameEnd U o U' L ({ frames := 3, cells := 2, slots := 3, locals := 40 } : Room).cells ({ frames := 3, cells := 2, slots := 3, locals := 40 } : Room).slots) := by
  refine MetFree.of_bodySF (plainFor_of_name pn_18) hisR ?_
  intro p e s m args below meth c s₁ Bd hml0 hP hK
  obtain ⟨rfl, hZ, hh⟩ := hP
  have hx := Bd.exec
  have hby := Bd.bytes
  have hml : c.maxLocals = 6 := hml0
  have hown : s.vm.findClass "java/lang/StringUTF16" = some m.cls := findClass_of_methodNamed Bd.named
  have X0 : Stand p l e ({ frames := 3, cells := 2, slots := 3, locals := 40 } : Room) s m #[(.ref p0), (.int 0), (.int 1)] below meth c s₁ [] 0 0 := Stand.of_body Bd
  have e0 : s₁.heap = h0 := by rw [← hh, Bd.state]; rfl
  have N0 := Fr.nil n0
  have s0 : Steps p.tables e below (s₁.setTop (entryFrame m #[(.ref p0), (.int 0), (.int 1)] 6)) (s₁.setTop (mkF m 0 #[.val (.ref p0), .val (.int 0), .val (.int 1), .unset, .unset, .unset] [])) := castTop (ef_rmc3_1 m p0) (Steps.refl _)
  obtain ⟨A₀, hA₀⟩ : ∃ z, z = (s₁.setTop (entryFrame m #[(.ref p0), (.int 0), (.int 1)] 6)) := ⟨_, rfl⟩
  rw [← hA₀] at s0
  obtain ⟨T1, h1, k1, X1, e1, E1, A1, st1⟩ := newP X0 hx hZ (wq hw 23 rfl) e0 (g := (mkF m 1 #[.val (.ref p0), .val (.int 0), .val (.int 1), .unset, .unset, .unset] [(.int 1)])) rfl (hb hby d5_1) rfl (by decide) (cap := 1) (by decide) (by decide) (by decide) (by decide)
  obtain ⟨b1, g1⟩ : ∃ z, z = h0.size := ⟨_, rfl⟩
  rw [← g1] at A1 st1
  have ne_p0_b1 : p0 ≠ b1 := Nat.ne_of_lt (Nat.lt_of_lt_of_le F0_.lt (Nat.le_of_eq g1.symm))
  have g_b1 : n0 ≤ b1 := Nat.le_trans (Nat.le_of_eq O0.1.symm) (Nat.le_trans O0.2.1 (Nat.le_of_eq g1.symm))
  have sz_b1 : h0.size ≤ b1 := Nat.le_trans (Keep.refl h0 []).1 (Nat.le_of_eq g1.symm)
  have O1 := O0.ext E1
  have K1 : Keep h0 h1 [] := (Keep.refl h0 []).ext E1
  have V1 : Arv Z h1 b1 k1 .byte 1 [(.int 0)] (.int 0) := (Arv.new A1 (by decide)).pad (pad_rep [] (.int 0) 1)
  have s2 : Steps p.tables e below A₀ (T1.setTop (mkF m 9 #[.val (.ref p0), .val (.int 0), .val (.int 1), .val (.ref b1), .unset, .unset] [(.int 1), (.int 0), (.ref b1), (.int 0), (.ref p0)])) := by
    refine s0.trans ?_
    refine XS.iloadN X0.here hx rfl (hb hby d5_0) rfl ?_
    refine st1 _ ?_
    refine XS.astoreN X1.here hx rfl (hb hby d5_3) rfl rfl (l' := #[.val (.ref p0), .val (.int 0), .val (.int 1), .val (.ref b1), .unset, .unset]) rfl ?_
    refine XS.aloadN X1.here hx rfl (hb hby d5_4) rfl rfl ?_
    refine XS.iloadN X1.here hx rfl (hb hby d5_5) rfl ?_
    refine XS.aloadN X1.here hx rfl (hb hby d5_6) rfl rfl ?_
    refine XS.iconst X1.here hx rfl (hb hby d5_7) ?_
    refine XS.iloadN X1.here hx rfl (hb hby d5_8) rfl ?_
    exact Steps.refl _
  by_cases hy3 : (255 : Int32) < c0
  · have c4 : Arv Z h1 p0 kc .char 1 [(.int c0)] (.int 0) := (F0_.ext E1)
    obtain ⟨_, _, ⟨T5, L5, k5, n5⟩, -, X5, ⟨Lc5, hQ5, l5, y5, z5⟩, st5⟩ := Jvm.LawKit.callS X1 hx (y := (⟨"java/lang/StringUTF16", "compress", "([CI[BII)I"⟩ : MethodName)) hown (mvT hZ (wq hw 24 rfl)) (mvT hZ (wq hw 25 rfl)) (mvT hZ (wq hw 21 rfl)) (mvT hZ (wq hw 26 rfl)) (by decide) (backOf (W := 0) (rmc5_1_0 l Z a0 hw [] p0 b1 kc c0 k1 h1 n0 O1 c4 V1 g_b1 ne_p0_b1 hy3) hZ (wq hw 26 rfl) (wq hw 21 rfl) (by decide) (by decide)) (g := (mkF m 9 #[.val (.ref p0), .val (.int 0), .val (.int 1), .val (.ref b1), .unset, .unset] [(.int 1), (.int 0), (.ref b1), (.int 0), (.ref p0)])) rfl (by rw [hml]; rfl) (argsL := [(.ref p0), (.int 0), (.ref b1), (.int 0), (.int 1)]) (rest := []) (lenOf pd_rmc3_1_0 rfl) rfl (by exact Nat.le_refl _) (hb hby d5_9) (fun _ _ => ⟨rfl, e1, (by decide : 1 + 0 ≤ _), (by decide : 1 + 0 ≤ _)⟩)
    dsimp only [Pt.U, Pt.locs, Pt.cells, Pt.slots] at X5 l5 y5 z5 st5 hQ5
    subst l5 y5 z5
    obtain ⟨rfl, Nq5, Kc5, f5_0⟩ := hQ5
    have N5 := Fr.app N0 Nq5
    have K5 : Keep h0 T5.heap [] := K1.trans Kc5 (allS (Or.inr sz_b1) all0)
    have O5 := O1.keep Kc5 (allS g_b1 all0)
    have c6 : Arv Z T5.heap p0 kc .char 1 [(.int c0)] (.int 0) := (c4.keep Kc5 (ninS ne_p0_b1 nin0))
    obtain ⟨_, _, ⟨T7, L7, k7, n7⟩, -, X7, ⟨Lc7, hQ7, l7, y7, z7⟩, st7⟩ := Jvm.LawKit.callS X5 hx (y := (⟨"java/lang/StringUTF16", "toBytes", "([CII)[B"⟩ : MethodName)) hown (mvT hZ (wq hw 75 rfl)) (mvT hZ (wq hw 76 rfl)) (mvT hZ (wq hw 21 rfl)) (mvT hZ (wq hw 77 rfl)) (by decide) (backOf (W := 0) (rmtb1 l Z a0 hw [] p0 kc c0 T5.heap n0 O5 c6 F1_ F2_ F3_) hZ (wq hw 77 rfl) (wq hw 21 rfl) (by decide) (by decide)) (g := (mkF m 23 #[.val (.ref p0), .val (.int 0), .val (.int 1), .val (.ref b1), .val (.int 0), .unset] [(.int 1), (.int 0), (.ref p0)])) rfl (by rw [hml]; rfl) (argsL := [(.ref p0), (.int 0), (.int 1)]) (rest := []) (lenOf pd_rmc3_1_1 rfl) rfl (by exact Nat.le_refl _) (hb hby d5_23) (fun _ _ => ⟨rfl, (rfl : T5.heap = T5.heap), (by decide : 1 + 1 ≤ _), (by decide : 1 + 2 ≤ _)⟩)
    dsimp only [Pt.U, Pt.locs, Pt.cells, Pt.slots] at X7 l7 y7 z7 st7 hQ7
    subst l7 y7 z7
    obtain ⟨u8, u9, rfl, Nq7, Kc7, f7_0, f7_1⟩ := hQ7
    have N7 := Fr.app N5 Nq7
    have ne_p0_u8 : p0 ≠ u8 := Nat.ne_of_lt (Nat.lt_of_lt_of_le c6.lt f7_1)
    have ne_b1_u8 : b1 ≠ u8 := Nat.ne_of_lt (Nat.lt_of_lt_of_le f5_0.lt f7_1)
    have g_u8 : n0 ≤ u8 := Nat.le_trans (Nat.le_of_eq O5.1.symm) (Nat.le_trans O5.2.1 f7_1)
    have sz_u8 : h0.size ≤ u8 := Nat.le_trans K5.1 f7_1
    have K7 : Keep h0 T7.heap [] := K5.trans Kc7 all0
    have O7 := O5.keep Kc7 all0
    obtain ⟨T10, L10, X10, e10, N10, st10⟩ := own_callP X7 hx hZ hown (wk91 hw) (wk92 hw) (wk21 hw) (wk93 hw) (by decide) (rmug l Z a0 hw [] u8 (0 : Int32) u9 (2 : Int32) [(((c0 >>> ((0 : Int32) &&& 31)).toInt8.toInt32).toInt8.toInt32), (((c0 >>> ((8 : Int32) &&& 31)).toInt8.toInt32).toInt8.toInt32)] T7.heap n0 O7 f7_0 F1_ F2_ F3_ ⟨by decide, by decide⟩ ⟨by decide, by decide⟩) (rfl : T7.heap = T7.heap) N7 (W := 0) (by decide) (by decide) (by decide) (by decide) (g := (mkF m 32 #[.val (.ref p0), .val (.int 0), .val (.int 1), .val (.ref b1), .val (.int 0), .val (.ref u8)] [(.int 0), (.ref u8)])) rfl (by rw [hml]; rfl) (argsL := [(.ref u8), (.int 0)]) (rest := []) (lenOf pd_rmc3_1_2 rfl) rfl (by exact Nat.le_refl _) (hb hby d5_32)
    have c11 : Arv Z T7.heap p0 kc .char 1 [(.int c0)] (.int 0) := (c6.keep Kc7 nin0)
    obtain ⟨cla12, Ara12, qa12, Sa12, Za12, Ha12, Ga12⟩ := id c11
    have s13 : Steps p.tables e below A₀ (T10.setTop (mkF m 56 #[.val (.ref p0), .val (.int 0), .val (.int 1), .val (.ref b1), .val (.int 0), .val (.ref u8)] [(.ref u8)])) := by
      refine s2.trans ?_
      refine st5 _ ?_
      refine XS.istore X5.here hx rfl (hb hby d5_12) rfl (l' := #[.val (.ref p0), .val (.int 0), .val (.int 1), .val (.ref b1), .val (.int 0), .unset]) rfl ?_
      refine XS.iload X5.here hx rfl (hb hby d5_14) rfl ?_
      refine XS.iloadN X5.here hx rfl (hb hby d5_16) rfl ?_
      refine XS.icmpNo X5.here hx rfl (hb hby d5_17) rfl (feq (by decide)).1 ?_
      refine XS.aloadN X5.here hx rfl (hb hby d5_20) rfl rfl ?_
      refine XS.iloadN X5.here hx rfl (hb hby d5_21) rfl ?_
      refine XS.iloadN X5.here hx rfl (hb hby d5_22) rfl ?_
      show Steps p.tables e below (T5.setTop (mkF m 23 #[.val (.ref p0), .val (.int 0), .val (.int 1), .val (.ref b1), .val (.int 0), .unset] [(.int 1), (.int 0), (.ref p0)])) _
      refine st7 _ ?_
      refine XS.astore X7.here hx rfl (hb hby d5_26) rfl rfl (l' := #[.val (.ref p0), .val (.int 0), .val (.int 1), .val (.ref b1), .val (.int 0), .val (.ref u8)]) rfl ?_
      refine XS.aload X7.here hx rfl (hb hby d5_28) rfl rfl ?_
      refine XS.iload X7.here hx rfl (hb hby d5_30) rfl ?_
      refine st10 _ ?_
      refine XS.sipush X10.here hx rfl (hb hby d5_35) ?_
      refine XS.icmpYes X10.here hx rfl (pc0 := 38) (pc' := 54) rfl (hb hby d5_38) rfl (tlt (own_gc_gt c0 hy3 (Ga12 0 (by rw [Sa12]; decide)))).2.2.1 (by decide) (by decide) ?_
      refine XS.aload X10.here hx rfl (hb hby d5_54) rfl rfl ?_
      exact Steps.refl _
    subst hA₀
    obtain ⟨fs, hr, hrun, hended, hW, hsame⟩ := X10.leave (v := some (.ref u8)) (fun h => by rw [Bd.returns] at h; cases h)
    refine ⟨_, _, s13.trans ?_, hrun, hended, _, _, rfl, ?_, ⟨_, rfl⟩, hW, hsame.mono (by decide) (by decide)⟩
    · show Steps p.tables e below (T10.setTop (mkF m 56 #[.val (.ref p0), .val (.int 0), .val (.int 1), .val (.ref b1), .val (.int 0), .val (.ref u8)] [(.ref u8)])) _
      jvm_step X10.here [X10.here.top, hx, (hb hby d5_56), X10.method', Bd.returns, Value.isRef, FieldType.isReference]
      first | (intro acts; rw [hr _ acts rfl rfl rfl]) | rw [hr _ _ rfl rfl rfl]
      exact Steps.refl _
    · show Qc3_1 Z p0 kc c0 h0 n0 _ T10.heap _
      rw [e10]
      exact ⟨u8, u9, (2 : Int32), [(((c0 >>> ((0 : Int32) &&& 31)).toInt8.toInt32).toInt8.toInt32), (((c0 >>> ((8 : Int32) &&& 31)).toInt8.toInt32).toInt8.toInt32)], rfl, N10, K7, f7_0, sz_u8, (Or.inr rfl)⟩
  · have c14 : Arv Z h1 p0 kc .char 1 [(.int c0)] (.int 0) := (F0_.ext E1)
    obtain ⟨_, _, ⟨T15, L15, k15, n15⟩, -, X15, ⟨Lc15, hQ15, l15, y15, z15⟩, st15⟩ := Jvm.LawKit.callS X1 hx (y := (⟨"java/lang/StringUTF16", "compress", "([CI[BII)I"⟩ : MethodName)) hown (mvT hZ (wq hw 24 rfl)) (mvT hZ (wq hw 25 rfl)) (mvT hZ (wq hw 21 rfl)) (mvT hZ (wq hw 26 rfl)) (by decide) (backOf (W := 0) (rmc5_1_n l Z a0 hw [] p0 b1 kc c0 k1 h1 n0 O1 c14 V1 g_b1 ne_p0_b1 hy3) hZ (wq hw 26 rfl) (wq hw 21 rfl) (by decide) (by decide)) (g := (mkF m 9 #[.val (.ref p0), .val (.int 0), .val (.int 1), .val (.ref b1), .unset, .unset] [(.int 1), (.int 0), (.ref b1), (.int 0), (.ref p0)])) rfl (by rw [hml]; rfl) (argsL := [(.ref p0), (.int 0), (.ref b1), (.int 0), (.int 1)]) (rest := []) (lenOf pd_rmc3_1_0 rfl) rfl (by exact Nat.le_refl _) (hb hby d5_9) (fun _ _ => ⟨rfl, e1, (by decide : 1 + 0 ≤ _), (by decide : 1 + 0 ≤ _)⟩)
    dsimp only [Pt.U, Pt.locs, Pt.cells, Pt.slots] at X15 l15 y15 z15 st15 hQ15
    subst l15 y15 z15
    obtain ⟨rfl, Nq15, Kc15, f15_0⟩ := hQ15
    have N15 := Fr.app N0 Nq15
    have K15 : Keep h0 T15.heap [] := K1.trans Kc15 (allS (Or.inr sz_b1) all0)
    have O15 := O1.keep Kc15 (allS g_b1 all0)
    have s16 : Steps p.tables e below A₀ (T15.setTop (mkF m 58 #[.val (.ref p0), .val (.int 0), .val (.int 1), .val (.ref b1), .val (.int 1), .unset] [(.ref b1)])) := by
      refine s2.trans ?_
      refine st15 _ ?_
      refine XS.istore X15.here hx rfl (hb hby d5_12) rfl (l' := #[.val (.ref p0), .val (.int 0), .val (.int 1), .val (.ref b1), .val (.int 1), .unset]) rfl ?_
      refine XS.iload X15.here hx rfl (hb hby d5_14) rfl ?_
      refine XS.iloadN X15.here hx rfl (hb hby d5_16) rfl ?_
      refine XS.icmpYes X15.here hx rfl (pc0 := 17) (pc' := 57) rfl (hb hby d5_17) rfl (teq (by decide)).1 (by decide) (by decide) ?_
      refine XS.aloadN X15.here hx rfl (hb hby d5_57) rfl rfl ?_
      exact Steps.refl _
    subst hA₀
    obtain ⟨fs, hr, hrun, hended, hW, hsame⟩ := X15.leave (v := some (.ref b1)) (fun h => by rw [Bd.returns] at h; cases h)
    refine ⟨_, _, s16.trans ?_, hrun, hended, _, _, rfl, ?_, ⟨_, rfl⟩, hW, hsame.mono (by decide) (by decide)⟩
    · show Steps p.tables e below (T15.setTop (mkF m 58 #[.val (.ref p0), .val (.int 0), .val (.int 1), .val (.ref b1), .val (.int 1), .unset] [(.ref b1)])) _
      jvm_step X15.here [X15.here.top, hx, (hb hby d5_58), X15.method', Bd.returns, Value.isRef, FieldType.isReference]
      first | (intro acts; rw [hr _ acts rfl rfl rfl]) | rw [hr _ _ rfl rfl rfl]
      exact Steps.refl _
    · show Qc3_1 Z p0 kc c0 h0 n0 _ T15.heap _
      exact ⟨b1, k1, (1 : Int32), [((c0.toInt8.toInt32).toInt8.toInt32)], rfl, N15, K15, f15_0, sz_b1, (Or.inl rfl)⟩
theorem d7_0 : decode jdk_52_method_15_code 0 = .ok (.iload_n 1, 1) := by decide +kernel
theorem d7_1 : decode jdk_52_method_15_code 1 = .ok (.aload_n 0, 1) := by decide +kernel
theorem d7_2 : decode jdk_52_method_15_code 2 = .ok (.arraylength, 1) := by decide +kernel
theorem d7_3 : decode jdk_52_method_15_code 3 = .ok (.isub, 1) := by decide +kernel
theorem d7_4 : decode jdk_52_method_15_code 4 = .ok (.bipush 31, 2) := by decide +kernel
theorem d7_6 : decode jdk_52_method_15_code 6 = .ok (.iushr, 1) := by decide +kernel
theorem d7_7 : decode jdk_52_method_15_code 7 = .ok (.i2b, 1) := by decide +kernel
theorem d7_8 : decode jdk_52_method_15_code 8 = .ok (.ireturn, 1) := by decide +kernel
theorem ef_rmcf_1_1 (m : MethodId) (p0 : Addr) : entryFrame m #[(.ref p0), (.int 1)] 2 = mkF m 0 #[.val (.ref p0), .val (.int 1)] [] := by first | (simp [entryFrame, mkF, argsToLocals, Value.category]; done) | rfl
def Qcf_1_1 (Z : State) (p0 : Addr) (kb : ClassId) (xs : List Int32) (h0 : Heap) (n0 : Nat) (v : Option Value) (h : Heap) (L : List Loc) : Prop := v = some (.int 0) ∧ Fr n0 L ∧ h = h0
set_option maxRecDepth 65536 in
set_option maxHeartbeats 40000000 in
theorem rmcf_1_1 (l : Launch) (Z : State) (a0 : Array Value) (hw : ∀ d ∈ tables_1, d.before a0 Z = true) (ws : List Jvm.Cond) (p0 : Addr) (kb : ClassId) (xs : List Int32) (h0 : Heap) (n0 : Nat) (O0 : Old Z n0 h0) (F0_ : Arv Z h0 p0 kb .byte 1 (xs.map Value.int) (.int 0)) :
    MetFree l nm7 (head1 (Jvm.Cond.code nm7 jdk_52_method_15_code 2 (some .byte) :: ws) ({ frames := 0, cells := 0, slots := 0, locals := 0 } : Room)) (fun a U => a = #[(.ref p0), (.int 1)] ∧ Z.Warmed39 U.vm ∧ U.heap = h0) (fun _ _ _ _ _ => True) (fun _ U o U' => ∃ v L, o = .returned v ∧ Qcf_1_1 Z p0 kb xs h0 n0 v U'.heap L ∧ FrameEnd U o U' L ({ frames := 0, cells := 0, slots := 0, locals := 0 } : Room).cells ({ frames := 0, cells := 0, slots := 0, locals := 0 } : Room).slots) := by
  refine MetFree.of_bodySF (plainFor_of_name pn_18) hisR ?_
  intro p e s m args below meth c s₁ Bd hml0 hP hK
  obtain ⟨rfl, hZ, hh⟩ := hP
  have hx := Bd.exec
  have hby := Bd.bytes
  have hml : c.maxLocals = 2 := hml0
  have hown : s.vm.findClass "java/lang/StringUTF16" = some m.cls := findClass_of_methodNamed Bd.named
  have X0 : Stand p l e ({ frames := 0, cells := 0, slots := 0, locals := 0 } : Room) s m #[(.ref p0), (.int 1)] below meth c s₁ [] 0 0 := Stand.of_body Bd
  have e0 : s₁.heap = h0 := by rw [← hh, Bd.state]; rfl
  have N0 := Fr.nil n0
  have s0 : Steps p.tables e below (s₁.setTop (entryFrame m #[(.ref p0), (.int 1)] 2)) (s₁.setTop (mkF m 0 #[.val (.ref p0), .val (.int 1)] [])) := castTop (ef_rmcf_1_1 m p0) (Steps.refl _)
  obtain ⟨A₀, hA₀⟩ : ∃ z, z = (s₁.setTop (entryFrame m #[(.ref p0), (.int 1)] 2)) := ⟨_, rfl⟩
  rw [← hA₀] at s0
  obtain ⟨cla1, Ara1, qa1, Sa1, Za1, Ha1, Ga1⟩ := id F0_
  have s2 : Steps p.tables e below A₀ (s₁.setTop (mkF m 8 #[.val (.ref p0), .val (.int 1)] [(.int ((0 : Int32).toInt8.toInt32))])) := by
    refine s0.trans ?_
    refine XS.iloadN X0.here hx rfl (hb hby d7_0) rfl ?_
    refine XS.aloadN X0.here hx rfl (hb hby d7_1) rfl rfl ?_
    refine X0.arraylength hx (by rw [e0]; exact Ara1.1) (State.isArrayOf_alike hZ.alike Ara1.2.1) (g := (mkF m 2 #[.val (.ref p0), .val (.int 1)] [(.ref p0), (.int 1)])) rfl rfl (hb hby d7_2) _ ?_
    rw [len_of Sa1 Za1]
    show Steps p.tables e below (s₁.setTop (mkF m 3 #[.val (.ref p0), .val (.int 1)] [(.int 1), (.int 1)])) _
    refine XS.isub X0.here hx rfl (hb hby d7_3) rfl ?_
    refine XS.bipush X0.here hx rfl (hb hby d7_4) ?_
    refine XS.iushr X0.here hx rfl (hb hby d7_6) rfl ?_
    refine XS.i2b X0.here hx rfl (hb hby d7_7) rfl ?_
    exact Steps.refl _
  subst hA₀
  obtain ⟨fs, hr, hrun, hended, hW, hsame⟩ := X0.leave (v := some (.int (nar .byte ((0 : Int32).toInt8.toInt32)))) (fun h => by rw [Bd.returns] at h; cases h)
  refine ⟨_, _, s2.trans ?_, hrun, hended, _, _, rfl, ?_, ⟨_, rfl⟩, hW, hsame.mono (by decide) (by decide)⟩
  · show Steps p.tables e below (s₁.setTop (mkF m 8 #[.val (.ref p0), .val (.int 1)] [(.int ((0 : Int32).toInt8.toInt32))])) _
    exact retN X0 hx (t := .byte) Bd.returns (by simp) (hb hby d7_8) hr
  · show Qcf_1_1 Z p0 kb xs h0 n0 _ s₁.heap _
    rw [e0]
    exact ⟨rfl, N0, rfl⟩
theorem ef_rmcf_1_2 (m : MethodId) (p0 : Addr) : entryFrame m #[(.ref p0), (.int 1)] 2 = mkF m 0 #[.val (.ref p0), .val (.int 1)] [] := by first | (simp [entryFrame, mkF, argsToLocals, Value.category]; done) | rfl
def Qcf_1_2 (Z : State) (p0 : Addr) (kb : ClassId) (xs : List Int32) (h0 : Heap) (n0 : Nat) (v : Option Value) (h : Heap) (L : List Loc) : Prop := v = some (.int 1) ∧ Fr n0 L ∧ h = h0
set_option maxRecDepth 65536 in
set_option maxHeartbeats 40000000 in
theorem rmcf_1_2 (l : Launch) (Z : State) (a0 : Array Value) (hw : ∀ d ∈ tables_1, d.before a0 Z = true) (ws : List Jvm.Cond) (p0 : Addr) (kb : ClassId) (xs : List Int32) (h0 : Heap) (n0 : Nat) (O0 : Old Z n0 h0) (F0_ : Arv Z h0 p0 kb .byte 2 (xs.map Value.int) (.int 0)) :
    MetFree l nm7 (head1 (Jvm.Cond.code nm7 jdk_52_method_15_code 2 (some .byte) :: ws) ({ frames := 0, cells := 0, slots := 0, locals := 0 } : Room)) (fun a U => a = #[(.ref p0), (.int 1)] ∧ Z.Warmed39 U.vm ∧ U.heap = h0) (fun _ _ _ _ _ => True) (fun _ U o U' => ∃ v L, o = .returned v ∧ Qcf_1_2 Z p0 kb xs h0 n0 v U'.heap L ∧ FrameEnd U o U' L ({ frames := 0, cells := 0, slots := 0, locals := 0 } : Room).cells ({ frames := 0, cells := 0, slots := 0, locals := 0 } : Room).slots) := by
  refine MetFree.of_bodySF (plainFor_of_name pn_18) hisR ?_
  intro p e s m args below meth c s₁ Bd hml0 hP hK
  obtain ⟨rfl, hZ, hh⟩ := hP
  have hx := Bd.exec
  have hby := Bd.bytes
  have hml : c.maxLocals = 2 := hml0
  have hown : s.vm.findClass "java/lang/StringUTF16" = some m.cls := findClass_of_methodNamed Bd.named
  have X0 : Stand p l e ({ frames := 0, cells := 0, slots := 0, locals := 0 } : Room) s m #[(.ref p0), (.int 1)] below meth c s₁ [] 0 0 := Stand.of_body Bd
  have e0 : s₁.heap = h0 := by rw [← hh, Bd.state]; rfl
  have N0 := Fr.nil n0
  have s0 : Steps p.tables e below (s₁.setTop (entryFrame m #[(.ref p0), (.int 1)] 2)) (s₁.setTop (mkF m 0 #[.val (.ref p0), .val (.int 1)] [])) := castTop (ef_rmcf_1_2 m p0) (Steps.refl _)
  obtain ⟨A₀, hA₀⟩ : ∃ z, z = (s₁.setTop (entryFrame m #[(.ref p0), (.int 1)] 2)) := ⟨_, rfl⟩
  rw [← hA₀] at s0
  obtain ⟨cla1, Ara1, qa1, Sa1, Za1, Ha1, Ga1⟩ := id F0_
  have s2 : Steps p.tables e below A₀ (s₁.setTop (mkF m 8 #[.val (.ref p0), .val (.int 1)] [(.int ((1 : Int32).toInt8.toInt32))])) := by
    refine s0.trans ?_
    refine XS.iloadN X0.here hx rfl (hb hby d7_0) rfl ?_
    refine XS.aloadN X0.here hx rfl (hb hby d7_1) rfl rfl ?_
    refine X0.arraylength hx (by rw [e0]; exact Ara1.1) (State.isArrayOf_alike hZ.alike Ara1.2.1) (g := (mkF m 2 #[.val (.ref p0), .val (.int 1)] [(.ref p0), (.int 1)])) rfl rfl (hb hby d7_2) _ ?_
    rw [len_of Sa1 Za1]
    show Steps p.tables e below (s₁.setTop (mkF m 3 #[.val (.ref p0), .val (.int 1)] [(.int 2), (.int 1)])) _
    refine XS.isub X0.here hx rfl (hb hby d7_3) rfl ?_
    refine XS.bipush X0.here hx rfl (hb hby d7_4) ?_
    refine XS.iushr X0.here hx rfl (hb hby d7_6) rfl ?_
    refine XS.i2b X0.here hx rfl (hb hby d7_7) rfl ?_
    exact Steps.refl _
  subst hA₀
  obtain ⟨fs, hr, hrun, hended, hW, hsame⟩ := X0.leave (v := some (.int (nar .byte ((1 : Int32).toInt8.toInt32)))) (fun h => by rw [Bd.returns] at h; cases h)
  refine ⟨_, _, s2.trans ?_, hrun, hended, _, _, rfl, ?_, ⟨_, rfl⟩, hW, hsame.mono (by decide) (by decide)⟩
  · show Steps p.tables e below (s₁.setTop (mkF m 8 #[.val (.ref p0), .val (.int 1)] [(.int ((1 : Int32).toInt8.toInt32))])) _
    exact retN X0 hx (t := .byte) Bd.returns (by simp) (hb hby d7_8) hr
  · show Qcf_1_2 Z p0 kb xs h0 n0 _ s₁.heap _
    rw [e0]
    exact ⟨rfl, N0, rfl⟩
theorem d3_0 : decode jdk_42_method_149_code 0 = .ok (.aload_n 0, 1) := by decide +kernel
theorem d3_1 : decode jdk_42_method_149_code 1 = .ok (.invokespecial 1, 3) := by decide +kernel
theorem d3_4 : decode jdk_42_method_149_code 4 = .ok (.iload_n 3, 1) := by decide +kernel
theorem d3_5 : decode jdk_42_method_149_code 5 = .ok (.ifCond .ne 22, 3) := by decide +kernel
theorem d3_27 : decode jdk_42_method_149_code 27 = .ok (.getstatic 38, 3) := by decide +kernel
theorem d3_30 : decode jdk_42_method_149_code 30 = .ok (.ifCond .eq 28, 3) := by decide +kernel
theorem d3_33 : decode jdk_42_method_149_code 33 = .ok (.aload_n 1, 1) := by decide +kernel
theorem d3_34 : decode jdk_42_method_149_code 34 = .ok (.iload_n 2, 1) := by decide +kernel
theorem d3_35 : decode jdk_42_method_149_code 35 = .ok (.iload_n 3, 1) := by decide +kernel
theorem d3_36 : decode jdk_42_method_149_code 36 = .ok (.invokestatic 177, 3) := by decide +kernel
theorem d3_39 : decode jdk_42_method_149_code 39 = .ok (.astore 5, 2) := by decide +kernel
theorem d3_41 : decode jdk_42_method_149_code 41 = .ok (.aload_n 0, 1) := by decide +kernel
theorem d3_42 : decode jdk_42_method_149_code 42 = .ok (.aload 5, 2) := by decide +kernel
theorem d3_44 : decode jdk_42_method_149_code 44 = .ok (.iload_n 3, 1) := by decide +kernel
theorem d3_45 : decode jdk_42_method_149_code 45 = .ok (.invokestatic 47, 3) := by decide +kernel
theorem d3_48 : decode jdk_42_method_149_code 48 = .ok (.putfield 15, 3) := by decide +kernel
theorem d3_51 : decode jdk_42_method_149_code 51 = .ok (.aload_n 0, 1) := by decide +kernel
theorem d3_52 : decode jdk_42_method_149_code 52 = .ok (.aload 5, 2) := by decide +kernel
theorem d3_54 : decode jdk_42_method_149_code 54 = .ok (.putfield 9, 3) := by decide +kernel
theorem d3_57 : decode jdk_42_method_149_code 57 = .ok (.return_, 1) := by decide +kernel
theorem pn_3 : plainName "java/lang/String" = true := by first | (simp [plainName, overriddenIn]; done) | decide +kernel
theorem pd_rmsv_1_0 : parseMethodDescriptor "([CII)[B" = some ⟨[(.array .char), .int, .int], some (.array .byte)⟩ := by decide +kernel
theorem pd_rmsv_1_1 : parseMethodDescriptor "([BI)B" = some ⟨[(.array .byte), .int], some .byte⟩ := by decide +kernel
theorem ef_rmsv_1 (m : MethodId) (p0 : Addr) (p1 : Addr) : entryFrame m #[(.ref p0), (.ref p1), (.int 0), (.int 1), .null] 6 = mkF m 0 #[.val (.ref p0), .val (.ref p1), .val (.int 0), .val (.int 1), .val .null, .unset] [] := by first | (simp [entryFrame, mkF, argsToLocals, Value.category]; done) | rfl
def Qsv_1 (Z : State) (p0 : Addr) (p1 : Addr) (wc : Int32) (kc : ClassId) (c0 : Int32) (h0 : Heap) (n0 : Nat) (v : Option Value) (h : Heap) (L : List Loc) : Prop := ∃ b : Addr, ∃ kb : ClassId, ∃ ln : Int32, ∃ cd : Int32, ∃ xs : List Int32, v = none ∧ Fr n0 L ∧ Keep h0 h [p0] ∧ (Exa Z h p0 "java/lang/String") ∧ (Fld Z h p0 "java/lang/String" "value" "[B" (.ref b)) ∧ (Fld Z h p0 "java/lang/String" "coder" "B" (.int cd)) ∧ (Arv Z h b kb .byte ln (xs.map Value.int) (.int 0)) ∧ (h0.size ≤ b) ∧ ((ln = (1 : Int32) ∧ cd = (0 : Int32)) ∨ (ln = (2 : Int32) ∧ cd = (1 : Int32)))
set_option maxRecDepth 65536 in
set_option maxHeartbeats 40000000 in
theorem rmsv_1 (l : Launch) (Z : State) (a0 : Array Value) (hw : ∀ d ∈ tables_1, d.before a0 Z = true) (ws : List Jvm.Cond) (p0 : Addr) (p1 : Addr) (wc : Int32) (kc : ClassId) (c0 : Int32) (h0 : Heap) (n0 : Nat) (O0 : Old Z n0 h0) (F0_ : Exa Z h0 p0 "java/lang/String") (F1_ : Fld Z h0 p0 "java/lang/String" "value" "[B" .null) (F2_ : Fld Z h0 p0 "java/lang/String" "coder" "B" (.int 0)) (F3_ : n0 ≤ p0) (F4_ : Arv Z h0 p1 kc .char 1 [(.int c0)] (.int 0)) (F5_ : Sta Z Z.heap "java/lang/String" "COMPACT_STRINGS" "Z" (.int wc)) (F6_ : p0 ≠ p1) (F7_ : Sta Z Z.heap "java/lang/StringUTF16" "$assertionsDisabled" "Z" (.int 1)) (F8_ : Sta Z Z.heap "java/lang/StringUTF16" "HI_BYTE_SHIFT" "I" (.int 0)) (F9_ : Sta Z Z.heap "java/lang/StringUTF16" "LO_BYTE_SHIFT" "I" (.int 8)) (hcs : ¬ (wc = (0 : Int32))) :
    MetFree l nm8 (head1 (Jvm.Cond.code nm8 jdk_42_method_149_code 6 none :: ws) ({ frames := 4, cells := 2, slots := 3, locals := 57 } : Room)) (fun a U => a = #[(.ref p0), (.ref p1), (.int 0), (.int 1), .null] ∧ Z.Warmed39 U.vm ∧ U.heap = h0) (fun _ _ _ _ _ => True) (fun _ U o U' => ∃ v L, o = .returned v ∧ Qsv_1 Z p0 p1 wc kc c0 h0 n0 v U'.heap L ∧ FrameEnd U o U' L ({ frames := 4, cells := 2, slots := 3, locals := 57 } : Room).cells ({ frames := 4, cells := 2, slots := 3, locals := 57 } : Room).slots) := by
  refine MetFree.of_bodySF (plainFor_of_name pn_3) hisR ?_
  intro p e s m args below meth c s₁ Bd hml0 hP hK
  obtain ⟨rfl, hZ, hh⟩ := hP
  have hx := Bd.exec
  have hby := Bd.bytes
  have hml : c.maxLocals = 6 := hml0
  have hown : s.vm.findClass "java/lang/String" = some m.cls := findClass_of_methodNamed Bd.named
  have hnm := (name_of_methodNamed Bd.named Bd.method).1
  have X0 : Stand p l e ({ frames := 4, cells := 2, slots := 3, locals := 57 } : Room) s m #[(.ref p0), (.ref p1), (.int 0), (.int 1), .null] below meth c s₁ [] 0 0 := Stand.of_body Bd
  have e0 : s₁.heap = h0 := by rw [← hh, Bd.state]; rfl
  have N0 := Fr.nil n0
  have s0 : Steps p.tables e below (s₁.setTop (entryFrame m #[(.ref p0), (.ref p1), (.int 0), (.int 1), .null] 6)) (s₁.setTop (mkF m 0 #[.val (.ref p0), .val (.ref p1), .val (.int 0), .val (.int 1), .val .null, .unset] [])) := castTop (ef_rmsv_1 m p0 p1) (Steps.refl _)
  obtain ⟨A₀, hA₀⟩ : ∃ z, z = (s₁.setTop (entryFrame m #[(.ref p0), (.ref p1), (.int 0), (.int 1), .null] 6)) := ⟨_, rfl⟩
  rw [← hA₀] at s0
  obtain ⟨T1, X1, e1, st1⟩ := initO X0 hx hZ hown (wq hw 15 rfl) (wq hw 16 rfl) (wq hw 17 rfl) e0 (g := (mkF m 1 #[.val (.ref p0), .val (.ref p1), .val (.int 0), .val (.int 1), .val .null, .unset] [(.ref p0)])) rfl (by rw [hml]; rfl) rfl (hb hby d3_1) (by decide) (W := 0) (by exact Nat.le_refl _) (by decide)
  obtain ⟨T2, X2, e2, st2⟩ := getS2 X1 hx hZ hown (host := "") (Or.inl (wq hw 18 rfl)) Via.refl e1 (F5_.ext O0.2) (g := (mkF m 27 #[.val (.ref p0), .val (.ref p1), .val (.int 0), .val (.int 1), .val .null, .unset] [])) rfl (hb hby d3_27)
  obtain ⟨_, _, ⟨T3, L3, k3, n3⟩, -, X3, ⟨Lc3, hQ3, l3, y3, z3⟩, st3⟩ := Jvm.LawKit.callS X2 hx (y := (⟨"java/lang/StringUTF16", "compress", "([CII)[B"⟩ : MethodName)) hown (mvT hZ (wq hw 19 rfl)) (mvT hZ (wq hw 20 rfl)) (mvT hZ (wq hw 21 rfl)) (mvT hZ (wq hw 22 rfl)) (by decide) (backOf (W := 0) (rmc3_1 l Z a0 hw [] p1 kc c0 h0 n0 O0 F4_ F7_ F8_ F9_) hZ (wq hw 22 rfl) (wq hw 21 rfl) (by decide) (by decide)) (g := (mkF m 36 #[.val (.ref p0), .val (.ref p1), .val (.int 0), .val (.int 1), .val .null, .unset] [(.int 1), (.int 0), (.ref p1)])) rfl (by rw [hml]; rfl) (argsL := [(.ref p1), (.int 0), (.int 1)]) (rest := []) (lenOf pd_rmsv_1_0 rfl) rfl (by exact Nat.le_refl _) (hb hby d3_36) (fun _ _ => ⟨rfl, e2, (by decide : 0 + 2 ≤ _), (by decide : 0 + 3 ≤ _)⟩)
  dsimp only [Pt.U, Pt.locs, Pt.cells, Pt.slots] at X3 l3 y3 z3 st3 hQ3
  subst l3 y3 z3
  obtain ⟨u4, u5, u6, u7, rfl, Nq3, Kc3, f3_0, f3_1, f3_2⟩ := hQ3
  have N3 := Fr.app N0 Nq3
  have ne_p0_u4 : p0 ≠ u4 := Nat.ne_of_lt (Nat.lt_of_lt_of_le F0_.lt f3_1)
  have ne_p1_u4 : p1 ≠ u4 := Nat.ne_of_lt (Nat.lt_of_lt_of_le F4_.lt f3_1)
  have g_u4 : n0 ≤ u4 := Nat.le_trans (Nat.le_of_eq O0.1.symm) (Nat.le_trans O0.2.1 f3_1)
  have sz_u4 : h0.size ≤ u4 := Nat.le_trans (Keep.refl h0 [p0]).1 f3_1
  have K3 : Keep h0 T3.heap [p0] := (Keep.refl h0 [p0]).trans Kc3 all0
  have O3 := O0.keep Kc3 all0
  have s8 : Steps p.tables e below A₀ (T3.setTop (mkF m 39 #[.val (.ref p0), .val (.ref p1), .val (.int 0), .val (.int 1), .val .null, .unset] [(.ref u4)])) := by
    refine s0.trans ?_
    refine XS.aloadN X0.here hx rfl (hb hby d3_0) rfl rfl ?_
    refine st1 _ ?_
    refine XS.iloadN X1.here hx rfl (hb hby d3_4) rfl ?_
    refine XS.ifYes X1.here hx rfl (pc0 := 5) (pc' := 27) rfl (hb hby d3_5) rfl ((if0 _ _).trans (feq (by decide)).2) (by decide) (by decide) ?_
    refine st2 _ ?_
    refine XS.ifNo X2.here hx rfl (hb hby d3_30) rfl ((if0 _ _).trans (feq hcs).1) ?_
    refine XS.aloadN X2.here hx rfl (hb hby d3_33) rfl rfl ?_
    refine XS.iloadN X2.here hx rfl (hb hby d3_34) rfl ?_
    show Steps p.tables e below (T2.setTop (mkF m 35 #[.val (.ref p0), .val (.ref p1), .val (.int 0), .val (.int 1), .val .null, .unset] [(.int 0), (.ref p1)])) _
    refine XS.iloadN X2.here hx rfl (hb hby d3_35) rfl ?_
    refine st3 _ ?_
    exact Steps.refl _
  rcases f3_2 with rfl | rfl
  · obtain ⟨T9, L9, X9, e9, N9, st9⟩ := own_callP X3 hx hZ hown (wk27 hw) (wk28 hw) (wk21 hw) (wk29 hw) (by decide) (rmcf_1_1 l Z a0 hw [] u4 u5 u7 T3.heap n0 O3 f3_0) (rfl : T3.heap = T3.heap) N3 (W := 1) (by decide) (by decide) (by decide) (by decide) (g := (mkF m 45 #[.val (.ref p0), .val (.ref p1), .val (.int 0), .val (.int 1), .val .null, .val (.ref u4)] [(.int 1), (.ref u4), (.ref p0)])) rfl (by rw [hml]; rfl) (argsL := [(.ref u4), (.int 1)]) (rest := [(.ref p0)]) (lenOf pd_rmsv_1_1 rfl) rfl (by exact Nat.le_refl _) (hb hby d3_45)
    have c10 : Exa Z T3.heap p0 "java/lang/String" := (F0_.keep Kc3)
    have c11 : Fld Z T3.heap p0 "java/lang/String" "coder" "B" (.int 0) := (F2_.keep Kc3 nin0)
    obtain ⟨T12, h12, X12, e12, W12, st12⟩ := putFN X9 hx hZ hown (wq hw 30 rfl) Via.refl e9 c11 c10 (Or.inr ⟨(wq hw 31 rfl), rfl, hnm⟩) (wq hw 5 rfl) (ty := .byte) (v' := (.int ((0 : Int32).toInt8.toInt32))) (by decide) rfl (fits_nar_byte _) (g := (mkF m 48 #[.val (.ref p0), .val (.ref p1), .val (.int 0), .val (.int 1), .val .null, .val (.ref u4)] [(.int 0), (.ref p0)])) rfl rfl (hb hby d3_48)
    have Fw12 := c11.same W12
    have O12 := O3.wr W12 F3_
    have K12 : Keep h0 h12 [p0] := K3.wr W12 (Or.inl (List.mem_of_getElem? (i := 0) rfl))
    have N12 := Fr.snoc X12 N9 F3_
    have c13 : Exa Z h12 p0 "java/lang/String" := (c10.wr W12)
    have c14 : Fld Z h12 p0 "java/lang/String" "value" "[B" .null := ((F1_.keep Kc3 nin0).other W12 (Or.inr (slot_ne (Or.inr (wq hw 33 rfl)) (Or.inr (wq hw 31 rfl)) (by decide) (t := (.array .byte)) (t' := .byte) (by decide) (by decide))))
    obtain ⟨T15, h15, X15, e15, W15, st15⟩ := putF X12 hx hZ hown (host := "") (Or.inl (wq hw 32 rfl)) Via.refl e12 c14 c13 (Or.inr ⟨(wq hw 33 rfl), rfl, hnm⟩) (wq hw 5 rfl) (ty := (.array .byte)) (by decide) rfl rfl (g := (mkF m 54 #[.val (.ref p0), .val (.ref p1), .val (.int 0), .val (.int 1), .val .null, .val (.ref u4)] [(.ref u4), (.ref p0)])) rfl rfl (hb hby d3_54)
    have Fw15 := c14.same W15
    have O15 := O12.wr W15 F3_
    have K15 : Keep h0 h15 [p0] := K12.wr W15 (Or.inl (List.mem_of_getElem? (i := 0) rfl))
    have N15 := Fr.snoc X15 N12 F3_
    have s16 : Steps p.tables e below A₀ (T15.setTop (mkF m 57 #[.val (.ref p0), .val (.ref p1), .val (.int 0), .val (.int 1), .val .null, .val (.ref u4)] [])) := by
      refine s8.trans ?_
      refine XS.astore X3.here hx rfl (hb hby d3_39) rfl rfl (l' := #[.val (.ref p0), .val (.ref p1), .val (.int 0), .val (.int 1), .val .null, .val (.ref u4)]) rfl ?_
      refine XS.aloadN X3.here hx rfl (hb hby d3_41) rfl rfl ?_
      refine XS.aload X3.here hx rfl (hb hby d3_42) rfl rfl ?_
      refine XS.iloadN X3.here hx rfl (hb hby d3_44) rfl ?_
      refine st9 _ ?_
      refine st12 _ ?_
      refine XS.aloadN X12.here hx rfl (hb hby d3_51) rfl rfl ?_
      refine XS.aload X12.here hx rfl (hb hby d3_52) rfl rfl ?_
      show Steps p.tables e below (T12.setTop (mkF m 54 #[.val (.ref p0), .val (.ref p1), .val (.int 0), .val (.int 1), .val .null, .val (.ref u4)] [(.ref u4), (.ref p0)])) _
      refine st15 _ ?_
      exact Steps.refl _
    have c17 : Fld Z h15 p0 "java/lang/String" "coder" "B" (.int ((0 : Int32).toInt8.toInt32)) := (Fw12.other W15 (Or.inr (slot_ne (Or.inr (wq hw 31 rfl)) (Or.inr (wq hw 33 rfl)) (by decide) (t := .byte) (t' := (.array .byte)) (by decide) (by decide))))
    subst hA₀
    have c18 : Exa Z h15 p0 "java/lang/String" := (c13.wr W15)
    have c19 : Arv Z h15 u4 u5 .byte 1 (u7.map Value.int) (.int 0) := ((f3_0.other W12 (Ne.symm ne_p0_u4)).other W15 (Ne.symm ne_p0_u4))
    obtain ⟨fs, hr, hrun, hended, hW, hsame⟩ := X15.leave (v := none) (fun _ => rfl)
    refine ⟨_, _, s16.trans ?_, hrun, hended, _, _, rfl, ?_, ⟨_, rfl⟩, hW, hsame.mono (by decide) (by decide)⟩
    · show Steps p.tables e below (T15.setTop (mkF m 57 #[.val (.ref p0), .val (.ref p1), .val (.int 0), .val (.int 1), .val .null, .val (.ref u4)] [])) _
      exact X15.returnOut hx Bd.returns (hb hby d3_57) hr
    · show Qsv_1 Z p0 p1 wc kc c0 h0 n0 _ T15.heap _
      rw [e15]
      exact ⟨u4, u5, (1 : Int32), (0 : Int32), u7, rfl, N15, K15, c18, Fw15, c17, c19, sz_u4, (Or.inl ⟨rfl, rfl⟩)⟩
  · obtain ⟨T20, L20, X20, e20, N20, st20⟩ := own_callP X3 hx hZ hown (wk27 hw) (wk28 hw) (wk21 hw) (wk29 hw) (by decide) (rmcf_1_2 l Z a0 hw [] u4 u5 u7 T3.heap n0 O3 f3_0) (rfl : T3.heap = T3.heap) N3 (W := 1) (by decide) (by decide) (by decide) (by decide) (g := (mkF m 45 #[.val (.ref p0), .val (.ref p1), .val (.int 0), .val (.int 1), .val .null, .val (.ref u4)] [(.int 1), (.ref u4), (.ref p0)])) rfl (by rw [hml]; rfl) (argsL := [(.ref u4), (.int 1)]) (rest := [(.ref p0)]) (lenOf pd_rmsv_1_1 rfl) rfl (by exact Nat.le_refl _) (hb hby d3_45)
    have c21 : Exa Z T3.heap p0 "java/lang/String" := (F0_.keep Kc3)
    have c22 : Fld Z T3.heap p0 "java/lang/String" "coder" "B" (.int 0) := (F2_.keep Kc3 nin0)
    obtain ⟨T23, h23, X23, e23, W23, st23⟩ := putFN X20 hx hZ hown (wq hw 30 rfl) Via.refl e20 c22 c21 (Or.inr ⟨(wq hw 31 rfl), rfl, hnm⟩) (wq hw 5 rfl) (ty := .byte) (v' := (.int ((1 : Int32).toInt8.toInt32))) (by decide) rfl (fits_nar_byte _) (g := (mkF m 48 #[.val (.ref p0), .val (.ref p1), .val (.int 0), .val (.int 1), .val .null, .val (.ref u4)] [(.int 1), (.ref p0)])) rfl rfl (hb hby d3_48)
    have Fw23 := c22.same W23
    have O23 := O3.wr W23 F3_
    have K23 : Keep h0 h23 [p0] := K3.wr W23 (Or.inl (List.mem_of_getElem? (i := 0) rfl))
    have N23 := Fr.snoc X23 N20 F3_
    have c24 : Exa Z h23 p0 "java/lang/String" := (c21.wr W23)
    have c25 : Fld Z h23 p0 "java/lang/String" "value" "[B" .null := ((F1_.keep Kc3 nin0).other W23 (Or.inr (slot_ne (Or.inr (wq hw 33 rfl)) (Or.inr (wq hw 31 rfl)) (by decide) (t := (.array .byte)) (t' := .byte) (by decide) (by decide))))
    obtain ⟨T26, h26, X26, e26, W26, st26⟩ := putF X23 hx hZ hown (host := "") (Or.inl (wq hw 32 rfl)) Via.refl e23 c25 c24 (Or.inr ⟨(wq hw 33 rfl), rfl, hnm⟩) (wq hw 5 rfl) (ty := (.array .byte)) (by decide) rfl rfl (g := (mkF m 54 #[.val (.ref p0), .val (.ref p1), .val (.int 0), .val (.int 1), .val .null, .val (.ref u4)] [(.ref u4), (.ref p0)])) rfl rfl (hb hby d3_54)
    have Fw26 := c25.same W26
    have O26 := O23.wr W26 F3_
    have K26 : Keep h0 h26 [p0] := K23.wr W26 (Or.inl (List.mem_of_getElem? (i := 0) rfl))
    have N26 := Fr.snoc X26 N23 F3_
    have s27 : Steps p.tables e below A₀ (T26.setTop (mkF m 57 #[.val (.ref p0), .val (.ref p1), .val (.int 0), .val (.int 1), .val .null, .val (.ref u4)] [])) := by
      refine s8.trans ?_
      refine XS.astore X3.here hx rfl (hb hby d3_39) rfl rfl (l' := #[.val (.ref p0), .val (.ref p1), .val (.int 0), .val (.int 1), .val .null, .val (.ref u4)]) rfl ?_
      refine XS.aloadN X3.here hx rfl (hb hby d3_41) rfl rfl ?_
      refine XS.aload X3.here hx rfl (hb hby d3_42) rfl rfl ?_
      refine XS.iloadN X3.here hx rfl (hb hby d3_44) rfl ?_
      refine st20 _ ?_
      refine st23 _ ?_
      refine XS.aloadN X23.here hx rfl (hb hby d3_51) rfl rfl ?_
      refine XS.aload X23.here hx rfl (hb hby d3_52) rfl rfl ?_
      show Steps p.tables e below (T23.setTop (mkF m 54 #[.val (.ref p0), .val (.ref p1), .val (.int 0), .val (.int 1), .val .null, .val (.ref u4)] [(.ref u4), (.ref p0)])) _
      refine st26 _ ?_
      exact Steps.refl _
    have c28 : Fld Z h26 p0 "java/lang/String" "coder" "B" (.int ((1 : Int32).toInt8.toInt32)) := (Fw23.other W26 (Or.inr (slot_ne (Or.inr (wq hw 31 rfl)) (Or.inr (wq hw 33 rfl)) (by decide) (t := .byte) (t' := (.array .byte)) (by decide) (by decide))))
    subst hA₀
    have c29 : Exa Z h26 p0 "java/lang/String" := (c24.wr W26)
    have c30 : Arv Z h26 u4 u5 .byte 2 (u7.map Value.int) (.int 0) := ((f3_0.other W23 (Ne.symm ne_p0_u4)).other W26 (Ne.symm ne_p0_u4))
    obtain ⟨fs, hr, hrun, hended, hW, hsame⟩ := X26.leave (v := none) (fun _ => rfl)
    refine ⟨_, _, s27.trans ?_, hrun, hended, _, _, rfl, ?_, ⟨_, rfl⟩, hW, hsame.mono (by decide) (by decide)⟩
    · show Steps p.tables e below (T26.setTop (mkF m 57 #[.val (.ref p0), .val (.ref p1), .val (.int 0), .val (.int 1), .val .null, .val (.ref u4)] [])) _
      exact X26.returnOut hx Bd.returns (hb hby d3_57) hr
    · show Qsv_1 Z p0 p1 wc kc c0 h0 n0 _ T26.heap _
      rw [e26]
      exact ⟨u4, u5, (2 : Int32), (1 : Int32), u7, rfl, N26, K26, c29, Fw26, c28, c30, sz_u4, (Or.inr ⟨rfl, rfl⟩)⟩
theorem d2_0 : decode jdk_42_method_3_code 0 = .ok (.aload_n 0, 1) := by decide +kernel
theorem d2_1 : decode jdk_42_method_3_code 1 = .ok (.aload_n 1, 1) := by decide +kernel
theorem d2_2 : decode jdk_42_method_3_code 2 = .ok (.iconst 0, 1) := by decide +kernel
theorem d2_3 : decode jdk_42_method_3_code 3 = .ok (.aload_n 1, 1) := by decide +kernel
theorem d2_4 : decode jdk_42_method_3_code 4 = .ok (.arraylength, 1) := by decide +kernel
theorem d2_5 : decode jdk_42_method_3_code 5 = .ok (.aconst_null, 1) := by decide +kernel
theorem d2_6 : decode jdk_42_method_3_code 6 = .ok (.invokespecial 27, 3) := by decide +kernel
theorem d2_9 : decode jdk_42_method_3_code 9 = .ok (.return_, 1) := by decide +kernel
theorem pd_rms1_1_0 : parseMethodDescriptor "([CIILjava/lang/Void;)V" = some ⟨[(.array .char), .int, .int, (.object "java/lang/Void")], none⟩ := by decide +kernel
theorem ef_rms1_1 (m : MethodId) (p0 : Addr) (p1 : Addr) : entryFrame m #[(.ref p0), (.ref p1)] 2 = mkF m 0 #[.val (.ref p0), .val (.ref p1)] [] := by first | (simp [entryFrame, mkF, argsToLocals, Value.category]; done) | rfl
def Qs1_1 (Z : State) (p0 : Addr) (p1 : Addr) (wc : Int32) (kc : ClassId) (c0 : Int32) (h0 : Heap) (n0 : Nat) (v : Option Value) (h : Heap) (L : List Loc) : Prop := ∃ b : Addr, ∃ kb : ClassId, ∃ ln : Int32, ∃ cd : Int32, ∃ xs : List Int32, v = none ∧ Fr n0 L ∧ Keep h0 h [p0] ∧ (Exa Z h p0 "java/lang/String") ∧ (Fld Z h p0 "java/lang/String" "value" "[B" (.ref b)) ∧ (Fld Z h p0 "java/lang/String" "coder" "B" (.int cd)) ∧ (Arv Z h b kb .byte ln (xs.map Value.int) (.int 0)) ∧ (h0.size ≤ b) ∧ ((ln = (1 : Int32) ∧ cd = (0 : Int32)) ∨ (ln = (2 : Int32) ∧ cd = (1 : Int32)))
set_option maxRecDepth 65536 in
set_option maxHeartbeats 40000000 in
theorem rms1_1 (l : Launch) (Z : State) (a0 : Array Value) (hw : ∀ d ∈ tables_1, d.before a0 Z = true) (ws : List Jvm.Cond) (p0 : Addr) (p1 : Addr) (wc : Int32) (kc : ClassId) (c0 : Int32) (h0 : Heap) (n0 : Nat) (O0 : Old Z n0 h0) (F0_ : Exa Z h0 p0 "java/lang/String") (F1_ : Fld Z h0 p0 "java/lang/String" "value" "[B" .null) (F2_ : Fld Z h0 p0 "java/lang/String" "coder" "B" (.int 0)) (F3_ : n0 ≤ p0) (F4_ : Arv Z h0 p1 kc .char 1 [(.int c0)] (.int 0)) (F5_ : Sta Z Z.heap "java/lang/String" "COMPACT_STRINGS" "Z" (.int wc)) (F6_ : p0 ≠ p1) (F7_ : Sta Z Z.heap "java/lang/StringUTF16" "$assertionsDisabled" "Z" (.int 1)) (F8_ : Sta Z Z.heap "java/lang/StringUTF16" "HI_BYTE_SHIFT" "I" (.int 0)) (F9_ : Sta Z Z.heap "java/lang/StringUTF16" "LO_BYTE_SHIFT" "I" (.int 8)) (hcs : ¬ (wc = (0 : Int32))) :
    MetFree l nm9 (head1 (Jvm.Cond.code nm9 jdk_42_method_3_code 2 none :: ws) ({ frames := 5, cells := 2, slots := 3, locals := 74 } : Room)) (fun a U => a = #[(.ref p0), (.ref p1)] ∧ Z.Warmed39 U.vm ∧ U.heap = h0) (fun _ _ _ _ _ => True) (fun _ U o U' => ∃ v L, o = .returned v ∧ Qs1_1 Z p0 p1 wc kc c0 h0 n0 v U'.heap L ∧ FrameEnd U o U' L ({ frames := 5, cells := 2, slots := 3, locals := 74 } : Room).cells ({ frames := 5, cells := 2, slots := 3, locals := 74 } : Room).slots) := by
  refine MetFree.of_bodySF (plainFor_of_name pn_3) hisR ?_
  intro p e s m args below meth c s₁ Bd hml0 hP hK
  obtain ⟨rfl, hZ, hh⟩ := hP
  have hx := Bd.exec
  have hby := Bd.bytes
  have hml : c.maxLocals = 2 := hml0
  have hown : s.vm.findClass "java/lang/String" = some m.cls := findClass_of_methodNamed Bd.named
  have X0 : Stand p l e ({ frames := 5, cells := 2, slots := 3, locals := 74 } : Room) s m #[(.ref p0), (.ref p1)] below meth c s₁ [] 0 0 := Stand.of_body Bd
  have e0 : s₁.heap = h0 := by rw [← hh, Bd.state]; rfl
  have N0 := Fr.nil n0
  have s0 : Steps p.tables e below (s₁.setTop (entryFrame m #[(.ref p0), (.ref p1)] 2)) (s₁.setTop (mkF m 0 #[.val (.ref p0), .val (.ref p1)] [])) := castTop (ef_rms1_1 m p0 p1) (Steps.refl _)
  obtain ⟨A₀, hA₀⟩ : ∃ z, z = (s₁.setTop (entryFrame m #[(.ref p0), (.ref p1)] 2)) := ⟨_, rfl⟩
  rw [← hA₀] at s0
  obtain ⟨cla1, Ara1, qa1, Sa1, Za1, Ha1, Ga1⟩ := id F4_
  obtain ⟨_, _, ⟨T2, L2, k2, n2⟩, -, X2, ⟨Lc2, hQ2, l2, y2, z2⟩, st2⟩ := X0.specialBack hx (y := (⟨"java/lang/String", "<init>", "([CIILjava/lang/Void;)V"⟩ : MethodName)) rfl hown (mvT hZ (wq hw 11 rfl)) (mvT hZ (wq hw 12 rfl)) (mvT hZ (wq hw 14 rfl)) (by decide) (backOf (W := 0) (rmsv_1 l Z a0 hw [] p0 p1 wc kc c0 h0 n0 O0 F0_ F1_ F2_ F3_ F4_ F5_ F6_ F7_ F8_ F9_ hcs) hZ (wq hw 14 rfl) (wq hw 6 rfl) (by decide) (by decide)) (g := (mkF m 6 #[.val (.ref p0), .val (.ref p1)] [.null, (.int 1), (.int 0), (.ref p1), (.ref p0)])) rfl (by rw [hml]; rfl) (Steps.refl _) (a := p0) (argsL := [(.ref p1), (.int 0), (.int 1), .null]) (rest := []) (lenOf pd_rms1_1_0 rfl) rfl (by exact Nat.le_refl _) (hb hby d2_6) (fun _ _ => ⟨rfl, e0, (by decide : 0 + 2 ≤ _), (by decide : 0 + 3 ≤ _)⟩)
  dsimp only [Pt.U, Pt.locs, Pt.cells, Pt.slots] at X2 l2 y2 z2 st2 hQ2
  subst l2 y2 z2
  obtain ⟨u3, u4, u5, u6, u7, rfl, Nq2, Kc2, f2_0, f2_1, f2_2, f2_3, f2_4, f2_5⟩ := hQ2
  have N2 := Fr.app N0 Nq2
  have ne_p0_u3 : p0 ≠ u3 := Nat.ne_of_lt (Nat.lt_of_lt_of_le F0_.lt f2_4)
  have ne_p1_u3 : p1 ≠ u3 := Nat.ne_of_lt (Nat.lt_of_lt_of_le F4_.lt f2_4)
  have g_u3 : n0 ≤ u3 := Nat.le_trans (Nat.le_of_eq O0.1.symm) (Nat.le_trans O0.2.1 f2_4)
  have sz_u3 : h0.size ≤ u3 := Nat.le_trans (Keep.refl h0 [p0]).1 f2_4
  have K2 : Keep h0 T2.heap [p0] := (Keep.refl h0 [p0]).trans Kc2 (allS (Or.inl (List.mem_of_getElem? (i := 0) rfl)) all0)
  have O2 := O0.keep Kc2 (allS F3_ all0)
  have s8 : Steps p.tables e below A₀ (T2.setTop (mkF m 9 #[.val (.ref p0), .val (.ref p1)] [])) := by
    refine s0.trans ?_
    refine XS.aloadN X0.here hx rfl (hb hby d2_0) rfl rfl ?_
    refine XS.aloadN X0.here hx rfl (hb hby d2_1) rfl rfl ?_
    refine XS.iconst X0.here hx rfl (hb hby d2_2) ?_
    refine XS.aloadN X0.here hx rfl (hb hby d2_3) rfl rfl ?_
    refine X0.arraylength hx (by rw [e0]; exact Ara1.1) (State.isArrayOf_alike hZ.alike Ara1.2.1) (g := (mkF m 4 #[.val (.ref p0), .val (.ref p1)] [(.ref p1), (.int 0), (.ref p1), (.ref p0)])) rfl rfl (hb hby d2_4) _ ?_
    rw [len_of Sa1 Za1]
    show Steps p.tables e below (s₁.setTop (mkF m 5 #[.val (.ref p0), .val (.ref p1)] [(.int 1), (.int 0), (.ref p1), (.ref p0)])) _
    refine XS.aconstNull X0.here hx rfl (hb hby d2_5) ?_
    refine st2.trans ?_
    exact Steps.refl _
  subst hA₀
  obtain ⟨fs, hr, hrun, hended, hW, hsame⟩ := X2.leave (v := none) (fun _ => rfl)
  refine ⟨_, _, s8.trans ?_, hrun, hended, _, _, rfl, ?_, ⟨_, rfl⟩, hW, hsame.mono (by decide) (by decide)⟩
  · show Steps p.tables e below (T2.setTop (mkF m 9 #[.val (.ref p0), .val (.ref p1)] [])) _
    exact X2.returnOut hx Bd.returns (hb hby d2_9) hr
  · show Qs1_1 Z p0 p1 wc kc c0 h0 n0 _ T2.heap _
    exact ⟨u3, u4, u5, u6, u7, rfl, N2, K2, f2_0, f2_1, f2_2, f2_3, sz_u3, f2_5⟩
theorem d1_0 : decode method_2_code 0 = .ok (.iload_n 0, 1) := by decide +kernel
theorem d1_1 : decode method_2_code 1 = .ok (.ifCond .ne 14, 3) := by decide +kernel
theorem d1_15 : decode method_2_code 15 = .ok (.iload_n 0, 1) := by decide +kernel
theorem d1_16 : decode method_2_code 16 = .ok (.iconst 1, 1) := by decide +kernel
theorem d1_17 : decode method_2_code 17 = .ok (.if_icmp .ne 18, 3) := by decide +kernel
theorem d1_20 : decode method_2_code 20 = .ok (.new 7, 3) := by decide +kernel
theorem d1_23 : decode method_2_code 23 = .ok (.dup, 1) := by decide +kernel
theorem d1_24 : decode method_2_code 24 = .ok (.iconst 1, 1) := by decide +kernel
theorem d1_25 : decode method_2_code 25 = .ok (.newarray .char, 2) := by decide +kernel
theorem d1_27 : decode method_2_code 27 = .ok (.dup, 1) := by decide +kernel
theorem d1_28 : decode method_2_code 28 = .ok (.iconst 0, 1) := by decide +kernel
theorem d1_29 : decode method_2_code 29 = .ok (.iload_n 1, 1) := by decide +kernel
theorem d1_30 : decode method_2_code 30 = .ok (.castore, 1) := by decide +kernel
theorem d1_31 : decode method_2_code 31 = .ok (.invokespecial 9, 3) := by decide +kernel
theorem d1_34 : decode method_2_code 34 = .ok (.areturn, 1) := by decide +kernel
theorem pn_1 : plainName "com/example/lintel/lintel/message/HeaderCursorAtEndPinLaw" = true := by first | (simp [plainName, overriddenIn]; done) | decide +kernel
theorem pd_rmmk_1_0 : parseMethodDescriptor "([C)V" = some ⟨[(.array .char)], none⟩ := by decide +kernel
theorem ef_rmmk_1 (m : MethodId) (p1 : Int32) (p2 : Int32) (p3 : Int32) : entryFrame m #[(.int 1), (.int p1), (.int p2), (.int p3)] 4 = mkF m 0 #[.val (.int 1), .val (.int p1), .val (.int p2), .val (.int p3)] [] := by first | (simp [entryFrame, mkF, argsToLocals, Value.category]; done) | rfl
def Qmk_1 (Z : State) (p1 : Int32) (p2 : Int32) (p3 : Int32) (wc : Int32) (h0 : Heap) (n0 : Nat) (v : Option Value) (h : Heap) (L : List Loc) : Prop := ∃ u : Addr, ∃ b : Addr, ∃ kb : ClassId, ∃ ln : Int32, ∃ cd : Int32, ∃ xs : List Int32, v = some (.ref u) ∧ Fr n0 L ∧ Keep h0 h [] ∧ (Exa Z h u "java/lang/String") ∧ (Fld Z h u "java/lang/String" "value" "[B" (.ref b)) ∧ (Fld Z h u "java/lang/String" "coder" "B" (.int cd)) ∧ (Arv Z h b kb .byte ln (xs.map Value.int) (.int 0)) ∧ (h0.size ≤ b) ∧ ((ln = (1 : Int32) ∧ cd = (0 : Int32)) ∨ (ln = (2 : Int32) ∧ cd = (1 : Int32))) ∧ (h0.size ≤ u) ∧ (u ≠ b)
set_option maxRecDepth 65536 in
set_option maxHeartbeats 40000000 in
theorem rmmk_1 (l : Launch) (Z : State) (a0 : Array Value) (hw : ∀ d ∈ tables_1, d.before a0 Z = true) (ws : List Jvm.Cond) (p1 : Int32) (p2 : Int32) (p3 : Int32) (wc : Int32) (h0 : Heap) (n0 : Nat) (O0 : Old Z n0 h0) (F0_ : Sta Z Z.heap "java/lang/String" "COMPACT_STRINGS" "Z" (.int wc)) (F1_ : Sta Z Z.heap "java/lang/StringUTF16" "$assertionsDisabled" "Z" (.int 1)) (F2_ : Sta Z Z.heap "java/lang/StringUTF16" "HI_BYTE_SHIFT" "I" (.int 0)) (F3_ : Sta Z Z.heap "java/lang/StringUTF16" "LO_BYTE_SHIFT" "I" (.int 8)) (hcs : ¬ (wc = (0 : Int32))) :
    MetFree l nm10 (head1 (Jvm.Cond.code nm10 method_2_code 4 (some (.object "java/lang/String")) :: ws) ({ frames := 6, cells := 4, slots := 8, locals := 88 } : Room)) (fun a U => a = #[(.int 1), (.int p1), (.int p2), (.int p3)] ∧ Z.Warmed39 U.vm ∧ U.heap = h0) (fun _ _ _ _ _ => True) (fun _ U o U' => ∃ v L, o = .returned v ∧ Qmk_1 Z p1 p2 p3 wc h0 n0 v U'.heap L ∧ FrameEnd U o U' L ({ frames := 6, cells := 4, slots := 8, locals := 88 } : Room).cells ({ frames := 6, cells := 4, slots := 8, locals := 88 } : Room).slots) := by
  refine MetFree.of_bodySF (plainFor_of_name pn_1) hisR ?_
  intro p e s m args below meth c s₁ Bd hml0 hP hK
  obtain ⟨rfl, hZ, hh⟩ := hP
  have hx := Bd.exec
  have hby := Bd.bytes
  have hml : c.maxLocals = 4 := hml0
  have hown : s.vm.findClass "com/example/lintel/lintel/message/HeaderCursorAtEndPinLaw" = some m.cls := findClass_of_methodNamed Bd.named
  have X0 : Stand p l e ({ frames := 6, cells := 4, slots := 8, locals := 88 } : Room) s m #[(.int 1), (.int p1), (.int p2), (.int p3)] below meth c s₁ [] 0 0 := Stand.of_body Bd
  have e0 : s₁.heap = h0 := by rw [← hh, Bd.state]; rfl
  have N0 := Fr.nil n0
  have s0 : Steps p.tables e below (s₁.setTop (entryFrame m #[(.int 1), (.int p1), (.int p2), (.int p3)] 4)) (s₁.setTop (mkF m 0 #[.val (.int 1), .val (.int p1), .val (.int p2), .val (.int p3)] [])) := castTop (ef_rmmk_1 m p1 p2 p3) (Steps.refl _)
  obtain ⟨A₀, hA₀⟩ : ∃ z, z = (s₁.setTop (entryFrame m #[(.int 1), (.int p1), (.int p2), (.int p3)] 4)) := ⟨_, rfl⟩
  rw [← hA₀] at s0
  obtain ⟨T1, h1, X1, e1, E1, A1, D1, -, st1⟩ := newO X0 hx hZ hown (wq hw 4 rfl) (wq hw 5 rfl) (wq hw 6 rfl) e0 (g := (mkF m 20 #[.val (.int 1), .val (.int p1), .val (.int p2), .val (.int p3)] [])) rfl (hb hby d1_20) (by decide) (by decide)
  obtain ⟨b1, g1⟩ : ∃ z, z = h0.size := ⟨_, rfl⟩
  rw [← g1] at A1 D1 st1
  have g_b1 : n0 ≤ b1 := Nat.le_trans (Nat.le_of_eq O0.1.symm) (Nat.le_trans O0.2.1 (Nat.le_of_eq g1.symm))
  have sz_b1 : h0.size ≤ b1 := Nat.le_trans (Keep.refl h0 []).1 (Nat.le_of_eq g1.symm)
  have O1 := O0.ext E1
  have K1 : Keep h0 h1 [] := (Keep.refl h0 []).ext E1
  have F1_coder : Fld Z h1 b1 "java/lang/String" "coder" "B" (.int 0) := D1 (Or.inr (wq hw 31 rfl)) (ty := .byte) (by decide)
  have F1_value : Fld Z h1 b1 "java/lang/String" "value" "[B" .null := D1 (Or.inr (wq hw 33 rfl)) (ty := (.array .byte)) (by decide)
  obtain ⟨T2, h2, k2, X2, e2, E2, A2, st2⟩ := newP X1 hx hZ (wq hw 7 rfl) e1 (g := (mkF m 25 #[.val (.int 1), .val (.int p1), .val (.int p2), .val (.int p3)] [(.int 1), (.ref b1), (.ref b1)])) rfl (hb hby d1_25) rfl (by decide) (cap := 1) (by decide) (by decide) (by decide) (by decide)
  obtain ⟨b2, g2⟩ : ∃ z, z = h1.size := ⟨_, rfl⟩
  rw [← g2] at A2 st2
  have ne_b1_b2 : b1 ≠ b2 := Nat.ne_of_lt (Nat.lt_of_lt_of_le A1.lt (Nat.le_of_eq g2.symm))
  have g_b2 : n0 ≤ b2 := Nat.le_trans (Nat.le_of_eq O1.1.symm) (Nat.le_trans O1.2.1 (Nat.le_of_eq g2.symm))
  have sz_b2 : h0.size ≤ b2 := Nat.le_trans K1.1 (Nat.le_of_eq g2.symm)
  have O2 := O1.ext E2
  have K2 : Keep h0 h2 [] := K1.ext E2
  have V2 : Arv Z h2 b2 k2 .char 1 [(.int 0)] (.int 0) := (Arv.new A2 (by decide)).pad (pad_rep [] (.int 0) 1)
  obtain ⟨cla3, Ara3, qa3, Sa3, Za3, Ha3, Ga3⟩ := id V2
  have hin4 : ¬ ((0 : Int32) < 0 ∨ cla3.slots.size ≤ ((0 : Int32)).toNatClampNeg) := inb_of Sa3 ⟨by decide, by decide⟩
  obtain ⟨T5, h5, X5, e5, W5, st5⟩ := stC X2 hx hZ e2 Ara3 (j := (0 : Int32)) hin4 (g := (mkF m 30 #[.val (.int 1), .val (.int p1), .val (.int p2), .val (.int p3)] [(.int p1), (.int 0), (.ref b2), (.ref b2), (.ref b1), (.ref b1)])) rfl rfl (hb hby d1_30)
  have O5 := O2.wr W5 g_b2
  have K5 : Keep h0 h5 [] := K2.wr W5 (Or.inr sz_b2)
  have N5 := Fr.snoc X5 N0 g_b2
  have V5 : Arv Z h5 b2 k2 .char 1 [(.int (nar .char p1))] (.int 0) := Arv.set Ara3 qa3 Sa3 Za3 Ha3 Ga3 (fits_nar_char _) W5 0 rfl (Nat.le_of_ble_eq_true rfl)
  have c6 : Exa Z h5 b1 "java/lang/String" := ((A1.ext E2).wr W5)
  have c7 : Fld Z h5 b1 "java/lang/String" "value" "[B" .null := ((F1_value.ext E2).other W5 (Or.inl ne_b1_b2))
  have c8 : Fld Z h5 b1 "java/lang/String" "coder" "B" (.int 0) := ((F1_coder.ext E2).other W5 (Or.inl ne_b1_b2))
  obtain ⟨_, _, ⟨T9, L9, k9, n9⟩, -, X9, ⟨Lc9, hQ9, l9, y9, z9⟩, st9⟩ := X5.specialBack hx (y := (⟨"java/lang/String", "<init>", "([C)V"⟩ : MethodName)) rfl hown (mvT hZ (wq hw 8 rfl)) (mvT hZ (wq hw 9 rfl)) (mvT hZ (wq hw 10 rfl)) (by decide) (backOf (W := 1) (rms1_1 l Z a0 hw [] b1 b2 wc k2 (nar .char p1) h5 n0 O5 c6 c7 c8 g_b1 V5 F0_ ne_b1_b2 F1_ F2_ F3_ hcs) hZ (wq hw 10 rfl) (wq hw 6 rfl) (by decide) (by decide)) (g := (mkF m 31 #[.val (.int 1), .val (.int p1), .val (.int p2), .val (.int p3)] [(.ref b2), (.ref b1), (.ref b1)])) rfl (by rw [hml]; rfl) (Steps.refl _) (a := b1) (argsL := [(.ref b2)]) (rest := [(.ref b1)]) (lenOf pd_rmmk_1_0 rfl) rfl (by exact Nat.le_refl _) (hb hby d1_31) (fun _ _ => ⟨rfl, e5, (by decide : 2 + 2 ≤ _), (by decide : 5 + 3 ≤ _)⟩)
  dsimp only [Pt.U, Pt.locs, Pt.cells, Pt.slots] at X9 l9 y9 z9 st9 hQ9
  subst l9 y9 z9
  obtain ⟨u10, u11, u12, u13, u14, rfl, Nq9, Kc9, f9_0, f9_1, f9_2, f9_3, f9_4, f9_5⟩ := hQ9
  have N9 := Fr.app N5 Nq9
  have ne_b1_u10 : b1 ≠ u10 := Nat.ne_of_lt (Nat.lt_of_lt_of_le c6.lt f9_4)
  have ne_b2_u10 : b2 ≠ u10 := Nat.ne_of_lt (Nat.lt_of_lt_of_le V5.lt f9_4)
  have g_u10 : n0 ≤ u10 := Nat.le_trans (Nat.le_of_eq O5.1.symm) (Nat.le_trans O5.2.1 f9_4)
  have sz_u10 : h0.size ≤ u10 := Nat.le_trans K5.1 f9_4
  have K9 : Keep h0 T9.heap [] := K5.trans Kc9 (allS (Or.inr sz_b1) all0)
  have O9 := O5.keep Kc9 (allS g_b1 all0)
  have s15 : Steps p.tables e below A₀ (T9.setTop (mkF m 34 #[.val (.int 1), .val (.int p1), .val (.int p2), .val (.int p3)] [(.ref b1)])) := by
    refine s0.trans ?_
    refine XS.iloadN X0.here hx rfl (hb hby d1_0) rfl ?_
    refine XS.ifYes X0.here hx rfl (pc0 := 1) (pc' := 15) rfl (hb hby d1_1) rfl ((if0 _ _).trans (feq (by decide)).2) (by decide) (by decide) ?_
    refine XS.iloadN X0.here hx rfl (hb hby d1_15) rfl ?_
    refine XS.iconst X0.here hx rfl (hb hby d1_16) ?_
    refine XS.icmpNo X0.here hx rfl (hb hby d1_17) rfl (teq (by decide)).2 ?_
    refine st1 _ ?_
    refine XS.dup X1.here hx rfl (hb hby d1_23) rfl rfl ?_
    refine XS.iconst X1.here hx rfl (hb hby d1_24) ?_
    show Steps p.tables e below (T1.setTop (mkF m 25 #[.val (.int 1), .val (.int p1), .val (.int p2), .val (.int p3)] [(.int 1), (.ref b1), (.ref b1)])) _
    refine st2 _ ?_
    refine XS.dup X2.here hx rfl (hb hby d1_27) rfl rfl ?_
    refine XS.iconst X2.here hx rfl (hb hby d1_28) ?_
    refine XS.iloadN X2.here hx rfl (hb hby d1_29) rfl ?_
    refine st5 _ ?_
    refine st9.trans ?_
    exact Steps.refl _
  subst hA₀
  obtain ⟨fs, hr, hrun, hended, hW, hsame⟩ := X9.leave (v := some (.ref b1)) (fun h => by rw [Bd.returns] at h; cases h)
  refine ⟨_, _, s15.trans ?_, hrun, hended, _, _, rfl, ?_, ⟨_, rfl⟩, hW, hsame.mono (by decide) (by decide)⟩
  · show Steps p.tables e below (T9.setTop (mkF m 34 #[.val (.int 1), .val (.int p1), .val (.int p2), .val (.int p3)] [(.ref b1)])) _
    jvm_step X9.here [X9.here.top, hx, (hb hby d1_34), X9.method', Bd.returns, Value.isRef, FieldType.isReference]
    first | (intro acts; rw [hr _ acts rfl rfl rfl]) | rw [hr _ _ rfl rfl rfl]
    exact Steps.refl _
  · show Qmk_1 Z p1 p2 p3 wc h0 n0 _ T9.heap _
    exact ⟨b1, u10, u11, u12, u13, u14, rfl, N9, K9, f9_0, f9_1, f9_2, f9_3, sz_u10, f9_5, sz_b1, ne_b1_u10⟩
theorem ef_rmnl2 (m : MethodId)  : entryFrame m #[(.int 2)] 1 = mkF m 0 #[.val (.int 2)] [] := by first | (simp [entryFrame, mkF, argsToLocals, Value.category]; done) | rfl
def Qnl2 (Z : State)  (h0 : Heap) (n0 : Nat) (v : Option Value) (h : Heap) (L : List Loc) : Prop := v = some (.int 4) ∧ Fr n0 L ∧ h = h0
set_option maxRecDepth 65536 in
set_option maxHeartbeats 40000000 in
theorem rmnl2 (l : Launch) (Z : State) (a0 : Array Value) (hw : ∀ d ∈ tables_1, d.before a0 Z = true) (ws : List Jvm.Cond)  (h0 : Heap) (n0 : Nat) (O0 : Old Z n0 h0) :
    MetFree l nm1 (head1 (Jvm.Cond.code nm1 jdk_52_method_3_code 1 (some .int) :: ws) ({ frames := 0, cells := 0, slots := 0, locals := 0 } : Room)) (fun a U => a = #[(.int 2)] ∧ Z.Warmed39 U.vm ∧ U.heap = h0) (fun _ _ _ _ _ => True) (fun _ U o U' => ∃ v L, o = .returned v ∧ Qnl2 Z  h0 n0 v U'.heap L ∧ FrameEnd U o U' L ({ frames := 0, cells := 0, slots := 0, locals := 0 } : Room).cells ({ frames := 0, cells := 0, slots := 0, locals := 0 } : Room).slots) := by
  refine MetFree.of_bodySF (plainFor_of_name pn_18) hisR ?_
  intro p e s m args below meth c s₁ Bd hml0 hP hK
  obtain ⟨rfl, hZ, hh⟩ := hP
  have hx := Bd.exec
  have hby := Bd.bytes
  have hml : c.maxLocals = 1 := hml0
  have hown : s.vm.findClass "java/lang/StringUTF16" = some m.cls := findClass_of_methodNamed Bd.named
  have X0 : Stand p l e ({ frames := 0, cells := 0, slots := 0, locals := 0 } : Room) s m #[(.int 2)] below meth c s₁ [] 0 0 := Stand.of_body Bd
  have e0 : s₁.heap = h0 := by rw [← hh, Bd.state]; rfl
  have N0 := Fr.nil n0
  have s0 : Steps p.tables e below (s₁.setTop (entryFrame m #[(.int 2)] 1)) (s₁.setTop (mkF m 0 #[.val (.int 2)] [])) := castTop (ef_rmnl2 m ) (Steps.refl _)
  obtain ⟨A₀, hA₀⟩ : ∃ z, z = (s₁.setTop (entryFrame m #[(.int 2)] 1)) := ⟨_, rfl⟩
  rw [← hA₀] at s0
  have s1 : Steps p.tables e below A₀ (s₁.setTop (mkF m 58 #[.val (.int 2)] [(.int 4)])) := by
    refine s0.trans ?_
    refine XS.iloadN X0.here hx rfl (hb hby d16_0) rfl ?_
    refine XS.ifYes X0.here hx rfl (pc0 := 1) (pc' := 12) rfl (hb hby d16_1) rfl ((if0 _ _).trans (flt (by decide)).2.1) (by decide) (by decide) ?_
    refine XS.iloadN X0.here hx rfl (hb hby d16_12) rfl ?_
    refine X0.ldcInt hx hown (mvT hZ (wq hw 84 rfl)) (g := (mkF m 13 #[.val (.int 2)] [(.int 2)])) rfl (hb hby d16_13) _ ?_
    refine XS.icmpYes X0.here hx rfl (pc0 := 15) (pc' := 55) rfl (hb hby d16_15) rfl (tlt (by decide)).1 (by decide) (by decide) ?_
    refine XS.iloadN X0.here hx rfl (hb hby d16_55) rfl ?_
    refine XS.iconst X0.here hx rfl (hb hby d16_56) ?_
    refine XS.ishl X0.here hx rfl (hb hby d16_57) rfl ?_
    exact Steps.refl _
  subst hA₀
  obtain ⟨fs, hr, hrun, hended, hW, hsame⟩ := X0.leave (v := some (.int 4)) (fun h => by rw [Bd.returns] at h; cases h)
  refine ⟨_, _, s1.trans ?_, hrun, hended, _, _, rfl, ?_, ⟨_, rfl⟩, hW, hsame.mono (by decide) (by decide)⟩
  · show Steps p.tables e below (s₁.setTop (mkF m 58 #[.val (.int 2)] [(.int 4)])) _
    exact retI X0 hx Bd.returns (hb hby d16_58) hr
  · show Qnl2 Z  h0 n0 _ s₁.heap _
    rw [e0]
    exact ⟨rfl, N0, rfl⟩
theorem pd_rmnf2_0 : parseMethodDescriptor "(I)I" = some ⟨[.int], some .int⟩ := by decide +kernel
theorem ef_rmnf2 (m : MethodId)  : entryFrame m #[(.int 2)] 1 = mkF m 0 #[.val (.int 2)] [] := by first | (simp [entryFrame, mkF, argsToLocals, Value.category]; done) | rfl
def Qnf2 (Z : State)  (h0 : Heap) (n0 : Nat) (v : Option Value) (h : Heap) (L : List Loc) : Prop := ∃ b : Addr, ∃ kb : ClassId, v = some (.ref b) ∧ Fr n0 L ∧ Keep h0 h [] ∧ (Arv Z h b kb .byte 4 [(.int 0), (.int 0), (.int 0), (.int 0)] (.int 0)) ∧ (h0.size ≤ b)
set_option maxRecDepth 65536 in
set_option maxHeartbeats 40000000 in
theorem rmnf2 (l : Launch) (Z : State) (a0 : Array Value) (hw : ∀ d ∈ tables_1, d.before a0 Z = true) (ws : List Jvm.Cond)  (h0 : Heap) (n0 : Nat) (O0 : Old Z n0 h0) :
    MetFree l nm2 (head1 (Jvm.Cond.code nm2 jdk_52_method_2_code 1 (some (.array .byte)) :: ws) ({ frames := 1, cells := 1, slots := 4, locals := 12 } : Room)) (fun a U => a = #[(.int 2)] ∧ Z.Warmed39 U.vm ∧ U.heap = h0) (fun _ _ _ _ _ => True) (fun _ U o U' => ∃ v L, o = .returned v ∧ Qnf2 Z  h0 n0 v U'.heap L ∧ FrameEnd U o U' L ({ frames := 1, cells := 1, slots := 4, locals := 12 } : Room).cells ({ frames := 1, cells := 1, slots := 4, locals := 12 } : Room).slots) := by
  refine MetFree.of_bodySF (plainFor_of_name pn_18) hisR ?_
  intro p e s m args below meth c s₁ Bd hml0 hP hK
  obtain ⟨rfl, hZ, hh⟩ := hP
  have hx := Bd.exec
  have hby := Bd.bytes
  have hml : c.maxLocals = 1 := hml0
  have hown : s.vm.findClass "java/lang/StringUTF16" = some m.cls := findClass_of_methodNamed Bd.named
  have X0 : Stand p l e ({ frames := 1, cells := 1, slots := 4, locals := 12 } : Room) s m #[(.int 2)] below meth c s₁ [] 0 0 := Stand.of_body Bd
  have e0 : s₁.heap = h0 := by rw [← hh, Bd.state]; rfl
  have N0 := Fr.nil n0
  have s0 : Steps p.tables e below (s₁.setTop (entryFrame m #[(.int 2)] 1)) (s₁.setTop (mkF m 0 #[.val (.int 2)] [])) := castTop (ef_rmnf2 m ) (Steps.refl _)
  obtain ⟨A₀, hA₀⟩ : ∃ z, z = (s₁.setTop (entryFrame m #[(.int 2)] 1)) := ⟨_, rfl⟩
  rw [← hA₀] at s0
  obtain ⟨T1, L1, X1, e1, N1, st1⟩ := own_callP X0 hx hZ hown (wk81 hw) (wk82 hw) (wk21 hw) (wk83 hw) (by decide) (rmnl2 l Z a0 hw []  h0 n0 O0 ) e0 N0 (W := 0) (by decide) (by decide) (by decide) (by decide) (g := (mkF m 1 #[.val (.int 2)] [(.int 2)])) rfl (by rw [hml]; rfl) (argsL := [(.int 2)]) (rest := []) (lenOf pd_rmnf2_0 rfl) rfl (by exact Nat.le_refl _) (hb hby d15_1)
  obtain ⟨T2, h2, k2, X2, e2, E2, A2, st2⟩ := newP X1 hx hZ (wq hw 23 rfl) e1 (g := (mkF m 4 #[.val (.int 2)] [(.int 4)])) rfl (hb hby d15_4) rfl (by decide) (cap := 4) (by decide) (by decide) (by decide) (by decide)
  obtain ⟨b2, g2⟩ : ∃ z, z = h0.size := ⟨_, rfl⟩
  rw [← g2] at A2 st2
  have g_b2 : n0 ≤ b2 := Nat.le_trans (Nat.le_of_eq O0.1.symm) (Nat.le_trans O0.2.1 (Nat.le_of_eq g2.symm))
  have sz_b2 : h0.size ≤ b2 := Nat.le_trans (Keep.refl h0 []).1 (Nat.le_of_eq g2.symm)
  have O2 := O0.ext E2
  have K2 : Keep h0 h2 [] := (Keep.refl h0 []).ext E2
  have V2 : Arv Z h2 b2 k2 .byte 4 [(.int 0), (.int 0), (.int 0), (.int 0)] (.int 0) := (Arv.new A2 (by decide)).pad (pad_rep [] (.int 0) 4)
  have s3 : Steps p.tables e below A₀ (T2.setTop (mkF m 6 #[.val (.int 2)] [(.ref b2)])) := by
    refine s0.trans ?_
    refine XS.iloadN X0.here hx rfl (hb hby d15_0) rfl ?_
    refine st1 _ ?_
    refine st2 _ ?_
    exact Steps.refl _
  subst hA₀
  obtain ⟨fs, hr, hrun, hended, hW, hsame⟩ := X2.leave (v := some (.ref b2)) (fun h => by rw [Bd.returns] at h; cases h)
  refine ⟨_, _, s3.trans ?_, hrun, hended, _, _, rfl, ?_, ⟨_, rfl⟩, hW, hsame.mono (by decide) (by decide)⟩
  · show Steps p.tables e below (T2.setTop (mkF m 6 #[.val (.int 2)] [(.ref b2)])) _
    jvm_step X2.here [X2.here.top, hx, (hb hby d15_6), X2.method', Bd.returns, Value.isRef, FieldType.isReference]
    first | (intro acts; rw [hr _ acts rfl rfl rfl]) | rw [hr _ _ rfl rfl rfl]
    exact Steps.refl _
  · show Qnf2 Z  h0 n0 _ T2.heap _
    rw [e2]
    exact ⟨b2, k2, rfl, N1, K2, V2, sz_b2⟩
theorem ef_rmpc2_0 (m : MethodId) (p0 : Addr) (p2 : Int32) : entryFrame m #[(.ref p0), (.int 0), (.int p2)] 3 = mkF m 0 #[.val (.ref p0), .val (.int 0), .val (.int p2)] [] := by first | (simp [entryFrame, mkF, argsToLocals, Value.category]; done) | rfl
def Qpc2_0 (Z : State) (p0 : Addr) (p2 : Int32) (kb : ClassId) (x0 : Int32) (x1 : Int32) (x2 : Int32) (x3 : Int32) (h0 : Heap) (n0 : Nat) (v : Option Value) (h : Heap) (L : List Loc) : Prop := v = none ∧ Fr n0 L ∧ Keep h0 h [p0] ∧ (Arv Z h p0 kb .byte 4 [(.int (((p2 >>> ((0 : Int32) &&& 31)).toInt8.toInt32).toInt8.toInt32)), (.int (((p2 >>> ((8 : Int32) &&& 31)).toInt8.toInt32).toInt8.toInt32)), (.int x2), (.int x3)] (.int 0))
set_option maxRecDepth 65536 in
set_option maxHeartbeats 40000000 in
theorem rmpc2_0 (l : Launch) (Z : State) (a0 : Array Value) (hw : ∀ d ∈ tables_1, d.before a0 Z = true) (ws : List Jvm.Cond) (p0 : Addr) (p2 : Int32) (kb : ClassId) (x0 : Int32) (x1 : Int32) (x2 : Int32) (x3 : Int32) (h0 : Heap) (n0 : Nat) (O0 : Old Z n0 h0) (F0_ : Arv Z h0 p0 kb .byte 4 [(.int x0), (.int x1), (.int x2), (.int x3)] (.int 0)) (F1_ : n0 ≤ p0) (F2_ : Sta Z Z.heap "java/lang/StringUTF16" "$assertionsDisabled" "Z" (.int 1)) (F3_ : Sta Z Z.heap "java/lang/StringUTF16" "HI_BYTE_SHIFT" "I" (.int 0)) (F4_ : Sta Z Z.heap "java/lang/StringUTF16" "LO_BYTE_SHIFT" "I" (.int 8)) :
    MetFree l nm3 (head1 (Jvm.Cond.code nm3 jdk_52_method_4_code 3 none :: ws) ({ frames := 0, cells := 0, slots := 0, locals := 0 } : Room)) (fun a U => a = #[(.ref p0), (.int 0), (.int p2)] ∧ Z.Warmed39 U.vm ∧ U.heap = h0) (fun _ _ _ _ _ => True) (fun _ U o U' => ∃ v L, o = .returned v ∧ Qpc2_0 Z p0 p2 kb x0 x1 x2 x3 h0 n0 v U'.heap L ∧ FrameEnd U o U' L ({ frames := 0, cells := 0, slots := 0, locals := 0 } : Room).cells ({ frames := 0, cells := 0, slots := 0, locals := 0 } : Room).slots) := by
  refine MetFree.of_bodySF (plainFor_of_name pn_18) hisR ?_
  intro p e s m args below meth c s₁ Bd hml0 hP hK
  obtain ⟨rfl, hZ, hh⟩ := hP
  have hx := Bd.exec
  have hby := Bd.bytes
  have hml : c.maxLocals = 3 := hml0
  have hown : s.vm.findClass "java/lang/StringUTF16" = some m.cls := findClass_of_methodNamed Bd.named
  have X0 : Stand p l e ({ frames := 0, cells := 0, slots := 0, locals := 0 } : Room) s m #[(.ref p0), (.int 0), (.int p2)] below meth c s₁ [] 0 0 := Stand.of_body Bd
  have e0 : s₁.heap = h0 := by rw [← hh, Bd.state]; rfl
  have N0 := Fr.nil n0
  have s0 : Steps p.tables e below (s₁.setTop (entryFrame m #[(.ref p0), (.int 0), (.int p2)] 3)) (s₁.setTop (mkF m 0 #[.val (.ref p0), .val (.int 0), .val (.int p2)] [])) := castTop (ef_rmpc2_0 m p0 p2) (Steps.refl _)
  obtain ⟨A₀, hA₀⟩ : ∃ z, z = (s₁.setTop (entryFrame m #[(.ref p0), (.int 0), (.int p2)] 3)) := ⟨_, rfl⟩
  rw [← hA₀] at s0
  obtain ⟨T1, X1, e1, st1⟩ := getS2 X0 hx hZ hown (host := "") (Or.inl (wq hw 88 rfl)) Via.refl e0 (F2_.ext O0.2) (g := (mkF m 0 #[.val (.ref p0), .val (.int 0), .val (.int p2)] [])) rfl (hb hby d17_0)
  obtain ⟨T2, X2, e2, st2⟩ := getS2 X1 hx hZ hown (host := "") (Or.inl (wq hw 89 rfl)) Via.refl e1 (F3_.ext O0.2) (g := (mkF m 38 #[.val (.ref p0), .val (.int 1), .val (.int p2)] [(.int p2), (.int 0), (.ref p0)])) rfl (hb hby d17_38)
  obtain ⟨cla3, Ara3, qa3, Sa3, Za3, Ha3, Ga3⟩ := id F0_
  have hin4 : ¬ ((0 : Int32) < 0 ∨ cla3.slots.size ≤ ((0 : Int32)).toNatClampNeg) := inb_of Sa3 ⟨by decide, by decide⟩
  obtain ⟨T5, h5, X5, e5, W5, st5⟩ := stB X2 hx hZ e2 Ara3 (j := (0 : Int32)) hin4 (g := (mkF m 43 #[.val (.ref p0), .val (.int 1), .val (.int p2)] [(.int ((p2 >>> ((0 : Int32) &&& 31)).toInt8.toInt32)), (.int 0), (.ref p0)])) rfl rfl (hb hby d17_43)
  have O5 := O0.wr W5 F1_
  have K5 : Keep h0 h5 [p0] := (Keep.refl h0 [p0]).wr W5 (Or.inl (List.mem_of_getElem? (i := 0) rfl))
  have N5 := Fr.snoc X5 N0 F1_
  have V5 : Arv Z h5 p0 kb .byte 4 [(.int (((p2 >>> ((0 : Int32) &&& 31)).toInt8.toInt32).toInt8.toInt32)), (.int x1), (.int x2), (.int x3)] (.int 0) := Arv.set Ara3 qa3 Sa3 Za3 Ha3 Ga3 (fits_nar_byte _) W5 0 rfl (Nat.le_of_ble_eq_true rfl)
  obtain ⟨T6, X6, e6, st6⟩ := getS2 X5 hx hZ hown (host := "") (Or.inl (wq hw 90 rfl)) Via.refl e5 (F4_.ext O5.2) (g := (mkF m 47 #[.val (.ref p0), .val (.int 1), .val (.int p2)] [(.int p2), (.int 1), (.ref p0)])) rfl (hb hby d17_47)
  obtain ⟨cla7, Ara7, qa7, Sa7, Za7, Ha7, Ga7⟩ := id V5
  have hin8 : ¬ ((1 : Int32) < 0 ∨ cla7.slots.size ≤ ((1 : Int32)).toNatClampNeg) := inb_of Sa7 ⟨by decide, by decide⟩
  obtain ⟨T9, h9, X9, e9, W9, st9⟩ := stB X6 hx hZ e6 Ara7 (j := (1 : Int32)) hin8 (g := (mkF m 52 #[.val (.ref p0), .val (.int 1), .val (.int p2)] [(.int ((p2 >>> ((8 : Int32) &&& 31)).toInt8.toInt32)), (.int 1), (.ref p0)])) rfl rfl (hb hby d17_52)
  have O9 := O5.wr W9 F1_
  have K9 : Keep h0 h9 [p0] := K5.wr W9 (Or.inl (List.mem_of_getElem? (i := 0) rfl))
  have N9 := Fr.snoc X9 N5 F1_
  have V9 : Arv Z h9 p0 kb .byte 4 [(.int (((p2 >>> ((0 : Int32) &&& 31)).toInt8.toInt32).toInt8.toInt32)), (.int (((p2 >>> ((8 : Int32) &&& 31)).toInt8.toInt32).toInt8.toInt32)), (.int x2), (.int x3)] (.int 0) := Arv.set Ara7 qa7 Sa7 Za7 Ha7 Ga7 (fits_nar_byte _) W9 1 rfl (Nat.le_of_ble_eq_true rfl)
  have s10 : Steps p.tables e below A₀ (T9.setTop (mkF m 53 #[.val (.ref p0), .val (.int 1), .val (.int p2)] [])) := by
    refine s0.trans ?_
    refine st1 _ ?_
    refine XS.ifYes X1.here hx rfl (pc0 := 3) (pc' := 28) rfl (hb hby d17_3) rfl ((if0 _ _).trans (feq (by decide)).2) (by decide) (by decide) ?_
    refine XS.iloadN X1.here hx rfl (hb hby d17_28) rfl ?_
    refine XS.iconst X1.here hx rfl (hb hby d17_29) ?_
    refine XS.ishl X1.here hx rfl (hb hby d17_30) rfl ?_
    refine XS.istoreN X1.here hx rfl (hb hby d17_31) rfl (l' := #[.val (.ref p0), .val (.int 0), .val (.int p2)]) rfl ?_
    refine XS.aloadN X1.here hx rfl (hb hby d17_32) rfl rfl ?_
    refine XS.iloadN X1.here hx rfl (hb hby d17_33) rfl ?_
    show Steps p.tables e below (T1.setTop (mkF m 34 #[.val (.ref p0), .val (.int 0), .val (.int p2)] [(.int 0), (.ref p0)])) _
    refine XS.iinc X1.here hx rfl (hb hby d17_34) rfl (l' := #[.val (.ref p0), .val (.int 1), .val (.int p2)]) rfl ?_
    refine XS.iloadN X1.here hx rfl (hb hby d17_37) rfl ?_
    refine st2 _ ?_
    refine XS.ishr X2.here hx rfl (hb hby d17_41) rfl ?_
    refine XS.i2b X2.here hx rfl (hb hby d17_42) rfl ?_
    refine st5 _ ?_
    refine XS.aloadN X5.here hx rfl (hb hby d17_44) rfl rfl ?_
    refine XS.iloadN X5.here hx rfl (hb hby d17_45) rfl ?_
    refine XS.iloadN X5.here hx rfl (hb hby d17_46) rfl ?_
    refine st6 _ ?_
    show Steps p.tables e below (T6.setTop (mkF m 50 #[.val (.ref p0), .val (.int 1), .val (.int p2)] [(.int 8), (.int p2), (.int 1), (.ref p0)])) _
    refine XS.ishr X6.here hx rfl (hb hby d17_50) rfl ?_
    refine XS.i2b X6.here hx rfl (hb hby d17_51) rfl ?_
    refine st9 _ ?_
    exact Steps.refl _
  subst hA₀
  obtain ⟨fs, hr, hrun, hended, hW, hsame⟩ := X9.leave (v := none) (fun _ => rfl)
  refine ⟨_, _, s10.trans ?_, hrun, hended, _, _, rfl, ?_, ⟨_, rfl⟩, hW, hsame.mono (by decide) (by decide)⟩
  · show Steps p.tables e below (T9.setTop (mkF m 53 #[.val (.ref p0), .val (.int 1), .val (.int p2)] [])) _
    exact X9.returnOut hx Bd.returns (hb hby d17_53) hr
  · show Qpc2_0 Z p0 p2 kb x0 x1 x2 x3 h0 n0 _ T9.heap _
    rw [e9]
    exact ⟨rfl, N9, K9, V9⟩
theorem ef_rmpc2_1 (m : MethodId) (p0 : Addr) (p2 : Int32) : entryFrame m #[(.ref p0), (.int 1), (.int p2)] 3 = mkF m 0 #[.val (.ref p0), .val (.int 1), .val (.int p2)] [] := by first | (simp [entryFrame, mkF, argsToLocals, Value.category]; done) | rfl
def Qpc2_1 (Z : State) (p0 : Addr) (p2 : Int32) (kb : ClassId) (x0 : Int32) (x1 : Int32) (x2 : Int32) (x3 : Int32) (h0 : Heap) (n0 : Nat) (v : Option Value) (h : Heap) (L : List Loc) : Prop := v = none ∧ Fr n0 L ∧ Keep h0 h [p0] ∧ (Arv Z h p0 kb .byte 4 [(.int x0), (.int x1), (.int (((p2 >>> ((0 : Int32) &&& 31)).toInt8.toInt32).toInt8.toInt32)), (.int (((p2 >>> ((8 : Int32) &&& 31)).toInt8.toInt32).toInt8.toInt32))] (.int 0))
set_option maxRecDepth 65536 in
set_option maxHeartbeats 40000000 in
theorem rmpc2_1 (l : Launch) (Z : State) (a0 : Array Value) (hw : ∀ d ∈ tables_1, d.before a0 Z = true) (ws : List Jvm.Cond) (p0 : Addr) (p2 : Int32) (kb : ClassId) (x0 : Int32) (x1 : Int32) (x2 : Int32) (x3 : Int32) (h0 : Heap) (n0 : Nat) (O0 : Old Z n0 h0) (F0_ : Arv Z h0 p0 kb .byte 4 [(.int x0), (.int x1), (.int x2), (.int x3)] (.int 0)) (F1_ : n0 ≤ p0) (F2_ : Sta Z Z.heap "java/lang/StringUTF16" "$assertionsDisabled" "Z" (.int 1)) (F3_ : Sta Z Z.heap "java/lang/StringUTF16" "HI_BYTE_SHIFT" "I" (.int 0)) (F4_ : Sta Z Z.heap "java/lang/StringUTF16" "LO_BYTE_SHIFT" "I" (.int 8)) :
    MetFree l nm3 (head1 (Jvm.Cond.code nm3 jdk_52_method_4_code 3 none :: ws) ({ frames := 0, cells := 0, slots := 0, locals := 0 } : Room)) (fun a U => a = #[(.ref p0), (.int 1), (.int p2)] ∧ Z.Warmed39 U.vm ∧ U.heap = h0) (fun _ _ _ _ _ => True) (fun _ U o U' => ∃ v L, o = .returned v ∧ Qpc2_1 Z p0 p2 kb x0 x1 x2 x3 h0 n0 v U'.heap L ∧ FrameEnd U o U' L ({ frames := 0, cells := 0, slots := 0, locals := 0 } : Room).cells ({ frames := 0, cells := 0, slots := 0, locals := 0 } : Room).slots) := by
  refine MetFree.of_bodySF (plainFor_of_name pn_18) hisR ?_
  intro p e s m args below meth c s₁ Bd hml0 hP hK
  obtain ⟨rfl, hZ, hh⟩ := hP
  have hx := Bd.exec
  have hby := Bd.bytes
  have hml : c.maxLocals = 3 := hml0
  have hown : s.vm.findClass "java/lang/StringUTF16" = some m.cls := findClass_of_methodNamed Bd.named
  have X0 : Stand p l e ({ frames := 0, cells := 0, slots := 0, locals := 0 } : Room) s m #[(.ref p0), (.int 1), (.int p2)] below meth c s₁ [] 0 0 := Stand.of_body Bd
  have e0 : s₁.heap = h0 := by rw [← hh, Bd.state]; rfl
  have N0 := Fr.nil n0
  have s0 : Steps p.tables e below (s₁.setTop (entryFrame m #[(.ref p0), (.int 1), (.int p2)] 3)) (s₁.setTop (mkF m 0 #[.val (.ref p0), .val (.int 1), .val (.int p2)] [])) := castTop (ef_rmpc2_1 m p0 p2) (Steps.refl _)
  obtain ⟨A₀, hA₀⟩ : ∃ z, z = (s₁.setTop (entryFrame m #[(.ref p0), (.int 1), (.int p2)] 3)) := ⟨_, rfl⟩
  rw [← hA₀] at s0
  obtain ⟨T1, X1, e1, st1⟩ := getS2 X0 hx hZ hown (host := "") (Or.inl (wq hw 88 rfl)) Via.refl e0 (F2_.ext O0.2) (g := (mkF m 0 #[.val (.ref p0), .val (.int 1), .val (.int p2)] [])) rfl (hb hby d17_0)
  obtain ⟨T2, X2, e2, st2⟩ := getS2 X1 hx hZ hown (host := "") (Or.inl (wq hw 89 rfl)) Via.refl e1 (F3_.ext O0.2) (g := (mkF m 38 #[.val (.ref p0), .val (.int 3), .val (.int p2)] [(.int p2), (.int 2), (.ref p0)])) rfl (hb hby d17_38)
  obtain ⟨cla3, Ara3, qa3, Sa3, Za3, Ha3, Ga3⟩ := id F0_
  have hin4 : ¬ ((2 : Int32) < 0 ∨ cla3.slots.size ≤ ((2 : Int32)).toNatClampNeg) := inb_of Sa3 ⟨by decide, by decide⟩
  obtain ⟨T5, h5, X5, e5, W5, st5⟩ := stB X2 hx hZ e2 Ara3 (j := (2 : Int32)) hin4 (g := (mkF m 43 #[.val (.ref p0), .val (.int 3), .val (.int p2)] [(.int ((p2 >>> ((0 : Int32) &&& 31)).toInt8.toInt32)), (.int 2), (.ref p0)])) rfl rfl (hb hby d17_43)
  have O5 := O0.wr W5 F1_
  have K5 : Keep h0 h5 [p0] := (Keep.refl h0 [p0]).wr W5 (Or.inl (List.mem_of_getElem? (i := 0) rfl))
  have N5 := Fr.snoc X5 N0 F1_
  have V5 : Arv Z h5 p0 kb .byte 4 [(.int x0), (.int x1), (.int (((p2 >>> ((0 : Int32) &&& 31)).toInt8.toInt32).toInt8.toInt32)), (.int x3)] (.int 0) := Arv.set Ara3 qa3 Sa3 Za3 Ha3 Ga3 (fits_nar_byte _) W5 2 rfl (Nat.le_of_ble_eq_true rfl)
  obtain ⟨T6, X6, e6, st6⟩ := getS2 X5 hx hZ hown (host := "") (Or.inl (wq hw 90 rfl)) Via.refl e5 (F4_.ext O5.2) (g := (mkF m 47 #[.val (.ref p0), .val (.int 3), .val (.int p2)] [(.int p2), (.int 3), (.ref p0)])) rfl (hb hby d17_47)
  obtain ⟨cla7, Ara7, qa7, Sa7, Za7, Ha7, Ga7⟩ := id V5
  have hin8 : ¬ ((3 : Int32) < 0 ∨ cla7.slots.size ≤ ((3 : Int32)).toNatClampNeg) := inb_of Sa7 ⟨by decide, by decide⟩
  obtain ⟨T9, h9, X9, e9, W9, st9⟩ := stB X6 hx hZ e6 Ara7 (j := (3 : Int32)) hin8 (g := (mkF m 52 #[.val (.ref p0), .val (.int 3), .val (.int p2)] [(.int ((p2 >>> ((8 : Int32) &&& 31)).toInt8.toInt32)), (.int 3), (.ref p0)])) rfl rfl (hb hby d17_52)
  have O9 := O5.wr W9 F1_
  have K9 : Keep h0 h9 [p0] := K5.wr W9 (Or.inl (List.mem_of_getElem? (i := 0) rfl))
  have N9 := Fr.snoc X9 N5 F1_
  have V9 : Arv Z h9 p0 kb .byte 4 [(.int x0), (.int x1), (.int (((p2 >>> ((0 : Int32) &&& 31)).toInt8.toInt32).toInt8.toInt32)), (.int (((p2 >>> ((8 : Int32) &&& 31)).toInt8.toInt32).toInt8.toInt32))] (.int 0) := Arv.set Ara7 qa7 Sa7 Za7 Ha7 Ga7 (fits_nar_byte _) W9 3 rfl (Nat.le_of_ble_eq_true rfl)
  have s10 : Steps p.tables e below A₀ (T9.setTop (mkF m 53 #[.val (.ref p0), .val (.int 3), .val (.int p2)] [])) := by
    refine s0.trans ?_
    refine st1 _ ?_
    refine XS.ifYes X1.here hx rfl (pc0 := 3) (pc' := 28) rfl (hb hby d17_3) rfl ((if0 _ _).trans (feq (by decide)).2) (by decide) (by decide) ?_
    refine XS.iloadN X1.here hx rfl (hb hby d17_28) rfl ?_
    refine XS.iconst X1.here hx rfl (hb hby d17_29) ?_
    refine XS.ishl X1.here hx rfl (hb hby d17_30) rfl ?_
    refine XS.istoreN X1.here hx rfl (hb hby d17_31) rfl (l' := #[.val (.ref p0), .val (.int 2), .val (.int p2)]) rfl ?_
    refine XS.aloadN X1.here hx rfl (hb hby d17_32) rfl rfl ?_
    refine XS.iloadN X1.here hx rfl (hb hby d17_33) rfl ?_
    show Steps p.tables e below (T1.setTop (mkF m 34 #[.val (.ref p0), .val (.int 2), .val (.int p2)] [(.int 2), (.ref p0)])) _
    refine XS.iinc X1.here hx rfl (hb hby d17_34) rfl (l' := #[.val (.ref p0), .val (.int 3), .val (.int p2)]) rfl ?_
    refine XS.iloadN X1.here hx rfl (hb hby d17_37) rfl ?_
    refine st2 _ ?_
    refine XS.ishr X2.here hx rfl (hb hby d17_41) rfl ?_
    refine XS.i2b X2.here hx rfl (hb hby d17_42) rfl ?_
    refine st5 _ ?_
    refine XS.aloadN X5.here hx rfl (hb hby d17_44) rfl rfl ?_
    refine XS.iloadN X5.here hx rfl (hb hby d17_45) rfl ?_
    refine XS.iloadN X5.here hx rfl (hb hby d17_46) rfl ?_
    refine st6 _ ?_
    show Steps p.tables e below (T6.setTop (mkF m 50 #[.val (.ref p0), .val (.int 3), .val (.int p2)] [(.int 8), (.int p2), (.int 3), (.ref p0)])) _
    refine XS.ishr X6.here hx rfl (hb hby d17_50) rfl ?_
    refine XS.i2b X6.here hx rfl (hb hby d17_51) rfl ?_
    refine st9 _ ?_
    exact Steps.refl _
  subst hA₀
  obtain ⟨fs, hr, hrun, hended, hW, hsame⟩ := X9.leave (v := none) (fun _ => rfl)
  refine ⟨_, _, s10.trans ?_, hrun, hended, _, _, rfl, ?_, ⟨_, rfl⟩, hW, hsame.mono (by decide) (by decide)⟩
  · show Steps p.tables e below (T9.setTop (mkF m 53 #[.val (.ref p0), .val (.int 3), .val (.int p2)] [])) _
    exact X9.returnOut hx Bd.returns (hb hby d17_53) hr
  · show Qpc2_1 Z p0 p2 kb x0 x1 x2 x3 h0 n0 _ T9.heap _
    rw [e9]
    exact ⟨rfl, N9, K9, V9⟩
theorem pd_rmtb2_0 : parseMethodDescriptor "(I)[B" = some ⟨[.int], some (.array .byte)⟩ := by decide +kernel
theorem pd_rmtb2_1 : parseMethodDescriptor "([BII)V" = some ⟨[(.array .byte), .int, .int], none⟩ := by decide +kernel
theorem ef_rmtb2 (m : MethodId) (p0 : Addr) : entryFrame m #[(.ref p0), (.int 0), (.int 2)] 5 = mkF m 0 #[.val (.ref p0), .val (.int 0), .val (.int 2), .unset, .unset] [] := by first | (simp [entryFrame, mkF, argsToLocals, Value.category]; done) | rfl
def Qtb2 (Z : State) (p0 : Addr) (kc : ClassId) (c0 : Int32) (c1 : Int32) (h0 : Heap) (n0 : Nat) (v : Option Value) (h : Heap) (L : List Loc) : Prop := ∃ b : Addr, ∃ kb : ClassId, v = some (.ref b) ∧ Fr n0 L ∧ Keep h0 h [] ∧ (Arv Z h b kb .byte 4 [(.int (((c0 >>> ((0 : Int32) &&& 31)).toInt8.toInt32).toInt8.toInt32)), (.int (((c0 >>> ((8 : Int32) &&& 31)).toInt8.toInt32).toInt8.toInt32)), (.int (((c1 >>> ((0 : Int32) &&& 31)).toInt8.toInt32).toInt8.toInt32)), (.int (((c1 >>> ((8 : Int32) &&& 31)).toInt8.toInt32).toInt8.toInt32))] (.int 0)) ∧ (h0.size ≤ b)
set_option maxRecDepth 65536 in
set_option maxHeartbeats 40000000 in
theorem rmtb2 (l : Launch) (Z : State) (a0 : Array Value) (hw : ∀ d ∈ tables_1, d.before a0 Z = true) (ws : List Jvm.Cond) (p0 : Addr) (kc : ClassId) (c0 : Int32) (c1 : Int32) (h0 : Heap) (n0 : Nat) (O0 : Old Z n0 h0) (F0_ : Arv Z h0 p0 kc .char 2 [(.int c0), (.int c1)] (.int 0)) (F1_ : Sta Z Z.heap "java/lang/StringUTF16" "$assertionsDisabled" "Z" (.int 1)) (F2_ : Sta Z Z.heap "java/lang/StringUTF16" "HI_BYTE_SHIFT" "I" (.int 0)) (F3_ : Sta Z Z.heap "java/lang/StringUTF16" "LO_BYTE_SHIFT" "I" (.int 8)) :
    MetFree l nm4 (head1 (Jvm.Cond.code nm4 jdk_52_method_14_code 5 (some (.array .byte)) :: ws) ({ frames := 2, cells := 1, slots := 4, locals := 24 } : Room)) (fun a U => a = #[(.ref p0), (.int 0), (.int 2)] ∧ Z.Warmed39 U.vm ∧ U.heap = h0) (fun _ _ _ _ _ => True) (fun _ U o U' => ∃ v L, o = .returned v ∧ Qtb2 Z p0 kc c0 c1 h0 n0 v U'.heap L ∧ FrameEnd U o U' L ({ frames := 2, cells := 1, slots := 4, locals := 24 } : Room).cells ({ frames := 2, cells := 1, slots := 4, locals := 24 } : Room).slots) := by
  refine MetFree.of_bodySF (plainFor_of_name pn_18) hisR ?_
  intro p e s m args below meth c s₁ Bd hml0 hP hK
  obtain ⟨rfl, hZ, hh⟩ := hP
  have hx := Bd.exec
  have hby := Bd.bytes
  have hml : c.maxLocals = 5 := hml0
  have hown : s.vm.findClass "java/lang/StringUTF16" = some m.cls := findClass_of_methodNamed Bd.named
  have X0 : Stand p l e ({ frames := 2, cells := 1, slots := 4, locals := 24 } : Room) s m #[(.ref p0), (.int 0), (.int 2)] below meth c s₁ [] 0 0 := Stand.of_body Bd
  have e0 : s₁.heap = h0 := by rw [← hh, Bd.state]; rfl
  have N0 := Fr.nil n0
  have s0 : Steps p.tables e below (s₁.setTop (entryFrame m #[(.ref p0), (.int 0), (.int 2)] 5)) (s₁.setTop (mkF m 0 #[.val (.ref p0), .val (.int 0), .val (.int 2), .unset, .unset] [])) := castTop (ef_rmtb2 m p0) (Steps.refl _)
  obtain ⟨A₀, hA₀⟩ : ∃ z, z = (s₁.setTop (entryFrame m #[(.ref p0), (.int 0), (.int 2)] 5)) := ⟨_, rfl⟩
  rw [← hA₀] at s0
  obtain ⟨_, _, ⟨T1, L1, k1, n1⟩, -, X1, ⟨Lc1, hQ1, l1, y1, z1⟩, st1⟩ := Jvm.LawKit.callS X0 hx (y := (⟨"java/lang/StringUTF16", "newBytesFor", "(I)[B"⟩ : MethodName)) hown (mvT hZ (wq hw 78 rfl)) (mvT hZ (wq hw 79 rfl)) (mvT hZ (wq hw 21 rfl)) (mvT hZ (wq hw 80 rfl)) (by decide) (backOf (W := 0) (rmnf2 l Z a0 hw []  h0 n0 O0 ) hZ (wq hw 80 rfl) (wq hw 21 rfl) (by decide) (by decide)) (g := (mkF m 1 #[.val (.ref p0), .val (.int 0), .val (.int 2), .unset, .unset] [(.int 2)])) rfl (by rw [hml]; rfl) (argsL := [(.int 2)]) (rest := []) (lenOf pd_rmtb2_0 rfl) rfl (by exact Nat.le_refl _) (hb hby d14_1) (fun _ _ => ⟨rfl, e0, (by decide : 0 + 1 ≤ _), (by decide : 0 + 4 ≤ _)⟩)
  dsimp only [Pt.U, Pt.locs, Pt.cells, Pt.slots] at X1 l1 y1 z1 st1 hQ1
  subst l1 y1 z1
  obtain ⟨u2, u3, rfl, Nq1, Kc1, f1_0, f1_1⟩ := hQ1
  have N1 := Fr.app N0 Nq1
  have ne_p0_u2 : p0 ≠ u2 := Nat.ne_of_lt (Nat.lt_of_lt_of_le F0_.lt f1_1)
  have g_u2 : n0 ≤ u2 := Nat.le_trans (Nat.le_of_eq O0.1.symm) (Nat.le_trans O0.2.1 f1_1)
  have sz_u2 : h0.size ≤ u2 := Nat.le_trans (Keep.refl h0 []).1 f1_1
  have K1 : Keep h0 T1.heap [] := (Keep.refl h0 []).trans Kc1 all0
  have O1 := O0.keep Kc1 all0
  have c4 : Arv Z T1.heap p0 kc .char 2 [(.int c0), (.int c1)] (.int 0) := (F0_.keep Kc1 nin0)
  obtain ⟨cla5, Ara5, qa5, Sa5, Za5, Ha5, Ga5⟩ := id c4
  have hin6 : ¬ ((0 : Int32) < 0 ∨ cla5.slots.size ≤ ((0 : Int32)).toNatClampNeg) := inb_of Sa5 ⟨by decide, by decide⟩
  have hat7 : cla5.slots[((0 : Int32)).toNatClampNeg]? = some (.int c0) := Has.at Ha5 hin6 rfl
  obtain ⟨_, _, ⟨T8, L8, k8, n8⟩, -, X8, ⟨Lc8, hQ8, l8, y8, z8⟩, st8⟩ := Jvm.LawKit.callS X1 hx (y := (⟨"java/lang/StringUTF16", "putChar", "([BII)V"⟩ : MethodName)) hown (mvT hZ (wq hw 85 rfl)) (mvT hZ (wq hw 86 rfl)) (mvT hZ (wq hw 21 rfl)) (mvT hZ (wq hw 87 rfl)) (by decide) (backOf (W := 0) (rmpc2_0 l Z a0 hw [] u2 c0 u3 (0 : Int32) (0 : Int32) (0 : Int32) (0 : Int32) T1.heap n0 O1 f1_0 g_u2 F1_ F2_ F3_) hZ (wq hw 87 rfl) (wq hw 21 rfl) (by decide) (by decide)) (g := (mkF m 20 #[.val (.ref p0), .val (.int 0), .val (.int 2), .val (.ref u2), .val (.int 0)] [(.int c0), (.int 0), (.ref u2)])) rfl (by rw [hml]; rfl) (argsL := [(.ref u2), (.int 0), (.int c0)]) (rest := []) (lenOf pd_rmtb2_1 rfl) rfl (by exact Nat.le_refl _) (hb hby d14_20) (fun _ _ => ⟨rfl, (rfl : T1.heap = T1.heap), (by decide : 1 + 0 ≤ _), (by decide : 4 + 0 ≤ _)⟩)
  dsimp only [Pt.U, Pt.locs, Pt.cells, Pt.slots] at X8 l8 y8 z8 st8 hQ8
  subst l8 y8 z8
  obtain ⟨rfl, Nq8, Kc8, f8_0⟩ := hQ8
  have N8 := Fr.app N1 Nq8
  have K8 : Keep h0 T8.heap [] := K1.trans Kc8 (allS (Or.inr sz_u2) all0)
  have O8 := O1.keep Kc8 (allS g_u2 all0)
  have c9 : Arv Z T8.heap p0 kc .char 2 [(.int c0), (.int c1)] (.int 0) := (c4.keep Kc8 (ninS ne_p0_u2 nin0))
  obtain ⟨cla10, Ara10, qa10, Sa10, Za10, Ha10, Ga10⟩ := id c9
  have hin11 : ¬ ((1 : Int32) < 0 ∨ cla10.slots.size ≤ ((1 : Int32)).toNatClampNeg) := inb_of Sa10 ⟨by decide, by decide⟩
  have hat12 : cla10.slots[((1 : Int32)).toNatClampNeg]? = some (.int c1) := Has.at Ha10 hin11 rfl
  obtain ⟨_, _, ⟨T13, L13, k13, n13⟩, -, X13, ⟨Lc13, hQ13, l13, y13, z13⟩, st13⟩ := Jvm.LawKit.callS X8 hx (y := (⟨"java/lang/StringUTF16", "putChar", "([BII)V"⟩ : MethodName)) hown (mvT hZ (wq hw 85 rfl)) (mvT hZ (wq hw 86 rfl)) (mvT hZ (wq hw 21 rfl)) (mvT hZ (wq hw 87 rfl)) (by decide) (backOf (W := 0) (rmpc2_1 l Z a0 hw [] u2 c1 u3 (((c0 >>> ((0 : Int32) &&& 31)).toInt8.toInt32).toInt8.toInt32) (((c0 >>> ((8 : Int32) &&& 31)).toInt8.toInt32).toInt8.toInt32) (0 : Int32) (0 : Int32) T8.heap n0 O8 f8_0 g_u2 F1_ F2_ F3_) hZ (wq hw 87 rfl) (wq hw 21 rfl) (by decide) (by decide)) (g := (mkF m 20 #[.val (.ref p0), .val (.int 1), .val (.int 2), .val (.ref u2), .val (.int 1)] [(.int c1), (.int 1), (.ref u2)])) rfl (by rw [hml]; rfl) (argsL := [(.ref u2), (.int 1), (.int c1)]) (rest := []) (lenOf pd_rmtb2_1 rfl) rfl (by exact Nat.le_refl _) (hb hby d14_20) (fun _ _ => ⟨rfl, (rfl : T8.heap = T8.heap), (by decide : 1 + 0 ≤ _), (by decide : 4 + 0 ≤ _)⟩)
  dsimp only [Pt.U, Pt.locs, Pt.cells, Pt.slots] at X13 l13 y13 z13 st13 hQ13
  subst l13 y13 z13
  obtain ⟨rfl, Nq13, Kc13, f13_0⟩ := hQ13
  have N13 := Fr.app N8 Nq13
  have K13 : Keep h0 T13.heap [] := K8.trans Kc13 (allS (Or.inr sz_u2) all0)
  have O13 := O8.keep Kc13 (allS g_u2 all0)
  have s14 : Steps p.tables e below A₀ (T13.setTop (mkF m 33 #[.val (.ref p0), .val (.int 2), .val (.int 2), .val (.ref u2), .val (.int 2)] [(.ref u2)])) := by
    refine s0.trans ?_
    refine XS.iloadN X0.here hx rfl (hb hby d14_0) rfl ?_
    refine st1 _ ?_
    refine XS.astoreN X1.here hx rfl (hb hby d14_4) rfl rfl (l' := #[.val (.ref p0), .val (.int 0), .val (.int 2), .val (.ref u2), .unset]) rfl ?_
    refine XS.iconst X1.here hx rfl (hb hby d14_5) ?_
    refine XS.istore X1.here hx rfl (hb hby d14_6) rfl (l' := #[.val (.ref p0), .val (.int 0), .val (.int 2), .val (.ref u2), .val (.int 0)]) rfl ?_
    refine XS.iload X1.here hx rfl (hb hby d14_8) rfl ?_
    refine XS.iloadN X1.here hx rfl (hb hby d14_10) rfl ?_
    refine XS.icmpNo X1.here hx rfl (hb hby d14_11) rfl (tlt (by decide)).2.1 ?_
    show Steps p.tables e below (T1.setTop (mkF m 14 #[.val (.ref p0), .val (.int 0), .val (.int 2), .val (.ref u2), .val (.int 0)] [])) _
    refine XS.aloadN X1.here hx rfl (hb hby d14_14) rfl rfl ?_
    refine XS.iload X1.here hx rfl (hb hby d14_15) rfl ?_
    refine XS.aloadN X1.here hx rfl (hb hby d14_17) rfl rfl ?_
    refine XS.iloadN X1.here hx rfl (hb hby d14_18) rfl ?_
    refine X1.caload hx (j := (0 : Int32)) (v := (.int c0)) (by rw [(rfl : T1.heap = T1.heap)]; exact Ara5.1) (State.isArrayOf_alike hZ.alike Ara5.2.1) Ara5.2.2 hin6 hat7 (g := (mkF m 19 #[.val (.ref p0), .val (.int 0), .val (.int 2), .val (.ref u2), .val (.int 0)] [(.int 0), (.ref p0), (.int 0), (.ref u2)])) rfl rfl (hb hby d14_19) _ ?_
    refine st8 _ ?_
    refine XS.iinc X8.here hx rfl (hb hby d14_23) rfl (l' := #[.val (.ref p0), .val (.int 1), .val (.int 2), .val (.ref u2), .val (.int 0)]) rfl ?_
    refine XS.iinc X8.here hx rfl (hb hby d14_26) rfl (l' := #[.val (.ref p0), .val (.int 1), .val (.int 2), .val (.ref u2), .val (.int 1)]) rfl ?_
    refine XS.goto X8.here hx rfl (pc0 := 29) (pc' := 8) rfl (hb hby d14_29) (by decide) (by decide) ?_
    refine XS.iload X8.here hx rfl (hb hby d14_8) rfl ?_
    show Steps p.tables e below (T8.setTop (mkF m 10 #[.val (.ref p0), .val (.int 1), .val (.int 2), .val (.ref u2), .val (.int 1)] [(.int 1)])) _
    refine XS.iloadN X8.here hx rfl (hb hby d14_10) rfl ?_
    refine XS.icmpNo X8.here hx rfl (hb hby d14_11) rfl (tlt (by decide)).2.1 ?_
    refine XS.aloadN X8.here hx rfl (hb hby d14_14) rfl rfl ?_
    refine XS.iload X8.here hx rfl (hb hby d14_15) rfl ?_
    refine XS.aloadN X8.here hx rfl (hb hby d14_17) rfl rfl ?_
    refine XS.iloadN X8.here hx rfl (hb hby d14_18) rfl ?_
    refine X8.caload hx (j := (1 : Int32)) (v := (.int c1)) (by rw [(rfl : T8.heap = T8.heap)]; exact Ara10.1) (State.isArrayOf_alike hZ.alike Ara10.2.1) Ara10.2.2 hin11 hat12 (g := (mkF m 19 #[.val (.ref p0), .val (.int 1), .val (.int 2), .val (.ref u2), .val (.int 1)] [(.int 1), (.ref p0), (.int 1), (.ref u2)])) rfl rfl (hb hby d14_19) _ ?_
    refine st13 _ ?_
    refine XS.iinc X13.here hx rfl (hb hby d14_23) rfl (l' := #[.val (.ref p0), .val (.int 2), .val (.int 2), .val (.ref u2), .val (.int 1)]) rfl ?_
    refine XS.iinc X13.here hx rfl (hb hby d14_26) rfl (l' := #[.val (.ref p0), .val (.int 2), .val (.int 2), .val (.ref u2), .val (.int 2)]) rfl ?_
    show Steps p.tables e below (T13.setTop (mkF m 29 #[.val (.ref p0), .val (.int 2), .val (.int 2), .val (.ref u2), .val (.int 2)] [])) _
    refine XS.goto X13.here hx rfl (pc0 := 29) (pc' := 8) rfl (hb hby d14_29) (by decide) (by decide) ?_
    refine XS.iload X13.here hx rfl (hb hby d14_8) rfl ?_
    refine XS.iloadN X13.here hx rfl (hb hby d14_10) rfl ?_
    refine XS.icmpYes X13.here hx rfl (pc0 := 11) (pc' := 32) rfl (hb hby d14_11) rfl (flt (by decide)).2.1 (by decide) (by decide) ?_
    refine XS.aloadN X13.here hx rfl (hb hby d14_32) rfl rfl ?_
    exact Steps.refl _
  subst hA₀
  obtain ⟨fs, hr, hrun, hended, hW, hsame⟩ := X13.leave (v := some (.ref u2)) (fun h => by rw [Bd.returns] at h; cases h)
  refine ⟨_, _, s14.trans ?_, hrun, hended, _, _, rfl, ?_, ⟨_, rfl⟩, hW, hsame.mono (by decide) (by decide)⟩
  · show Steps p.tables e below (T13.setTop (mkF m 33 #[.val (.ref p0), .val (.int 2), .val (.int 2), .val (.ref u2), .val (.int 2)] [(.ref u2)])) _
    jvm_step X13.here [X13.here.top, hx, (hb hby d14_33), X13.method', Bd.returns, Value.isRef, FieldType.isReference]
    first | (intro acts; rw [hr _ acts rfl rfl rfl]) | rw [hr _ _ rfl rfl rfl]
    exact Steps.refl _
  · show Qtb2 Z p0 kc c0 c1 h0 n0 _ T13.heap _
    exact ⟨u2, u3, rfl, N13, K13, f13_0, sz_u2⟩
theorem ef_rmc5_2_0 (m : MethodId) (p0 : Addr) (p2 : Addr) : entryFrame m #[(.ref p0), (.int 0), (.ref p2), (.int 0), (.int 2)] 7 = mkF m 0 #[.val (.ref p0), .val (.int 0), .val (.ref p2), .val (.int 0), .val (.int 2), .unset, .unset] [] := by first | (simp [entryFrame, mkF, argsToLocals, Value.category]; done) | rfl
def Qc5_2_0 (Z : State) (p0 : Addr) (p2 : Addr) (kc : ClassId) (c0 : Int32) (c1 : Int32) (kb : ClassId) (h0 : Heap) (n0 : Nat) (v : Option Value) (h : Heap) (L : List Loc) : Prop := v = some (.int 0) ∧ Fr n0 L ∧ Keep h0 h [p2] ∧ (Arv Z h p2 kb .byte 2 [(.int 0), (.int 0)] (.int 0))
set_option maxRecDepth 65536 in
set_option maxHeartbeats 40000000 in
theorem rmc5_2_0 (l : Launch) (Z : State) (a0 : Array Value) (hw : ∀ d ∈ tables_1, d.before a0 Z = true) (ws : List Jvm.Cond) (p0 : Addr) (p2 : Addr) (kc : ClassId) (c0 : Int32) (c1 : Int32) (kb : ClassId) (h0 : Heap) (n0 : Nat) (O0 : Old Z n0 h0) (F0_ : Arv Z h0 p0 kc .char 2 [(.int c0), (.int c1)] (.int 0)) (F1_ : Arv Z h0 p2 kb .byte 2 [(.int 0), (.int 0)] (.int 0)) (F2_ : n0 ≤ p2) (F3_ : p0 ≠ p2) (hc0 : (255 : Int32) < c0) :
    MetFree l nm5 (head1 (Jvm.Cond.code nm5 jdk_52_method_21_code 7 (some .int) :: ws) ({ frames := 0, cells := 0, slots := 0, locals := 0 } : Room)) (fun a U => a = #[(.ref p0), (.int 0), (.ref p2), (.int 0), (.int 2)] ∧ Z.Warmed39 U.vm ∧ U.heap = h0) (fun _ _ _ _ _ => True) (fun _ U o U' => ∃ v L, o = .returned v ∧ Qc5_2_0 Z p0 p2 kc c0 c1 kb h0 n0 v U'.heap L ∧ FrameEnd U o U' L ({ frames := 0, cells := 0, slots := 0, locals := 0 } : Room).cells ({ frames := 0, cells := 0, slots := 0, locals := 0 } : Room).slots) := by
  refine MetFree.of_bodySF (plainFor_of_name pn_18) hisR ?_
  intro p e s m args below meth c s₁ Bd hml0 hP hK
  obtain ⟨rfl, hZ, hh⟩ := hP
  have hx := Bd.exec
  have hby := Bd.bytes
  have hml : c.maxLocals = 7 := hml0
  have hown : s.vm.findClass "java/lang/StringUTF16" = some m.cls := findClass_of_methodNamed Bd.named
  have X0 : Stand p l e ({ frames := 0, cells := 0, slots := 0, locals := 0 } : Room) s m #[(.ref p0), (.int 0), (.ref p2), (.int 0), (.int 2)] below meth c s₁ [] 0 0 := Stand.of_body Bd
  have e0 : s₁.heap = h0 := by rw [← hh, Bd.state]; rfl
  have N0 := Fr.nil n0
  have s0 : Steps p.tables e below (s₁.setTop (entryFrame m #[(.ref p0), (.int 0), (.ref p2), (.int 0), (.int 2)] 7)) (s₁.setTop (mkF m 0 #[.val (.ref p0), .val (.int 0), .val (.ref p2), .val (.int 0), .val (.int 2), .unset, .unset] [])) := castTop (ef_rmc5_2_0 m p0 p2) (Steps.refl _)
  obtain ⟨A₀, hA₀⟩ : ∃ z, z = (s₁.setTop (entryFrame m #[(.ref p0), (.int 0), (.ref p2), (.int 0), (.int 2)] 7)) := ⟨_, rfl⟩
  rw [← hA₀] at s0
  obtain ⟨cla1, Ara1, qa1, Sa1, Za1, Ha1, Ga1⟩ := id F0_
  have hin2 : ¬ ((0 : Int32) < 0 ∨ cla1.slots.size ≤ ((0 : Int32)).toNatClampNeg) := inb_of Sa1 ⟨by decide, by decide⟩
  have hat3 : cla1.slots[((0 : Int32)).toNatClampNeg]? = some (.int c0) := Has.at Ha1 hin2 rfl
  have s4 : Steps p.tables e below A₀ (s₁.setTop (mkF m 25 #[.val (.ref p0), .val (.int 0), .val (.ref p2), .val (.int 0), .val (.int 2), .val (.int 0), .val (.int c0)] [(.int 0)])) := by
    refine s0.trans ?_
    refine XS.iconst X0.here hx rfl (hb hby d6_0) ?_
    refine XS.istore X0.here hx rfl (hb hby d6_1) rfl (l' := #[.val (.ref p0), .val (.int 0), .val (.ref p2), .val (.int 0), .val (.int 2), .val (.int 0), .unset]) rfl ?_
    refine XS.iload X0.here hx rfl (hb hby d6_3) rfl ?_
    refine XS.iload X0.here hx rfl (hb hby d6_5) rfl ?_
    refine XS.icmpNo X0.here hx rfl (hb hby d6_7) rfl (tlt (by decide)).2.1 ?_
    refine XS.aloadN X0.here hx rfl (hb hby d6_10) rfl rfl ?_
    refine XS.iloadN X0.here hx rfl (hb hby d6_11) rfl ?_
    refine X0.caload hx (j := (0 : Int32)) (v := (.int c0)) (by rw [e0]; exact Ara1.1) (State.isArrayOf_alike hZ.alike Ara1.2.1) Ara1.2.2 hin2 hat3 (g := (mkF m 12 #[.val (.ref p0), .val (.int 0), .val (.ref p2), .val (.int 0), .val (.int 2), .val (.int 0), .unset] [(.int 0), (.ref p0)])) rfl rfl (hb hby d6_12) _ ?_
    show Steps p.tables e below (s₁.setTop (mkF m 13 #[.val (.ref p0), .val (.int 0), .val (.ref p2), .val (.int 0), .val (.int 2), .val (.int 0), .unset] [(.int c0)])) _
    refine XS.istore X0.here hx rfl (hb hby d6_13) rfl (l' := #[.val (.ref p0), .val (.int 0), .val (.ref p2), .val (.int 0), .val (.int 2), .val (.int 0), .val (.int c0)]) rfl ?_
    refine XS.iload X0.here hx rfl (hb hby d6_15) rfl ?_
    refine XS.sipush X0.here hx rfl (hb hby d6_17) ?_
    refine XS.icmpNo X0.here hx rfl (hb hby d6_20) rfl (tlt hc0).2.2.2 ?_
    refine XS.iload X0.here hx rfl (hb hby d6_23) rfl ?_
    exact Steps.refl _
  subst hA₀
  obtain ⟨fs, hr, hrun, hended, hW, hsame⟩ := X0.leave (v := some (.int 0)) (fun h => by rw [Bd.returns] at h; cases h)
  refine ⟨_, _, s4.trans ?_, hrun, hended, _, _, rfl, ?_, ⟨_, rfl⟩, hW, hsame.mono (by decide) (by decide)⟩
  · show Steps p.tables e below (s₁.setTop (mkF m 25 #[.val (.ref p0), .val (.int 0), .val (.ref p2), .val (.int 0), .val (.int 2), .val (.int 0), .val (.int c0)] [(.int 0)])) _
    exact retI X0 hx Bd.returns (hb hby d6_25) hr
  · show Qc5_2_0 Z p0 p2 kc c0 c1 kb h0 n0 _ s₁.heap _
    rw [e0]
    exact ⟨rfl, N0, (Keep.refl h0 [p2]), F1_⟩
theorem ef_rmc5_2_1 (m : MethodId) (p0 : Addr) (p2 : Addr) : entryFrame m #[(.ref p0), (.int 0), (.ref p2), (.int 0), (.int 2)] 7 = mkF m 0 #[.val (.ref p0), .val (.int 0), .val (.ref p2), .val (.int 0), .val (.int 2), .unset, .unset] [] := by first | (simp [entryFrame, mkF, argsToLocals, Value.category]; done) | rfl
def Qc5_2_1 (Z : State) (p0 : Addr) (p2 : Addr) (kc : ClassId) (c0 : Int32) (c1 : Int32) (kb : ClassId) (h0 : Heap) (n0 : Nat) (v : Option Value) (h : Heap) (L : List Loc) : Prop := v = some (.int 1) ∧ Fr n0 L ∧ Keep h0 h [p2] ∧ (Arv Z h p2 kb .byte 2 [(.int ((c0.toInt8.toInt32).toInt8.toInt32)), (.int 0)] (.int 0))
set_option maxRecDepth 65536 in
set_option maxHeartbeats 40000000 in
theorem rmc5_2_1 (l : Launch) (Z : State) (a0 : Array Value) (hw : ∀ d ∈ tables_1, d.before a0 Z = true) (ws : List Jvm.Cond) (p0 : Addr) (p2 : Addr) (kc : ClassId) (c0 : Int32) (c1 : Int32) (kb : ClassId) (h0 : Heap) (n0 : Nat) (O0 : Old Z n0 h0) (F0_ : Arv Z h0 p0 kc .char 2 [(.int c0), (.int c1)] (.int 0)) (F1_ : Arv Z h0 p2 kb .byte 2 [(.int 0), (.int 0)] (.int 0)) (F2_ : n0 ≤ p2) (F3_ : p0 ≠ p2) (hc0 : ¬ ((255 : Int32) < c0)) (hc1 : (255 : Int32) < c1) :
    MetFree l nm5 (head1 (Jvm.Cond.code nm5 jdk_52_method_21_code 7 (some .int) :: ws) ({ frames := 0, cells := 0, slots := 0, locals := 0 } : Room)) (fun a U => a = #[(.ref p0), (.int 0), (.ref p2), (.int 0), (.int 2)] ∧ Z.Warmed39 U.vm ∧ U.heap = h0) (fun _ _ _ _ _ => True) (fun _ U o U' => ∃ v L, o = .returned v ∧ Qc5_2_1 Z p0 p2 kc c0 c1 kb h0 n0 v U'.heap L ∧ FrameEnd U o U' L ({ frames := 0, cells := 0, slots := 0, locals := 0 } : Room).cells ({ frames := 0, cells := 0, slots := 0, locals := 0 } : Room).slots) := by
  refine MetFree.of_bodySF (plainFor_of_name pn_18) hisR ?_
  intro p e s m args below meth c s₁ Bd hml0 hP hK
  obtain ⟨rfl, hZ, hh⟩ := hP
  have hx := Bd.exec
  have hby := Bd.bytes
  have hml : c.maxLocals = 7 := hml0
  have hown : s.vm.findClass "java/lang/StringUTF16" = some m.cls := findClass_of_methodNamed Bd.named
  have X0 : Stand p l e ({ frames := 0, cells := 0, slots := 0, locals := 0 } : Room) s m #[(.ref p0), (.int 0), (.ref p2), (.int 0), (.int 2)] below meth c s₁ [] 0 0 := Stand.of_body Bd
  have e0 : s₁.heap = h0 := by rw [← hh, Bd.state]; rfl
  have N0 := Fr.nil n0
  have s0 : Steps p.tables e below (s₁.setTop (entryFrame m #[(.ref p0), (.int 0), (.ref p2), (.int 0), (.int 2)] 7)) (s₁.setTop (mkF m 0 #[.val (.ref p0), .val (.int 0), .val (.ref p2), .val (.int 0), .val (.int 2), .unset, .unset] [])) := castTop (ef_rmc5_2_1 m p0 p2) (Steps.refl _)
  obtain ⟨A₀, hA₀⟩ : ∃ z, z = (s₁.setTop (entryFrame m #[(.ref p0), (.int 0), (.ref p2), (.int 0), (.int 2)] 7)) := ⟨_, rfl⟩
  rw [← hA₀] at s0
  obtain ⟨cla1, Ara1, qa1, Sa1, Za1, Ha1, Ga1⟩ := id F0_
  have hin2 : ¬ ((0 : Int32) < 0 ∨ cla1.slots.size ≤ ((0 : Int32)).toNatClampNeg) := inb_of Sa1 ⟨by decide, by decide⟩
  have hat3 : cla1.slots[((0 : Int32)).toNatClampNeg]? = some (.int c0) := Has.at Ha1 hin2 rfl
  obtain ⟨cla4, Ara4, qa4, Sa4, Za4, Ha4, Ga4⟩ := id F1_
  have hin5 : ¬ ((0 : Int32) < 0 ∨ cla4.slots.size ≤ ((0 : Int32)).toNatClampNeg) := inb_of Sa4 ⟨by decide, by decide⟩
  obtain ⟨T6, h6, X6, e6, W6, st6⟩ := stB X0 hx hZ e0 Ara4 (j := (0 : Int32)) hin5 (g := (mkF m 31 #[.val (.ref p0), .val (.int 0), .val (.ref p2), .val (.int 0), .val (.int 2), .val (.int 0), .val (.int c0)] [(.int (c0.toInt8.toInt32)), (.int 0), (.ref p2)])) rfl rfl (hb hby d6_31)
  have O6 := O0.wr W6 F2_
  have K6 : Keep h0 h6 [p2] := (Keep.refl h0 [p2]).wr W6 (Or.inl (List.mem_of_getElem? (i := 0) rfl))
  have N6 := Fr.snoc X6 N0 F2_
  have V6 : Arv Z h6 p2 kb .byte 2 [(.int ((c0.toInt8.toInt32).toInt8.toInt32)), (.int 0)] (.int 0) := Arv.set Ara4 qa4 Sa4 Za4 Ha4 Ga4 (fits_nar_byte _) W6 0 rfl (Nat.le_of_ble_eq_true rfl)
  have c7 : Arv Z h6 p0 kc .char 2 [(.int c0), (.int c1)] (.int 0) := (F0_.other W6 F3_)
  obtain ⟨cla8, Ara8, qa8, Sa8, Za8, Ha8, Ga8⟩ := id c7
  have hin9 : ¬ ((1 : Int32) < 0 ∨ cla8.slots.size ≤ ((1 : Int32)).toNatClampNeg) := inb_of Sa8 ⟨by decide, by decide⟩
  have hat10 : cla8.slots[((1 : Int32)).toNatClampNeg]? = some (.int c1) := Has.at Ha8 hin9 rfl
  have s11 : Steps p.tables e below A₀ (T6.setTop (mkF m 25 #[.val (.ref p0), .val (.int 1), .val (.ref p2), .val (.int 1), .val (.int 2), .val (.int 1), .val (.int c1)] [(.int 1)])) := by
    refine s0.trans ?_
    refine XS.iconst X0.here hx rfl (hb hby d6_0) ?_
    refine XS.istore X0.here hx rfl (hb hby d6_1) rfl (l' := #[.val (.ref p0), .val (.int 0), .val (.ref p2), .val (.int 0), .val (.int 2), .val (.int 0), .unset]) rfl ?_
    refine XS.iload X0.here hx rfl (hb hby d6_3) rfl ?_
    refine XS.iload X0.here hx rfl (hb hby d6_5) rfl ?_
    refine XS.icmpNo X0.here hx rfl (hb hby d6_7) rfl (tlt (by decide)).2.1 ?_
    refine XS.aloadN X0.here hx rfl (hb hby d6_10) rfl rfl ?_
    refine XS.iloadN X0.here hx rfl (hb hby d6_11) rfl ?_
    refine X0.caload hx (j := (0 : Int32)) (v := (.int c0)) (by rw [e0]; exact Ara1.1) (State.isArrayOf_alike hZ.alike Ara1.2.1) Ara1.2.2 hin2 hat3 (g := (mkF m 12 #[.val (.ref p0), .val (.int 0), .val (.ref p2), .val (.int 0), .val (.int 2), .val (.int 0), .unset] [(.int 0), (.ref p0)])) rfl rfl (hb hby d6_12) _ ?_
    show Steps p.tables e below (s₁.setTop (mkF m 13 #[.val (.ref p0), .val (.int 0), .val (.ref p2), .val (.int 0), .val (.int 2), .val (.int 0), .unset] [(.int c0)])) _
    refine XS.istore X0.here hx rfl (hb hby d6_13) rfl (l' := #[.val (.ref p0), .val (.int 0), .val (.ref p2), .val (.int 0), .val (.int 2), .val (.int 0), .val (.int c0)]) rfl ?_
    refine XS.iload X0.here hx rfl (hb hby d6_15) rfl ?_
    refine XS.sipush X0.here hx rfl (hb hby d6_17) ?_
    refine XS.icmpYes X0.here hx rfl (pc0 := 20) (pc' := 26) rfl (hb hby d6_20) rfl (flt hc0).2.2.2 (by decide) (by decide) ?_
    refine XS.aloadN X0.here hx rfl (hb hby d6_26) rfl rfl ?_
    refine XS.iloadN X0.here hx rfl (hb hby d6_27) rfl ?_
    refine XS.iload X0.here hx rfl (hb hby d6_28) rfl ?_
    refine XS.i2b X0.here hx rfl (hb hby d6_30) rfl ?_
    refine st6 _ ?_
    refine XS.iinc X6.here hx rfl (hb hby d6_32) rfl (l' := #[.val (.ref p0), .val (.int 1), .val (.ref p2), .val (.int 0), .val (.int 2), .val (.int 0), .val (.int c0)]) rfl ?_
    show Steps p.tables e below (T6.setTop (mkF m 35 #[.val (.ref p0), .val (.int 1), .val (.ref p2), .val (.int 0), .val (.int 2), .val (.int 0), .val (.int c0)] [])) _
    refine XS.iinc X6.here hx rfl (hb hby d6_35) rfl (l' := #[.val (.ref p0), .val (.int 1), .val (.ref p2), .val (.int 1), .val (.int 2), .val (.int 0), .val (.int c0)]) rfl ?_
    refine XS.iinc X6.here hx rfl (hb hby d6_38) rfl (l' := #[.val (.ref p0), .val (.int 1), .val (.ref p2), .val (.int 1), .val (.int 2), .val (.int 1), .val (.int c0)]) rfl ?_
    refine XS.goto X6.here hx rfl (pc0 := 41) (pc' := 3) rfl (hb hby d6_41) (by decide) (by decide) ?_
    refine XS.iload X6.here hx rfl (hb hby d6_3) rfl ?_
    refine XS.iload X6.here hx rfl (hb hby d6_5) rfl ?_
    refine XS.icmpNo X6.here hx rfl (hb hby d6_7) rfl (tlt (by decide)).2.1 ?_
    refine XS.aloadN X6.here hx rfl (hb hby d6_10) rfl rfl ?_
    refine XS.iloadN X6.here hx rfl (hb hby d6_11) rfl ?_
    refine X6.caload hx (j := (1 : Int32)) (v := (.int c1)) (by rw [e6]; exact Ara8.1) (State.isArrayOf_alike hZ.alike Ara8.2.1) Ara8.2.2 hin9 hat10 (g := (mkF m 12 #[.val (.ref p0), .val (.int 1), .val (.ref p2), .val (.int 1), .val (.int 2), .val (.int 1), .val (.int c0)] [(.int 1), (.ref p0)])) rfl rfl (hb hby d6_12) _ ?_
    refine XS.istore X6.here hx rfl (hb hby d6_13) rfl (l' := #[.val (.ref p0), .val (.int 1), .val (.ref p2), .val (.int 1), .val (.int 2), .val (.int 1), .val (.int c1)]) rfl ?_
    show Steps p.tables e below (T6.setTop (mkF m 15 #[.val (.ref p0), .val (.int 1), .val (.ref p2), .val (.int 1), .val (.int 2), .val (.int 1), .val (.int c1)] [])) _
    refine XS.iload X6.here hx rfl (hb hby d6_15) rfl ?_
    refine XS.sipush X6.here hx rfl (hb hby d6_17) ?_
    refine XS.icmpNo X6.here hx rfl (hb hby d6_20) rfl (tlt hc1).2.2.2 ?_
    refine XS.iload X6.here hx rfl (hb hby d6_23) rfl ?_
    exact Steps.refl _
  subst hA₀
  obtain ⟨fs, hr, hrun, hended, hW, hsame⟩ := X6.leave (v := some (.int 1)) (fun h => by rw [Bd.returns] at h; cases h)
  refine ⟨_, _, s11.trans ?_, hrun, hended, _, _, rfl, ?_, ⟨_, rfl⟩, hW, hsame.mono (by decide) (by decide)⟩
  · show Steps p.tables e below (T6.setTop (mkF m 25 #[.val (.ref p0), .val (.int 1), .val (.ref p2), .val (.int 1), .val (.int 2), .val (.int 1), .val (.int c1)] [(.int 1)])) _
    exact retI X6 hx Bd.returns (hb hby d6_25) hr
  · show Qc5_2_1 Z p0 p2 kc c0 c1 kb h0 n0 _ T6.heap _
    rw [e6]
    exact ⟨rfl, N6, K6, V6⟩
theorem ef_rmc5_2_n (m : MethodId) (p0 : Addr) (p2 : Addr) : entryFrame m #[(.ref p0), (.int 0), (.ref p2), (.int 0), (.int 2)] 7 = mkF m 0 #[.val (.ref p0), .val (.int 0), .val (.ref p2), .val (.int 0), .val (.int 2), .unset, .unset] [] := by first | (simp [entryFrame, mkF, argsToLocals, Value.category]; done) | rfl
def Qc5_2_n (Z : State) (p0 : Addr) (p2 : Addr) (kc : ClassId) (c0 : Int32) (c1 : Int32) (kb : ClassId) (h0 : Heap) (n0 : Nat) (v : Option Value) (h : Heap) (L : List Loc) : Prop := v = some (.int 2) ∧ Fr n0 L ∧ Keep h0 h [p2] ∧ (Arv Z h p2 kb .byte 2 [(.int ((c0.toInt8.toInt32).toInt8.toInt32)), (.int ((c1.toInt8.toInt32).toInt8.toInt32))] (.int 0))
set_option maxRecDepth 65536 in
set_option maxHeartbeats 40000000 in
theorem rmc5_2_n (l : Launch) (Z : State) (a0 : Array Value) (hw : ∀ d ∈ tables_1, d.before a0 Z = true) (ws : List Jvm.Cond) (p0 : Addr) (p2 : Addr) (kc : ClassId) (c0 : Int32) (c1 : Int32) (kb : ClassId) (h0 : Heap) (n0 : Nat) (O0 : Old Z n0 h0) (F0_ : Arv Z h0 p0 kc .char 2 [(.int c0), (.int c1)] (.int 0)) (F1_ : Arv Z h0 p2 kb .byte 2 [(.int 0), (.int 0)] (.int 0)) (F2_ : n0 ≤ p2) (F3_ : p0 ≠ p2) (hc0 : ¬ ((255 : Int32) < c0)) (hc1 : ¬ ((255 : Int32) < c1)) :
    MetFree l nm5 (head1 (Jvm.Cond.code nm5 jdk_52_method_21_code 7 (some .int) :: ws) ({ frames := 0, cells := 0, slots := 0, locals := 0 } : Room)) (fun a U => a = #[(.ref p0), (.int 0), (.ref p2), (.int 0), (.int 2)] ∧ Z.Warmed39 U.vm ∧ U.heap = h0) (fun _ _ _ _ _ => True) (fun _ U o U' => ∃ v L, o = .returned v ∧ Qc5_2_n Z p0 p2 kc c0 c1 kb h0 n0 v U'.heap L ∧ FrameEnd U o U' L ({ frames := 0, cells := 0, slots := 0, locals := 0 } : Room).cells ({ frames := 0, cells := 0, slots := 0, locals := 0 } : Room).slots) := by
  refine MetFree.of_bodySF (plainFor_of_name pn_18) hisR ?_
  intro p e s m args below meth c s₁ Bd hml0 hP hK
  obtain ⟨rfl, hZ, hh⟩ := hP
  have hx := Bd.exec
  have hby := Bd.bytes
  have hml : c.maxLocals = 7 := hml0
  have hown : s.vm.findClass "java/lang/StringUTF16" = some m.cls := findClass_of_methodNamed Bd.named
  have X0 : Stand p l e ({ frames := 0, cells := 0, slots := 0, locals := 0 } : Room) s m #[(.ref p0), (.int 0), (.ref p2), (.int 0), (.int 2)] below meth c s₁ [] 0 0 := Stand.of_body Bd
  have e0 : s₁.heap = h0 := by rw [← hh, Bd.state]; rfl
  have N0 := Fr.nil n0
  have s0 : Steps p.tables e below (s₁.setTop (entryFrame m #[(.ref p0), (.int 0), (.ref p2), (.int 0), (.int 2)] 7)) (s₁.setTop (mkF m 0 #[.val (.ref p0), .val (.int 0), .val (.ref p2), .val (.int 0), .val (.int 2), .unset, .unset] [])) := castTop (ef_rmc5_2_n m p0 p2) (Steps.refl _)
  obtain ⟨A₀, hA₀⟩ : ∃ z, z = (s₁.setTop (entryFrame m #[(.ref p0), (.int 0), (.ref p2), (.int 0), (.int 2)] 7)) := ⟨_, rfl⟩
  rw [← hA₀] at s0
  obtain ⟨cla1, Ara1, qa1, Sa1, Za1, Ha1, Ga1⟩ := id F0_
  have hin2 : ¬ ((0 : Int32) < 0 ∨ cla1.slots.size ≤ ((0 : Int32)).toNatClampNeg) := inb_of Sa1 ⟨by decide, by decide⟩
  have hat3 : cla1.slots[((0 : Int32)).toNatClampNeg]? = some (.int c0) := Has.at Ha1 hin2 rfl
  obtain ⟨cla4, Ara4, qa4, Sa4, Za4, Ha4, Ga4⟩ := id F1_
  have hin5 : ¬ ((0 : Int32) < 0 ∨ cla4.slots.size ≤ ((0 : Int32)).toNatClampNeg) := inb_of Sa4 ⟨by decide, by decide⟩
  obtain ⟨T6, h6, X6, e6, W6, st6⟩ := stB X0 hx hZ e0 Ara4 (j := (0 : Int32)) hin5 (g := (mkF m 31 #[.val (.ref p0), .val (.int 0), .val (.ref p2), .val (.int 0), .val (.int 2), .val (.int 0), .val (.int c0)] [(.int (c0.toInt8.toInt32)), (.int 0), (.ref p2)])) rfl rfl (hb hby d6_31)
  have O6 := O0.wr W6 F2_
  have K6 : Keep h0 h6 [p2] := (Keep.refl h0 [p2]).wr W6 (Or.inl (List.mem_of_getElem? (i := 0) rfl))
  have N6 := Fr.snoc X6 N0 F2_
  have V6 : Arv Z h6 p2 kb .byte 2 [(.int ((c0.toInt8.toInt32).toInt8.toInt32)), (.int 0)] (.int 0) := Arv.set Ara4 qa4 Sa4 Za4 Ha4 Ga4 (fits_nar_byte _) W6 0 rfl (Nat.le_of_ble_eq_true rfl)
  have c7 : Arv Z h6 p0 kc .char 2 [(.int c0), (.int c1)] (.int 0) := (F0_.other W6 F3_)
  obtain ⟨cla8, Ara8, qa8, Sa8, Za8, Ha8, Ga8⟩ := id c7
  have hin9 : ¬ ((1 : Int32) < 0 ∨ cla8.slots.size ≤ ((1 : Int32)).toNatClampNeg) := inb_of Sa8 ⟨by decide, by decide⟩
  have hat10 : cla8.slots[((1 : Int32)).toNatClampNeg]? = some (.int c1) := Has.at Ha8 hin9 rfl
  obtain ⟨cla11, Ara11, qa11, Sa11, Za11, Ha11, Ga11⟩ := id V6
  have hin12 : ¬ ((1 : Int32) < 0 ∨ cla11.slots.size ≤ ((1 : Int32)).toNatClampNeg) := inb_of Sa11 ⟨by decide, by decide⟩
  obtain ⟨T13, h13, X13, e13, W13, st13⟩ := stB X6 hx hZ e6 Ara11 (j := (1 : Int32)) hin12 (g := (mkF m 31 #[.val (.ref p0), .val (.int 1), .val (.ref p2), .val (.int 1), .val (.int 2), .val (.int 1), .val (.int c1)] [(.int (c1.toInt8.toInt32)), (.int 1), (.ref p2)])) rfl rfl (hb hby d6_31)
  have O13 := O6.wr W13 F2_
  have K13 : Keep h0 h13 [p2] := K6.wr W13 (Or.inl (List.mem_of_getElem? (i := 0) rfl))
  have N13 := Fr.snoc X13 N6 F2_
  have V13 : Arv Z h13 p2 kb .byte 2 [(.int ((c0.toInt8.toInt32).toInt8.toInt32)), (.int ((c1.toInt8.toInt32).toInt8.toInt32))] (.int 0) := Arv.set Ara11 qa11 Sa11 Za11 Ha11 Ga11 (fits_nar_byte _) W13 1 rfl (Nat.le_of_ble_eq_true rfl)
  have s14 : Steps p.tables e below A₀ (T13.setTop (mkF m 46 #[.val (.ref p0), .val (.int 2), .val (.ref p2), .val (.int 2), .val (.int 2), .val (.int 2), .val (.int c1)] [(.int 2)])) := by
    refine s0.trans ?_
    refine XS.iconst X0.here hx rfl (hb hby d6_0) ?_
    refine XS.istore X0.here hx rfl (hb hby d6_1) rfl (l' := #[.val (.ref p0), .val (.int 0), .val (.ref p2), .val (.int 0), .val (.int 2), .val (.int 0), .unset]) rfl ?_
    refine XS.iload X0.here hx rfl (hb hby d6_3) rfl ?_
    refine XS.iload X0.here hx rfl (hb hby d6_5) rfl ?_
    refine XS.icmpNo X0.here hx rfl (hb hby d6_7) rfl (tlt (by decide)).2.1 ?_
    refine XS.aloadN X0.here hx rfl (hb hby d6_10) rfl rfl ?_
    refine XS.iloadN X0.here hx rfl (hb hby d6_11) rfl ?_
    refine X0.caload hx (j := (0 : Int32)) (v := (.int c0)) (by rw [e0]; exact Ara1.1) (State.isArrayOf_alike hZ.alike Ara1.2.1) Ara1.2.2 hin2 hat3 (g := (mkF m 12 #[.val (.ref p0), .val (.int 0), .val (.ref p2), .val (.int 0), .val (.int 2), .val (.int 0), .unset] [(.int 0), (.ref p0)])) rfl rfl (hb hby d6_12) _ ?_
    show Steps p.tables e below (s₁.setTop (mkF m 13 #[.val (.ref p0), .val (.int 0), .val (.ref p2), .val (.int 0), .val (.int 2), .val (.int 0), .unset] [(.int c0)])) _
    refine XS.istore X0.here hx rfl (hb hby d6_13) rfl (l' := #[.val (.ref p0), .val (.int 0), .val (.ref p2), .val (.int 0), .val (.int 2), .val (.int 0), .val (.int c0)]) rfl ?_
    refine XS.iload X0.here hx rfl (hb hby d6_15) rfl ?_
    refine XS.sipush X0.here hx rfl (hb hby d6_17) ?_
    refine XS.icmpYes X0.here hx rfl (pc0 := 20) (pc' := 26) rfl (hb hby d6_20) rfl (flt hc0).2.2.2 (by decide) (by decide) ?_
    refine XS.aloadN X0.here hx rfl (hb hby d6_26) rfl rfl ?_
    refine XS.iloadN X0.here hx rfl (hb hby d6_27) rfl ?_
    refine XS.iload X0.here hx rfl (hb hby d6_28) rfl ?_
    refine XS.i2b X0.here hx rfl (hb hby d6_30) rfl ?_
    refine st6 _ ?_
    refine XS.iinc X6.here hx rfl (hb hby d6_32) rfl (l' := #[.val (.ref p0), .val (.int 1), .val (.ref p2), .val (.int 0), .val (.int 2), .val (.int 0), .val (.int c0)]) rfl ?_
    show Steps p.tables e below (T6.setTop (mkF m 35 #[.val (.ref p0), .val (.int 1), .val (.ref p2), .val (.int 0), .val (.int 2), .val (.int 0), .val (.int c0)] [])) _
    refine XS.iinc X6.here hx rfl (hb hby d6_35) rfl (l' := #[.val (.ref p0), .val (.int 1), .val (.ref p2), .val (.int 1), .val (.int 2), .val (.int 0), .val (.int c0)]) rfl ?_
    refine XS.iinc X6.here hx rfl (hb hby d6_38) rfl (l' := #[.val (.ref p0), .val (.int 1), .val (.ref p2), .val (.int 1), .val (.int 2), .val (.int 1), .val (.int c0)]) rfl ?_
    refine XS.goto X6.here hx rfl (pc0 := 41) (pc' := 3) rfl (hb hby d6_41) (by decide) (by decide) ?_
    refine XS.iload X6.here hx rfl (hb hby d6_3) rfl ?_
    refine XS.iload X6.here hx rfl (hb hby d6_5) rfl ?_
    refine XS.icmpNo X6.here hx rfl (hb hby d6_7) rfl (tlt (by decide)).2.1 ?_
    refine XS.aloadN X6.here hx rfl (hb hby d6_10) rfl rfl ?_
    refine XS.iloadN X6.here hx rfl (hb hby d6_11) rfl ?_
    refine X6.caload hx (j := (1 : Int32)) (v := (.int c1)) (by rw [e6]; exact Ara8.1) (State.isArrayOf_alike hZ.alike Ara8.2.1) Ara8.2.2 hin9 hat10 (g := (mkF m 12 #[.val (.ref p0), .val (.int 1), .val (.ref p2), .val (.int 1), .val (.int 2), .val (.int 1), .val (.int c0)] [(.int 1), (.ref p0)])) rfl rfl (hb hby d6_12) _ ?_
    refine XS.istore X6.here hx rfl (hb hby d6_13) rfl (l' := #[.val (.ref p0), .val (.int 1), .val (.ref p2), .val (.int 1), .val (.int 2), .val (.int 1), .val (.int c1)]) rfl ?_
    show Steps p.tables e below (T6.setTop (mkF m 15 #[.val (.ref p0), .val (.int 1), .val (.ref p2), .val (.int 1), .val (.int 2), .val (.int 1), .val (.int c1)] [])) _
    refine XS.iload X6.here hx rfl (hb hby d6_15) rfl ?_
    refine XS.sipush X6.here hx rfl (hb hby d6_17) ?_
    refine XS.icmpYes X6.here hx rfl (pc0 := 20) (pc' := 26) rfl (hb hby d6_20) rfl (flt hc1).2.2.2 (by decide) (by decide) ?_
    refine XS.aloadN X6.here hx rfl (hb hby d6_26) rfl rfl ?_
    refine XS.iloadN X6.here hx rfl (hb hby d6_27) rfl ?_
    refine XS.iload X6.here hx rfl (hb hby d6_28) rfl ?_
    refine XS.i2b X6.here hx rfl (hb hby d6_30) rfl ?_
    refine st13 _ ?_
    refine XS.iinc X13.here hx rfl (hb hby d6_32) rfl (l' := #[.val (.ref p0), .val (.int 2), .val (.ref p2), .val (.int 1), .val (.int 2), .val (.int 1), .val (.int c1)]) rfl ?_
    refine XS.iinc X13.here hx rfl (hb hby d6_35) rfl (l' := #[.val (.ref p0), .val (.int 2), .val (.ref p2), .val (.int 2), .val (.int 2), .val (.int 1), .val (.int c1)]) rfl ?_
    show Steps p.tables e below (T13.setTop (mkF m 38 #[.val (.ref p0), .val (.int 2), .val (.ref p2), .val (.int 2), .val (.int 2), .val (.int 1), .val (.int c1)] [])) _
    refine XS.iinc X13.here hx rfl (hb hby d6_38) rfl (l' := #[.val (.ref p0), .val (.int 2), .val (.ref p2), .val (.int 2), .val (.int 2), .val (.int 2), .val (.int c1)]) rfl ?_
    refine XS.goto X13.here hx rfl (pc0 := 41) (pc' := 3) rfl (hb hby d6_41) (by decide) (by decide) ?_
    refine XS.iload X13.here hx rfl (hb hby d6_3) rfl ?_
    refine XS.iload X13.here hx rfl (hb hby d6_5) rfl ?_
    refine XS.icmpYes X13.here hx rfl (pc0 := 7) (pc' := 44) rfl (hb hby d6_7) rfl (flt (by decide)).2.1 (by decide) (by decide) ?_
    refine XS.iload X13.here hx rfl (hb hby d6_44) rfl ?_
    exact Steps.refl _
  subst hA₀
  obtain ⟨fs, hr, hrun, hended, hW, hsame⟩ := X13.leave (v := some (.int 2)) (fun h => by rw [Bd.returns] at h; cases h)
  refine ⟨_, _, s14.trans ?_, hrun, hended, _, _, rfl, ?_, ⟨_, rfl⟩, hW, hsame.mono (by decide) (by decide)⟩
  · show Steps p.tables e below (T13.setTop (mkF m 46 #[.val (.ref p0), .val (.int 2), .val (.ref p2), .val (.int 2), .val (.int 2), .val (.int 2), .val (.int c1)] [(.int 2)])) _
    exact retI X13 hx Bd.returns (hb hby d6_46) hr
  · show Qc5_2_n Z p0 p2 kc c0 c1 kb h0 n0 _ T13.heap _
    rw [e13]
    exact ⟨rfl, N13, K13, V13⟩
theorem pd_rmc3_2_0 : parseMethodDescriptor "([CI[BII)I" = some ⟨[(.array .char), .int, (.array .byte), .int, .int], some .int⟩ := by decide +kernel
theorem pd_rmc3_2_1 : parseMethodDescriptor "([CII)[B" = some ⟨[(.array .char), .int, .int], some (.array .byte)⟩ := by decide +kernel
theorem pd_rmc3_2_2 : parseMethodDescriptor "([BI)C" = some ⟨[(.array .byte), .int], some .char⟩ := by decide +kernel
theorem ef_rmc3_2 (m : MethodId) (p0 : Addr) : entryFrame m #[(.ref p0), (.int 0), (.int 2)] 6 = mkF m 0 #[.val (.ref p0), .val (.int 0), .val (.int 2), .unset, .unset, .unset] [] := by first | (simp [entryFrame, mkF, argsToLocals, Value.category]; done) | rfl
def Qc3_2 (Z : State) (p0 : Addr) (kc : ClassId) (c0 : Int32) (c1 : Int32) (h0 : Heap) (n0 : Nat) (v : Option Value) (h : Heap) (L : List Loc) : Prop := ∃ b : Addr, ∃ kb : ClassId, ∃ ln : Int32, ∃ xs : List Int32, v = some (.ref b) ∧ Fr n0 L ∧ Keep h0 h [] ∧ (Arv Z h b kb .byte ln (xs.map Value.int) (.int 0)) ∧ (h0.size ≤ b) ∧ (ln = (2 : Int32) ∨ ln = (4 : Int32))
set_option maxRecDepth 65536 in
set_option maxHeartbeats 40000000 in
theorem rmc3_2 (l : Launch) (Z : State) (a0 : Array Value) (hw : ∀ d ∈ tables_1, d.before a0 Z = true) (ws : List Jvm.Cond) (p0 : Addr) (kc : ClassId) (c0 : Int32) (c1 : Int32) (h0 : Heap) (n0 : Nat) (O0 : Old Z n0 h0) (F0_ : Arv Z h0 p0 kc .char 2 [(.int c0), (.int c1)] (.int 0)) (F1_ : Sta Z Z.heap "java/lang/StringUTF16" "$assertionsDisabled" "Z" (.int 1)) (F2_ : Sta Z Z.heap "java/lang/StringUTF16" "HI_BYTE_SHIFT" "I" (.int 0)) (F3_ : Sta Z Z.heap "java/lang/StringUTF16" "LO_BYTE_SHIFT" "I" (.int 8)) :
    MetFree l nm6 (head1 (Jvm.Cond.code nm6 jdk_52_method_16_code 6 (some (.array .byte)) :: ws) ({ frames := 3, cells := 2, slots := 6, locals := 40 } : Room)) (fun a U => a = #[(.ref p0), (.int 0), (.int 2)] ∧ Z.Warmed39 U.vm ∧ U.heap = h0) (fun _ _ _ _ _ => True) (fun _ U o U' => ∃ v L, o = .returned v ∧ Qc3_2 Z p0 kc c0 c1 h0 n0 v U'.heap L ∧ FrameEnd U o U' L ({ frames := 3, cells := 2, slots := 6, locals := 40 } : Room).cells ({ frames := 3, cells := 2, slots := 6, locals := 40 } : Room).slots) := by
  refine MetFree.of_bodySF (plainFor_of_name pn_18) hisR ?_
  intro p e s m args below meth c s₁ Bd hml0 hP hK
  obtain ⟨rfl, hZ, hh⟩ := hP
  have hx := Bd.exec
  have hby := Bd.bytes
  have hml : c.maxLocals = 6 := hml0
  have hown : s.vm.findClass "java/lang/StringUTF16" = some m.cls := findClass_of_methodNamed Bd.named
  have X0 : Stand p l e ({ frames := 3, cells := 2, slots := 6, locals := 40 } : Room) s m #[(.ref p0), (.int 0), (.int 2)] below meth c s₁ [] 0 0 := Stand.of_body Bd
  have e0 : s₁.heap = h0 := by rw [← hh, Bd.state]; rfl
  have N0 := Fr.nil n0
  have s0 : Steps p.tables e below (s₁.setTop (entryFrame m #[(.ref p0), (.int 0), (.int 2)] 6)) (s₁.setTop (mkF m 0 #[.val (.ref p0), .val (.int 0), .val (.int 2), .unset, .unset, .unset] [])) := castTop (ef_rmc3_2 m p0) (Steps.refl _)
  obtain ⟨A₀, hA₀⟩ : ∃ z, z = (s₁.setTop (entryFrame m #[(.ref p0), (.int 0), (.int 2)] 6)) := ⟨_, rfl⟩
  rw [← hA₀] at s0
  obtain ⟨T1, h1, k1, X1, e1, E1, A1, st1⟩ := newP X0 hx hZ (wq hw 23 rfl) e0 (g := (mkF m 1 #[.val (.ref p0), .val (.int 0), .val (.int 2), .unset, .unset, .unset] [(.int 2)])) rfl (hb hby d5_1) rfl (by decide) (cap := 2) (by decide) (by decide) (by decide) (by decide)
  obtain ⟨b1, g1⟩ : ∃ z, z = h0.size := ⟨_, rfl⟩
  rw [← g1] at A1 st1
  have ne_p0_b1 : p0 ≠ b1 := Nat.ne_of_lt (Nat.lt_of_lt_of_le F0_.lt (Nat.le_of_eq g1.symm))
  have g_b1 : n0 ≤ b1 := Nat.le_trans (Nat.le_of_eq O0.1.symm) (Nat.le_trans O0.2.1 (Nat.le_of_eq g1.symm))
  have sz_b1 : h0.size ≤ b1 := Nat.le_trans (Keep.refl h0 []).1 (Nat.le_of_eq g1.symm)
  have O1 := O0.ext E1
  have K1 : Keep h0 h1 [] := (Keep.refl h0 []).ext E1
  have V1 : Arv Z h1 b1 k1 .byte 2 [(.int 0), (.int 0)] (.int 0) := (Arv.new A1 (by decide)).pad (pad_rep [] (.int 0) 2)
  have s2 : Steps p.tables e below A₀ (T1.setTop (mkF m 9 #[.val (.ref p0), .val (.int 0), .val (.int 2), .val (.ref b1), .unset, .unset] [(.int 2), (.int 0), (.ref b1), (.int 0), (.ref p0)])) := by
    refine s0.trans ?_
    refine XS.iloadN X0.here hx rfl (hb hby d5_0) rfl ?_
    refine st1 _ ?_
    refine XS.astoreN X1.here hx rfl (hb hby d5_3) rfl rfl (l' := #[.val (.ref p0), .val (.int 0), .val (.int 2), .val (.ref b1), .unset, .unset]) rfl ?_
    refine XS.aloadN X1.here hx rfl (hb hby d5_4) rfl rfl ?_
    refine XS.iloadN X1.here hx rfl (hb hby d5_5) rfl ?_
    refine XS.aloadN X1.here hx rfl (hb hby d5_6) rfl rfl ?_
    refine XS.iconst X1.here hx rfl (hb hby d5_7) ?_
    refine XS.iloadN X1.here hx rfl (hb hby d5_8) rfl ?_
    exact Steps.refl _
  by_cases hy3 : (255 : Int32) < c0
  · have c4 : Arv Z h1 p0 kc .char 2 [(.int c0), (.int c1)] (.int 0) := (F0_.ext E1)
    obtain ⟨_, _, ⟨T5, L5, k5, n5⟩, -, X5, ⟨Lc5, hQ5, l5, y5, z5⟩, st5⟩ := Jvm.LawKit.callS X1 hx (y := (⟨"java/lang/StringUTF16", "compress", "([CI[BII)I"⟩ : MethodName)) hown (mvT hZ (wq hw 24 rfl)) (mvT hZ (wq hw 25 rfl)) (mvT hZ (wq hw 21 rfl)) (mvT hZ (wq hw 26 rfl)) (by decide) (backOf (W := 0) (rmc5_2_0 l Z a0 hw [] p0 b1 kc c0 c1 k1 h1 n0 O1 c4 V1 g_b1 ne_p0_b1 hy3) hZ (wq hw 26 rfl) (wq hw 21 rfl) (by decide) (by decide)) (g := (mkF m 9 #[.val (.ref p0), .val (.int 0), .val (.int 2), .val (.ref b1), .unset, .unset] [(.int 2), (.int 0), (.ref b1), (.int 0), (.ref p0)])) rfl (by rw [hml]; rfl) (argsL := [(.ref p0), (.int 0), (.ref b1), (.int 0), (.int 2)]) (rest := []) (lenOf pd_rmc3_2_0 rfl) rfl (by exact Nat.le_refl _) (hb hby d5_9) (fun _ _ => ⟨rfl, e1, (by decide : 1 + 0 ≤ _), (by decide : 2 + 0 ≤ _)⟩)
    dsimp only [Pt.U, Pt.locs, Pt.cells, Pt.slots] at X5 l5 y5 z5 st5 hQ5
    subst l5 y5 z5
    obtain ⟨rfl, Nq5, Kc5, f5_0⟩ := hQ5
    have N5 := Fr.app N0 Nq5
    have K5 : Keep h0 T5.heap [] := K1.trans Kc5 (allS (Or.inr sz_b1) all0)
    have O5 := O1.keep Kc5 (allS g_b1 all0)
    have c6 : Arv Z T5.heap p0 kc .char 2 [(.int c0), (.int c1)] (.int 0) := (c4.keep Kc5 (ninS ne_p0_b1 nin0))
    obtain ⟨_, _, ⟨T7, L7, k7, n7⟩, -, X7, ⟨Lc7, hQ7, l7, y7, z7⟩, st7⟩ := Jvm.LawKit.callS X5 hx (y := (⟨"java/lang/StringUTF16", "toBytes", "([CII)[B"⟩ : MethodName)) hown (mvT hZ (wq hw 75 rfl)) (mvT hZ (wq hw 76 rfl)) (mvT hZ (wq hw 21 rfl)) (mvT hZ (wq hw 77 rfl)) (by decide) (backOf (W := 0) (rmtb2 l Z a0 hw [] p0 kc c0 c1 T5.heap n0 O5 c6 F1_ F2_ F3_) hZ (wq hw 77 rfl) (wq hw 21 rfl) (by decide) (by decide)) (g := (mkF m 23 #[.val (.ref p0), .val (.int 0), .val (.int 2), .val (.ref b1), .val (.int 0), .unset] [(.int 2), (.int 0), (.ref p0)])) rfl (by rw [hml]; rfl) (argsL := [(.ref p0), (.int 0), (.int 2)]) (rest := []) (lenOf pd_rmc3_2_1 rfl) rfl (by exact Nat.le_refl _) (hb hby d5_23) (fun _ _ => ⟨rfl, (rfl : T5.heap = T5.heap), (by decide : 1 + 1 ≤ _), (by decide : 2 + 4 ≤ _)⟩)
    dsimp only [Pt.U, Pt.locs, Pt.cells, Pt.slots] at X7 l7 y7 z7 st7 hQ7
    subst l7 y7 z7
    obtain ⟨u8, u9, rfl, Nq7, Kc7, f7_0, f7_1⟩ := hQ7
    have N7 := Fr.app N5 Nq7
    have ne_p0_u8 : p0 ≠ u8 := Nat.ne_of_lt (Nat.lt_of_lt_of_le c6.lt f7_1)
    have ne_b1_u8 : b1 ≠ u8 := Nat.ne_of_lt (Nat.lt_of_lt_of_le f5_0.lt f7_1)
    have g_u8 : n0 ≤ u8 := Nat.le_trans (Nat.le_of_eq O5.1.symm) (Nat.le_trans O5.2.1 f7_1)
    have sz_u8 : h0.size ≤ u8 := Nat.le_trans K5.1 f7_1
    have K7 : Keep h0 T7.heap [] := K5.trans Kc7 all0
    have O7 := O5.keep Kc7 all0
    obtain ⟨T10, L10, X10, e10, N10, st10⟩ := own_callP X7 hx hZ hown (wk91 hw) (wk92 hw) (wk21 hw) (wk93 hw) (by decide) (rmug l Z a0 hw [] u8 (0 : Int32) u9 (4 : Int32) [(((c0 >>> ((0 : Int32) &&& 31)).toInt8.toInt32).toInt8.toInt32), (((c0 >>> ((8 : Int32) &&& 31)).toInt8.toInt32).toInt8.toInt32), (((c1 >>> ((0 : Int32) &&& 31)).toInt8.toInt32).toInt8.toInt32), (((c1 >>> ((8 : Int32) &&& 31)).toInt8.toInt32).toInt8.toInt32)] T7.heap n0 O7 f7_0 F1_ F2_ F3_ ⟨by decide, by decide⟩ ⟨by decide, by decide⟩) (rfl : T7.heap = T7.heap) N7 (W := 0) (by decide) (by decide) (by decide) (by decide) (g := (mkF m 32 #[.val (.ref p0), .val (.int 0), .val (.int 2), .val (.ref b1), .val (.int 0), .val (.ref u8)] [(.int 0), (.ref u8)])) rfl (by rw [hml]; rfl) (argsL := [(.ref u8), (.int 0)]) (rest := []) (lenOf pd_rmc3_2_2 rfl) rfl (by exact Nat.le_refl _) (hb hby d5_32)
    have c11 : Arv Z T7.heap p0 kc .char 2 [(.int c0), (.int c1)] (.int 0) := (c6.keep Kc7 nin0)
    obtain ⟨cla12, Ara12, qa12, Sa12, Za12, Ha12, Ga12⟩ := id c11
    have s13 : Steps p.tables e below A₀ (T10.setTop (mkF m 56 #[.val (.ref p0), .val (.int 0), .val (.int 2), .val (.ref b1), .val (.int 0), .val (.ref u8)] [(.ref u8)])) := by
      refine s2.trans ?_
      refine st5 _ ?_
      refine XS.istore X5.here hx rfl (hb hby d5_12) rfl (l' := #[.val (.ref p0), .val (.int 0), .val (.int 2), .val (.ref b1), .val (.int 0), .unset]) rfl ?_
      refine XS.iload X5.here hx rfl (hb hby d5_14) rfl ?_
      refine XS.iloadN X5.here hx rfl (hb hby d5_16) rfl ?_
      refine XS.icmpNo X5.here hx rfl (hb hby d5_17) rfl (feq (by decide)).1 ?_
      refine XS.aloadN X5.here hx rfl (hb hby d5_20) rfl rfl ?_
      refine XS.iloadN X5.here hx rfl (hb hby d5_21) rfl ?_
      refine XS.iloadN X5.here hx rfl (hb hby d5_22) rfl ?_
      show Steps p.tables e below (T5.setTop (mkF m 23 #[.val (.ref p0), .val (.int 0), .val (.int 2), .val (.ref b1), .val (.int 0), .unset] [(.int 2), (.int 0), (.ref p0)])) _
      refine st7 _ ?_
      refine XS.astore X7.here hx rfl (hb hby d5_26) rfl rfl (l' := #[.val (.ref p0), .val (.int 0), .val (.int 2), .val (.ref b1), .val (.int 0), .val (.ref u8)]) rfl ?_
      refine XS.aload X7.here hx rfl (hb hby d5_28) rfl rfl ?_
      refine XS.iload X7.here hx rfl (hb hby d5_30) rfl ?_
      refine st10 _ ?_
      refine XS.sipush X10.here hx rfl (hb hby d5_35) ?_
      refine XS.icmpYes X10.here hx rfl (pc0 := 38) (pc' := 54) rfl (hb hby d5_38) rfl (tlt (own_gc_gt c0 hy3 (Ga12 0 (by rw [Sa12]; decide)))).2.2.1 (by decide) (by decide) ?_
      refine XS.aload X10.here hx rfl (hb hby d5_54) rfl rfl ?_
      exact Steps.refl _
    subst hA₀
    obtain ⟨fs, hr, hrun, hended, hW, hsame⟩ := X10.leave (v := some (.ref u8)) (fun h => by rw [Bd.returns] at h; cases h)
    refine ⟨_, _, s13.trans ?_, hrun, hended, _, _, rfl, ?_, ⟨_, rfl⟩, hW, hsame.mono (by decide) (by decide)⟩
    · show Steps p.tables e below (T10.setTop (mkF m 56 #[.val (.ref p0), .val (.int 0), .val (.int 2), .val (.ref b1), .val (.int 0), .val (.ref u8)] [(.ref u8)])) _
      jvm_step X10.here [X10.here.top, hx, (hb hby d5_56), X10.method', Bd.returns, Value.isRef, FieldType.isReference]
      first | (intro acts; rw [hr _ acts rfl rfl rfl]) | rw [hr _ _ rfl rfl rfl]
      exact Steps.refl _
    · show Qc3_2 Z p0 kc c0 c1 h0 n0 _ T10.heap _
      rw [e10]
      exact ⟨u8, u9, (4 : Int32), [(((c0 >>> ((0 : Int32) &&& 31)).toInt8.toInt32).toInt8.toInt32), (((c0 >>> ((8 : Int32) &&& 31)).toInt8.toInt32).toInt8.toInt32), (((c1 >>> ((0 : Int32) &&& 31)).toInt8.toInt32).toInt8.toInt32), (((c1 >>> ((8 : Int32) &&& 31)).toInt8.toInt32).toInt8.toInt32)], rfl, N10, K7, f7_0, sz_u8, (Or.inr rfl)⟩
  · by_cases hy14 : (255 : Int32) < c1
    · have c15 : Arv Z h1 p0 kc .char 2 [(.int c0), (.int c1)] (.int 0) := (F0_.ext E1)
      obtain ⟨_, _, ⟨T16, L16, k16, n16⟩, -, X16, ⟨Lc16, hQ16, l16, y16, z16⟩, st16⟩ := Jvm.LawKit.callS X1 hx (y := (⟨"java/lang/StringUTF16", "compress", "([CI[BII)I"⟩ : MethodName)) hown (mvT hZ (wq hw 24 rfl)) (mvT hZ (wq hw 25 rfl)) (mvT hZ (wq hw 21 rfl)) (mvT hZ (wq hw 26 rfl)) (by decide) (backOf (W := 0) (rmc5_2_1 l Z a0 hw [] p0 b1 kc c0 c1 k1 h1 n0 O1 c15 V1 g_b1 ne_p0_b1 hy3 hy14) hZ (wq hw 26 rfl) (wq hw 21 rfl) (by decide) (by decide)) (g := (mkF m 9 #[.val (.ref p0), .val (.int 0), .val (.int 2), .val (.ref b1), .unset, .unset] [(.int 2), (.int 0), (.ref b1), (.int 0), (.ref p0)])) rfl (by rw [hml]; rfl) (argsL := [(.ref p0), (.int 0), (.ref b1), (.int 0), (.int 2)]) (rest := []) (lenOf pd_rmc3_2_0 rfl) rfl (by exact Nat.le_refl _) (hb hby d5_9) (fun _ _ => ⟨rfl, e1, (by decide : 1 + 0 ≤ _), (by decide : 2 + 0 ≤ _)⟩)
      dsimp only [Pt.U, Pt.locs, Pt.cells, Pt.slots] at X16 l16 y16 z16 st16 hQ16
      subst l16 y16 z16
      obtain ⟨rfl, Nq16, Kc16, f16_0⟩ := hQ16
      have N16 := Fr.app N0 Nq16
      have K16 : Keep h0 T16.heap [] := K1.trans Kc16 (allS (Or.inr sz_b1) all0)
      have O16 := O1.keep Kc16 (allS g_b1 all0)
      have c17 : Arv Z T16.heap p0 kc .char 2 [(.int c0), (.int c1)] (.int 0) := (c15.keep Kc16 (ninS ne_p0_b1 nin0))
      obtain ⟨_, _, ⟨T18, L18, k18, n18⟩, -, X18, ⟨Lc18, hQ18, l18, y18, z18⟩, st18⟩ := Jvm.LawKit.callS X16 hx (y := (⟨"java/lang/StringUTF16", "toBytes", "([CII)[B"⟩ : MethodName)) hown (mvT hZ (wq hw 75 rfl)) (mvT hZ (wq hw 76 rfl)) (mvT hZ (wq hw 21 rfl)) (mvT hZ (wq hw 77 rfl)) (by decide) (backOf (W := 0) (rmtb2 l Z a0 hw [] p0 kc c0 c1 T16.heap n0 O16 c17 F1_ F2_ F3_) hZ (wq hw 77 rfl) (wq hw 21 rfl) (by decide) (by decide)) (g := (mkF m 23 #[.val (.ref p0), .val (.int 0), .val (.int 2), .val (.ref b1), .val (.int 1), .unset] [(.int 2), (.int 0), (.ref p0)])) rfl (by rw [hml]; rfl) (argsL := [(.ref p0), (.int 0), (.int 2)]) (rest := []) (lenOf pd_rmc3_2_1 rfl) rfl (by exact Nat.le_refl _) (hb hby d5_23) (fun _ _ => ⟨rfl, (rfl : T16.heap = T16.heap), (by decide : 1 + 1 ≤ _), (by decide : 2 + 4 ≤ _)⟩)
      dsimp only [Pt.U, Pt.locs, Pt.cells, Pt.slots] at X18 l18 y18 z18 st18 hQ18
      subst l18 y18 z18
      obtain ⟨u19, u20, rfl, Nq18, Kc18, f18_0, f18_1⟩ := hQ18
      have N18 := Fr.app N16 Nq18
      have ne_p0_u19 : p0 ≠ u19 := Nat.ne_of_lt (Nat.lt_of_lt_of_le c17.lt f18_1)
      have ne_b1_u19 : b1 ≠ u19 := Nat.ne_of_lt (Nat.lt_of_lt_of_le f16_0.lt f18_1)
      have g_u19 : n0 ≤ u19 := Nat.le_trans (Nat.le_of_eq O16.1.symm) (Nat.le_trans O16.2.1 f18_1)
      have sz_u19 : h0.size ≤ u19 := Nat.le_trans K16.1 f18_1
      have K18 : Keep h0 T18.heap [] := K16.trans Kc18 all0
      have O18 := O16.keep Kc18 all0
      obtain ⟨T21, L21, X21, e21, N21, st21⟩ := own_callP X18 hx hZ hown (wk91 hw) (wk92 hw) (wk21 hw) (wk93 hw) (by decide) (rmug l Z a0 hw [] u19 (1 : Int32) u20 (4 : Int32) [(((c0 >>> ((0 : Int32) &&& 31)).toInt8.toInt32).toInt8.toInt32), (((c0 >>> ((8 : Int32) &&& 31)).toInt8.toInt32).toInt8.toInt32), (((c1 >>> ((0 : Int32) &&& 31)).toInt8.toInt32).toInt8.toInt32), (((c1 >>> ((8 : Int32) &&& 31)).toInt8.toInt32).toInt8.toInt32)] T18.heap n0 O18 f18_0 F1_ F2_ F3_ ⟨by decide, by decide⟩ ⟨by decide, by decide⟩) (rfl : T18.heap = T18.heap) N18 (W := 0) (by decide) (by decide) (by decide) (by decide) (g := (mkF m 32 #[.val (.ref p0), .val (.int 0), .val (.int 2), .val (.ref b1), .val (.int 1), .val (.ref u19)] [(.int 1), (.ref u19)])) rfl (by rw [hml]; rfl) (argsL := [(.ref u19), (.int 1)]) (rest := []) (lenOf pd_rmc3_2_2 rfl) rfl (by exact Nat.le_refl _) (hb hby d5_32)
      have c22 : Arv Z T18.heap p0 kc .char 2 [(.int c0), (.int c1)] (.int 0) := (c17.keep Kc18 nin0)
      obtain ⟨cla23, Ara23, qa23, Sa23, Za23, Ha23, Ga23⟩ := id c22
      have s24 : Steps p.tables e below A₀ (T21.setTop (mkF m 56 #[.val (.ref p0), .val (.int 0), .val (.int 2), .val (.ref b1), .val (.int 1), .val (.ref u19)] [(.ref u19)])) := by
        refine s2.trans ?_
        refine st16 _ ?_
        refine XS.istore X16.here hx rfl (hb hby d5_12) rfl (l' := #[.val (.ref p0), .val (.int 0), .val (.int 2), .val (.ref b1), .val (.int 1), .unset]) rfl ?_
        refine XS.iload X16.here hx rfl (hb hby d5_14) rfl ?_
        refine XS.iloadN X16.here hx rfl (hb hby d5_16) rfl ?_
        refine XS.icmpNo X16.here hx rfl (hb hby d5_17) rfl (feq (by decide)).1 ?_
        refine XS.aloadN X16.here hx rfl (hb hby d5_20) rfl rfl ?_
        refine XS.iloadN X16.here hx rfl (hb hby d5_21) rfl ?_
        refine XS.iloadN X16.here hx rfl (hb hby d5_22) rfl ?_
        show Steps p.tables e below (T16.setTop (mkF m 23 #[.val (.ref p0), .val (.int 0), .val (.int 2), .val (.ref b1), .val (.int 1), .unset] [(.int 2), (.int 0), (.ref p0)])) _
        refine st18 _ ?_
        refine XS.astore X18.here hx rfl (hb hby d5_26) rfl rfl (l' := #[.val (.ref p0), .val (.int 0), .val (.int 2), .val (.ref b1), .val (.int 1), .val (.ref u19)]) rfl ?_
        refine XS.aload X18.here hx rfl (hb hby d5_28) rfl rfl ?_
        refine XS.iload X18.here hx rfl (hb hby d5_30) rfl ?_
        refine st21 _ ?_
        refine XS.sipush X21.here hx rfl (hb hby d5_35) ?_
        refine XS.icmpYes X21.here hx rfl (pc0 := 38) (pc' := 54) rfl (hb hby d5_38) rfl (tlt (own_gc_gt c1 hy14 (Ga23 1 (by rw [Sa23]; decide)))).2.2.1 (by decide) (by decide) ?_
        refine XS.aload X21.here hx rfl (hb hby d5_54) rfl rfl ?_
        exact Steps.refl _
      subst hA₀
      obtain ⟨fs, hr, hrun, hended, hW, hsame⟩ := X21.leave (v := some (.ref u19)) (fun h => by rw [Bd.returns] at h; cases h)
      refine ⟨_, _, s24.trans ?_, hrun, hended, _, _, rfl, ?_, ⟨_, rfl⟩, hW, hsame.mono (by decide) (by decide)⟩
      · show Steps p.tables e below (T21.setTop (mkF m 56 #[.val (.ref p0), .val (.int 0), .val (.int 2), .val (.ref b1), .val (.int 1), .val (.ref u19)] [(.ref u19)])) _
        jvm_step X21.here [X21.here.top, hx, (hb hby d5_56), X21.method', Bd.returns, Value.isRef, FieldType.isReference]
        first | (intro acts; rw [hr _ acts rfl rfl rfl]) | rw [hr _ _ rfl rfl rfl]
        exact Steps.refl _
      · show Qc3_2 Z p0 kc c0 c1 h0 n0 _ T21.heap _
        rw [e21]
        exact ⟨u19, u20, (4 : Int32), [(((c0 >>> ((0 : Int32) &&& 31)).toInt8.toInt32).toInt8.toInt32), (((c0 >>> ((8 : Int32) &&& 31)).toInt8.toInt32).toInt8.toInt32), (((c1 >>> ((0 : Int32) &&& 31)).toInt8.toInt32).toInt8.toInt32), (((c1 >>> ((8 : Int32) &&& 31)).toInt8.toInt32).toInt8.toInt32)], rfl, N21, K18, f18_0, sz_u19, (Or.inr rfl)⟩
    · have c25 : Arv Z h1 p0 kc .char 2 [(.int c0), (.int c1)] (.int 0) := (F0_.ext E1)
      obtain ⟨_, _, ⟨T26, L26, k26, n26⟩, -, X26, ⟨Lc26, hQ26, l26, y26, z26⟩, st26⟩ := Jvm.LawKit.callS X1 hx (y := (⟨"java/lang/StringUTF16", "compress", "([CI[BII)I"⟩ : MethodName)) hown (mvT hZ (wq hw 24 rfl)) (mvT hZ (wq hw 25 rfl)) (mvT hZ (wq hw 21 rfl)) (mvT hZ (wq hw 26 rfl)) (by decide) (backOf (W := 0) (rmc5_2_n l Z a0 hw [] p0 b1 kc c0 c1 k1 h1 n0 O1 c25 V1 g_b1 ne_p0_b1 hy3 hy14) hZ (wq hw 26 rfl) (wq hw 21 rfl) (by decide) (by decide)) (g := (mkF m 9 #[.val (.ref p0), .val (.int 0), .val (.int 2), .val (.ref b1), .unset, .unset] [(.int 2), (.int 0), (.ref b1), (.int 0), (.ref p0)])) rfl (by rw [hml]; rfl) (argsL := [(.ref p0), (.int 0), (.ref b1), (.int 0), (.int 2)]) (rest := []) (lenOf pd_rmc3_2_0 rfl) rfl (by exact Nat.le_refl _) (hb hby d5_9) (fun _ _ => ⟨rfl, e1, (by decide : 1 + 0 ≤ _), (by decide : 2 + 0 ≤ _)⟩)
      dsimp only [Pt.U, Pt.locs, Pt.cells, Pt.slots] at X26 l26 y26 z26 st26 hQ26
      subst l26 y26 z26
      obtain ⟨rfl, Nq26, Kc26, f26_0⟩ := hQ26
      have N26 := Fr.app N0 Nq26
      have K26 : Keep h0 T26.heap [] := K1.trans Kc26 (allS (Or.inr sz_b1) all0)
      have O26 := O1.keep Kc26 (allS g_b1 all0)
      have s27 : Steps p.tables e below A₀ (T26.setTop (mkF m 58 #[.val (.ref p0), .val (.int 0), .val (.int 2), .val (.ref b1), .val (.int 2), .unset] [(.ref b1)])) := by
        refine s2.trans ?_
        refine st26 _ ?_
        refine XS.istore X26.here hx rfl (hb hby d5_12) rfl (l' := #[.val (.ref p0), .val (.int 0), .val (.int 2), .val (.ref b1), .val (.int 2), .unset]) rfl ?_
        refine XS.iload X26.here hx rfl (hb hby d5_14) rfl ?_
        refine XS.iloadN X26.here hx rfl (hb hby d5_16) rfl ?_
        refine XS.icmpYes X26.here hx rfl (pc0 := 17) (pc' := 57) rfl (hb hby d5_17) rfl (teq (by decide)).1 (by decide) (by decide) ?_
        refine XS.aloadN X26.here hx rfl (hb hby d5_57) rfl rfl ?_
        exact Steps.refl _
      subst hA₀
      obtain ⟨fs, hr, hrun, hended, hW, hsame⟩ := X26.leave (v := some (.ref b1)) (fun h => by rw [Bd.returns] at h; cases h)
      refine ⟨_, _, s27.trans ?_, hrun, hended, _, _, rfl, ?_, ⟨_, rfl⟩, hW, hsame.mono (by decide) (by decide)⟩
      · show Steps p.tables e below (T26.setTop (mkF m 58 #[.val (.ref p0), .val (.int 0), .val (.int 2), .val (.ref b1), .val (.int 2), .unset] [(.ref b1)])) _
        jvm_step X26.here [X26.here.top, hx, (hb hby d5_58), X26.method', Bd.returns, Value.isRef, FieldType.isReference]
        first | (intro acts; rw [hr _ acts rfl rfl rfl]) | rw [hr _ _ rfl rfl rfl]
        exact Steps.refl _
      · show Qc3_2 Z p0 kc c0 c1 h0 n0 _ T26.heap _
        exact ⟨b1, k1, (2 : Int32), [((c0.toInt8.toInt32).toInt8.toInt32), ((c1.toInt8.toInt32).toInt8.toInt32)], rfl, N26, K26, f26_0, sz_b1, (Or.inl rfl)⟩
theorem ef_rmcf_2_2 (m : MethodId) (p0 : Addr) : entryFrame m #[(.ref p0), (.int 2)] 2 = mkF m 0 #[.val (.ref p0), .val (.int 2)] [] := by first | (simp [entryFrame, mkF, argsToLocals, Value.category]; done) | rfl
def Qcf_2_2 (Z : State) (p0 : Addr) (kb : ClassId) (xs : List Int32) (h0 : Heap) (n0 : Nat) (v : Option Value) (h : Heap) (L : List Loc) : Prop := v = some (.int 0) ∧ Fr n0 L ∧ h = h0
set_option maxRecDepth 65536 in
set_option maxHeartbeats 40000000 in
theorem rmcf_2_2 (l : Launch) (Z : State) (a0 : Array Value) (hw : ∀ d ∈ tables_1, d.before a0 Z = true) (ws : List Jvm.Cond) (p0 : Addr) (kb : ClassId) (xs : List Int32) (h0 : Heap) (n0 : Nat) (O0 : Old Z n0 h0) (F0_ : Arv Z h0 p0 kb .byte 2 (xs.map Value.int) (.int 0)) :
    MetFree l nm7 (head1 (Jvm.Cond.code nm7 jdk_52_method_15_code 2 (some .byte) :: ws) ({ frames := 0, cells := 0, slots := 0, locals := 0 } : Room)) (fun a U => a = #[(.ref p0), (.int 2)] ∧ Z.Warmed39 U.vm ∧ U.heap = h0) (fun _ _ _ _ _ => True) (fun _ U o U' => ∃ v L, o = .returned v ∧ Qcf_2_2 Z p0 kb xs h0 n0 v U'.heap L ∧ FrameEnd U o U' L ({ frames := 0, cells := 0, slots := 0, locals := 0 } : Room).cells ({ frames := 0, cells := 0, slots := 0, locals := 0 } : Room).slots) := by
  refine MetFree.of_bodySF (plainFor_of_name pn_18) hisR ?_
  intro p e s m args below meth c s₁ Bd hml0 hP hK
  obtain ⟨rfl, hZ, hh⟩ := hP
  have hx := Bd.exec
  have hby := Bd.bytes
  have hml : c.maxLocals = 2 := hml0
  have hown : s.vm.findClass "java/lang/StringUTF16" = some m.cls := findClass_of_methodNamed Bd.named
  have X0 : Stand p l e ({ frames := 0, cells := 0, slots := 0, locals := 0 } : Room) s m #[(.ref p0), (.int 2)] below meth c s₁ [] 0 0 := Stand.of_body Bd
  have e0 : s₁.heap = h0 := by rw [← hh, Bd.state]; rfl
  have N0 := Fr.nil n0
  have s0 : Steps p.tables e below (s₁.setTop (entryFrame m #[(.ref p0), (.int 2)] 2)) (s₁.setTop (mkF m 0 #[.val (.ref p0), .val (.int 2)] [])) := castTop (ef_rmcf_2_2 m p0) (Steps.refl _)
  obtain ⟨A₀, hA₀⟩ : ∃ z, z = (s₁.setTop (entryFrame m #[(.ref p0), (.int 2)] 2)) := ⟨_, rfl⟩
  rw [← hA₀] at s0
  obtain ⟨cla1, Ara1, qa1, Sa1, Za1, Ha1, Ga1⟩ := id F0_
  have s2 : Steps p.tables e below A₀ (s₁.setTop (mkF m 8 #[.val (.ref p0), .val (.int 2)] [(.int ((0 : Int32).toInt8.toInt32))])) := by
    refine s0.trans ?_
    refine XS.iloadN X0.here hx rfl (hb hby d7_0) rfl ?_
    refine XS.aloadN X0.here hx rfl (hb hby d7_1) rfl rfl ?_
    refine X0.arraylength hx (by rw [e0]; exact Ara1.1) (State.isArrayOf_alike hZ.alike Ara1.2.1) (g := (mkF m 2 #[.val (.ref p0), .val (.int 2)] [(.ref p0), (.int 2)])) rfl rfl (hb hby d7_2) _ ?_
    rw [len_of Sa1 Za1]
    show Steps p.tables e below (s₁.setTop (mkF m 3 #[.val (.ref p0), .val (.int 2)] [(.int 2), (.int 2)])) _
    refine XS.isub X0.here hx rfl (hb hby d7_3) rfl ?_
    refine XS.bipush X0.here hx rfl (hb hby d7_4) ?_
    refine XS.iushr X0.here hx rfl (hb hby d7_6) rfl ?_
    refine XS.i2b X0.here hx rfl (hb hby d7_7) rfl ?_
    exact Steps.refl _
  subst hA₀
  obtain ⟨fs, hr, hrun, hended, hW, hsame⟩ := X0.leave (v := some (.int (nar .byte ((0 : Int32).toInt8.toInt32)))) (fun h => by rw [Bd.returns] at h; cases h)
  refine ⟨_, _, s2.trans ?_, hrun, hended, _, _, rfl, ?_, ⟨_, rfl⟩, hW, hsame.mono (by decide) (by decide)⟩
  · show Steps p.tables e below (s₁.setTop (mkF m 8 #[.val (.ref p0), .val (.int 2)] [(.int ((0 : Int32).toInt8.toInt32))])) _
    exact retN X0 hx (t := .byte) Bd.returns (by simp) (hb hby d7_8) hr
  · show Qcf_2_2 Z p0 kb xs h0 n0 _ s₁.heap _
    rw [e0]
    exact ⟨rfl, N0, rfl⟩
theorem ef_rmcf_2_4 (m : MethodId) (p0 : Addr) : entryFrame m #[(.ref p0), (.int 2)] 2 = mkF m 0 #[.val (.ref p0), .val (.int 2)] [] := by first | (simp [entryFrame, mkF, argsToLocals, Value.category]; done) | rfl
def Qcf_2_4 (Z : State) (p0 : Addr) (kb : ClassId) (xs : List Int32) (h0 : Heap) (n0 : Nat) (v : Option Value) (h : Heap) (L : List Loc) : Prop := v = some (.int 1) ∧ Fr n0 L ∧ h = h0
set_option maxRecDepth 65536 in
set_option maxHeartbeats 40000000 in
theorem rmcf_2_4 (l : Launch) (Z : State) (a0 : Array Value) (hw : ∀ d ∈ tables_1, d.before a0 Z = true) (ws : List Jvm.Cond) (p0 : Addr) (kb : ClassId) (xs : List Int32) (h0 : Heap) (n0 : Nat) (O0 : Old Z n0 h0) (F0_ : Arv Z h0 p0 kb .byte 4 (xs.map Value.int) (.int 0)) :
    MetFree l nm7 (head1 (Jvm.Cond.code nm7 jdk_52_method_15_code 2 (some .byte) :: ws) ({ frames := 0, cells := 0, slots := 0, locals := 0 } : Room)) (fun a U => a = #[(.ref p0), (.int 2)] ∧ Z.Warmed39 U.vm ∧ U.heap = h0) (fun _ _ _ _ _ => True) (fun _ U o U' => ∃ v L, o = .returned v ∧ Qcf_2_4 Z p0 kb xs h0 n0 v U'.heap L ∧ FrameEnd U o U' L ({ frames := 0, cells := 0, slots := 0, locals := 0 } : Room).cells ({ frames := 0, cells := 0, slots := 0, locals := 0 } : Room).slots) := by
  refine MetFree.of_bodySF (plainFor_of_name pn_18) hisR ?_
  intro p e s m args below meth c s₁ Bd hml0 hP hK
  obtain ⟨rfl, hZ, hh⟩ := hP
  have hx := Bd.exec
  have hby := Bd.bytes
  have hml : c.maxLocals = 2 := hml0
  have hown : s.vm.findClass "java/lang/StringUTF16" = some m.cls := findClass_of_methodNamed Bd.named
  have X0 : Stand p l e ({ frames := 0, cells := 0, slots := 0, locals := 0 } : Room) s m #[(.ref p0), (.int 2)] below meth c s₁ [] 0 0 := Stand.of_body Bd
  have e0 : s₁.heap = h0 := by rw [← hh, Bd.state]; rfl
  have N0 := Fr.nil n0
  have s0 : Steps p.tables e below (s₁.setTop (entryFrame m #[(.ref p0), (.int 2)] 2)) (s₁.setTop (mkF m 0 #[.val (.ref p0), .val (.int 2)] [])) := castTop (ef_rmcf_2_4 m p0) (Steps.refl _)
  obtain ⟨A₀, hA₀⟩ : ∃ z, z = (s₁.setTop (entryFrame m #[(.ref p0), (.int 2)] 2)) := ⟨_, rfl⟩
  rw [← hA₀] at s0
  obtain ⟨cla1, Ara1, qa1, Sa1, Za1, Ha1, Ga1⟩ := id F0_
  have s2 : Steps p.tables e below A₀ (s₁.setTop (mkF m 8 #[.val (.ref p0), .val (.int 2)] [(.int ((1 : Int32).toInt8.toInt32))])) := by
    refine s0.trans ?_
    refine XS.iloadN X0.here hx rfl (hb hby d7_0) rfl ?_
    refine XS.aloadN X0.here hx rfl (hb hby d7_1) rfl rfl ?_
    refine X0.arraylength hx (by rw [e0]; exact Ara1.1) (State.isArrayOf_alike hZ.alike Ara1.2.1) (g := (mkF m 2 #[.val (.ref p0), .val (.int 2)] [(.ref p0), (.int 2)])) rfl rfl (hb hby d7_2) _ ?_
    rw [len_of Sa1 Za1]
    show Steps p.tables e below (s₁.setTop (mkF m 3 #[.val (.ref p0), .val (.int 2)] [(.int 4), (.int 2)])) _
    refine XS.isub X0.here hx rfl (hb hby d7_3) rfl ?_
    refine XS.bipush X0.here hx rfl (hb hby d7_4) ?_
    refine XS.iushr X0.here hx rfl (hb hby d7_6) rfl ?_
    refine XS.i2b X0.here hx rfl (hb hby d7_7) rfl ?_
    exact Steps.refl _
  subst hA₀
  obtain ⟨fs, hr, hrun, hended, hW, hsame⟩ := X0.leave (v := some (.int (nar .byte ((1 : Int32).toInt8.toInt32)))) (fun h => by rw [Bd.returns] at h; cases h)
  refine ⟨_, _, s2.trans ?_, hrun, hended, _, _, rfl, ?_, ⟨_, rfl⟩, hW, hsame.mono (by decide) (by decide)⟩
  · show Steps p.tables e below (s₁.setTop (mkF m 8 #[.val (.ref p0), .val (.int 2)] [(.int ((1 : Int32).toInt8.toInt32))])) _
    exact retN X0 hx (t := .byte) Bd.returns (by simp) (hb hby d7_8) hr
  · show Qcf_2_4 Z p0 kb xs h0 n0 _ s₁.heap _
    rw [e0]
    exact ⟨rfl, N0, rfl⟩
theorem pd_rmsv_2_0 : parseMethodDescriptor "([CII)[B" = some ⟨[(.array .char), .int, .int], some (.array .byte)⟩ := by decide +kernel
theorem pd_rmsv_2_1 : parseMethodDescriptor "([BI)B" = some ⟨[(.array .byte), .int], some .byte⟩ := by decide +kernel
theorem ef_rmsv_2 (m : MethodId) (p0 : Addr) (p1 : Addr) : entryFrame m #[(.ref p0), (.ref p1), (.int 0), (.int 2), .null] 6 = mkF m 0 #[.val (.ref p0), .val (.ref p1), .val (.int 0), .val (.int 2), .val .null, .unset] [] := by first | (simp [entryFrame, mkF, argsToLocals, Value.category]; done) | rfl
def Qsv_2 (Z : State) (p0 : Addr) (p1 : Addr) (wc : Int32) (kc : ClassId) (c0 : Int32) (c1 : Int32) (h0 : Heap) (n0 : Nat) (v : Option Value) (h : Heap) (L : List Loc) : Prop := ∃ b : Addr, ∃ kb : ClassId, ∃ ln : Int32, ∃ cd : Int32, ∃ xs : List Int32, v = none ∧ Fr n0 L ∧ Keep h0 h [p0] ∧ (Exa Z h p0 "java/lang/String") ∧ (Fld Z h p0 "java/lang/String" "value" "[B" (.ref b)) ∧ (Fld Z h p0 "java/lang/String" "coder" "B" (.int cd)) ∧ (Arv Z h b kb .byte ln (xs.map Value.int) (.int 0)) ∧ (h0.size ≤ b) ∧ ((ln = (2 : Int32) ∧ cd = (0 : Int32)) ∨ (ln = (4 : Int32) ∧ cd = (1 : Int32)))
set_option maxRecDepth 65536 in
set_option maxHeartbeats 40000000 in
theorem rmsv_2 (l : Launch) (Z : State) (a0 : Array Value) (hw : ∀ d ∈ tables_1, d.before a0 Z = true) (ws : List Jvm.Cond) (p0 : Addr) (p1 : Addr) (wc : Int32) (kc : ClassId) (c0 : Int32) (c1 : Int32) (h0 : Heap) (n0 : Nat) (O0 : Old Z n0 h0) (F0_ : Exa Z h0 p0 "java/lang/String") (F1_ : Fld Z h0 p0 "java/lang/String" "value" "[B" .null) (F2_ : Fld Z h0 p0 "java/lang/String" "coder" "B" (.int 0)) (F3_ : n0 ≤ p0) (F4_ : Arv Z h0 p1 kc .char 2 [(.int c0), (.int c1)] (.int 0)) (F5_ : Sta Z Z.heap "java/lang/String" "COMPACT_STRINGS" "Z" (.int wc)) (F6_ : p0 ≠ p1) (F7_ : Sta Z Z.heap "java/lang/StringUTF16" "$assertionsDisabled" "Z" (.int 1)) (F8_ : Sta Z Z.heap "java/lang/StringUTF16" "HI_BYTE_SHIFT" "I" (.int 0)) (F9_ : Sta Z Z.heap "java/lang/StringUTF16" "LO_BYTE_SHIFT" "I" (.int 8)) (hcs : ¬ (wc = (0 : Int32))) :
    MetFree l nm8 (head1 (Jvm.Cond.code nm8 jdk_42_method_149_code 6 none :: ws) ({ frames := 4, cells := 2, slots := 6, locals := 57 } : Room)) (fun a U => a = #[(.ref p0), (.ref p1), (.int 0), (.int 2), .null] ∧ Z.Warmed39 U.vm ∧ U.heap = h0) (fun _ _ _ _ _ => True) (fun _ U o U' => ∃ v L, o = .returned v ∧ Qsv_2 Z p0 p1 wc kc c0 c1 h0 n0 v U'.heap L ∧ FrameEnd U o U' L ({ frames := 4, cells := 2, slots := 6, locals := 57 } : Room).cells ({ frames := 4, cells := 2, slots := 6, locals := 57 } : Room).slots) := by
  refine MetFree.of_bodySF (plainFor_of_name pn_3) hisR ?_
  intro p e s m args below meth c s₁ Bd hml0 hP hK
  obtain ⟨rfl, hZ, hh⟩ := hP
  have hx := Bd.exec
  have hby := Bd.bytes
  have hml : c.maxLocals = 6 := hml0
  have hown : s.vm.findClass "java/lang/String" = some m.cls := findClass_of_methodNamed Bd.named
  have hnm := (name_of_methodNamed Bd.named Bd.method).1
  have X0 : Stand p l e ({ frames := 4, cells := 2, slots := 6, locals := 57 } : Room) s m #[(.ref p0), (.ref p1), (.int 0), (.int 2), .null] below meth c s₁ [] 0 0 := Stand.of_body Bd
  have e0 : s₁.heap = h0 := by rw [← hh, Bd.state]; rfl
  have N0 := Fr.nil n0
  have s0 : Steps p.tables e below (s₁.setTop (entryFrame m #[(.ref p0), (.ref p1), (.int 0), (.int 2), .null] 6)) (s₁.setTop (mkF m 0 #[.val (.ref p0), .val (.ref p1), .val (.int 0), .val (.int 2), .val .null, .unset] [])) := castTop (ef_rmsv_2 m p0 p1) (Steps.refl _)
  obtain ⟨A₀, hA₀⟩ : ∃ z, z = (s₁.setTop (entryFrame m #[(.ref p0), (.ref p1), (.int 0), (.int 2), .null] 6)) := ⟨_, rfl⟩
  rw [← hA₀] at s0
  obtain ⟨T1, X1, e1, st1⟩ := initO X0 hx hZ hown (wq hw 15 rfl) (wq hw 16 rfl) (wq hw 17 rfl) e0 (g := (mkF m 1 #[.val (.ref p0), .val (.ref p1), .val (.int 0), .val (.int 2), .val .null, .unset] [(.ref p0)])) rfl (by rw [hml]; rfl) rfl (hb hby d3_1) (by decide) (W := 0) (by exact Nat.le_refl _) (by decide)
  obtain ⟨T2, X2, e2, st2⟩ := getS2 X1 hx hZ hown (host := "") (Or.inl (wq hw 18 rfl)) Via.refl e1 (F5_.ext O0.2) (g := (mkF m 27 #[.val (.ref p0), .val (.ref p1), .val (.int 0), .val (.int 2), .val .null, .unset] [])) rfl (hb hby d3_27)
  obtain ⟨_, _, ⟨T3, L3, k3, n3⟩, -, X3, ⟨Lc3, hQ3, l3, y3, z3⟩, st3⟩ := Jvm.LawKit.callS X2 hx (y := (⟨"java/lang/StringUTF16", "compress", "([CII)[B"⟩ : MethodName)) hown (mvT hZ (wq hw 19 rfl)) (mvT hZ (wq hw 20 rfl)) (mvT hZ (wq hw 21 rfl)) (mvT hZ (wq hw 22 rfl)) (by decide) (backOf (W := 0) (rmc3_2 l Z a0 hw [] p1 kc c0 c1 h0 n0 O0 F4_ F7_ F8_ F9_) hZ (wq hw 22 rfl) (wq hw 21 rfl) (by decide) (by decide)) (g := (mkF m 36 #[.val (.ref p0), .val (.ref p1), .val (.int 0), .val (.int 2), .val .null, .unset] [(.int 2), (.int 0), (.ref p1)])) rfl (by rw [hml]; rfl) (argsL := [(.ref p1), (.int 0), (.int 2)]) (rest := []) (lenOf pd_rmsv_2_0 rfl) rfl (by exact Nat.le_refl _) (hb hby d3_36) (fun _ _ => ⟨rfl, e2, (by decide : 0 + 2 ≤ _), (by decide : 0 + 6 ≤ _)⟩)
  dsimp only [Pt.U, Pt.locs, Pt.cells, Pt.slots] at X3 l3 y3 z3 st3 hQ3
  subst l3 y3 z3
  obtain ⟨u4, u5, u6, u7, rfl, Nq3, Kc3, f3_0, f3_1, f3_2⟩ := hQ3
  have N3 := Fr.app N0 Nq3
  have ne_p0_u4 : p0 ≠ u4 := Nat.ne_of_lt (Nat.lt_of_lt_of_le F0_.lt f3_1)
  have ne_p1_u4 : p1 ≠ u4 := Nat.ne_of_lt (Nat.lt_of_lt_of_le F4_.lt f3_1)
  have g_u4 : n0 ≤ u4 := Nat.le_trans (Nat.le_of_eq O0.1.symm) (Nat.le_trans O0.2.1 f3_1)
  have sz_u4 : h0.size ≤ u4 := Nat.le_trans (Keep.refl h0 [p0]).1 f3_1
  have K3 : Keep h0 T3.heap [p0] := (Keep.refl h0 [p0]).trans Kc3 all0
  have O3 := O0.keep Kc3 all0
  have s8 : Steps p.tables e below A₀ (T3.setTop (mkF m 39 #[.val (.ref p0), .val (.ref p1), .val (.int 0), .val (.int 2), .val .null, .unset] [(.ref u4)])) := by
    refine s0.trans ?_
    refine XS.aloadN X0.here hx rfl (hb hby d3_0) rfl rfl ?_
    refine st1 _ ?_
    refine XS.iloadN X1.here hx rfl (hb hby d3_4) rfl ?_
    refine XS.ifYes X1.here hx rfl (pc0 := 5) (pc' := 27) rfl (hb hby d3_5) rfl ((if0 _ _).trans (feq (by decide)).2) (by decide) (by decide) ?_
    refine st2 _ ?_
    refine XS.ifNo X2.here hx rfl (hb hby d3_30) rfl ((if0 _ _).trans (feq hcs).1) ?_
    refine XS.aloadN X2.here hx rfl (hb hby d3_33) rfl rfl ?_
    refine XS.iloadN X2.here hx rfl (hb hby d3_34) rfl ?_
    show Steps p.tables e below (T2.setTop (mkF m 35 #[.val (.ref p0), .val (.ref p1), .val (.int 0), .val (.int 2), .val .null, .unset] [(.int 0), (.ref p1)])) _
    refine XS.iloadN X2.here hx rfl (hb hby d3_35) rfl ?_
    refine st3 _ ?_
    exact Steps.refl _
  rcases f3_2 with rfl | rfl
  · obtain ⟨T9, L9, X9, e9, N9, st9⟩ := own_callP X3 hx hZ hown (wk27 hw) (wk28 hw) (wk21 hw) (wk29 hw) (by decide) (rmcf_2_2 l Z a0 hw [] u4 u5 u7 T3.heap n0 O3 f3_0) (rfl : T3.heap = T3.heap) N3 (W := 1) (by decide) (by decide) (by decide) (by decide) (g := (mkF m 45 #[.val (.ref p0), .val (.ref p1), .val (.int 0), .val (.int 2), .val .null, .val (.ref u4)] [(.int 2), (.ref u4), (.ref p0)])) rfl (by rw [hml]; rfl) (argsL := [(.ref u4), (.int 2)]) (rest := [(.ref p0)]) (lenOf pd_rmsv_2_1 rfl) rfl (by exact Nat.le_refl _) (hb hby d3_45)
    have c10 : Exa Z T3.heap p0 "java/lang/String" := (F0_.keep Kc3)
    have c11 : Fld Z T3.heap p0 "java/lang/String" "coder" "B" (.int 0) := (F2_.keep Kc3 nin0)
    obtain ⟨T12, h12, X12, e12, W12, st12⟩ := putFN X9 hx hZ hown (wq hw 30 rfl) Via.refl e9 c11 c10 (Or.inr ⟨(wq hw 31 rfl), rfl, hnm⟩) (wq hw 5 rfl) (ty := .byte) (v' := (.int ((0 : Int32).toInt8.toInt32))) (by decide) rfl (fits_nar_byte _) (g := (mkF m 48 #[.val (.ref p0), .val (.ref p1), .val (.int 0), .val (.int 2), .val .null, .val (.ref u4)] [(.int 0), (.ref p0)])) rfl rfl (hb hby d3_48)
    have Fw12 := c11.same W12
    have O12 := O3.wr W12 F3_
    have K12 : Keep h0 h12 [p0] := K3.wr W12 (Or.inl (List.mem_of_getElem? (i := 0) rfl))
    have N12 := Fr.snoc X12 N9 F3_
    have c13 : Exa Z h12 p0 "java/lang/String" := (c10.wr W12)
    have c14 : Fld Z h12 p0 "java/lang/String" "value" "[B" .null := ((F1_.keep Kc3 nin0).other W12 (Or.inr (slot_ne (Or.inr (wq hw 33 rfl)) (Or.inr (wq hw 31 rfl)) (by decide) (t := (.array .byte)) (t' := .byte) (by decide) (by decide))))
    obtain ⟨T15, h15, X15, e15, W15, st15⟩ := putF X12 hx hZ hown (host := "") (Or.inl (wq hw 32 rfl)) Via.refl e12 c14 c13 (Or.inr ⟨(wq hw 33 rfl), rfl, hnm⟩) (wq hw 5 rfl) (ty := (.array .byte)) (by decide) rfl rfl (g := (mkF m 54 #[.val (.ref p0), .val (.ref p1), .val (.int 0), .val (.int 2), .val .null, .val (.ref u4)] [(.ref u4), (.ref p0)])) rfl rfl (hb hby d3_54)
    have Fw15 := c14.same W15
    have O15 := O12.wr W15 F3_
    have K15 : Keep h0 h15 [p0] := K12.wr W15 (Or.inl (List.mem_of_getElem? (i := 0) rfl))
    have N15 := Fr.snoc X15 N12 F3_
    have s16 : Steps p.tables e below A₀ (T15.setTop (mkF m 57 #[.val (.ref p0), .val (.ref p1), .val (.int 0), .val (.int 2), .val .null, .val (.ref u4)] [])) := by
      refine s8.trans ?_
      refine XS.astore X3.here hx rfl (hb hby d3_39) rfl rfl (l' := #[.val (.ref p0), .val (.ref p1), .val (.int 0), .val (.int 2), .val .null, .val (.ref u4)]) rfl ?_
      refine XS.aloadN X3.here hx rfl (hb hby d3_41) rfl rfl ?_
      refine XS.aload X3.here hx rfl (hb hby d3_42) rfl rfl ?_
      refine XS.iloadN X3.here hx rfl (hb hby d3_44) rfl ?_
      refine st9 _ ?_
      refine st12 _ ?_
      refine XS.aloadN X12.here hx rfl (hb hby d3_51) rfl rfl ?_
      refine XS.aload X12.here hx rfl (hb hby d3_52) rfl rfl ?_
      show Steps p.tables e below (T12.setTop (mkF m 54 #[.val (.ref p0), .val (.ref p1), .val (.int 0), .val (.int 2), .val .null, .val (.ref u4)] [(.ref u4), (.ref p0)])) _
      refine st15 _ ?_
      exact Steps.refl _
    have c17 : Fld Z h15 p0 "java/lang/String" "coder" "B" (.int ((0 : Int32).toInt8.toInt32)) := (Fw12.other W15 (Or.inr (slot_ne (Or.inr (wq hw 31 rfl)) (Or.inr (wq hw 33 rfl)) (by decide) (t := .byte) (t' := (.array .byte)) (by decide) (by decide))))
    subst hA₀
    have c18 : Exa Z h15 p0 "java/lang/String" := (c13.wr W15)
    have c19 : Arv Z h15 u4 u5 .byte 2 (u7.map Value.int) (.int 0) := ((f3_0.other W12 (Ne.symm ne_p0_u4)).other W15 (Ne.symm ne_p0_u4))
    obtain ⟨fs, hr, hrun, hended, hW, hsame⟩ := X15.leave (v := none) (fun _ => rfl)
    refine ⟨_, _, s16.trans ?_, hrun, hended, _, _, rfl, ?_, ⟨_, rfl⟩, hW, hsame.mono (by decide) (by decide)⟩
    · show Steps p.tables e below (T15.setTop (mkF m 57 #[.val (.ref p0), .val (.ref p1), .val (.int 0), .val (.int 2), .val .null, .val (.ref u4)] [])) _
      exact X15.returnOut hx Bd.returns (hb hby d3_57) hr
    · show Qsv_2 Z p0 p1 wc kc c0 c1 h0 n0 _ T15.heap _
      rw [e15]
      exact ⟨u4, u5, (2 : Int32), (0 : Int32), u7, rfl, N15, K15, c18, Fw15, c17, c19, sz_u4, (Or.inl ⟨rfl, rfl⟩)⟩
  · obtain ⟨T20, L20, X20, e20, N20, st20⟩ := own_callP X3 hx hZ hown (wk27 hw) (wk28 hw) (wk21 hw) (wk29 hw) (by decide) (rmcf_2_4 l Z a0 hw [] u4 u5 u7 T3.heap n0 O3 f3_0) (rfl : T3.heap = T3.heap) N3 (W := 1) (by decide) (by decide) (by decide) (by decide) (g := (mkF m 45 #[.val (.ref p0), .val (.ref p1), .val (.int 0), .val (.int 2), .val .null, .val (.ref u4)] [(.int 2), (.ref u4), (.ref p0)])) rfl (by rw [hml]; rfl) (argsL := [(.ref u4), (.int 2)]) (rest := [(.ref p0)]) (lenOf pd_rmsv_2_1 rfl) rfl (by exact Nat.le_refl _) (hb hby d3_45)
    have c21 : Exa Z T3.heap p0 "java/lang/String" := (F0_.keep Kc3)
    have c22 : Fld Z T3.heap p0 "java/lang/String" "coder" "B" (.int 0) := (F2_.keep Kc3 nin0)
    obtain ⟨T23, h23, X23, e23, W23, st23⟩ := putFN X20 hx hZ hown (wq hw 30 rfl) Via.refl e20 c22 c21 (Or.inr ⟨(wq hw 31 rfl), rfl, hnm⟩) (wq hw 5 rfl) (ty := .byte) (v' := (.int ((1 : Int32).toInt8.toInt32))) (by decide) rfl (fits_nar_byte _) (g := (mkF m 48 #[.val (.ref p0), .val (.ref p1), .val (.int 0), .val (.int 2), .val .null, .val (.ref u4)] [(.int 1), (.ref p0)])) rfl rfl (hb hby d3_48)
    have Fw23 := c22.same W23
    have O23 := O3.wr W23 F3_
    have K23 : Keep h0 h23 [p0] := K3.wr W23 (Or.inl (List.mem_of_getElem? (i := 0) rfl))
    have N23 := Fr.snoc X23 N20 F3_
    have c24 : Exa Z h23 p0 "java/lang/String" := (c21.wr W23)
    have c25 : Fld Z h23 p0 "java/lang/String" "value" "[B" .null := ((F1_.keep Kc3 nin0).other W23 (Or.inr (slot_ne (Or.inr (wq hw 33 rfl)) (Or.inr (wq hw 31 rfl)) (by decide) (t := (.array .byte)) (t' := .byte) (by decide) (by decide))))
    obtain ⟨T26, h26, X26, e26, W26, st26⟩ := putF X23 hx hZ hown (host := "") (Or.inl (wq hw 32 rfl)) Via.refl e23 c25 c24 (Or.inr ⟨(wq hw 33 rfl), rfl, hnm⟩) (wq hw 5 rfl) (ty := (.array .byte)) (by decide) rfl rfl (g := (mkF m 54 #[.val (.ref p0), .val (.ref p1), .val (.int 0), .val (.int 2), .val .null, .val (.ref u4)] [(.ref u4), (.ref p0)])) rfl rfl (hb hby d3_54)
    have Fw26 := c25.same W26
    have O26 := O23.wr W26 F3_
    have K26 : Keep h0 h26 [p0] := K23.wr W26 (Or.inl (List.mem_of_getElem? (i := 0) rfl))
    have N26 := Fr.snoc X26 N23 F3_
    have s27 : Steps p.tables e below A₀ (T26.setTop (mkF m 57 #[.val (.ref p0), .val (.ref p1), .val (.int 0), .val (.int 2), .val .null, .val (.ref u4)] [])) := by
      refine s8.trans ?_
      refine XS.astore X3.here hx rfl (hb hby d3_39) rfl rfl (l' := #[.val (.ref p0), .val (.ref p1), .val (.int 0), .val (.int 2), .val .null, .val (.ref u4)]) rfl ?_
      refine XS.aloadN X3.here hx rfl (hb hby d3_41) rfl rfl ?_
      refine XS.aload X3.here hx rfl (hb hby d3_42) rfl rfl ?_
      refine XS.iloadN X3.here hx rfl (hb hby d3_44) rfl ?_
      refine st20 _ ?_
      refine st23 _ ?_
      refine XS.aloadN X23.here hx rfl (hb hby d3_51) rfl rfl ?_
      refine XS.aload X23.here hx rfl (hb hby d3_52) rfl rfl ?_
      show Steps p.tables e below (T23.setTop (mkF m 54 #[.val (.ref p0), .val (.ref p1), .val (.int 0), .val (.int 2), .val .null, .val (.ref u4)] [(.ref u4), (.ref p0)])) _
      refine st26 _ ?_
      exact Steps.refl _
    have c28 : Fld Z h26 p0 "java/lang/String" "coder" "B" (.int ((1 : Int32).toInt8.toInt32)) := (Fw23.other W26 (Or.inr (slot_ne (Or.inr (wq hw 31 rfl)) (Or.inr (wq hw 33 rfl)) (by decide) (t := .byte) (t' := (.array .byte)) (by decide) (by decide))))
    subst hA₀
    have c29 : Exa Z h26 p0 "java/lang/String" := (c24.wr W26)
    have c30 : Arv Z h26 u4 u5 .byte 4 (u7.map Value.int) (.int 0) := ((f3_0.other W23 (Ne.symm ne_p0_u4)).other W26 (Ne.symm ne_p0_u4))
    obtain ⟨fs, hr, hrun, hended, hW, hsame⟩ := X26.leave (v := none) (fun _ => rfl)
    refine ⟨_, _, s27.trans ?_, hrun, hended, _, _, rfl, ?_, ⟨_, rfl⟩, hW, hsame.mono (by decide) (by decide)⟩
    · show Steps p.tables e below (T26.setTop (mkF m 57 #[.val (.ref p0), .val (.ref p1), .val (.int 0), .val (.int 2), .val .null, .val (.ref u4)] [])) _
      exact X26.returnOut hx Bd.returns (hb hby d3_57) hr
    · show Qsv_2 Z p0 p1 wc kc c0 c1 h0 n0 _ T26.heap _
      rw [e26]
      exact ⟨u4, u5, (4 : Int32), (1 : Int32), u7, rfl, N26, K26, c29, Fw26, c28, c30, sz_u4, (Or.inr ⟨rfl, rfl⟩)⟩
theorem pd_rms1_2_0 : parseMethodDescriptor "([CIILjava/lang/Void;)V" = some ⟨[(.array .char), .int, .int, (.object "java/lang/Void")], none⟩ := by decide +kernel
theorem ef_rms1_2 (m : MethodId) (p0 : Addr) (p1 : Addr) : entryFrame m #[(.ref p0), (.ref p1)] 2 = mkF m 0 #[.val (.ref p0), .val (.ref p1)] [] := by first | (simp [entryFrame, mkF, argsToLocals, Value.category]; done) | rfl
def Qs1_2 (Z : State) (p0 : Addr) (p1 : Addr) (wc : Int32) (kc : ClassId) (c0 : Int32) (c1 : Int32) (h0 : Heap) (n0 : Nat) (v : Option Value) (h : Heap) (L : List Loc) : Prop := ∃ b : Addr, ∃ kb : ClassId, ∃ ln : Int32, ∃ cd : Int32, ∃ xs : List Int32, v = none ∧ Fr n0 L ∧ Keep h0 h [p0] ∧ (Exa Z h p0 "java/lang/String") ∧ (Fld Z h p0 "java/lang/String" "value" "[B" (.ref b)) ∧ (Fld Z h p0 "java/lang/String" "coder" "B" (.int cd)) ∧ (Arv Z h b kb .byte ln (xs.map Value.int) (.int 0)) ∧ (h0.size ≤ b) ∧ ((ln = (2 : Int32) ∧ cd = (0 : Int32)) ∨ (ln = (4 : Int32) ∧ cd = (1 : Int32)))
set_option maxRecDepth 65536 in
set_option maxHeartbeats 40000000 in
theorem rms1_2 (l : Launch) (Z : State) (a0 : Array Value) (hw : ∀ d ∈ tables_1, d.before a0 Z = true) (ws : List Jvm.Cond) (p0 : Addr) (p1 : Addr) (wc : Int32) (kc : ClassId) (c0 : Int32) (c1 : Int32) (h0 : Heap) (n0 : Nat) (O0 : Old Z n0 h0) (F0_ : Exa Z h0 p0 "java/lang/String") (F1_ : Fld Z h0 p0 "java/lang/String" "value" "[B" .null) (F2_ : Fld Z h0 p0 "java/lang/String" "coder" "B" (.int 0)) (F3_ : n0 ≤ p0) (F4_ : Arv Z h0 p1 kc .char 2 [(.int c0), (.int c1)] (.int 0)) (F5_ : Sta Z Z.heap "java/lang/String" "COMPACT_STRINGS" "Z" (.int wc)) (F6_ : p0 ≠ p1) (F7_ : Sta Z Z.heap "java/lang/StringUTF16" "$assertionsDisabled" "Z" (.int 1)) (F8_ : Sta Z Z.heap "java/lang/StringUTF16" "HI_BYTE_SHIFT" "I" (.int 0)) (F9_ : Sta Z Z.heap "java/lang/StringUTF16" "LO_BYTE_SHIFT" "I" (.int 8)) (hcs : ¬ (wc = (0 : Int32))) :
    MetFree l nm9 (head1 (Jvm.Cond.code nm9 jdk_42_method_3_code 2 none :: ws) ({ frames := 5, cells := 2, slots := 6, locals := 74 } : Room)) (fun a U => a = #[(.ref p0), (.ref p1)] ∧ Z.Warmed39 U.vm ∧ U.heap = h0) (fun _ _ _ _ _ => True) (fun _ U o U' => ∃ v L, o = .returned v ∧ Qs1_2 Z p0 p1 wc kc c0 c1 h0 n0 v U'.heap L ∧ FrameEnd U o U' L ({ frames := 5, cells := 2, slots := 6, locals := 74 } : Room).cells ({ frames := 5, cells := 2, slots := 6, locals := 74 } : Room).slots) := by
  refine MetFree.of_bodySF (plainFor_of_name pn_3) hisR ?_
  intro p e s m args below meth c s₁ Bd hml0 hP hK
  obtain ⟨rfl, hZ, hh⟩ := hP
  have hx := Bd.exec
  have hby := Bd.bytes
  have hml : c.maxLocals = 2 := hml0
  have hown : s.vm.findClass "java/lang/String" = some m.cls := findClass_of_methodNamed Bd.named
  have X0 : Stand p l e ({ frames := 5, cells := 2, slots := 6, locals := 74 } : Room) s m #[(.ref p0), (.ref p1)] below meth c s₁ [] 0 0 := Stand.of_body Bd
  have e0 : s₁.heap = h0 := by rw [← hh, Bd.state]; rfl
  have N0 := Fr.nil n0
  have s0 : Steps p.tables e below (s₁.setTop (entryFrame m #[(.ref p0), (.ref p1)] 2)) (s₁.setTop (mkF m 0 #[.val (.ref p0), .val (.ref p1)] [])) := castTop (ef_rms1_2 m p0 p1) (Steps.refl _)
  obtain ⟨A₀, hA₀⟩ : ∃ z, z = (s₁.setTop (entryFrame m #[(.ref p0), (.ref p1)] 2)) := ⟨_, rfl⟩
  rw [← hA₀] at s0
  obtain ⟨cla1, Ara1, qa1, Sa1, Za1, Ha1, Ga1⟩ := id F4_
  obtain ⟨_, _, ⟨T2, L2, k2, n2⟩, -, X2, ⟨Lc2, hQ2, l2, y2, z2⟩, st2⟩ := X0.specialBack hx (y := (⟨"java/lang/String", "<init>", "([CIILjava/lang/Void;)V"⟩ : MethodName)) rfl hown (mvT hZ (wq hw 11 rfl)) (mvT hZ (wq hw 12 rfl)) (mvT hZ (wq hw 14 rfl)) (by decide) (backOf (W := 0) (rmsv_2 l Z a0 hw [] p0 p1 wc kc c0 c1 h0 n0 O0 F0_ F1_ F2_ F3_ F4_ F5_ F6_ F7_ F8_ F9_ hcs) hZ (wq hw 14 rfl) (wq hw 6 rfl) (by decide) (by decide)) (g := (mkF m 6 #[.val (.ref p0), .val (.ref p1)] [.null, (.int 2), (.int 0), (.ref p1), (.ref p0)])) rfl (by rw [hml]; rfl) (Steps.refl _) (a := p0) (argsL := [(.ref p1), (.int 0), (.int 2), .null]) (rest := []) (lenOf pd_rms1_2_0 rfl) rfl (by exact Nat.le_refl _) (hb hby d2_6) (fun _ _ => ⟨rfl, e0, (by decide : 0 + 2 ≤ _), (by decide : 0 + 6 ≤ _)⟩)
  dsimp only [Pt.U, Pt.locs, Pt.cells, Pt.slots] at X2 l2 y2 z2 st2 hQ2
  subst l2 y2 z2
  obtain ⟨u3, u4, u5, u6, u7, rfl, Nq2, Kc2, f2_0, f2_1, f2_2, f2_3, f2_4, f2_5⟩ := hQ2
  have N2 := Fr.app N0 Nq2
  have ne_p0_u3 : p0 ≠ u3 := Nat.ne_of_lt (Nat.lt_of_lt_of_le F0_.lt f2_4)
  have ne_p1_u3 : p1 ≠ u3 := Nat.ne_of_lt (Nat.lt_of_lt_of_le F4_.lt f2_4)
  have g_u3 : n0 ≤ u3 := Nat.le_trans (Nat.le_of_eq O0.1.symm) (Nat.le_trans O0.2.1 f2_4)
  have sz_u3 : h0.size ≤ u3 := Nat.le_trans (Keep.refl h0 [p0]).1 f2_4
  have K2 : Keep h0 T2.heap [p0] := (Keep.refl h0 [p0]).trans Kc2 (allS (Or.inl (List.mem_of_getElem? (i := 0) rfl)) all0)
  have O2 := O0.keep Kc2 (allS F3_ all0)
  have s8 : Steps p.tables e below A₀ (T2.setTop (mkF m 9 #[.val (.ref p0), .val (.ref p1)] [])) := by
    refine s0.trans ?_
    refine XS.aloadN X0.here hx rfl (hb hby d2_0) rfl rfl ?_
    refine XS.aloadN X0.here hx rfl (hb hby d2_1) rfl rfl ?_
    refine XS.iconst X0.here hx rfl (hb hby d2_2) ?_
    refine XS.aloadN X0.here hx rfl (hb hby d2_3) rfl rfl ?_
    refine X0.arraylength hx (by rw [e0]; exact Ara1.1) (State.isArrayOf_alike hZ.alike Ara1.2.1) (g := (mkF m 4 #[.val (.ref p0), .val (.ref p1)] [(.ref p1), (.int 0), (.ref p1), (.ref p0)])) rfl rfl (hb hby d2_4) _ ?_
    rw [len_of Sa1 Za1]
    show Steps p.tables e below (s₁.setTop (mkF m 5 #[.val (.ref p0), .val (.ref p1)] [(.int 2), (.int 0), (.ref p1), (.ref p0)])) _
    refine XS.aconstNull X0.here hx rfl (hb hby d2_5) ?_
    refine st2.trans ?_
    exact Steps.refl _
  subst hA₀
  obtain ⟨fs, hr, hrun, hended, hW, hsame⟩ := X2.leave (v := none) (fun _ => rfl)
  refine ⟨_, _, s8.trans ?_, hrun, hended, _, _, rfl, ?_, ⟨_, rfl⟩, hW, hsame.mono (by decide) (by decide)⟩
  · show Steps p.tables e below (T2.setTop (mkF m 9 #[.val (.ref p0), .val (.ref p1)] [])) _
    exact X2.returnOut hx Bd.returns (hb hby d2_9) hr
  · show Qs1_2 Z p0 p1 wc kc c0 c1 h0 n0 _ T2.heap _
    exact ⟨u3, u4, u5, u6, u7, rfl, N2, K2, f2_0, f2_1, f2_2, f2_3, sz_u3, f2_5⟩
theorem d1_35 : decode method_2_code 35 = .ok (.iload_n 0, 1) := by decide +kernel
theorem d1_36 : decode method_2_code 36 = .ok (.iconst 2, 1) := by decide +kernel
theorem d1_37 : decode method_2_code 37 = .ok (.if_icmp .ne 22, 3) := by decide +kernel
theorem d1_40 : decode method_2_code 40 = .ok (.new 7, 3) := by decide +kernel
theorem d1_43 : decode method_2_code 43 = .ok (.dup, 1) := by decide +kernel
theorem d1_44 : decode method_2_code 44 = .ok (.iconst 2, 1) := by decide +kernel
theorem d1_45 : decode method_2_code 45 = .ok (.newarray .char, 2) := by decide +kernel
theorem d1_47 : decode method_2_code 47 = .ok (.dup, 1) := by decide +kernel
theorem d1_48 : decode method_2_code 48 = .ok (.iconst 0, 1) := by decide +kernel
theorem d1_49 : decode method_2_code 49 = .ok (.iload_n 1, 1) := by decide +kernel
theorem d1_50 : decode method_2_code 50 = .ok (.castore, 1) := by decide +kernel
theorem d1_51 : decode method_2_code 51 = .ok (.dup, 1) := by decide +kernel
theorem d1_52 : decode method_2_code 52 = .ok (.iconst 1, 1) := by decide +kernel
theorem d1_53 : decode method_2_code 53 = .ok (.iload_n 2, 1) := by decide +kernel
theorem d1_54 : decode method_2_code 54 = .ok (.castore, 1) := by decide +kernel
theorem d1_55 : decode method_2_code 55 = .ok (.invokespecial 9, 3) := by decide +kernel
theorem d1_58 : decode method_2_code 58 = .ok (.areturn, 1) := by decide +kernel
theorem pd_rmmk_2_0 : parseMethodDescriptor "([C)V" = some ⟨[(.array .char)], none⟩ := by decide +kernel
theorem ef_rmmk_2 (m : MethodId) (p1 : Int32) (p2 : Int32) (p3 : Int32) : entryFrame m #[(.int 2), (.int p1), (.int p2), (.int p3)] 4 = mkF m 0 #[.val (.int 2), .val (.int p1), .val (.int p2), .val (.int p3)] [] := by first | (simp [entryFrame, mkF, argsToLocals, Value.category]; done) | rfl
def Qmk_2 (Z : State) (p1 : Int32) (p2 : Int32) (p3 : Int32) (wc : Int32) (h0 : Heap) (n0 : Nat) (v : Option Value) (h : Heap) (L : List Loc) : Prop := ∃ u : Addr, ∃ b : Addr, ∃ kb : ClassId, ∃ ln : Int32, ∃ cd : Int32, ∃ xs : List Int32, v = some (.ref u) ∧ Fr n0 L ∧ Keep h0 h [] ∧ (Exa Z h u "java/lang/String") ∧ (Fld Z h u "java/lang/String" "value" "[B" (.ref b)) ∧ (Fld Z h u "java/lang/String" "coder" "B" (.int cd)) ∧ (Arv Z h b kb .byte ln (xs.map Value.int) (.int 0)) ∧ (h0.size ≤ b) ∧ ((ln = (2 : Int32) ∧ cd = (0 : Int32)) ∨ (ln = (4 : Int32) ∧ cd = (1 : Int32))) ∧ (h0.size ≤ u) ∧ (u ≠ b)
set_option maxRecDepth 65536 in
set_option maxHeartbeats 40000000 in
theorem rmmk_2 (l : Launch) (Z : State) (a0 : Array Value) (hw : ∀ d ∈ tables_1, d.before a0 Z = true) (ws : List Jvm.Cond) (p1 : Int32) (p2 : Int32) (p3 : Int32) (wc : Int32) (h0 : Heap) (n0 : Nat) (O0 : Old Z n0 h0) (F0_ : Sta Z Z.heap "java/lang/String" "COMPACT_STRINGS" "Z" (.int wc)) (F1_ : Sta Z Z.heap "java/lang/StringUTF16" "$assertionsDisabled" "Z" (.int 1)) (F2_ : Sta Z Z.heap "java/lang/StringUTF16" "HI_BYTE_SHIFT" "I" (.int 0)) (F3_ : Sta Z Z.heap "java/lang/StringUTF16" "LO_BYTE_SHIFT" "I" (.int 8)) (hcs : ¬ (wc = (0 : Int32))) :
    MetFree l nm10 (head1 (Jvm.Cond.code nm10 method_2_code 4 (some (.object "java/lang/String")) :: ws) ({ frames := 6, cells := 4, slots := 12, locals := 88 } : Room)) (fun a U => a = #[(.int 2), (.int p1), (.int p2), (.int p3)] ∧ Z.Warmed39 U.vm ∧ U.heap = h0) (fun _ _ _ _ _ => True) (fun _ U o U' => ∃ v L, o = .returned v ∧ Qmk_2 Z p1 p2 p3 wc h0 n0 v U'.heap L ∧ FrameEnd U o U' L ({ frames := 6, cells := 4, slots := 12, locals := 88 } : Room).cells ({ frames := 6, cells := 4, slots := 12, locals := 88 } : Room).slots) := by
  refine MetFree.of_bodySF (plainFor_of_name pn_1) hisR ?_
  intro p e s m args below meth c s₁ Bd hml0 hP hK
  obtain ⟨rfl, hZ, hh⟩ := hP
  have hx := Bd.exec
  have hby := Bd.bytes
  have hml : c.maxLocals = 4 := hml0
  have hown : s.vm.findClass "com/example/lintel/lintel/message/HeaderCursorAtEndPinLaw" = some m.cls := findClass_of_methodNamed Bd.named
  have X0 : Stand p l e ({ frames := 6, cells := 4, slots := 12, locals := 88 } : Room) s m #[(.int 2), (.int p1), (.int p2), (.int p3)] below meth c s₁ [] 0 0 := Stand.of_body Bd
  have e0 : s₁.heap = h0 := by rw [← hh, Bd.state]; rfl
  have N0 := Fr.nil n0
  have s0 : Steps p.tables e below (s₁.setTop (entryFrame m #[(.int 2), (.int p1), (.int p2), (.int p3)] 4)) (s₁.setTop (mkF m 0 #[.val (.int 2), .val (.int p1), .val (.int p2), .val (.int p3)] [])) := castTop (ef_rmmk_2 m p1 p2 p3) (Steps.refl _)
  obtain ⟨A₀, hA₀⟩ : ∃ z, z = (s₁.setTop (entryFrame m #[(.int 2), (.int p1), (.int p2), (.int p3)] 4)) := ⟨_, rfl⟩
  rw [← hA₀] at s0
  obtain ⟨T1, h1, X1, e1, E1, A1, D1, -, st1⟩ := newO X0 hx hZ hown (wq hw 4 rfl) (wq hw 5 rfl) (wq hw 6 rfl) e0 (g := (mkF m 40 #[.val (.int 2), .val (.int p1), .val (.int p2), .val (.int p3)] [])) rfl (hb hby d1_40) (by decide) (by decide)
  obtain ⟨b1, g1⟩ : ∃ z, z = h0.size := ⟨_, rfl⟩
  rw [← g1] at A1 D1 st1
  have g_b1 : n0 ≤ b1 := Nat.le_trans (Nat.le_of_eq O0.1.symm) (Nat.le_trans O0.2.1 (Nat.le_of_eq g1.symm))
  have sz_b1 : h0.size ≤ b1 := Nat.le_trans (Keep.refl h0 []).1 (Nat.le_of_eq g1.symm)
  have O1 := O0.ext E1
  have K1 : Keep h0 h1 [] := (Keep.refl h0 []).ext E1
  have F1_coder : Fld Z h1 b1 "java/lang/String" "coder" "B" (.int 0) := D1 (Or.inr (wq hw 31 rfl)) (ty := .byte) (by decide)
  have F1_value : Fld Z h1 b1 "java/lang/String" "value" "[B" .null := D1 (Or.inr (wq hw 33 rfl)) (ty := (.array .byte)) (by decide)
  obtain ⟨T2, h2, k2, X2, e2, E2, A2, st2⟩ := newP X1 hx hZ (wq hw 7 rfl) e1 (g := (mkF m 45 #[.val (.int 2), .val (.int p1), .val (.int p2), .val (.int p3)] [(.int 2), (.ref b1), (.ref b1)])) rfl (hb hby d1_45) rfl (by decide) (cap := 2) (by decide) (by decide) (by decide) (by decide)
  obtain ⟨b2, g2⟩ : ∃ z, z = h1.size := ⟨_, rfl⟩
  rw [← g2] at A2 st2
  have ne_b1_b2 : b1 ≠ b2 := Nat.ne_of_lt (Nat.lt_of_lt_of_le A1.lt (Nat.le_of_eq g2.symm))
  have g_b2 : n0 ≤ b2 := Nat.le_trans (Nat.le_of_eq O1.1.symm) (Nat.le_trans O1.2.1 (Nat.le_of_eq g2.symm))
  have sz_b2 : h0.size ≤ b2 := Nat.le_trans K1.1 (Nat.le_of_eq g2.symm)
  have O2 := O1.ext E2
  have K2 : Keep h0 h2 [] := K1.ext E2
  have V2 : Arv Z h2 b2 k2 .char 2 [(.int 0), (.int 0)] (.int 0) := (Arv.new A2 (by decide)).pad (pad_rep [] (.int 0) 2)
  obtain ⟨cla3, Ara3, qa3, Sa3, Za3, Ha3, Ga3⟩ := id V2
  have hin4 : ¬ ((0 : Int32) < 0 ∨ cla3.slots.size ≤ ((0 : Int32)).toNatClampNeg) := inb_of Sa3 ⟨by decide, by decide⟩
  obtain ⟨T5, h5, X5, e5, W5, st5⟩ := stC X2 hx hZ e2 Ara3 (j := (0 : Int32)) hin4 (g := (mkF m 50 #[.val (.int 2), .val (.int p1), .val (.int p2), .val (.int p3)] [(.int p1), (.int 0), (.ref b2), (.ref b2), (.ref b1), (.ref b1)])) rfl rfl (hb hby d1_50)
  have O5 := O2.wr W5 g_b2
  have K5 : Keep h0 h5 [] := K2.wr W5 (Or.inr sz_b2)
  have N5 := Fr.snoc X5 N0 g_b2
  have V5 : Arv Z h5 b2 k2 .char 2 [(.int (nar .char p1)), (.int 0)] (.int 0) := Arv.set Ara3 qa3 Sa3 Za3 Ha3 Ga3 (fits_nar_char _) W5 0 rfl (Nat.le_of_ble_eq_true rfl)
  obtain ⟨cla6, Ara6, qa6, Sa6, Za6, Ha6, Ga6⟩ := id V5
  have hin7 : ¬ ((1 : Int32) < 0 ∨ cla6.slots.size ≤ ((1 : Int32)).toNatClampNeg) := inb_of Sa6 ⟨by decide, by decide⟩
  obtain ⟨T8, h8, X8, e8, W8, st8⟩ := stC X5 hx hZ e5 Ara6 (j := (1 : Int32)) hin7 (g := (mkF m 54 #[.val (.int 2), .val (.int p1), .val (.int p2), .val (.int p3)] [(.int p2), (.int 1), (.ref b2), (.ref b2), (.ref b1), (.ref b1)])) rfl rfl (hb hby d1_54)
  have O8 := O5.wr W8 g_b2
  have K8 : Keep h0 h8 [] := K5.wr W8 (Or.inr sz_b2)
  have N8 := Fr.snoc X8 N5 g_b2
  have V8 : Arv Z h8 b2 k2 .char 2 [(.int (nar .char p1)), (.int (nar .char p2))] (.int 0) := Arv.set Ara6 qa6 Sa6 Za6 Ha6 Ga6 (fits_nar_char _) W8 1 rfl (Nat.le_of_ble_eq_true rfl)
  have c9 : Exa Z h8 b1 "java/lang/String" := (((A1.ext E2).wr W5).wr W8)
  have c10 : Fld Z h8 b1 "java/lang/String" "value" "[B" .null := (((F1_value.ext E2).other W5 (Or.inl ne_b1_b2)).other W8 (Or.inl ne_b1_b2))
  have c11 : Fld Z h8 b1 "java/lang/String" "coder" "B" (.int 0) := (((F1_coder.ext E2).other W5 (Or.inl ne_b1_b2)).other W8 (Or.inl ne_b1_b2))
  obtain ⟨_, _, ⟨T12, L12, k12, n12⟩, -, X12, ⟨Lc12, hQ12, l12, y12, z12⟩, st12⟩ := X8.specialBack hx (y := (⟨"java/lang/String", "<init>", "([C)V"⟩ : MethodName)) rfl hown (mvT hZ (wq hw 8 rfl)) (mvT hZ (wq hw 9 rfl)) (mvT hZ (wq hw 10 rfl)) (by decide) (backOf (W := 1) (rms1_2 l Z a0 hw [] b1 b2 wc k2 (nar .char p1) (nar .char p2) h8 n0 O8 c9 c10 c11 g_b1 V8 F0_ ne_b1_b2 F1_ F2_ F3_ hcs) hZ (wq hw 10 rfl) (wq hw 6 rfl) (by decide) (by decide)) (g := (mkF m 55 #[.val (.int 2), .val (.int p1), .val (.int p2), .val (.int p3)] [(.ref b2), (.ref b1), (.ref b1)])) rfl (by rw [hml]; rfl) (Steps.refl _) (a := b1) (argsL := [(.ref b2)]) (rest := [(.ref b1)]) (lenOf pd_rmmk_2_0 rfl) rfl (by exact Nat.le_refl _) (hb hby d1_55) (fun _ _ => ⟨rfl, e8, (by decide : 2 + 2 ≤ _), (by decide : 6 + 6 ≤ _)⟩)
  dsimp only [Pt.U, Pt.locs, Pt.cells, Pt.slots] at X12 l12 y12 z12 st12 hQ12
  subst l12 y12 z12
  obtain ⟨u13, u14, u15, u16, u17, rfl, Nq12, Kc12, f12_0, f12_1, f12_2, f12_3, f12_4, f12_5⟩ := hQ12
  have N12 := Fr.app N8 Nq12
  have ne_b1_u13 : b1 ≠ u13 := Nat.ne_of_lt (Nat.lt_of_lt_of_le c9.lt f12_4)
  have ne_b2_u13 : b2 ≠ u13 := Nat.ne_of_lt (Nat.lt_of_lt_of_le V8.lt f12_4)
  have g_u13 : n0 ≤ u13 := Nat.le_trans (Nat.le_of_eq O8.1.symm) (Nat.le_trans O8.2.1 f12_4)
  have sz_u13 : h0.size ≤ u13 := Nat.le_trans K8.1 f12_4
  have K12 : Keep h0 T12.heap [] := K8.trans Kc12 (allS (Or.inr sz_b1) all0)
  have O12 := O8.keep Kc12 (allS g_b1 all0)
  have s18 : Steps p.tables e below A₀ (T12.setTop (mkF m 58 #[.val (.int 2), .val (.int p1), .val (.int p2), .val (.int p3)] [(.ref b1)])) := by
    refine s0.trans ?_
    refine XS.iloadN X0.here hx rfl (hb hby d1_0) rfl ?_
    refine XS.ifYes X0.here hx rfl (pc0 := 1) (pc' := 15) rfl (hb hby d1_1) rfl ((if0 _ _).trans (feq (by decide)).2) (by decide) (by decide) ?_
    refine XS.iloadN X0.here hx rfl (hb hby d1_15) rfl ?_
    refine XS.iconst X0.here hx rfl (hb hby d1_16) ?_
    refine XS.icmpYes X0.here hx rfl (pc0 := 17) (pc' := 35) rfl (hb hby d1_17) rfl (feq (by decide)).2 (by decide) (by decide) ?_
    refine XS.iloadN X0.here hx rfl (hb hby d1_35) rfl ?_
    refine XS.iconst X0.here hx rfl (hb hby d1_36) ?_
    refine XS.icmpNo X0.here hx rfl (hb hby d1_37) rfl (teq (by decide)).2 ?_
    show Steps p.tables e below (s₁.setTop (mkF m 40 #[.val (.int 2), .val (.int p1), .val (.int p2), .val (.int p3)] [])) _
    refine st1 _ ?_
    refine XS.dup X1.here hx rfl (hb hby d1_43) rfl rfl ?_
    refine XS.iconst X1.here hx rfl (hb hby d1_44) ?_
    refine st2 _ ?_
    refine XS.dup X2.here hx rfl (hb hby d1_47) rfl rfl ?_
    refine XS.iconst X2.here hx rfl (hb hby d1_48) ?_
    refine XS.iloadN X2.here hx rfl (hb hby d1_49) rfl ?_
    refine st5 _ ?_
    refine XS.dup X5.here hx rfl (hb hby d1_51) rfl rfl ?_
    refine XS.iconst X5.here hx rfl (hb hby d1_52) ?_
    show Steps p.tables e below (T5.setTop (mkF m 53 #[.val (.int 2), .val (.int p1), .val (.int p2), .val (.int p3)] [(.int 1), (.ref b2), (.ref b2), (.ref b1), (.ref b1)])) _
    refine XS.iloadN X5.here hx rfl (hb hby d1_53) rfl ?_
    refine st8 _ ?_
    refine st12.trans ?_
    exact Steps.refl _
  subst hA₀
  obtain ⟨fs, hr, hrun, hended, hW, hsame⟩ := X12.leave (v := some (.ref b1)) (fun h => by rw [Bd.returns] at h; cases h)
  refine ⟨_, _, s18.trans ?_, hrun, hended, _, _, rfl, ?_, ⟨_, rfl⟩, hW, hsame.mono (by decide) (by decide)⟩
  · show Steps p.tables e below (T12.setTop (mkF m 58 #[.val (.int 2), .val (.int p1), .val (.int p2), .val (.int p3)] [(.ref b1)])) _
    jvm_step X12.here [X12.here.top, hx, (hb hby d1_58), X12.method', Bd.returns, Value.isRef, FieldType.isReference]
    first | (intro acts; rw [hr _ acts rfl rfl rfl]) | rw [hr _ _ rfl rfl rfl]
    exact Steps.refl _
  · show Qmk_2 Z p1 p2 p3 wc h0 n0 _ T12.heap _
    exact ⟨b1, u13, u14, u15, u16, u17, rfl, N12, K12, f12_0, f12_1, f12_2, f12_3, sz_u13, f12_5, sz_b1, ne_b1_u13⟩
theorem ef_rmnl3 (m : MethodId)  : entryFrame m #[(.int 3)] 1 = mkF m 0 #[.val (.int 3)] [] := by first | (simp [entryFrame, mkF, argsToLocals, Value.category]; done) | rfl
def Qnl3 (Z : State)  (h0 : Heap) (n0 : Nat) (v : Option Value) (h : Heap) (L : List Loc) : Prop := v = some (.int 6) ∧ Fr n0 L ∧ h = h0
set_option maxRecDepth 65536 in
set_option maxHeartbeats 40000000 in
theorem rmnl3 (l : Launch) (Z : State) (a0 : Array Value) (hw : ∀ d ∈ tables_1, d.before a0 Z = true) (ws : List Jvm.Cond)  (h0 : Heap) (n0 : Nat) (O0 : Old Z n0 h0) :
    MetFree l nm1 (head1 (Jvm.Cond.code nm1 jdk_52_method_3_code 1 (some .int) :: ws) ({ frames := 0, cells := 0, slots := 0, locals := 0 } : Room)) (fun a U => a = #[(.int 3)] ∧ Z.Warmed39 U.vm ∧ U.heap = h0) (fun _ _ _ _ _ => True) (fun _ U o U' => ∃ v L, o = .returned v ∧ Qnl3 Z  h0 n0 v U'.heap L ∧ FrameEnd U o U' L ({ frames := 0, cells := 0, slots := 0, locals := 0 } : Room).cells ({ frames := 0, cells := 0, slots := 0, locals := 0 } : Room).slots) := by
  refine MetFree.of_bodySF (plainFor_of_name pn_18) hisR ?_
  intro p e s m args below meth c s₁ Bd hml0 hP hK
  obtain ⟨rfl, hZ, hh⟩ := hP
  have hx := Bd.exec
  have hby := Bd.bytes
  have hml : c.maxLocals = 1 := hml0
  have hown : s.vm.findClass "java/lang/StringUTF16" = some m.cls := findClass_of_methodNamed Bd.named
  have X0 : Stand p l e ({ frames := 0, cells := 0, slots := 0, locals := 0 } : Room) s m #[(.int 3)] below meth c s₁ [] 0 0 := Stand.of_body Bd
  have e0 : s₁.heap = h0 := by rw [← hh, Bd.state]; rfl
  have N0 := Fr.nil n0
  have s0 : Steps p.tables e below (s₁.setTop (entryFrame m #[(.int 3)] 1)) (s₁.setTop (mkF m 0 #[.val (.int 3)] [])) := castTop (ef_rmnl3 m ) (Steps.refl _)
  obtain ⟨A₀, hA₀⟩ : ∃ z, z = (s₁.setTop (entryFrame m #[(.int 3)] 1)) := ⟨_, rfl⟩
  rw [← hA₀] at s0
  have s1 : Steps p.tables e below A₀ (s₁.setTop (mkF m 58 #[.val (.int 3)] [(.int 6)])) := by
    refine s0.trans ?_
    refine XS.iloadN X0.here hx rfl (hb hby d16_0) rfl ?_
    refine XS.ifYes X0.here hx rfl (pc0 := 1) (pc' := 12) rfl (hb hby d16_1) rfl ((if0 _ _).trans (flt (by decide)).2.1) (by decide) (by decide) ?_
    refine XS.iloadN X0.here hx rfl (hb hby d16_12) rfl ?_
    refine X0.ldcInt hx hown (mvT hZ (wq hw 84 rfl)) (g := (mkF m 13 #[.val (.int 3)] [(.int 3)])) rfl (hb hby d16_13) _ ?_
    refine XS.icmpYes X0.here hx rfl (pc0 := 15) (pc' := 55) rfl (hb hby d16_15) rfl (tlt (by decide)).1 (by decide) (by decide) ?_
    refine XS.iloadN X0.here hx rfl (hb hby d16_55) rfl ?_
    refine XS.iconst X0.here hx rfl (hb hby d16_56) ?_
    refine XS.ishl X0.here hx rfl (hb hby d16_57) rfl ?_
    exact Steps.refl _
  subst hA₀
  obtain ⟨fs, hr, hrun, hended, hW, hsame⟩ := X0.leave (v := some (.int 6)) (fun h => by rw [Bd.returns] at h; cases h)
  refine ⟨_, _, s1.trans ?_, hrun, hended, _, _, rfl, ?_, ⟨_, rfl⟩, hW, hsame.mono (by decide) (by decide)⟩
  · show Steps p.tables e below (s₁.setTop (mkF m 58 #[.val (.int 3)] [(.int 6)])) _
    exact retI X0 hx Bd.returns (hb hby d16_58) hr
  · show Qnl3 Z  h0 n0 _ s₁.heap _
    rw [e0]
    exact ⟨rfl, N0, rfl⟩
theorem pd_rmnf3_0 : parseMethodDescriptor "(I)I" = some ⟨[.int], some .int⟩ := by decide +kernel
theorem ef_rmnf3 (m : MethodId)  : entryFrame m #[(.int 3)] 1 = mkF m 0 #[.val (.int 3)] [] := by first | (simp [entryFrame, mkF, argsToLocals, Value.category]; done) | rfl
def Qnf3 (Z : State)  (h0 : Heap) (n0 : Nat) (v : Option Value) (h : Heap) (L : List Loc) : Prop := ∃ b : Addr, ∃ kb : ClassId, v = some (.ref b) ∧ Fr n0 L ∧ Keep h0 h [] ∧ (Arv Z h b kb .byte 6 [(.int 0), (.int 0), (.int 0), (.int 0), (.int 0), (.int 0)] (.int 0)) ∧ (h0.size ≤ b)
set_option maxRecDepth 65536 in
set_option maxHeartbeats 40000000 in
theorem rmnf3 (l : Launch) (Z : State) (a0 : Array Value) (hw : ∀ d ∈ tables_1, d.before a0 Z = true) (ws : List Jvm.Cond)  (h0 : Heap) (n0 : Nat) (O0 : Old Z n0 h0) :
    MetFree l nm2 (head1 (Jvm.Cond.code nm2 jdk_52_method_2_code 1 (some (.array .byte)) :: ws) ({ frames := 1, cells := 1, slots := 6, locals := 12 } : Room)) (fun a U => a = #[(.int 3)] ∧ Z.Warmed39 U.vm ∧ U.heap = h0) (fun _ _ _ _ _ => True) (fun _ U o U' => ∃ v L, o = .returned v ∧ Qnf3 Z  h0 n0 v U'.heap L ∧ FrameEnd U o U' L ({ frames := 1, cells := 1, slots := 6, locals := 12 } : Room).cells ({ frames := 1, cells := 1, slots := 6, locals := 12 } : Room).slots) := by
  refine MetFree.of_bodySF (plainFor_of_name pn_18) hisR ?_
  intro p e s m args below meth c s₁ Bd hml0 hP hK
  obtain ⟨rfl, hZ, hh⟩ := hP
  have hx := Bd.exec
  have hby := Bd.bytes
  have hml : c.maxLocals = 1 := hml0
  have hown : s.vm.findClass "java/lang/StringUTF16" = some m.cls := findClass_of_methodNamed Bd.named
  have X0 : Stand p l e ({ frames := 1, cells := 1, slots := 6, locals := 12 } : Room) s m #[(.int 3)] below meth c s₁ [] 0 0 := Stand.of_body Bd
  have e0 : s₁.heap = h0 := by rw [← hh, Bd.state]; rfl
  have N0 := Fr.nil n0
  have s0 : Steps p.tables e below (s₁.setTop (entryFrame m #[(.int 3)] 1)) (s₁.setTop (mkF m 0 #[.val (.int 3)] [])) := castTop (ef_rmnf3 m ) (Steps.refl _)
  obtain ⟨A₀, hA₀⟩ : ∃ z, z = (s₁.setTop (entryFrame m #[(.int 3)] 1)) := ⟨_, rfl⟩
  rw [← hA₀] at s0
  obtain ⟨T1, L1, X1, e1, N1, st1⟩ := own_callP X0 hx hZ hown (wk81 hw) (wk82 hw) (wk21 hw) (wk83 hw) (by decide) (rmnl3 l Z a0 hw []  h0 n0 O0 ) e0 N0 (W := 0) (by decide) (by decide) (by decide) (by decide) (g := (mkF m 1 #[.val (.int 3)] [(.int 3)])) rfl (by rw [hml]; rfl) (argsL := [(.int 3)]) (rest := []) (lenOf pd_rmnf3_0 rfl) rfl (by exact Nat.le_refl _) (hb hby d15_1)
  obtain ⟨T2, h2, k2, X2, e2, E2, A2, st2⟩ := newP X1 hx hZ (wq hw 23 rfl) e1 (g := (mkF m 4 #[.val (.int 3)] [(.int 6)])) rfl (hb hby d15_4) rfl (by decide) (cap := 6) (by decide) (by decide) (by decide) (by decide)
  obtain ⟨b2, g2⟩ : ∃ z, z = h0.size := ⟨_, rfl⟩
  rw [← g2] at A2 st2
  have g_b2 : n0 ≤ b2 := Nat.le_trans (Nat.le_of_eq O0.1.symm) (Nat.le_trans O0.2.1 (Nat.le_of_eq g2.symm))
  have sz_b2 : h0.size ≤ b2 := Nat.le_trans (Keep.refl h0 []).1 (Nat.le_of_eq g2.symm)
  have O2 := O0.ext E2
  have K2 : Keep h0 h2 [] := (Keep.refl h0 []).ext E2
  have V2 : Arv Z h2 b2 k2 .byte 6 [(.int 0), (.int 0), (.int 0), (.int 0), (.int 0), (.int 0)] (.int 0) := (Arv.new A2 (by decide)).pad (pad_rep [] (.int 0) 6)
  have s3 : Steps p.tables e below A₀ (T2.setTop (mkF m 6 #[.val (.int 3)] [(.ref b2)])) := by
    refine s0.trans ?_
    refine XS.iloadN X0.here hx rfl (hb hby d15_0) rfl ?_
    refine st1 _ ?_
    refine st2 _ ?_
    exact Steps.refl _
  subst hA₀
  obtain ⟨fs, hr, hrun, hended, hW, hsame⟩ := X2.leave (v := some (.ref b2)) (fun h => by rw [Bd.returns] at h; cases h)
  refine ⟨_, _, s3.trans ?_, hrun, hended, _, _, rfl, ?_, ⟨_, rfl⟩, hW, hsame.mono (by decide) (by decide)⟩
  · show Steps p.tables e below (T2.setTop (mkF m 6 #[.val (.int 3)] [(.ref b2)])) _
    jvm_step X2.here [X2.here.top, hx, (hb hby d15_6), X2.method', Bd.returns, Value.isRef, FieldType.isReference]
    first | (intro acts; rw [hr _ acts rfl rfl rfl]) | rw [hr _ _ rfl rfl rfl]
    exact Steps.refl _
  · show Qnf3 Z  h0 n0 _ T2.heap _
    rw [e2]
    exact ⟨b2, k2, rfl, N1, K2, V2, sz_b2⟩
theorem ef_rmpc3_0 (m : MethodId) (p0 : Addr) (p2 : Int32) : entryFrame m #[(.ref p0), (.int 0), (.int p2)] 3 = mkF m 0 #[.val (.ref p0), .val (.int 0), .val (.int p2)] [] := by first | (simp [entryFrame, mkF, argsToLocals, Value.category]; done) | rfl
def Qpc3_0 (Z : State) (p0 : Addr) (p2 : Int32) (kb : ClassId) (x0 : Int32) (x1 : Int32) (x2 : Int32) (x3 : Int32) (x4 : Int32) (x5 : Int32) (h0 : Heap) (n0 : Nat) (v : Option Value) (h : Heap) (L : List Loc) : Prop := v = none ∧ Fr n0 L ∧ Keep h0 h [p0] ∧ (Arv Z h p0 kb .byte 6 [(.int (((p2 >>> ((0 : Int32) &&& 31)).toInt8.toInt32).toInt8.toInt32)), (.int (((p2 >>> ((8 : Int32) &&& 31)).toInt8.toInt32).toInt8.toInt32)), (.int x2), (.int x3), (.int x4), (.int x5)] (.int 0))
set_option maxRecDepth 65536 in
set_option maxHeartbeats 40000000 in
theorem rmpc3_0 (l : Launch) (Z : State) (a0 : Array Value) (hw : ∀ d ∈ tables_1, d.before a0 Z = true) (ws : List Jvm.Cond) (p0 : Addr) (p2 : Int32) (kb : ClassId) (x0 : Int32) (x1 : Int32) (x2 : Int32) (x3 : Int32) (x4 : Int32) (x5 : Int32) (h0 : Heap) (n0 : Nat) (O0 : Old Z n0 h0) (F0_ : Arv Z h0 p0 kb .byte 6 [(.int x0), (.int x1), (.int x2), (.int x3), (.int x4), (.int x5)] (.int 0)) (F1_ : n0 ≤ p0) (F2_ : Sta Z Z.heap "java/lang/StringUTF16" "$assertionsDisabled" "Z" (.int 1)) (F3_ : Sta Z Z.heap "java/lang/StringUTF16" "HI_BYTE_SHIFT" "I" (.int 0)) (F4_ : Sta Z Z.heap "java/lang/StringUTF16" "LO_BYTE_SHIFT" "I" (.int 8)) :
    MetFree l nm3 (head1 (Jvm.Cond.code nm3 jdk_52_method_4_code 3 none :: ws) ({ frames := 0, cells := 0, slots := 0, locals := 0 } : Room)) (fun a U => a = #[(.ref p0), (.int 0), (.int p2)] ∧ Z.Warmed39 U.vm ∧ U.heap = h0) (fun _ _ _ _ _ => True) (fun _ U o U' => ∃ v L, o = .returned v ∧ Qpc3_0 Z p0 p2 kb x0 x1 x2 x3 x4 x5 h0 n0 v U'.heap L ∧ FrameEnd U o U' L ({ frames := 0, cells := 0, slots := 0, locals := 0 } : Room).cells ({ frames := 0, cells := 0, slots := 0, locals := 0 } : Room).slots) := by
  refine MetFree.of_bodySF (plainFor_of_name pn_18) hisR ?_
  intro p e s m args below meth c s₁ Bd hml0 hP hK
  obtain ⟨rfl, hZ, hh⟩ := hP
  have hx := Bd.exec
  have hby := Bd.bytes
  have hml : c.maxLocals = 3 := hml0
  have hown : s.vm.findClass "java/lang/StringUTF16" = some m.cls := findClass_of_methodNamed Bd.named
  have X0 : Stand p l e ({ frames := 0, cells := 0, slots := 0, locals := 0 } : Room) s m #[(.ref p0), (.int 0), (.int p2)] below meth c s₁ [] 0 0 := Stand.of_body Bd
  have e0 : s₁.heap = h0 := by rw [← hh, Bd.state]; rfl
  have N0 := Fr.nil n0
  have s0 : Steps p.tables e below (s₁.setTop (entryFrame m #[(.ref p0), (.int 0), (.int p2)] 3)) (s₁.setTop (mkF m 0 #[.val (.ref p0), .val (.int 0), .val (.int p2)] [])) := castTop (ef_rmpc3_0 m p0 p2) (Steps.refl _)
  obtain ⟨A₀, hA₀⟩ : ∃ z, z = (s₁.setTop (entryFrame m #[(.ref p0), (.int 0), (.int p2)] 3)) := ⟨_, rfl⟩
  rw [← hA₀] at s0
  obtain ⟨T1, X1, e1, st1⟩ := getS2 X0 hx hZ hown (host := "") (Or.inl (wq hw 88 rfl)) Via.refl e0 (F2_.ext O0.2) (g := (mkF m 0 #[.val (.ref p0), .val (.int 0), .val (.int p2)] [])) rfl (hb hby d17_0)
  obtain ⟨T2, X2, e2, st2⟩ := getS2 X1 hx hZ hown (host := "") (Or.inl (wq hw 89 rfl)) Via.refl e1 (F3_.ext O0.2) (g := (mkF m 38 #[.val (.ref p0), .val (.int 1), .val (.int p2)] [(.int p2), (.int 0), (.ref p0)])) rfl (hb hby d17_38)
  obtain ⟨cla3, Ara3, qa3, Sa3, Za3, Ha3, Ga3⟩ := id F0_
  have hin4 : ¬ ((0 : Int32) < 0 ∨ cla3.slots.size ≤ ((0 : Int32)).toNatClampNeg) := inb_of Sa3 ⟨by decide, by decide⟩
  obtain ⟨T5, h5, X5, e5, W5, st5⟩ := stB X2 hx hZ e2 Ara3 (j := (0 : Int32)) hin4 (g := (mkF m 43 #[.val (.ref p0), .val (.int 1), .val (.int p2)] [(.int ((p2 >>> ((0 : Int32) &&& 31)).toInt8.toInt32)), (.int 0), (.ref p0)])) rfl rfl (hb hby d17_43)
  have O5 := O0.wr W5 F1_
  have K5 : Keep h0 h5 [p0] := (Keep.refl h0 [p0]).wr W5 (Or.inl (List.mem_of_getElem? (i := 0) rfl))
  have N5 := Fr.snoc X5 N0 F1_
  have V5 : Arv Z h5 p0 kb .byte 6 [(.int (((p2 >>> ((0 : Int32) &&& 31)).toInt8.toInt32).toInt8.toInt32)), (.int x1), (.int x2), (.int x3), (.int x4), (.int x5)] (.int 0) := Arv.set Ara3 qa3 Sa3 Za3 Ha3 Ga3 (fits_nar_byte _) W5 0 rfl (Nat.le_of_ble_eq_true rfl)
  obtain ⟨T6, X6, e6, st6⟩ := getS2 X5 hx hZ hown (host := "") (Or.inl (wq hw 90 rfl)) Via.refl e5 (F4_.ext O5.2) (g := (mkF m 47 #[.val (.ref p0), .val (.int 1), .val (.int p2)] [(.int p2), (.int 1), (.ref p0)])) rfl (hb hby d17_47)
  obtain ⟨cla7, Ara7, qa7, Sa7, Za7, Ha7, Ga7⟩ := id V5
  have hin8 : ¬ ((1 : Int32) < 0 ∨ cla7.slots.size ≤ ((1 : Int32)).toNatClampNeg) := inb_of Sa7 ⟨by decide, by decide⟩
  obtain ⟨T9, h9, X9, e9, W9, st9⟩ := stB X6 hx hZ e6 Ara7 (j := (1 : Int32)) hin8 (g := (mkF m 52 #[.val (.ref p0), .val (.int 1), .val (.int p2)] [(.int ((p2 >>> ((8 : Int32) &&& 31)).toInt8.toInt32)), (.int 1), (.ref p0)])) rfl rfl (hb hby d17_52)
  have O9 := O5.wr W9 F1_
  have K9 : Keep h0 h9 [p0] := K5.wr W9 (Or.inl (List.mem_of_getElem? (i := 0) rfl))
  have N9 := Fr.snoc X9 N5 F1_
  have V9 : Arv Z h9 p0 kb .byte 6 [(.int (((p2 >>> ((0 : Int32) &&& 31)).toInt8.toInt32).toInt8.toInt32)), (.int (((p2 >>> ((8 : Int32) &&& 31)).toInt8.toInt32).toInt8.toInt32)), (.int x2), (.int x3), (.int x4), (.int x5)] (.int 0) := Arv.set Ara7 qa7 Sa7 Za7 Ha7 Ga7 (fits_nar_byte _) W9 1 rfl (Nat.le_of_ble_eq_true rfl)
  have s10 : Steps p.tables e below A₀ (T9.setTop (mkF m 53 #[.val (.ref p0), .val (.int 1), .val (.int p2)] [])) := by
    refine s0.trans ?_
    refine st1 _ ?_
    refine XS.ifYes X1.here hx rfl (pc0 := 3) (pc' := 28) rfl (hb hby d17_3) rfl ((if0 _ _).trans (feq (by decide)).2) (by decide) (by decide) ?_
    refine XS.iloadN X1.here hx rfl (hb hby d17_28) rfl ?_
    refine XS.iconst X1.here hx rfl (hb hby d17_29) ?_
    refine XS.ishl X1.here hx rfl (hb hby d17_30) rfl ?_
    refine XS.istoreN X1.here hx rfl (hb hby d17_31) rfl (l' := #[.val (.ref p0), .val (.int 0), .val (.int p2)]) rfl ?_
    refine XS.aloadN X1.here hx rfl (hb hby d17_32) rfl rfl ?_
    refine XS.iloadN X1.here hx rfl (hb hby d17_33) rfl ?_
    show Steps p.tables e below (T1.setTop (mkF m 34 #[.val (.ref p0), .val (.int 0), .val (.int p2)] [(.int 0), (.ref p0)])) _
    refine XS.iinc X1.here hx rfl (hb hby d17_34) rfl (l' := #[.val (.ref p0), .val (.int 1), .val (.int p2)]) rfl ?_
    refine XS.iloadN X1.here hx rfl (hb hby d17_37) rfl ?_
    refine st2 _ ?_
    refine XS.ishr X2.here hx rfl (hb hby d17_41) rfl ?_
    refine XS.i2b X2.here hx rfl (hb hby d17_42) rfl ?_
    refine st5 _ ?_
    refine XS.aloadN X5.here hx rfl (hb hby d17_44) rfl rfl ?_
    refine XS.iloadN X5.here hx rfl (hb hby d17_45) rfl ?_
    refine XS.iloadN X5.here hx rfl (hb hby d17_46) rfl ?_
    refine st6 _ ?_
    show Steps p.tables e below (T6.setTop (mkF m 50 #[.val (.ref p0), .val (.int 1), .val (.int p2)] [(.int 8), (.int p2), (.int 1), (.ref p0)])) _
    refine XS.ishr X6.here hx rfl (hb hby d17_50) rfl ?_
    refine XS.i2b X6.here hx rfl (hb hby d17_51) rfl ?_
    refine st9 _ ?_
    exact Steps.refl _
  subst hA₀
  obtain ⟨fs, hr, hrun, hended, hW, hsame⟩ := X9.leave (v := none) (fun _ => rfl)
  refine ⟨_, _, s10.trans ?_, hrun, hended, _, _, rfl, ?_, ⟨_, rfl⟩, hW, hsame.mono (by decide) (by decide)⟩
  · show Steps p.tables e below (T9.setTop (mkF m 53 #[.val (.ref p0), .val (.int 1), .val (.int p2)] [])) _
    exact X9.returnOut hx Bd.returns (hb hby d17_53) hr
  · show Qpc3_0 Z p0 p2 kb x0 x1 x2 x3 x4 x5 h0 n0 _ T9.heap _
    rw [e9]
    exact ⟨rfl, N9, K9, V9⟩
theorem ef_rmpc3_1 (m : MethodId) (p0 : Addr) (p2 : Int32) : entryFrame m #[(.ref p0), (.int 1), (.int p2)] 3 = mkF m 0 #[.val (.ref p0), .val (.int 1), .val (.int p2)] [] := by first | (simp [entryFrame, mkF, argsToLocals, Value.category]; done) | rfl
def Qpc3_1 (Z : State) (p0 : Addr) (p2 : Int32) (kb : ClassId) (x0 : Int32) (x1 : Int32) (x2 : Int32) (x3 : Int32) (x4 : Int32) (x5 : Int32) (h0 : Heap) (n0 : Nat) (v : Option Value) (h : Heap) (L : List Loc) : Prop := v = none ∧ Fr n0 L ∧ Keep h0 h [p0] ∧ (Arv Z h p0 kb .byte 6 [(.int x0), (.int x1), (.int (((p2 >>> ((0 : Int32) &&& 31)).toInt8.toInt32).toInt8.toInt32)), (.int (((p2 >>> ((8 : Int32) &&& 31)).toInt8.toInt32).toInt8.toInt32)), (.int x4), (.int x5)] (.int 0))
set_option maxRecDepth 65536 in
set_option maxHeartbeats 40000000 in
theorem rmpc3_1 (l : Launch) (Z : State) (a0 : Array Value) (hw : ∀ d ∈ tables_1, d.before a0 Z = true) (ws : List Jvm.Cond) (p0 : Addr) (p2 : Int32) (kb : ClassId) (x0 : Int32) (x1 : Int32) (x2 : Int32) (x3 : Int32) (x4 : Int32) (x5 : Int32) (h0 : Heap) (n0 : Nat) (O0 : Old Z n0 h0) (F0_ : Arv Z h0 p0 kb .byte 6 [(.int x0), (.int x1), (.int x2), (.int x3), (.int x4), (.int x5)] (.int 0)) (F1_ : n0 ≤ p0) (F2_ : Sta Z Z.heap "java/lang/StringUTF16" "$assertionsDisabled" "Z" (.int 1)) (F3_ : Sta Z Z.heap "java/lang/StringUTF16" "HI_BYTE_SHIFT" "I" (.int 0)) (F4_ : Sta Z Z.heap "java/lang/StringUTF16" "LO_BYTE_SHIFT" "I" (.int 8)) :
    MetFree l nm3 (head1 (Jvm.Cond.code nm3 jdk_52_method_4_code 3 none :: ws) ({ frames := 0, cells := 0, slots := 0, locals := 0 } : Room)) (fun a U => a = #[(.ref p0), (.int 1), (.int p2)] ∧ Z.Warmed39 U.vm ∧ U.heap = h0) (fun _ _ _ _ _ => True) (fun _ U o U' => ∃ v L, o = .returned v ∧ Qpc3_1 Z p0 p2 kb x0 x1 x2 x3 x4 x5 h0 n0 v U'.heap L ∧ FrameEnd U o U' L ({ frames := 0, cells := 0, slots := 0, locals := 0 } : Room).cells ({ frames := 0, cells := 0, slots := 0, locals := 0 } : Room).slots) := by
  refine MetFree.of_bodySF (plainFor_of_name pn_18) hisR ?_
  intro p e s m args below meth c s₁ Bd hml0 hP hK
  obtain ⟨rfl, hZ, hh⟩ := hP
  have hx := Bd.exec
  have hby := Bd.bytes
  have hml : c.maxLocals = 3 := hml0
  have hown : s.vm.findClass "java/lang/StringUTF16" = some m.cls := findClass_of_methodNamed Bd.named
  have X0 : Stand p l e ({ frames := 0, cells := 0, slots := 0, locals := 0 } : Room) s m #[(.ref p0), (.int 1), (.int p2)] below meth c s₁ [] 0 0 := Stand.of_body Bd
  have e0 : s₁.heap = h0 := by rw [← hh, Bd.state]; rfl
  have N0 := Fr.nil n0
  have s0 : Steps p.tables e below (s₁.setTop (entryFrame m #[(.ref p0), (.int 1), (.int p2)] 3)) (s₁.setTop (mkF m 0 #[.val (.ref p0), .val (.int 1), .val (.int p2)] [])) := castTop (ef_rmpc3_1 m p0 p2) (Steps.refl _)
  obtain ⟨A₀, hA₀⟩ : ∃ z, z = (s₁.setTop (entryFrame m #[(.ref p0), (.int 1), (.int p2)] 3)) := ⟨_, rfl⟩
  rw [← hA₀] at s0
  obtain ⟨T1, X1, e1, st1⟩ := getS2 X0 hx hZ hown (host := "") (Or.inl (wq hw 88 rfl)) Via.refl e0 (F2_.ext O0.2) (g := (mkF m 0 #[.val (.ref p0), .val (.int 1), .val (.int p2)] [])) rfl (hb hby d17_0)
  obtain ⟨T2, X2, e2, st2⟩ := getS2 X1 hx hZ hown (host := "") (Or.inl (wq hw 89 rfl)) Via.refl e1 (F3_.ext O0.2) (g := (mkF m 38 #[.val (.ref p0), .val (.int 3), .val (.int p2)] [(.int p2), (.int 2), (.ref p0)])) rfl (hb hby d17_38)
  obtain ⟨cla3, Ara3, qa3, Sa3, Za3, Ha3, Ga3⟩ := id F0_
  have hin4 : ¬ ((2 : Int32) < 0 ∨ cla3.slots.size ≤ ((2 : Int32)).toNatClampNeg) := inb_of Sa3 ⟨by decide, by decide⟩
  obtain ⟨T5, h5, X5, e5, W5, st5⟩ := stB X2 hx hZ e2 Ara3 (j := (2 : Int32)) hin4 (g := (mkF m 43 #[.val (.ref p0), .val (.int 3), .val (.int p2)] [(.int ((p2 >>> ((0 : Int32) &&& 31)).toInt8.toInt32)), (.int 2), (.ref p0)])) rfl rfl (hb hby d17_43)
  have O5 := O0.wr W5 F1_
  have K5 : Keep h0 h5 [p0] := (Keep.refl h0 [p0]).wr W5 (Or.inl (List.mem_of_getElem? (i := 0) rfl))
  have N5 := Fr.snoc X5 N0 F1_
  have V5 : Arv Z h5 p0 kb .byte 6 [(.int x0), (.int x1), (.int (((p2 >>> ((0 : Int32) &&& 31)).toInt8.toInt32).toInt8.toInt32)), (.int x3), (.int x4), (.int x5)] (.int 0) := Arv.set Ara3 qa3 Sa3 Za3 Ha3 Ga3 (fits_nar_byte _) W5 2 rfl (Nat.le_of_ble_eq_true rfl)
  obtain ⟨T6, X6, e6, st6⟩ := getS2 X5 hx hZ hown (host := "") (Or.inl (wq hw 90 rfl)) Via.refl e5 (F4_.ext O5.2) (g := (mkF m 47 #[.val (.ref p0), .val (.int 3), .val (.int p2)] [(.int p2), (.int 3), (.ref p0)])) rfl (hb hby d17_47)
  obtain ⟨cla7, Ara7, qa7, Sa7, Za7, Ha7, Ga7⟩ := id V5
  have hin8 : ¬ ((3 : Int32) < 0 ∨ cla7.slots.size ≤ ((3 : Int32)).toNatClampNeg) := inb_of Sa7 ⟨by decide, by decide⟩
  obtain ⟨T9, h9, X9, e9, W9, st9⟩ := stB X6 hx hZ e6 Ara7 (j := (3 : Int32)) hin8 (g := (mkF m 52 #[.val (.ref p0), .val (.int 3), .val (.int p2)] [(.int ((p2 >>> ((8 : Int32) &&& 31)).toInt8.toInt32)), (.int 3), (.ref p0)])) rfl rfl (hb hby d17_52)
  have O9 := O5.wr W9 F1_
  have K9 : Keep h0 h9 [p0] := K5.wr W9 (Or.inl (List.mem_of_getElem? (i := 0) rfl))
  have N9 := Fr.snoc X9 N5 F1_
  have V9 : Arv Z h9 p0 kb .byte 6 [(.int x0), (.int x1), (.int (((p2 >>> ((0 : Int32) &&& 31)).toInt8.toInt32).toInt8.toInt32)), (.int (((p2 >>> ((8 : Int32) &&& 31)).toInt8.toInt32).toInt8.toInt32)), (.int x4), (.int x5)] (.int 0) := Arv.set Ara7 qa7 Sa7 Za7 Ha7 Ga7 (fits_nar_byte _) W9 3 rfl (Nat.le_of_ble_eq_true rfl)
  have s10 : Steps p.tables e below A₀ (T9.setTop (mkF m 53 #[.val (.ref p0), .val (.int 3), .val (.int p2)] [])) := by
    refine s0.trans ?_
    refine st1 _ ?_
    refine XS.ifYes X1.here hx rfl (pc0 := 3) (pc' := 28) rfl (hb hby d17_3) rfl ((if0 _ _).trans (feq (by decide)).2) (by decide) (by decide) ?_
    refine XS.iloadN X1.here hx rfl (hb hby d17_28) rfl ?_
    refine XS.iconst X1.here hx rfl (hb hby d17_29) ?_
    refine XS.ishl X1.here hx rfl (hb hby d17_30) rfl ?_
    refine XS.istoreN X1.here hx rfl (hb hby d17_31) rfl (l' := #[.val (.ref p0), .val (.int 2), .val (.int p2)]) rfl ?_
    refine XS.aloadN X1.here hx rfl (hb hby d17_32) rfl rfl ?_
    refine XS.iloadN X1.here hx rfl (hb hby d17_33) rfl ?_
    show Steps p.tables e below (T1.setTop (mkF m 34 #[.val (.ref p0), .val (.int 2), .val (.int p2)] [(.int 2), (.ref p0)])) _
    refine XS.iinc X1.here hx rfl (hb hby d17_34) rfl (l' := #[.val (.ref p0), .val (.int 3), .val (.int p2)]) rfl ?_
    refine XS.iloadN X1.here hx rfl (hb hby d17_37) rfl ?_
    refine st2 _ ?_
    refine XS.ishr X2.here hx rfl (hb hby d17_41) rfl ?_
    refine XS.i2b X2.here hx rfl (hb hby d17_42) rfl ?_
    refine st5 _ ?_
    refine XS.aloadN X5.here hx rfl (hb hby d17_44) rfl rfl ?_
    refine XS.iloadN X5.here hx rfl (hb hby d17_45) rfl ?_
    refine XS.iloadN X5.here hx rfl (hb hby d17_46) rfl ?_
    refine st6 _ ?_
    show Steps p.tables e below (T6.setTop (mkF m 50 #[.val (.ref p0), .val (.int 3), .val (.int p2)] [(.int 8), (.int p2), (.int 3), (.ref p0)])) _
    refine XS.ishr X6.here hx rfl (hb hby d17_50) rfl ?_
    refine XS.i2b X6.here hx rfl (hb hby d17_51) rfl ?_
    refine st9 _ ?_
    exact Steps.refl _
  subst hA₀
  obtain ⟨fs, hr, hrun, hended, hW, hsame⟩ := X9.leave (v := none) (fun _ => rfl)
  refine ⟨_, _, s10.trans ?_, hrun, hended, _, _, rfl, ?_, ⟨_, rfl⟩, hW, hsame.mono (by decide) (by decide)⟩
  · show Steps p.tables e below (T9.setTop (mkF m 53 #[.val (.ref p0), .val (.int 3), .val (.int p2)] [])) _
    exact X9.returnOut hx Bd.returns (hb hby d17_53) hr
  · show Qpc3_1 Z p0 p2 kb x0 x1 x2 x3 x4 x5 h0 n0 _ T9.heap _
    rw [e9]
    exact ⟨rfl, N9, K9, V9⟩
theorem ef_rmpc3_2 (m : MethodId) (p0 : Addr) (p2 : Int32) : entryFrame m #[(.ref p0), (.int 2), (.int p2)] 3 = mkF m 0 #[.val (.ref p0), .val (.int 2), .val (.int p2)] [] := by first | (simp [entryFrame, mkF, argsToLocals, Value.category]; done) | rfl
def Qpc3_2 (Z : State) (p0 : Addr) (p2 : Int32) (kb : ClassId) (x0 : Int32) (x1 : Int32) (x2 : Int32) (x3 : Int32) (x4 : Int32) (x5 : Int32) (h0 : Heap) (n0 : Nat) (v : Option Value) (h : Heap) (L : List Loc) : Prop := v = none ∧ Fr n0 L ∧ Keep h0 h [p0] ∧ (Arv Z h p0 kb .byte 6 [(.int x0), (.int x1), (.int x2), (.int x3), (.int (((p2 >>> ((0 : Int32) &&& 31)).toInt8.toInt32).toInt8.toInt32)), (.int (((p2 >>> ((8 : Int32) &&& 31)).toInt8.toInt32).toInt8.toInt32))] (.int 0))
set_option maxRecDepth 65536 in
set_option maxHeartbeats 40000000 in
theorem rmpc3_2 (l : Launch) (Z : State) (a0 : Array Value) (hw : ∀ d ∈ tables_1, d.before a0 Z = true) (ws : List Jvm.Cond) (p0 : Addr) (p2 : Int32) (kb : ClassId) (x0 : Int32) (x1 : Int32) (x2 : Int32) (x3 : Int32) (x4 : Int32) (x5 : Int32) (h0 : Heap) (n0 : Nat) (O0 : Old Z n0 h0) (F0_ : Arv Z h0 p0 kb .byte 6 [(.int x0), (.int x1), (.int x2), (.int x3), (.int x4), (.int x5)] (.int 0)) (F1_ : n0 ≤ p0) (F2_ : Sta Z Z.heap "java/lang/StringUTF16" "$assertionsDisabled" "Z" (.int 1)) (F3_ : Sta Z Z.heap "java/lang/StringUTF16" "HI_BYTE_SHIFT" "I" (.int 0)) (F4_ : Sta Z Z.heap "java/lang/StringUTF16" "LO_BYTE_SHIFT" "I" (.int 8)) :
    MetFree l nm3 (head1 (Jvm.Cond.code nm3 jdk_52_method_4_code 3 none :: ws) ({ frames := 0, cells := 0, slots := 0, locals := 0 } : Room)) (fun a U => a = #[(.ref p0), (.int 2), (.int p2)] ∧ Z.Warmed39 U.vm ∧ U.heap = h0) (fun _ _ _ _ _ => True) (fun _ U o U' => ∃ v L, o = .returned v ∧ Qpc3_2 Z p0 p2 kb x0 x1 x2 x3 x4 x5 h0 n0 v U'.heap L ∧ FrameEnd U o U' L ({ frames := 0, cells := 0, slots := 0, locals := 0 } : Room).cells ({ frames := 0, cells := 0, slots := 0, locals := 0 } : Room).slots) := by
  refine MetFree.of_bodySF (plainFor_of_name pn_18) hisR ?_
  intro p e s m args below meth c s₁ Bd hml0 hP hK
  obtain ⟨rfl, hZ, hh⟩ := hP
  have hx := Bd.exec
  have hby := Bd.bytes
  have hml : c.maxLocals = 3 := hml0
  have hown : s.vm.findClass "java/lang/StringUTF16" = some m.cls := findClass_of_methodNamed Bd.named
  have X0 : Stand p l e ({ frames := 0, cells := 0, slots := 0, locals := 0 } : Room) s m #[(.ref p0), (.int 2), (.int p2)] below meth c s₁ [] 0 0 := Stand.of_body Bd
  have e0 : s₁.heap = h0 := by rw [← hh, Bd.state]; rfl
  have N0 := Fr.nil n0
  have s0 : Steps p.tables e below (s₁.setTop (entryFrame m #[(.ref p0), (.int 2), (.int p2)] 3)) (s₁.setTop (mkF m 0 #[.val (.ref p0), .val (.int 2), .val (.int p2)] [])) := castTop (ef_rmpc3_2 m p0 p2) (Steps.refl _)
  obtain ⟨A₀, hA₀⟩ : ∃ z, z = (s₁.setTop (entryFrame m #[(.ref p0), (.int 2), (.int p2)] 3)) := ⟨_, rfl⟩
  rw [← hA₀] at s0
  obtain ⟨T1, X1, e1, st1⟩ := getS2 X0 hx hZ hown (host := "") (Or.inl (wq hw 88 rfl)) Via.refl e0 (F2_.ext O0.2) (g := (mkF m 0 #[.val (.ref p0), .val (.int 2), .val (.int p2)] [])) rfl (hb hby d17_0)
  obtain ⟨T2, X2, e2, st2⟩ := getS2 X1 hx hZ hown (host := "") (Or.inl (wq hw 89 rfl)) Via.refl e1 (F3_.ext O0.2) (g := (mkF m 38 #[.val (.ref p0), .val (.int 5), .val (.int p2)] [(.int p2), (.int 4), (.ref p0)])) rfl (hb hby d17_38)
  obtain ⟨cla3, Ara3, qa3, Sa3, Za3, Ha3, Ga3⟩ := id F0_
  have hin4 : ¬ ((4 : Int32) < 0 ∨ cla3.slots.size ≤ ((4 : Int32)).toNatClampNeg) := inb_of Sa3 ⟨by decide, by decide⟩
  obtain ⟨T5, h5, X5, e5, W5, st5⟩ := stB X2 hx hZ e2 Ara3 (j := (4 : Int32)) hin4 (g := (mkF m 43 #[.val (.ref p0), .val (.int 5), .val (.int p2)] [(.int ((p2 >>> ((0 : Int32) &&& 31)).toInt8.toInt32)), (.int 4), (.ref p0)])) rfl rfl (hb hby d17_43)
  have O5 := O0.wr W5 F1_
  have K5 : Keep h0 h5 [p0] := (Keep.refl h0 [p0]).wr W5 (Or.inl (List.mem_of_getElem? (i := 0) rfl))
  have N5 := Fr.snoc X5 N0 F1_
  have V5 : Arv Z h5 p0 kb .byte 6 [(.int x0), (.int x1), (.int x2), (.int x3), (.int (((p2 >>> ((0 : Int32) &&& 31)).toInt8.toInt32).toInt8.toInt32)), (.int x5)] (.int 0) := Arv.set Ara3 qa3 Sa3 Za3 Ha3 Ga3 (fits_nar_byte _) W5 4 rfl (Nat.le_of_ble_eq_true rfl)
  obtain ⟨T6, X6, e6, st6⟩ := getS2 X5 hx hZ hown (host := "") (Or.inl (wq hw 90 rfl)) Via.refl e5 (F4_.ext O5.2) (g := (mkF m 47 #[.val (.ref p0), .val (.int 5), .val (.int p2)] [(.int p2), (.int 5), (.ref p0)])) rfl (hb hby d17_47)
  obtain ⟨cla7, Ara7, qa7, Sa7, Za7, Ha7, Ga7⟩ := id V5
  have hin8 : ¬ ((5 : Int32) < 0 ∨ cla7.slots.size ≤ ((5 : Int32)).toNatClampNeg) := inb_of Sa7 ⟨by decide, by decide⟩
  obtain ⟨T9, h9, X9, e9, W9, st9⟩ := stB X6 hx hZ e6 Ara7 (j := (5 : Int32)) hin8 (g := (mkF m 52 #[.val (.ref p0), .val (.int 5), .val (.int p2)] [(.int ((p2 >>> ((8 : Int32) &&& 31)).toInt8.toInt32)), (.int 5), (.ref p0)])) rfl rfl (hb hby d17_52)
  have O9 := O5.wr W9 F1_
  have K9 : Keep h0 h9 [p0] := K5.wr W9 (Or.inl (List.mem_of_getElem? (i := 0) rfl))
  have N9 := Fr.snoc X9 N5 F1_
  have V9 : Arv Z h9 p0 kb .byte 6 [(.int x0), (.int x1), (.int x2), (.int x3), (.int (((p2 >>> ((0 : Int32) &&& 31)).toInt8.toInt32).toInt8.toInt32)), (.int (((p2 >>> ((8 : Int32) &&& 31)).toInt8.toInt32).toInt8.toInt32))] (.int 0) := Arv.set Ara7 qa7 Sa7 Za7 Ha7 Ga7 (fits_nar_byte _) W9 5 rfl (Nat.le_of_ble_eq_true rfl)
  have s10 : Steps p.tables e below A₀ (T9.setTop (mkF m 53 #[.val (.ref p0), .val (.int 5), .val (.int p2)] [])) := by
    refine s0.trans ?_
    refine st1 _ ?_
    refine XS.ifYes X1.here hx rfl (pc0 := 3) (pc' := 28) rfl (hb hby d17_3) rfl ((if0 _ _).trans (feq (by decide)).2) (by decide) (by decide) ?_
    refine XS.iloadN X1.here hx rfl (hb hby d17_28) rfl ?_
    refine XS.iconst X1.here hx rfl (hb hby d17_29) ?_
    refine XS.ishl X1.here hx rfl (hb hby d17_30) rfl ?_
    refine XS.istoreN X1.here hx rfl (hb hby d17_31) rfl (l' := #[.val (.ref p0), .val (.int 4), .val (.int p2)]) rfl ?_
    refine XS.aloadN X1.here hx rfl (hb hby d17_32) rfl rfl ?_
    refine XS.iloadN X1.here hx rfl (hb hby d17_33) rfl ?_
    show Steps p.tables e below (T1.setTop (mkF m 34 #[.val (.ref p0), .val (.int 4), .val (.int p2)] [(.int 4), (.ref p0)])) _
    refine XS.iinc X1.here hx rfl (hb hby d17_34) rfl (l' := #[.val (.ref p0), .val (.int 5), .val (.int p2)]) rfl ?_
    refine XS.iloadN X1.here hx rfl (hb hby d17_37) rfl ?_
    refine st2 _ ?_
    refine XS.ishr X2.here hx rfl (hb hby d17_41) rfl ?_
    refine XS.i2b X2.here hx rfl (hb hby d17_42) rfl ?_
    refine st5 _ ?_
    refine XS.aloadN X5.here hx rfl (hb hby d17_44) rfl rfl ?_
    refine XS.iloadN X5.here hx rfl (hb hby d17_45) rfl ?_
    refine XS.iloadN X5.here hx rfl (hb hby d17_46) rfl ?_
    refine st6 _ ?_
    show Steps p.tables e below (T6.setTop (mkF m 50 #[.val (.ref p0), .val (.int 5), .val (.int p2)] [(.int 8), (.int p2), (.int 5), (.ref p0)])) _
    refine XS.ishr X6.here hx rfl (hb hby d17_50) rfl ?_
    refine XS.i2b X6.here hx rfl (hb hby d17_51) rfl ?_
    refine st9 _ ?_
    exact Steps.refl _
  subst hA₀
  obtain ⟨fs, hr, hrun, hended, hW, hsame⟩ := X9.leave (v := none) (fun _ => rfl)
  refine ⟨_, _, s10.trans ?_, hrun, hended, _, _, rfl, ?_, ⟨_, rfl⟩, hW, hsame.mono (by decide) (by decide)⟩
  · show Steps p.tables e below (T9.setTop (mkF m 53 #[.val (.ref p0), .val (.int 5), .val (.int p2)] [])) _
    exact X9.returnOut hx Bd.returns (hb hby d17_53) hr
  · show Qpc3_2 Z p0 p2 kb x0 x1 x2 x3 x4 x5 h0 n0 _ T9.heap _
    rw [e9]
    exact ⟨rfl, N9, K9, V9⟩
theorem pd_rmtb3_0 : parseMethodDescriptor "(I)[B" = some ⟨[.int], some (.array .byte)⟩ := by decide +kernel
theorem pd_rmtb3_1 : parseMethodDescriptor "([BII)V" = some ⟨[(.array .byte), .int, .int], none⟩ := by decide +kernel
theorem ef_rmtb3 (m : MethodId) (p0 : Addr) : entryFrame m #[(.ref p0), (.int 0), (.int 3)] 5 = mkF m 0 #[.val (.ref p0), .val (.int 0), .val (.int 3), .unset, .unset] [] := by first | (simp [entryFrame, mkF, argsToLocals, Value.category]; done) | rfl
def Qtb3 (Z : State) (p0 : Addr) (kc : ClassId) (c0 : Int32) (c1 : Int32) (c2 : Int32) (h0 : Heap) (n0 : Nat) (v : Option Value) (h : Heap) (L : List Loc) : Prop := ∃ b : Addr, ∃ kb : ClassId, v = some (.ref b) ∧ Fr n0 L ∧ Keep h0 h [] ∧ (Arv Z h b kb .byte 6 [(.int (((c0 >>> ((0 : Int32) &&& 31)).toInt8.toInt32).toInt8.toInt32)), (.int (((c0 >>> ((8 : Int32) &&& 31)).toInt8.toInt32).toInt8.toInt32)), (.int (((c1 >>> ((0 : Int32) &&& 31)).toInt8.toInt32).toInt8.toInt32)), (.int (((c1 >>> ((8 : Int32) &&& 31)).toInt8.toInt32).toInt8.toInt32)), (.int (((c2 >>> ((0 : Int32) &&& 31)).toInt8.toInt32).toInt8.toInt32)), (.int (((c2 >>> ((8 : Int32) &&& 31)).toInt8.toInt32).toInt8.toInt32))] (.int 0)) ∧ (h0.size ≤ b)
set_option maxRecDepth 65536 in
set_option maxHeartbeats 40000000 in
theorem rmtb3 (l : Launch) (Z : State) (a0 : Array Value) (hw : ∀ d ∈ tables_1, d.before a0 Z = true) (ws : List Jvm.Cond) (p0 : Addr) (kc : ClassId) (c0 : Int32) (c1 : Int32) (c2 : Int32) (h0 : Heap) (n0 : Nat) (O0 : Old Z n0 h0) (F0_ : Arv Z h0 p0 kc .char 3 [(.int c0), (.int c1), (.int c2)] (.int 0)) (F1_ : Sta Z Z.heap "java/lang/StringUTF16" "$assertionsDisabled" "Z" (.int 1)) (F2_ : Sta Z Z.heap "java/lang/StringUTF16" "HI_BYTE_SHIFT" "I" (.int 0)) (F3_ : Sta Z Z.heap "java/lang/StringUTF16" "LO_BYTE_SHIFT" "I" (.int 8)) :
    MetFree l nm4 (head1 (Jvm.Cond.code nm4 jdk_52_method_14_code 5 (some (.array .byte)) :: ws) ({ frames := 2, cells := 1, slots := 6, locals := 24 } : Room)) (fun a U => a = #[(.ref p0), (.int 0), (.int 3)] ∧ Z.Warmed39 U.vm ∧ U.heap = h0) (fun _ _ _ _ _ => True) (fun _ U o U' => ∃ v L, o = .returned v ∧ Qtb3 Z p0 kc c0 c1 c2 h0 n0 v U'.heap L ∧ FrameEnd U o U' L ({ frames := 2, cells := 1, slots := 6, locals := 24 } : Room).cells ({ frames := 2, cells := 1, slots := 6, locals := 24 } : Room).slots) := by
  refine MetFree.of_bodySF (plainFor_of_name pn_18) hisR ?_
  intro p e s m args below meth c s₁ Bd hml0 hP hK
  obtain ⟨rfl, hZ, hh⟩ := hP
  have hx := Bd.exec
  have hby := Bd.bytes
  have hml : c.maxLocals = 5 := hml0
  have hown : s.vm.findClass "java/lang/StringUTF16" = some m.cls := findClass_of_methodNamed Bd.named
  have X0 : Stand p l e ({ frames := 2, cells := 1, slots := 6, locals := 24 } : Room) s m #[(.ref p0), (.int 0), (.int 3)] below meth c s₁ [] 0 0 := Stand.of_body Bd
  have e0 : s₁.heap = h0 := by rw [← hh, Bd.state]; rfl
  have N0 := Fr.nil n0
  have s0 : Steps p.tables e below (s₁.setTop (entryFrame m #[(.ref p0), (.int 0), (.int 3)] 5)) (s₁.setTop (mkF m 0 #[.val (.ref p0), .val (.int 0), .val (.int 3), .unset, .unset] [])) := castTop (ef_rmtb3 m p0) (Steps.refl _)
  obtain ⟨A₀, hA₀⟩ : ∃ z, z = (s₁.setTop (entryFrame m #[(.ref p0), (.int 0), (.int 3)] 5)) := ⟨_, rfl⟩
  rw [← hA₀] at s0
  obtain ⟨_, _, ⟨T1, L1, k1, n1⟩, -, X1, ⟨Lc1, hQ1, l1, y1, z1⟩, st1⟩ := Jvm.LawKit.callS X0 hx (y := (⟨"java/lang/StringUTF16", "newBytesFor", "(I)[B"⟩ : MethodName)) hown (mvT hZ (wq hw 78 rfl)) (mvT hZ (wq hw 79 rfl)) (mvT hZ (wq hw 21 rfl)) (mvT hZ (wq hw 80 rfl)) (by decide) (backOf (W := 0) (rmnf3 l Z a0 hw []  h0 n0 O0 ) hZ (wq hw 80 rfl) (wq hw 21 rfl) (by decide) (by decide)) (g := (mkF m 1 #[.val (.ref p0), .val (.int 0), .val (.int 3), .unset, .unset] [(.int 3)])) rfl (by rw [hml]; rfl) (argsL := [(.int 3)]) (rest := []) (lenOf pd_rmtb3_0 rfl) rfl (by exact Nat.le_refl _) (hb hby d14_1) (fun _ _ => ⟨rfl, e0, (by decide : 0 + 1 ≤ _), (by decide : 0 + 6 ≤ _)⟩)
  dsimp only [Pt.U, Pt.locs, Pt.cells, Pt.slots] at X1 l1 y1 z1 st1 hQ1
  subst l1 y1 z1
  obtain ⟨u2, u3, rfl, Nq1, Kc1, f1_0, f1_1⟩ := hQ1
  have N1 := Fr.app N0 Nq1
  have ne_p0_u2 : p0 ≠ u2 := Nat.ne_of_lt (Nat.lt_of_lt_of_le F0_.lt f1_1)
  have g_u2 : n0 ≤ u2 := Nat.le_trans (Nat.le_of_eq O0.1.symm) (Nat.le_trans O0.2.1 f1_1)
  have sz_u2 : h0.size ≤ u2 := Nat.le_trans (Keep.refl h0 []).1 f1_1
  have K1 : Keep h0 T1.heap [] := (Keep.refl h0 []).trans Kc1 all0
  have O1 := O0.keep Kc1 all0
  have c4 : Arv Z T1.heap p0 kc .char 3 [(.int c0), (.int c1), (.int c2)] (.int 0) := (F0_.keep Kc1 nin0)
  obtain ⟨cla5, Ara5, qa5, Sa5, Za5, Ha5, Ga5⟩ := id c4
  have hin6 : ¬ ((0 : Int32) < 0 ∨ cla5.slots.size ≤ ((0 : Int32)).toNatClampNeg) := inb_of Sa5 ⟨by decide, by decide⟩
  have hat7 : cla5.slots[((0 : Int32)).toNatClampNeg]? = some (.int c0) := Has.at Ha5 hin6 rfl
  obtain ⟨_, _, ⟨T8, L8, k8, n8⟩, -, X8, ⟨Lc8, hQ8, l8, y8, z8⟩, st8⟩ := Jvm.LawKit.callS X1 hx (y := (⟨"java/lang/StringUTF16", "putChar", "([BII)V"⟩ : MethodName)) hown (mvT hZ (wq hw 85 rfl)) (mvT hZ (wq hw 86 rfl)) (mvT hZ (wq hw 21 rfl)) (mvT hZ (wq hw 87 rfl)) (by decide) (backOf (W := 0) (rmpc3_0 l Z a0 hw [] u2 c0 u3 (0 : Int32) (0 : Int32) (0 : Int32) (0 : Int32) (0 : Int32) (0 : Int32) T1.heap n0 O1 f1_0 g_u2 F1_ F2_ F3_) hZ (wq hw 87 rfl) (wq hw 21 rfl) (by decide) (by decide)) (g := (mkF m 20 #[.val (.ref p0), .val (.int 0), .val (.int 3), .val (.ref u2), .val (.int 0)] [(.int c0), (.int 0), (.ref u2)])) rfl (by rw [hml]; rfl) (argsL := [(.ref u2), (.int 0), (.int c0)]) (rest := []) (lenOf pd_rmtb3_1 rfl) rfl (by exact Nat.le_refl _) (hb hby d14_20) (fun _ _ => ⟨rfl, (rfl : T1.heap = T1.heap), (by decide : 1 + 0 ≤ _), (by decide : 6 + 0 ≤ _)⟩)
  dsimp only [Pt.U, Pt.locs, Pt.cells, Pt.slots] at X8 l8 y8 z8 st8 hQ8
  subst l8 y8 z8
  obtain ⟨rfl, Nq8, Kc8, f8_0⟩ := hQ8
  have N8 := Fr.app N1 Nq8
  have K8 : Keep h0 T8.heap [] := K1.trans Kc8 (allS (Or.inr sz_u2) all0)
  have O8 := O1.keep Kc8 (allS g_u2 all0)
  have c9 : Arv Z T8.heap p0 kc .char 3 [(.int c0), (.int c1), (.int c2)] (.int 0) := (c4.keep Kc8 (ninS ne_p0_u2 nin0))
  obtain ⟨cla10, Ara10, qa10, Sa10, Za10, Ha10, Ga10⟩ := id c9
  have hin11 : ¬ ((1 : Int32) < 0 ∨ cla10.slots.size ≤ ((1 : Int32)).toNatClampNeg) := inb_of Sa10 ⟨by decide, by decide⟩
  have hat12 : cla10.slots[((1 : Int32)).toNatClampNeg]? = some (.int c1) := Has.at Ha10 hin11 rfl
  obtain ⟨_, _, ⟨T13, L13, k13, n13⟩, -, X13, ⟨Lc13, hQ13, l13, y13, z13⟩, st13⟩ := Jvm.LawKit.callS X8 hx (y := (⟨"java/lang/StringUTF16", "putChar", "([BII)V"⟩ : MethodName)) hown (mvT hZ (wq hw 85 rfl)) (mvT hZ (wq hw 86 rfl)) (mvT hZ (wq hw 21 rfl)) (mvT hZ (wq hw 87 rfl)) (by decide) (backOf (W := 0) (rmpc3_1 l Z a0 hw [] u2 c1 u3 (((c0 >>> ((0 : Int32) &&& 31)).toInt8.toInt32).toInt8.toInt32) (((c0 >>> ((8 : Int32) &&& 31)).toInt8.toInt32).toInt8.toInt32) (0 : Int32) (0 : Int32) (0 : Int32) (0 : Int32) T8.heap n0 O8 f8_0 g_u2 F1_ F2_ F3_) hZ (wq hw 87 rfl) (wq hw 21 rfl) (by decide) (by decide)) (g := (mkF m 20 #[.val (.ref p0), .val (.int 1), .val (.int 3), .val (.ref u2), .val (.int 1)] [(.int c1), (.int 1), (.ref u2)])) rfl (by rw [hml]; rfl) (argsL := [(.ref u2), (.int 1), (.int c1)]) (rest := []) (lenOf pd_rmtb3_1 rfl) rfl (by exact Nat.le_refl _) (hb hby d14_20) (fun _ _ => ⟨rfl, (rfl : T8.heap = T8.heap), (by decide : 1 + 0 ≤ _), (by decide : 6 + 0 ≤ _)⟩)
  dsimp only [Pt.U, Pt.locs, Pt.cells, Pt.slots] at X13 l13 y13 z13 st13 hQ13
  subst l13 y13 z13
  obtain ⟨rfl, Nq13, Kc13, f13_0⟩ := hQ13
  have N13 := Fr.app N8 Nq13
  have K13 : Keep h0 T13.heap [] := K8.trans Kc13 (allS (Or.inr sz_u2) all0)
  have O13 := O8.keep Kc13 (allS g_u2 all0)
  have c14 : Arv Z T13.heap p0 kc .char 3 [(.int c0), (.int c1), (.int c2)] (.int 0) := (c9.keep Kc13 (ninS ne_p0_u2 nin0))
  obtain ⟨cla15, Ara15, qa15, Sa15, Za15, Ha15, Ga15⟩ := id c14
  have hin16 : ¬ ((2 : Int32) < 0 ∨ cla15.slots.size ≤ ((2 : Int32)).toNatClampNeg) := inb_of Sa15 ⟨by decide, by decide⟩
  have hat17 : cla15.slots[((2 : Int32)).toNatClampNeg]? = some (.int c2) := Has.at Ha15 hin16 rfl
  obtain ⟨_, _, ⟨T18, L18, k18, n18⟩, -, X18, ⟨Lc18, hQ18, l18, y18, z18⟩, st18⟩ := Jvm.LawKit.callS X13 hx (y := (⟨"java/lang/StringUTF16", "putChar", "([BII)V"⟩ : MethodName)) hown (mvT hZ (wq hw 85 rfl)) (mvT hZ (wq hw 86 rfl)) (mvT hZ (wq hw 21 rfl)) (mvT hZ (wq hw 87 rfl)) (by decide) (backOf (W := 0) (rmpc3_2 l Z a0 hw [] u2 c2 u3 (((c0 >>> ((0 : Int32) &&& 31)).toInt8.toInt32).toInt8.toInt32) (((c0 >>> ((8 : Int32) &&& 31)).toInt8.toInt32).toInt8.toInt32) (((c1 >>> ((0 : Int32) &&& 31)).toInt8.toInt32).toInt8.toInt32) (((c1 >>> ((8 : Int32) &&& 31)).toInt8.toInt32).toInt8.toInt32) (0 : Int32) (0 : Int32) T13.heap n0 O13 f13_0 g_u2 F1_ F2_ F3_) hZ (wq hw 87 rfl) (wq hw 21 rfl) (by decide) (by decide)) (g := (mkF m 20 #[.val (.ref p0), .val (.int 2), .val (.int 3), .val (.ref u2), .val (.int 2)] [(.int c2), (.int 2), (.ref u2)])) rfl (by rw [hml]; rfl) (argsL := [(.ref u2), (.int 2), (.int c2)]) (rest := []) (lenOf pd_rmtb3_1 rfl) rfl (by exact Nat.le_refl _) (hb hby d14_20) (fun _ _ => ⟨rfl, (rfl : T13.heap = T13.heap), (by decide : 1 + 0 ≤ _), (by decide : 6 + 0 ≤ _)⟩)
  dsimp only [Pt.U, Pt.locs, Pt.cells, Pt.slots] at X18 l18 y18 z18 st18 hQ18
  subst l18 y18 z18
  obtain ⟨rfl, Nq18, Kc18, f18_0⟩ := hQ18
  have N18 := Fr.app N13 Nq18
  have K18 : Keep h0 T18.heap [] := K13.trans Kc18 (allS (Or.inr sz_u2) all0)
  have O18 := O13.keep Kc18 (allS g_u2 all0)
  have s19 : Steps p.tables e below A₀ (T18.setTop (mkF m 33 #[.val (.ref p0), .val (.int 3), .val (.int 3), .val (.ref u2), .val (.int 3)] [(.ref u2)])) := by
    refine s0.trans ?_
    refine XS.iloadN X0.here hx rfl (hb hby d14_0) rfl ?_
    refine st1 _ ?_
    refine XS.astoreN X1.here hx rfl (hb hby d14_4) rfl rfl (l' := #[.val (.ref p0), .val (.int 0), .val (.int 3), .val (.ref u2), .unset]) rfl ?_
    refine XS.iconst X1.here hx rfl (hb hby d14_5) ?_
    refine XS.istore X1.here hx rfl (hb hby d14_6) rfl (l' := #[.val (.ref p0), .val (.int 0), .val (.int 3), .val (.ref u2), .val (.int 0)]) rfl ?_
    refine XS.iload X1.here hx rfl (hb hby d14_8) rfl ?_
    refine XS.iloadN X1.here hx rfl (hb hby d14_10) rfl ?_
    refine XS.icmpNo X1.here hx rfl (hb hby d14_11) rfl (tlt (by decide)).2.1 ?_
    show Steps p.tables e below (T1.setTop (mkF m 14 #[.val (.ref p0), .val (.int 0), .val (.int 3), .val (.ref u2), .val (.int 0)] [])) _
    refine XS.aloadN X1.here hx rfl (hb hby d14_14) rfl rfl ?_
    refine XS.iload X1.here hx rfl (hb hby d14_15) rfl ?_
    refine XS.aloadN X1.here hx rfl (hb hby d14_17) rfl rfl ?_
    refine XS.iloadN X1.here hx rfl (hb hby d14_18) rfl ?_
    refine X1.caload hx (j := (0 : Int32)) (v := (.int c0)) (by rw [(rfl : T1.heap = T1.heap)]; exact Ara5.1) (State.isArrayOf_alike hZ.alike Ara5.2.1) Ara5.2.2 hin6 hat7 (g := (mkF m 19 #[.val (.ref p0), .val (.int 0), .val (.int 3), .val (.ref u2), .val (.int 0)] [(.int 0), (.ref p0), (.int 0), (.ref u2)])) rfl rfl (hb hby d14_19) _ ?_
    refine st8 _ ?_
    refine XS.iinc X8.here hx rfl (hb hby d14_23) rfl (l' := #[.val (.ref p0), .val (.int 1), .val (.int 3), .val (.ref u2), .val (.int 0)]) rfl ?_
    refine XS.iinc X8.here hx rfl (hb hby d14_26) rfl (l' := #[.val (.ref p0), .val (.int 1), .val (.int 3), .val (.ref u2), .val (.int 1)]) rfl ?_
    refine XS.goto X8.here hx rfl (pc0 := 29) (pc' := 8) rfl (hb hby d14_29) (by decide) (by decide) ?_
    refine XS.iload X8.here hx rfl (hb hby d14_8) rfl ?_
    show Steps p.tables e below (T8.setTop (mkF m 10 #[.val (.ref p0), .val (.int 1), .val (.int 3), .val (.ref u2), .val (.int 1)] [(.int 1)])) _
    refine XS.iloadN X8.here hx rfl (hb hby d14_10) rfl ?_
    refine XS.icmpNo X8.here hx rfl (hb hby d14_11) rfl (tlt (by decide)).2.1 ?_
    refine XS.aloadN X8.here hx rfl (hb hby d14_14) rfl rfl ?_
    refine XS.iload X8.here hx rfl (hb hby d14_15) rfl ?_
    refine XS.aloadN X8.here hx rfl (hb hby d14_17) rfl rfl ?_
    refine XS.iloadN X8.here hx rfl (hb hby d14_18) rfl ?_
    refine X8.caload hx (j := (1 : Int32)) (v := (.int c1)) (by rw [(rfl : T8.heap = T8.heap)]; exact Ara10.1) (State.isArrayOf_alike hZ.alike Ara10.2.1) Ara10.2.2 hin11 hat12 (g := (mkF m 19 #[.val (.ref p0), .val (.int 1), .val (.int 3), .val (.ref u2), .val (.int 1)] [(.int 1), (.ref p0), (.int 1), (.ref u2)])) rfl rfl (hb hby d14_19) _ ?_
    refine st13 _ ?_
    refine XS.iinc X13.here hx rfl (hb hby d14_23) rfl (l' := #[.val (.ref p0), .val (.int 2), .val (.int 3), .val (.ref u2), .val (.int 1)]) rfl ?_
    refine XS.iinc X13.here hx rfl (hb hby d14_26) rfl (l' := #[.val (.ref p0), .val (.int 2), .val (.int 3), .val (.ref u2), .val (.int 2)]) rfl ?_
    show Steps p.tables e below (T13.setTop (mkF m 29 #[.val (.ref p0), .val (.int 2), .val (.int 3), .val (.ref u2), .val (.int 2)] [])) _
    refine XS.goto X13.here hx rfl (pc0 := 29) (pc' := 8) rfl (hb hby d14_29) (by decide) (by decide) ?_
    refine XS.iload X13.here hx rfl (hb hby d14_8) rfl ?_
    refine XS.iloadN X13.here hx rfl (hb hby d14_10) rfl ?_
    refine XS.icmpNo X13.here hx rfl (hb hby d14_11) rfl (tlt (by decide)).2.1 ?_
    refine XS.aloadN X13.here hx rfl (hb hby d14_14) rfl rfl ?_
    refine XS.iload X13.here hx rfl (hb hby d14_15) rfl ?_
    refine XS.aloadN X13.here hx rfl (hb hby d14_17) rfl rfl ?_
    refine XS.iloadN X13.here hx rfl (hb hby d14_18) rfl ?_
    refine X13.caload hx (j := (2 : Int32)) (v := (.int c2)) (by rw [(rfl : T13.heap = T13.heap)]; exact Ara15.1) (State.isArrayOf_alike hZ.alike Ara15.2.1) Ara15.2.2 hin16 hat17 (g := (mkF m 19 #[.val (.ref p0), .val (.int 2), .val (.int 3), .val (.ref u2), .val (.int 2)] [(.int 2), (.ref p0), (.int 2), (.ref u2)])) rfl rfl (hb hby d14_19) _ ?_
    refine st18 _ ?_
    show Steps p.tables e below (T18.setTop (mkF m 23 #[.val (.ref p0), .val (.int 2), .val (.int 3), .val (.ref u2), .val (.int 2)] [])) _
    refine XS.iinc X18.here hx rfl (hb hby d14_23) rfl (l' := #[.val (.ref p0), .val (.int 3), .val (.int 3), .val (.ref u2), .val (.int 2)]) rfl ?_
    refine XS.iinc X18.here hx rfl (hb hby d14_26) rfl (l' := #[.val (.ref p0), .val (.int 3), .val (.int 3), .val (.ref u2), .val (.int 3)]) rfl ?_
    refine XS.goto X18.here hx rfl (pc0 := 29) (pc' := 8) rfl (hb hby d14_29) (by decide) (by decide) ?_
    refine XS.iload X18.here hx rfl (hb hby d14_8) rfl ?_
    refine XS.iloadN X18.here hx rfl (hb hby d14_10) rfl ?_
    refine XS.icmpYes X18.here hx rfl (pc0 := 11) (pc' := 32) rfl (hb hby d14_11) rfl (flt (by decide)).2.1 (by decide) (by decide) ?_
    refine XS.aloadN X18.here hx rfl (hb hby d14_32) rfl rfl ?_
    exact Steps.refl _
  subst hA₀
  obtain ⟨fs, hr, hrun, hended, hW, hsame⟩ := X18.leave (v := some (.ref u2)) (fun h => by rw [Bd.returns] at h; cases h)
  refine ⟨_, _, s19.trans ?_, hrun, hended, _, _, rfl, ?_, ⟨_, rfl⟩, hW, hsame.mono (by decide) (by decide)⟩
  · show Steps p.tables e below (T18.setTop (mkF m 33 #[.val (.ref p0), .val (.int 3), .val (.int 3), .val (.ref u2), .val (.int 3)] [(.ref u2)])) _
    jvm_step X18.here [X18.here.top, hx, (hb hby d14_33), X18.method', Bd.returns, Value.isRef, FieldType.isReference]
    first | (intro acts; rw [hr _ acts rfl rfl rfl]) | rw [hr _ _ rfl rfl rfl]
    exact Steps.refl _
  · show Qtb3 Z p0 kc c0 c1 c2 h0 n0 _ T18.heap _
    exact ⟨u2, u3, rfl, N18, K18, f18_0, sz_u2⟩
theorem ef_rmc5_3_0 (m : MethodId) (p0 : Addr) (p2 : Addr) : entryFrame m #[(.ref p0), (.int 0), (.ref p2), (.int 0), (.int 3)] 7 = mkF m 0 #[.val (.ref p0), .val (.int 0), .val (.ref p2), .val (.int 0), .val (.int 3), .unset, .unset] [] := by first | (simp [entryFrame, mkF, argsToLocals, Value.category]; done) | rfl
def Qc5_3_0 (Z : State) (p0 : Addr) (p2 : Addr) (kc : ClassId) (c0 : Int32) (c1 : Int32) (c2 : Int32) (kb : ClassId) (h0 : Heap) (n0 : Nat) (v : Option Value) (h : Heap) (L : List Loc) : Prop := v = some (.int 0) ∧ Fr n0 L ∧ Keep h0 h [p2] ∧ (Arv Z h p2 kb .byte 3 [(.int 0), (.int 0), (.int 0)] (.int 0))
set_option maxRecDepth 65536 in
set_option maxHeartbeats 40000000 in
theorem rmc5_3_0 (l : Launch) (Z : State) (a0 : Array Value) (hw : ∀ d ∈ tables_1, d.before a0 Z = true) (ws : List Jvm.Cond) (p0 : Addr) (p2 : Addr) (kc : ClassId) (c0 : Int32) (c1 : Int32) (c2 : Int32) (kb : ClassId) (h0 : Heap) (n0 : Nat) (O0 : Old Z n0 h0) (F0_ : Arv Z h0 p0 kc .char 3 [(.int c0), (.int c1), (.int c2)] (.int 0)) (F1_ : Arv Z h0 p2 kb .byte 3 [(.int 0), (.int 0), (.int 0)] (.int 0)) (F2_ : n0 ≤ p2) (F3_ : p0 ≠ p2) (hc0 : (255 : Int32) < c0) :
    MetFree l nm5 (head1 (Jvm.Cond.code nm5 jdk_52_method_21_code 7 (some .int) :: ws) ({ frames := 0, cells := 0, slots := 0, locals := 0 } : Room)) (fun a U => a = #[(.ref p0), (.int 0), (.ref p2), (.int 0), (.int 3)] ∧ Z.Warmed39 U.vm ∧ U.heap = h0) (fun _ _ _ _ _ => True) (fun _ U o U' => ∃ v L, o = .returned v ∧ Qc5_3_0 Z p0 p2 kc c0 c1 c2 kb h0 n0 v U'.heap L ∧ FrameEnd U o U' L ({ frames := 0, cells := 0, slots := 0, locals := 0 } : Room).cells ({ frames := 0, cells := 0, slots := 0, locals := 0 } : Room).slots) := by
  refine MetFree.of_bodySF (plainFor_of_name pn_18) hisR ?_
  intro p e s m args below meth c s₁ Bd hml0 hP hK
  obtain ⟨rfl, hZ, hh⟩ := hP
  have hx := Bd.exec
  have hby := Bd.bytes
  have hml : c.maxLocals = 7 := hml0
  have hown : s.vm.findClass "java/lang/StringUTF16" = some m.cls := findClass_of_methodNamed Bd.named
  have X0 : Stand p l e ({ frames := 0, cells := 0, slots := 0, locals := 0 } : Room) s m #[(.ref p0), (.int 0), (.ref p2), (.int 0), (.int 3)] below meth c s₁ [] 0 0 := Stand.of_body Bd
  have e0 : s₁.heap = h0 := by rw [← hh, Bd.state]; rfl
  have N0 := Fr.nil n0
  have s0 : Steps p.tables e below (s₁.setTop (entryFrame m #[(.ref p0), (.int 0), (.ref p2), (.int 0), (.int 3)] 7)) (s₁.setTop (mkF m 0 #[.val (.ref p0), .val (.int 0), .val (.ref p2), .val (.int 0), .val (.int 3), .unset, .unset] [])) := castTop (ef_rmc5_3_0 m p0 p2) (Steps.refl _)
  obtain ⟨A₀, hA₀⟩ : ∃ z, z = (s₁.setTop (entryFrame m #[(.ref p0), (.int 0), (.ref p2), (.int 0), (.int 3)] 7)) := ⟨_, rfl⟩
  rw [← hA₀] at s0
  obtain ⟨cla1, Ara1, qa1, Sa1, Za1, Ha1, Ga1⟩ := id F0_
  have hin2 : ¬ ((0 : Int32) < 0 ∨ cla1.slots.size ≤ ((0 : Int32)).toNatClampNeg) := inb_of Sa1 ⟨by decide, by decide⟩
  have hat3 : cla1.slots[((0 : Int32)).toNatClampNeg]? = some (.int c0) := Has.at Ha1 hin2 rfl
  have s4 : Steps p.tables e below A₀ (s₁.setTop (mkF m 25 #[.val (.ref p0), .val (.int 0), .val (.ref p2), .val (.int 0), .val (.int 3), .val (.int 0), .val (.int c0)] [(.int 0)])) := by
    refine s0.trans ?_
    refine XS.iconst X0.here hx rfl (hb hby d6_0) ?_
    refine XS.istore X0.here hx rfl (hb hby d6_1) rfl (l' := #[.val (.ref p0), .val (.int 0), .val (.ref p2), .val (.int 0), .val (.int 3), .val (.int 0), .unset]) rfl ?_
    refine XS.iload X0.here hx rfl (hb hby d6_3) rfl ?_
    refine XS.iload X0.here hx rfl (hb hby d6_5) rfl ?_
    refine XS.icmpNo X0.here hx rfl (hb hby d6_7) rfl (tlt (by decide)).2.1 ?_
    refine XS.aloadN X0.here hx rfl (hb hby d6_10) rfl rfl ?_
    refine XS.iloadN X0.here hx rfl (hb hby d6_11) rfl ?_
    refine X0.caload hx (j := (0 : Int32)) (v := (.int c0)) (by rw [e0]; exact Ara1.1) (State.isArrayOf_alike hZ.alike Ara1.2.1) Ara1.2.2 hin2 hat3 (g := (mkF m 12 #[.val (.ref p0), .val (.int 0), .val (.ref p2), .val (.int 0), .val (.int 3), .val (.int 0), .unset] [(.int 0), (.ref p0)])) rfl rfl (hb hby d6_12) _ ?_
    show Steps p.tables e below (s₁.setTop (mkF m 13 #[.val (.ref p0), .val (.int 0), .val (.ref p2), .val (.int 0), .val (.int 3), .val (.int 0), .unset] [(.int c0)])) _
    refine XS.istore X0.here hx rfl (hb hby d6_13) rfl (l' := #[.val (.ref p0), .val (.int 0), .val (.ref p2), .val (.int 0), .val (.int 3), .val (.int 0), .val (.int c0)]) rfl ?_
    refine XS.iload X0.here hx rfl (hb hby d6_15) rfl ?_
    refine XS.sipush X0.here hx rfl (hb hby d6_17) ?_
    refine XS.icmpNo X0.here hx rfl (hb hby d6_20) rfl (tlt hc0).2.2.2 ?_
    refine XS.iload X0.here hx rfl (hb hby d6_23) rfl ?_
    exact Steps.refl _
  subst hA₀
  obtain ⟨fs, hr, hrun, hended, hW, hsame⟩ := X0.leave (v := some (.int 0)) (fun h => by rw [Bd.returns] at h; cases h)
  refine ⟨_, _, s4.trans ?_, hrun, hended, _, _, rfl, ?_, ⟨_, rfl⟩, hW, hsame.mono (by decide) (by decide)⟩
  · show Steps p.tables e below (s₁.setTop (mkF m 25 #[.val (.ref p0), .val (.int 0), .val (.ref p2), .val (.int 0), .val (.int 3), .val (.int 0), .val (.int c0)] [(.int 0)])) _
    exact retI X0 hx Bd.returns (hb hby d6_25) hr
  · show Qc5_3_0 Z p0 p2 kc c0 c1 c2 kb h0 n0 _ s₁.heap _
    rw [e0]
    exact ⟨rfl, N0, (Keep.refl h0 [p2]), F1_⟩
theorem ef_rmc5_3_1 (m : MethodId) (p0 : Addr) (p2 : Addr) : entryFrame m #[(.ref p0), (.int 0), (.ref p2), (.int 0), (.int 3)] 7 = mkF m 0 #[.val (.ref p0), .val (.int 0), .val (.ref p2), .val (.int 0), .val (.int 3), .unset, .unset] [] := by first | (simp [entryFrame, mkF, argsToLocals, Value.category]; done) | rfl
def Qc5_3_1 (Z : State) (p0 : Addr) (p2 : Addr) (kc : ClassId) (c0 : Int32) (c1 : Int32) (c2 : Int32) (kb : ClassId) (h0 : Heap) (n0 : Nat) (v : Option Value) (h : Heap) (L : List Loc) : Prop := v = some (.int 1) ∧ Fr n0 L ∧ Keep h0 h [p2] ∧ (Arv Z h p2 kb .byte 3 [(.int ((c0.toInt8.toInt32).toInt8.toInt32)), (.int 0), (.int 0)] (.int 0))
set_option maxRecDepth 65536 in
set_option maxHeartbeats 40000000 in
theorem rmc5_3_1 (l : Launch) (Z : State) (a0 : Array Value) (hw : ∀ d ∈ tables_1, d.before a0 Z = true) (ws : List Jvm.Cond) (p0 : Addr) (p2 : Addr) (kc : ClassId) (c0 : Int32) (c1 : Int32) (c2 : Int32) (kb : ClassId) (h0 : Heap) (n0 : Nat) (O0 : Old Z n0 h0) (F0_ : Arv Z h0 p0 kc .char 3 [(.int c0), (.int c1), (.int c2)] (.int 0)) (F1_ : Arv Z h0 p2 kb .byte 3 [(.int 0), (.int 0), (.int 0)] (.int 0)) (F2_ : n0 ≤ p2) (F3_ : p0 ≠ p2) (hc0 : ¬ ((255 : Int32) < c0)) (hc1 : (255 : Int32) < c1) :
    MetFree l nm5 (head1 (Jvm.Cond.code nm5 jdk_52_method_21_code 7 (some .int) :: ws) ({ frames := 0, cells := 0, slots := 0, locals := 0 } : Room)) (fun a U => a = #[(.ref p0), (.int 0), (.ref p2), (.int 0), (.int 3)] ∧ Z.Warmed39 U.vm ∧ U.heap = h0) (fun _ _ _ _ _ => True) (fun _ U o U' => ∃ v L, o = .returned v ∧ Qc5_3_1 Z p0 p2 kc c0 c1 c2 kb h0 n0 v U'.heap L ∧ FrameEnd U o U' L ({ frames := 0, cells := 0, slots := 0, locals := 0 } : Room).cells ({ frames := 0, cells := 0, slots := 0, locals := 0 } : Room).slots) := by
  refine MetFree.of_bodySF (plainFor_of_name pn_18) hisR ?_
  intro p e s m args below meth c s₁ Bd hml0 hP hK
  obtain ⟨rfl, hZ, hh⟩ := hP
  have hx := Bd.exec
  have hby := Bd.bytes
  have hml : c.maxLocals = 7 := hml0
  have hown : s.vm.findClass "java/lang/StringUTF16" = some m.cls := findClass_of_methodNamed Bd.named
  have X0 : Stand p l e ({ frames := 0, cells := 0, slots := 0, locals := 0 } : Room) s m #[(.ref p0), (.int 0), (.ref p2), (.int 0), (.int 3)] below meth c s₁ [] 0 0 := Stand.of_body Bd
  have e0 : s₁.heap = h0 := by rw [← hh, Bd.state]; rfl
  have N0 := Fr.nil n0
  have s0 : Steps p.tables e below (s₁.setTop (entryFrame m #[(.ref p0), (.int 0), (.ref p2), (.int 0), (.int 3)] 7)) (s₁.setTop (mkF m 0 #[.val (.ref p0), .val (.int 0), .val (.ref p2), .val (.int 0), .val (.int 3), .unset, .unset] [])) := castTop (ef_rmc5_3_1 m p0 p2) (Steps.refl _)
  obtain ⟨A₀, hA₀⟩ : ∃ z, z = (s₁.setTop (entryFrame m #[(.ref p0), (.int 0), (.ref p2), (.int 0), (.int 3)] 7)) := ⟨_, rfl⟩
  rw [← hA₀] at s0
  obtain ⟨cla1, Ara1, qa1, Sa1, Za1, Ha1, Ga1⟩ := id F0_
  have hin2 : ¬ ((0 : Int32) < 0 ∨ cla1.slots.size ≤ ((0 : Int32)).toNatClampNeg) := inb_of Sa1 ⟨by decide, by decide⟩
  have hat3 : cla1.slots[((0 : Int32)).toNatClampNeg]? = some (.int c0) := Has.at Ha1 hin2 rfl
  obtain ⟨cla4, Ara4, qa4, Sa4, Za4, Ha4, Ga4⟩ := id F1_
  have hin5 : ¬ ((0 : Int32) < 0 ∨ cla4.slots.size ≤ ((0 : Int32)).toNatClampNeg) := inb_of Sa4 ⟨by decide, by decide⟩
  obtain ⟨T6, h6, X6, e6, W6, st6⟩ := stB X0 hx hZ e0 Ara4 (j := (0 : Int32)) hin5 (g := (mkF m 31 #[.val (.ref p0), .val (.int 0), .val (.ref p2), .val (.int 0), .val (.int 3), .val (.int 0), .val (.int c0)] [(.int (c0.toInt8.toInt32)), (.int 0), (.ref p2)])) rfl rfl (hb hby d6_31)
  have O6 := O0.wr W6 F2_
  have K6 : Keep h0 h6 [p2] := (Keep.refl h0 [p2]).wr W6 (Or.inl (List.mem_of_getElem? (i := 0) rfl))
  have N6 := Fr.snoc X6 N0 F2_
  have V6 : Arv Z h6 p2 kb .byte 3 [(.int ((c0.toInt8.toInt32).toInt8.toInt32)), (.int 0), (.int 0)] (.int 0) := Arv.set Ara4 qa4 Sa4 Za4 Ha4 Ga4 (fits_nar_byte _) W6 0 rfl (Nat.le_of_ble_eq_true rfl)
  have c7 : Arv Z h6 p0 kc .char 3 [(.int c0), (.int c1), (.int c2)] (.int 0) := (F0_.other W6 F3_)
  obtain ⟨cla8, Ara8, qa8, Sa8, Za8, Ha8, Ga8⟩ := id c7
  have hin9 : ¬ ((1 : Int32) < 0 ∨ cla8.slots.size ≤ ((1 : Int32)).toNatClampNeg) := inb_of Sa8 ⟨by decide, by decide⟩
  have hat10 : cla8.slots[((1 : Int32)).toNatClampNeg]? = some (.int c1) := Has.at Ha8 hin9 rfl
  have s11 : Steps p.tables e below A₀ (T6.setTop (mkF m 25 #[.val (.ref p0), .val (.int 1), .val (.ref p2), .val (.int 1), .val (.int 3), .val (.int 1), .val (.int c1)] [(.int 1)])) := by
    refine s0.trans ?_
    refine XS.iconst X0.here hx rfl (hb hby d6_0) ?_
    refine XS.istore X0.here hx rfl (hb hby d6_1) rfl (l' := #[.val (.ref p0), .val (.int 0), .val (.ref p2), .val (.int 0), .val (.int 3), .val (.int 0), .unset]) rfl ?_
    refine XS.iload X0.here hx rfl (hb hby d6_3) rfl ?_
    refine XS.iload X0.here hx rfl (hb hby d6_5) rfl ?_
    refine XS.icmpNo X0.here hx rfl (hb hby d6_7) rfl (tlt (by decide)).2.1 ?_
    refine XS.aloadN X0.here hx rfl (hb hby d6_10) rfl rfl ?_
    refine XS.iloadN X0.here hx rfl (hb hby d6_11) rfl ?_
    refine X0.caload hx (j := (0 : Int32)) (v := (.int c0)) (by rw [e0]; exact Ara1.1) (State.isArrayOf_alike hZ.alike Ara1.2.1) Ara1.2.2 hin2 hat3 (g := (mkF m 12 #[.val (.ref p0), .val (.int 0), .val (.ref p2), .val (.int 0), .val (.int 3), .val (.int 0), .unset] [(.int 0), (.ref p0)])) rfl rfl (hb hby d6_12) _ ?_
    show Steps p.tables e below (s₁.setTop (mkF m 13 #[.val (.ref p0), .val (.int 0), .val (.ref p2), .val (.int 0), .val (.int 3), .val (.int 0), .unset] [(.int c0)])) _
    refine XS.istore X0.here hx rfl (hb hby d6_13) rfl (l' := #[.val (.ref p0), .val (.int 0), .val (.ref p2), .val (.int 0), .val (.int 3), .val (.int 0), .val (.int c0)]) rfl ?_
    refine XS.iload X0.here hx rfl (hb hby d6_15) rfl ?_
    refine XS.sipush X0.here hx rfl (hb hby d6_17) ?_
    refine XS.icmpYes X0.here hx rfl (pc0 := 20) (pc' := 26) rfl (hb hby d6_20) rfl (flt hc0).2.2.2 (by decide) (by decide) ?_
    refine XS.aloadN X0.here hx rfl (hb hby d6_26) rfl rfl ?_
    refine XS.iloadN X0.here hx rfl (hb hby d6_27) rfl ?_
    refine XS.iload X0.here hx rfl (hb hby d6_28) rfl ?_
    refine XS.i2b X0.here hx rfl (hb hby d6_30) rfl ?_
    refine st6 _ ?_
    refine XS.iinc X6.here hx rfl (hb hby d6_32) rfl (l' := #[.val (.ref p0), .val (.int 1), .val (.ref p2), .val (.int 0), .val (.int 3), .val (.int 0), .val (.int c0)]) rfl ?_
    show Steps p.tables e below (T6.setTop (mkF m 35 #[.val (.ref p0), .val (.int 1), .val (.ref p2), .val (.int 0), .val (.int 3), .val (.int 0), .val (.int c0)] [])) _
    refine XS.iinc X6.here hx rfl (hb hby d6_35) rfl (l' := #[.val (.ref p0), .val (.int 1), .val (.ref p2), .val (.int 1), .val (.int 3), .val (.int 0), .val (.int c0)]) rfl ?_
    refine XS.iinc X6.here hx rfl (hb hby d6_38) rfl (l' := #[.val (.ref p0), .val (.int 1), .val (.ref p2), .val (.int 1), .val (.int 3), .val (.int 1), .val (.int c0)]) rfl ?_
    refine XS.goto X6.here hx rfl (pc0 := 41) (pc' := 3) rfl (hb hby d6_41) (by decide) (by decide) ?_
    refine XS.iload X6.here hx rfl (hb hby d6_3) rfl ?_
    refine XS.iload X6.here hx rfl (hb hby d6_5) rfl ?_
    refine XS.icmpNo X6.here hx rfl (hb hby d6_7) rfl (tlt (by decide)).2.1 ?_
    refine XS.aloadN X6.here hx rfl (hb hby d6_10) rfl rfl ?_
    refine XS.iloadN X6.here hx rfl (hb hby d6_11) rfl ?_
    refine X6.caload hx (j := (1 : Int32)) (v := (.int c1)) (by rw [e6]; exact Ara8.1) (State.isArrayOf_alike hZ.alike Ara8.2.1) Ara8.2.2 hin9 hat10 (g := (mkF m 12 #[.val (.ref p0), .val (.int 1), .val (.ref p2), .val (.int 1), .val (.int 3), .val (.int 1), .val (.int c0)] [(.int 1), (.ref p0)])) rfl rfl (hb hby d6_12) _ ?_
    refine XS.istore X6.here hx rfl (hb hby d6_13) rfl (l' := #[.val (.ref p0), .val (.int 1), .val (.ref p2), .val (.int 1), .val (.int 3), .val (.int 1), .val (.int c1)]) rfl ?_
    show Steps p.tables e below (T6.setTop (mkF m 15 #[.val (.ref p0), .val (.int 1), .val (.ref p2), .val (.int 1), .val (.int 3), .val (.int 1), .val (.int c1)] [])) _
    refine XS.iload X6.here hx rfl (hb hby d6_15) rfl ?_
    refine XS.sipush X6.here hx rfl (hb hby d6_17) ?_
    refine XS.icmpNo X6.here hx rfl (hb hby d6_20) rfl (tlt hc1).2.2.2 ?_
    refine XS.iload X6.here hx rfl (hb hby d6_23) rfl ?_
    exact Steps.refl _
  subst hA₀
  obtain ⟨fs, hr, hrun, hended, hW, hsame⟩ := X6.leave (v := some (.int 1)) (fun h => by rw [Bd.returns] at h; cases h)
  refine ⟨_, _, s11.trans ?_, hrun, hended, _, _, rfl, ?_, ⟨_, rfl⟩, hW, hsame.mono (by decide) (by decide)⟩
  · show Steps p.tables e below (T6.setTop (mkF m 25 #[.val (.ref p0), .val (.int 1), .val (.ref p2), .val (.int 1), .val (.int 3), .val (.int 1), .val (.int c1)] [(.int 1)])) _
    exact retI X6 hx Bd.returns (hb hby d6_25) hr
  · show Qc5_3_1 Z p0 p2 kc c0 c1 c2 kb h0 n0 _ T6.heap _
    rw [e6]
    exact ⟨rfl, N6, K6, V6⟩
theorem ef_rmc5_3_2 (m : MethodId) (p0 : Addr) (p2 : Addr) : entryFrame m #[(.ref p0), (.int 0), (.ref p2), (.int 0), (.int 3)] 7 = mkF m 0 #[.val (.ref p0), .val (.int 0), .val (.ref p2), .val (.int 0), .val (.int 3), .unset, .unset] [] := by first | (simp [entryFrame, mkF, argsToLocals, Value.category]; done) | rfl
def Qc5_3_2 (Z : State) (p0 : Addr) (p2 : Addr) (kc : ClassId) (c0 : Int32) (c1 : Int32) (c2 : Int32) (kb : ClassId) (h0 : Heap) (n0 : Nat) (v : Option Value) (h : Heap) (L : List Loc) : Prop := v = some (.int 2) ∧ Fr n0 L ∧ Keep h0 h [p2] ∧ (Arv Z h p2 kb .byte 3 [(.int ((c0.toInt8.toInt32).toInt8.toInt32)), (.int ((c1.toInt8.toInt32).toInt8.toInt32)), (.int 0)] (.int 0))
set_option maxRecDepth 65536 in
set_option maxHeartbeats 40000000 in
theorem rmc5_3_2 (l : Launch) (Z : State) (a0 : Array Value) (hw : ∀ d ∈ tables_1, d.before a0 Z = true) (ws : List Jvm.Cond) (p0 : Addr) (p2 : Addr) (kc : ClassId) (c0 : Int32) (c1 : Int32) (c2 : Int32) (kb : ClassId) (h0 : Heap) (n0 : Nat) (O0 : Old Z n0 h0) (F0_ : Arv Z h0 p0 kc .char 3 [(.int c0), (.int c1), (.int c2)] (.int 0)) (F1_ : Arv Z h0 p2 kb .byte 3 [(.int 0), (.int 0), (.int 0)] (.int 0)) (F2_ : n0 ≤ p2) (F3_ : p0 ≠ p2) (hc0 : ¬ ((255 : Int32) < c0)) (hc1 : ¬ ((255 : Int32) < c1)) (hc2 : (255 : Int32) < c2) :
    MetFree l nm5 (head1 (Jvm.Cond.code nm5 jdk_52_method_21_code 7 (some .int) :: ws) ({ frames := 0, cells := 0, slots := 0, locals := 0 } : Room)) (fun a U => a = #[(.ref p0), (.int 0), (.ref p2), (.int 0), (.int 3)] ∧ Z.Warmed39 U.vm ∧ U.heap = h0) (fun _ _ _ _ _ => True) (fun _ U o U' => ∃ v L, o = .returned v ∧ Qc5_3_2 Z p0 p2 kc c0 c1 c2 kb h0 n0 v U'.heap L ∧ FrameEnd U o U' L ({ frames := 0, cells := 0, slots := 0, locals := 0 } : Room).cells ({ frames := 0, cells := 0, slots := 0, locals := 0 } : Room).slots) := by
  refine MetFree.of_bodySF (plainFor_of_name pn_18) hisR ?_
  intro p e s m args below meth c s₁ Bd hml0 hP hK
  obtain ⟨rfl, hZ, hh⟩ := hP
  have hx := Bd.exec
  have hby := Bd.bytes
  have hml : c.maxLocals = 7 := hml0
  have hown : s.vm.findClass "java/lang/StringUTF16" = some m.cls := findClass_of_methodNamed Bd.named
  have X0 : Stand p l e ({ frames := 0, cells := 0, slots := 0, locals := 0 } : Room) s m #[(.ref p0), (.int 0), (.ref p2), (.int 0), (.int 3)] below meth c s₁ [] 0 0 := Stand.of_body Bd
  have e0 : s₁.heap = h0 := by rw [← hh, Bd.state]; rfl
  have N0 := Fr.nil n0
  have s0 : Steps p.tables e below (s₁.setTop (entryFrame m #[(.ref p0), (.int 0), (.ref p2), (.int 0), (.int 3)] 7)) (s₁.setTop (mkF m 0 #[.val (.ref p0), .val (.int 0), .val (.ref p2), .val (.int 0), .val (.int 3), .unset, .unset] [])) := castTop (ef_rmc5_3_2 m p0 p2) (Steps.refl _)
  obtain ⟨A₀, hA₀⟩ : ∃ z, z = (s₁.setTop (entryFrame m #[(.ref p0), (.int 0), (.ref p2), (.int 0), (.int 3)] 7)) := ⟨_, rfl⟩
  rw [← hA₀] at s0
  obtain ⟨cla1, Ara1, qa1, Sa1, Za1, Ha1, Ga1⟩ := id F0_
  have hin2 : ¬ ((0 : Int32) < 0 ∨ cla1.slots.size ≤ ((0 : Int32)).toNatClampNeg) := inb_of Sa1 ⟨by decide, by decide⟩
  have hat3 : cla1.slots[((0 : Int32)).toNatClampNeg]? = some (.int c0) := Has.at Ha1 hin2 rfl
  obtain ⟨cla4, Ara4, qa4, Sa4, Za4, Ha4, Ga4⟩ := id F1_
  have hin5 : ¬ ((0 : Int32) < 0 ∨ cla4.slots.size ≤ ((0 : Int32)).toNatClampNeg) := inb_of Sa4 ⟨by decide, by decide⟩
  obtain ⟨T6, h6, X6, e6, W6, st6⟩ := stB X0 hx hZ e0 Ara4 (j := (0 : Int32)) hin5 (g := (mkF m 31 #[.val (.ref p0), .val (.int 0), .val (.ref p2), .val (.int 0), .val (.int 3), .val (.int 0), .val (.int c0)] [(.int (c0.toInt8.toInt32)), (.int 0), (.ref p2)])) rfl rfl (hb hby d6_31)
  have O6 := O0.wr W6 F2_
  have K6 : Keep h0 h6 [p2] := (Keep.refl h0 [p2]).wr W6 (Or.inl (List.mem_of_getElem? (i := 0) rfl))
  have N6 := Fr.snoc X6 N0 F2_
  have V6 : Arv Z h6 p2 kb .byte 3 [(.int ((c0.toInt8.toInt32).toInt8.toInt32)), (.int 0), (.int 0)] (.int 0) := Arv.set Ara4 qa4 Sa4 Za4 Ha4 Ga4 (fits_nar_byte _) W6 0 rfl (Nat.le_of_ble_eq_true rfl)
  have c7 : Arv Z h6 p0 kc .char 3 [(.int c0), (.int c1), (.int c2)] (.int 0) := (F0_.other W6 F3_)
  obtain ⟨cla8, Ara8, qa8, Sa8, Za8, Ha8, Ga8⟩ := id c7
  have hin9 : ¬ ((1 : Int32) < 0 ∨ cla8.slots.size ≤ ((1 : Int32)).toNatClampNeg) := inb_of Sa8 ⟨by decide, by decide⟩
  have hat10 : cla8.slots[((1 : Int32)).toNatClampNeg]? = some (.int c1) := Has.at Ha8 hin9 rfl
  obtain ⟨cla11, Ara11, qa11, Sa11, Za11, Ha11, Ga11⟩ := id V6
  have hin12 : ¬ ((1 : Int32) < 0 ∨ cla11.slots.size ≤ ((1 : Int32)).toNatClampNeg) := inb_of Sa11 ⟨by decide, by decide⟩
  obtain ⟨T13, h13, X13, e13, W13, st13⟩ := stB X6 hx hZ e6 Ara11 (j := (1 : Int32)) hin12 (g := (mkF m 31 #[.val (.ref p0), .val (.int 1), .val (.ref p2), .val (.int 1), .val (.int 3), .val (.int 1), .val (.int c1)] [(.int (c1.toInt8.toInt32)), (.int 1), (.ref p2)])) rfl rfl (hb hby d6_31)
  have O13 := O6.wr W13 F2_
  have K13 : Keep h0 h13 [p2] := K6.wr W13 (Or.inl (List.mem_of_getElem? (i := 0) rfl))
  have N13 := Fr.snoc X13 N6 F2_
  have V13 : Arv Z h13 p2 kb .byte 3 [(.int ((c0.toInt8.toInt32).toInt8.toInt32)), (.int ((c1.toInt8.toInt32).toInt8.toInt32)), (.int 0)] (.int 0) := Arv.set Ara11 qa11 Sa11 Za11 Ha11 Ga11 (fits_nar_byte _) W13 1 rfl (Nat.le_of_ble_eq_true rfl)
  have c14 : Arv Z h13 p0 kc .char 3 [(.int c0), (.int c1), (.int c2)] (.int 0) := (c7.other W13 F3_)
  obtain ⟨cla15, Ara15, qa15, Sa15, Za15, Ha15, Ga15⟩ := id c14
  have hin16 : ¬ ((2 : Int32) < 0 ∨ cla15.slots.size ≤ ((2 : Int32)).toNatClampNeg) := inb_of Sa15 ⟨by decide, by decide⟩
  have hat17 : cla15.slots[((2 : Int32)).toNatClampNeg]? = some (.int c2) := Has.at Ha15 hin16 rfl
  have s18 : Steps p.tables e below A₀ (T13.setTop (mkF m 25 #[.val (.ref p0), .val (.int 2), .val (.ref p2), .val (.int 2), .val (.int 3), .val (.int 2), .val (.int c2)] [(.int 2)])) := by
    refine s0.trans ?_
    refine XS.iconst X0.here hx rfl (hb hby d6_0) ?_
    refine XS.istore X0.here hx rfl (hb hby d6_1) rfl (l' := #[.val (.ref p0), .val (.int 0), .val (.ref p2), .val (.int 0), .val (.int 3), .val (.int 0), .unset]) rfl ?_
    refine XS.iload X0.here hx rfl (hb hby d6_3) rfl ?_
    refine XS.iload X0.here hx rfl (hb hby d6_5) rfl ?_
    refine XS.icmpNo X0.here hx rfl (hb hby d6_7) rfl (tlt (by decide)).2.1 ?_
    refine XS.aloadN X0.here hx rfl (hb hby d6_10) rfl rfl ?_
    refine XS.iloadN X0.here hx rfl (hb hby d6_11) rfl ?_
    refine X0.caload hx (j := (0 : Int32)) (v := (.int c0)) (by rw [e0]; exact Ara1.1) (State.isArrayOf_alike hZ.alike Ara1.2.1) Ara1.2.2 hin2 hat3 (g := (mkF m 12 #[.val (.ref p0), .val (.int 0), .val (.ref p2), .val (.int 0), .val (.int 3), .val (.int 0), .unset] [(.int 0), (.ref p0)])) rfl rfl (hb hby d6_12) _ ?_
    show Steps p.tables e below (s₁.setTop (mkF m 13 #[.val (.ref p0), .val (.int 0), .val (.ref p2), .val (.int 0), .val (.int 3), .val (.int 0), .unset] [(.int c0)])) _
    refine XS.istore X0.here hx rfl (hb hby d6_13) rfl (l' := #[.val (.ref p0), .val (.int 0), .val (.ref p2), .val (.int 0), .val (.int 3), .val (.int 0), .val (.int c0)]) rfl ?_
    refine XS.iload X0.here hx rfl (hb hby d6_15) rfl ?_
    refine XS.sipush X0.here hx rfl (hb hby d6_17) ?_
    refine XS.icmpYes X0.here hx rfl (pc0 := 20) (pc' := 26) rfl (hb hby d6_20) rfl (flt hc0).2.2.2 (by decide) (by decide) ?_
    refine XS.aloadN X0.here hx rfl (hb hby d6_26) rfl rfl ?_
    refine XS.iloadN X0.here hx rfl (hb hby d6_27) rfl ?_
    refine XS.iload X0.here hx rfl (hb hby d6_28) rfl ?_
    refine XS.i2b X0.here hx rfl (hb hby d6_30) rfl ?_
    refine st6 _ ?_
    refine XS.iinc X6.here hx rfl (hb hby d6_32) rfl (l' := #[.val (.ref p0), .val (.int 1), .val (.ref p2), .val (.int 0), .val (.int 3), .val (.int 0), .val (.int c0)]) rfl ?_
    show Steps p.tables e below (T6.setTop (mkF m 35 #[.val (.ref p0), .val (.int 1), .val (.ref p2), .val (.int 0), .val (.int 3), .val (.int 0), .val (.int c0)] [])) _
    refine XS.iinc X6.here hx rfl (hb hby d6_35) rfl (l' := #[.val (.ref p0), .val (.int 1), .val (.ref p2), .val (.int 1), .val (.int 3), .val (.int 0), .val (.int c0)]) rfl ?_
    refine XS.iinc X6.here hx rfl (hb hby d6_38) rfl (l' := #[.val (.ref p0), .val (.int 1), .val (.ref p2), .val (.int 1), .val (.int 3), .val (.int 1), .val (.int c0)]) rfl ?_
    refine XS.goto X6.here hx rfl (pc0 := 41) (pc' := 3) rfl (hb hby d6_41) (by decide) (by decide) ?_
    refine XS.iload X6.here hx rfl (hb hby d6_3) rfl ?_
    refine XS.iload X6.here hx rfl (hb hby d6_5) rfl ?_
    refine XS.icmpNo X6.here hx rfl (hb hby d6_7) rfl (tlt (by decide)).2.1 ?_
    refine XS.aloadN X6.here hx rfl (hb hby d6_10) rfl rfl ?_
    refine XS.iloadN X6.here hx rfl (hb hby d6_11) rfl ?_
    refine X6.caload hx (j := (1 : Int32)) (v := (.int c1)) (by rw [e6]; exact Ara8.1) (State.isArrayOf_alike hZ.alike Ara8.2.1) Ara8.2.2 hin9 hat10 (g := (mkF m 12 #[.val (.ref p0), .val (.int 1), .val (.ref p2), .val (.int 1), .val (.int 3), .val (.int 1), .val (.int c0)] [(.int 1), (.ref p0)])) rfl rfl (hb hby d6_12) _ ?_
    refine XS.istore X6.here hx rfl (hb hby d6_13) rfl (l' := #[.val (.ref p0), .val (.int 1), .val (.ref p2), .val (.int 1), .val (.int 3), .val (.int 1), .val (.int c1)]) rfl ?_
    show Steps p.tables e below (T6.setTop (mkF m 15 #[.val (.ref p0), .val (.int 1), .val (.ref p2), .val (.int 1), .val (.int 3), .val (.int 1), .val (.int c1)] [])) _
    refine XS.iload X6.here hx rfl (hb hby d6_15) rfl ?_
    refine XS.sipush X6.here hx rfl (hb hby d6_17) ?_
    refine XS.icmpYes X6.here hx rfl (pc0 := 20) (pc' := 26) rfl (hb hby d6_20) rfl (flt hc1).2.2.2 (by decide) (by decide) ?_
    refine XS.aloadN X6.here hx rfl (hb hby d6_26) rfl rfl ?_
    refine XS.iloadN X6.here hx rfl (hb hby d6_27) rfl ?_
    refine XS.iload X6.here hx rfl (hb hby d6_28) rfl ?_
    refine XS.i2b X6.here hx rfl (hb hby d6_30) rfl ?_
    refine st13 _ ?_
    refine XS.iinc X13.here hx rfl (hb hby d6_32) rfl (l' := #[.val (.ref p0), .val (.int 2), .val (.ref p2), .val (.int 1), .val (.int 3), .val (.int 1), .val (.int c1)]) rfl ?_
    refine XS.iinc X13.here hx rfl (hb hby d6_35) rfl (l' := #[.val (.ref p0), .val (.int 2), .val (.ref p2), .val (.int 2), .val (.int 3), .val (.int 1), .val (.int c1)]) rfl ?_
    show Steps p.tables e below (T13.setTop (mkF m 38 #[.val (.ref p0), .val (.int 2), .val (.ref p2), .val (.int 2), .val (.int 3), .val (.int 1), .val (.int c1)] [])) _
    refine XS.iinc X13.here hx rfl (hb hby d6_38) rfl (l' := #[.val (.ref p0), .val (.int 2), .val (.ref p2), .val (.int 2), .val (.int 3), .val (.int 2), .val (.int c1)]) rfl ?_
    refine XS.goto X13.here hx rfl (pc0 := 41) (pc' := 3) rfl (hb hby d6_41) (by decide) (by decide) ?_
    refine XS.iload X13.here hx rfl (hb hby d6_3) rfl ?_
    refine XS.iload X13.here hx rfl (hb hby d6_5) rfl ?_
    refine XS.icmpNo X13.here hx rfl (hb hby d6_7) rfl (tlt (by decide)).2.1 ?_
    refine XS.aloadN X13.here hx rfl (hb hby d6_10) rfl rfl ?_
    refine XS.iloadN X13.here hx rfl (hb hby d6_11) rfl ?_
    refine X13.caload hx (j := (2 : Int32)) (v := (.int c2)) (by rw [e13]; exact Ara15.1) (State.isArrayOf_alike hZ.alike Ara15.2.1) Ara15.2.2 hin16 hat17 (g := (mkF m 12 #[.val (.ref p0), .val (.int 2), .val (.ref p2), .val (.int 2), .val (.int 3), .val (.int 2), .val (.int c1)] [(.int 2), (.ref p0)])) rfl rfl (hb hby d6_12) _ ?_
    refine XS.istore X13.here hx rfl (hb hby d6_13) rfl (l' := #[.val (.ref p0), .val (.int 2), .val (.ref p2), .val (.int 2), .val (.int 3), .val (.int 2), .val (.int c2)]) rfl ?_
    refine XS.iload X13.here hx rfl (hb hby d6_15) rfl ?_
    show Steps p.tables e below (T13.setTop (mkF m 17 #[.val (.ref p0), .val (.int 2), .val (.ref p2), .val (.int 2), .val (.int 3), .val (.int 2), .val (.int c2)] [(.int c2)])) _
    refine XS.sipush X13.here hx rfl (hb hby d6_17) ?_
    refine XS.icmpNo X13.here hx rfl (hb hby d6_20) rfl (tlt hc2).2.2.2 ?_
    refine XS.iload X13.here hx rfl (hb hby d6_23) rfl ?_
    exact Steps.refl _
  subst hA₀
  obtain ⟨fs, hr, hrun, hended, hW, hsame⟩ := X13.leave (v := some (.int 2)) (fun h => by rw [Bd.returns] at h; cases h)
  refine ⟨_, _, s18.trans ?_, hrun, hended, _, _, rfl, ?_, ⟨_, rfl⟩, hW, hsame.mono (by decide) (by decide)⟩
  · show Steps p.tables e below (T13.setTop (mkF m 25 #[.val (.ref p0), .val (.int 2), .val (.ref p2), .val (.int 2), .val (.int 3), .val (.int 2), .val (.int c2)] [(.int 2)])) _
    exact retI X13 hx Bd.returns (hb hby d6_25) hr
  · show Qc5_3_2 Z p0 p2 kc c0 c1 c2 kb h0 n0 _ T13.heap _
    rw [e13]
    exact ⟨rfl, N13, K13, V13⟩
theorem ef_rmc5_3_n (m : MethodId) (p0 : Addr) (p2 : Addr) : entryFrame m #[(.ref p0), (.int 0), (.ref p2), (.int 0), (.int 3)] 7 = mkF m 0 #[.val (.ref p0), .val (.int 0), .val (.ref p2), .val (.int 0), .val (.int 3), .unset, .unset] [] := by first | (simp [entryFrame, mkF, argsToLocals, Value.category]; done) | rfl
def Qc5_3_n (Z : State) (p0 : Addr) (p2 : Addr) (kc : ClassId) (c0 : Int32) (c1 : Int32) (c2 : Int32) (kb : ClassId) (h0 : Heap) (n0 : Nat) (v : Option Value) (h : Heap) (L : List Loc) : Prop := v = some (.int 3) ∧ Fr n0 L ∧ Keep h0 h [p2] ∧ (Arv Z h p2 kb .byte 3 [(.int ((c0.toInt8.toInt32).toInt8.toInt32)), (.int ((c1.toInt8.toInt32).toInt8.toInt32)), (.int ((c2.toInt8.toInt32).toInt8.toInt32))] (.int 0))
set_option maxRecDepth 65536 in
set_option maxHeartbeats 40000000 in
theorem rmc5_3_n (l : Launch) (Z : State) (a0 : Array Value) (hw : ∀ d ∈ tables_1, d.before a0 Z = true) (ws : List Jvm.Cond) (p0 : Addr) (p2 : Addr) (kc : ClassId) (c0 : Int32) (c1 : Int32) (c2 : Int32) (kb : ClassId) (h0 : Heap) (n0 : Nat) (O0 : Old Z n0 h0) (F0_ : Arv Z h0 p0 kc .char 3 [(.int c0), (.int c1), (.int c2)] (.int 0)) (F1_ : Arv Z h0 p2 kb .byte 3 [(.int 0), (.int 0), (.int 0)] (.int 0)) (F2_ : n0 ≤ p2) (F3_ : p0 ≠ p2) (hc0 : ¬ ((255 : Int32) < c0)) (hc1 : ¬ ((255 : Int32) < c1)) (hc2 : ¬ ((255 : Int32) < c2)) :
    MetFree l nm5 (head1 (Jvm.Cond.code nm5 jdk_52_method_21_code 7 (some .int) :: ws) ({ frames := 0, cells := 0, slots := 0, locals := 0 } : Room)) (fun a U => a = #[(.ref p0), (.int 0), (.ref p2), (.int 0), (.int 3)] ∧ Z.Warmed39 U.vm ∧ U.heap = h0) (fun _ _ _ _ _ => True) (fun _ U o U' => ∃ v L, o = .returned v ∧ Qc5_3_n Z p0 p2 kc c0 c1 c2 kb h0 n0 v U'.heap L ∧ FrameEnd U o U' L ({ frames := 0, cells := 0, slots := 0, locals := 0 } : Room).cells ({ frames := 0, cells := 0, slots := 0, locals := 0 } : Room).slots) := by
  refine MetFree.of_bodySF (plainFor_of_name pn_18) hisR ?_
  intro p e s m args below meth c s₁ Bd hml0 hP hK
  obtain ⟨rfl, hZ, hh⟩ := hP
  have hx := Bd.exec
  have hby := Bd.bytes
  have hml : c.maxLocals = 7 := hml0
  have hown : s.vm.findClass "java/lang/StringUTF16" = some m.cls := findClass_of_methodNamed Bd.named
  have X0 : Stand p l e ({ frames := 0, cells := 0, slots := 0, locals := 0 } : Room) s m #[(.ref p0), (.int 0), (.ref p2), (.int 0), (.int 3)] below meth c s₁ [] 0 0 := Stand.of_body Bd
  have e0 : s₁.heap = h0 := by rw [← hh, Bd.state]; rfl
  have N0 := Fr.nil n0
  have s0 : Steps p.tables e below (s₁.setTop (entryFrame m #[(.ref p0), (.int 0), (.ref p2), (.int 0), (.int 3)] 7)) (s₁.setTop (mkF m 0 #[.val (.ref p0), .val (.int 0), .val (.ref p2), .val (.int 0), .val (.int 3), .unset, .unset] [])) := castTop (ef_rmc5_3_n m p0 p2) (Steps.refl _)
  obtain ⟨A₀, hA₀⟩ : ∃ z, z = (s₁.setTop (entryFrame m #[(.ref p0), (.int 0), (.ref p2), (.int 0), (.int 3)] 7)) := ⟨_, rfl⟩
  rw [← hA₀] at s0
  obtain ⟨cla1, Ara1, qa1, Sa1, Za1, Ha1, Ga1⟩ := id F0_
  have hin2 : ¬ ((0 : Int32) < 0 ∨ cla1.slots.size ≤ ((0 : Int32)).toNatClampNeg) := inb_of Sa1 ⟨by decide, by decide⟩
  have hat3 : cla1.slots[((0 : Int32)).toNatClampNeg]? = some (.int c0) := Has.at Ha1 hin2 rfl
  obtain ⟨cla4, Ara4, qa4, Sa4, Za4, Ha4, Ga4⟩ := id F1_
  have hin5 : ¬ ((0 : Int32) < 0 ∨ cla4.slots.size ≤ ((0 : Int32)).toNatClampNeg) := inb_of Sa4 ⟨by decide, by decide⟩
  obtain ⟨T6, h6, X6, e6, W6, st6⟩ := stB X0 hx hZ e0 Ara4 (j := (0 : Int32)) hin5 (g := (mkF m 31 #[.val (.ref p0), .val (.int 0), .val (.ref p2), .val (.int 0), .val (.int 3), .val (.int 0), .val (.int c0)] [(.int (c0.toInt8.toInt32)), (.int 0), (.ref p2)])) rfl rfl (hb hby d6_31)
  have O6 := O0.wr W6 F2_
  have K6 : Keep h0 h6 [p2] := (Keep.refl h0 [p2]).wr W6 (Or.inl (List.mem_of_getElem? (i := 0) rfl))
  have N6 := Fr.snoc X6 N0 F2_
  have V6 : Arv Z h6 p2 kb .byte 3 [(.int ((c0.toInt8.toInt32).toInt8.toInt32)), (.int 0), (.int 0)] (.int 0) := Arv.set Ara4 qa4 Sa4 Za4 Ha4 Ga4 (fits_nar_byte _) W6 0 rfl (Nat.le_of_ble_eq_true rfl)
  have c7 : Arv Z h6 p0 kc .char 3 [(.int c0), (.int c1), (.int c2)] (.int 0) := (F0_.other W6 F3_)
  obtain ⟨cla8, Ara8, qa8, Sa8, Za8, Ha8, Ga8⟩ := id c7
  have hin9 : ¬ ((1 : Int32) < 0 ∨ cla8.slots.size ≤ ((1 : Int32)).toNatClampNeg) := inb_of Sa8 ⟨by decide, by decide⟩
  have hat10 : cla8.slots[((1 : Int32)).toNatClampNeg]? = some (.int c1) := Has.at Ha8 hin9 rfl
  obtain ⟨cla11, Ara11, qa11, Sa11, Za11, Ha11, Ga11⟩ := id V6
  have hin12 : ¬ ((1 : Int32) < 0 ∨ cla11.slots.size ≤ ((1 : Int32)).toNatClampNeg) := inb_of Sa11 ⟨by decide, by decide⟩
  obtain ⟨T13, h13, X13, e13, W13, st13⟩ := stB X6 hx hZ e6 Ara11 (j := (1 : Int32)) hin12 (g := (mkF m 31 #[.val (.ref p0), .val (.int 1), .val (.ref p2), .val (.int 1), .val (.int 3), .val (.int 1), .val (.int c1)] [(.int (c1.toInt8.toInt32)), (.int 1), (.ref p2)])) rfl rfl (hb hby d6_31)
  have O13 := O6.wr W13 F2_
  have K13 : Keep h0 h13 [p2] := K6.wr W13 (Or.inl (List.mem_of_getElem? (i := 0) rfl))
  have N13 := Fr.snoc X13 N6 F2_
  have V13 : Arv Z h13 p2 kb .byte 3 [(.int ((c0.toInt8.toInt32).toInt8.toInt32)), (.int ((c1.toInt8.toInt32).toInt8.toInt32)), (.int 0)] (.int 0) := Arv.set Ara11 qa11 Sa11 Za11 Ha11 Ga11 (fits_nar_byte _) W13 1 rfl (Nat.le_of_ble_eq_true rfl)
  have c14 : Arv Z h13 p0 kc .char 3 [(.int c0), (.int c1), (.int c2)] (.int 0) := (c7.other W13 F3_)
  obtain ⟨cla15, Ara15, qa15, Sa15, Za15, Ha15, Ga15⟩ := id c14
  have hin16 : ¬ ((2 : Int32) < 0 ∨ cla15.slots.size ≤ ((2 : Int32)).toNatClampNeg) := inb_of Sa15 ⟨by decide, by decide⟩
  have hat17 : cla15.slots[((2 : Int32)).toNatClampNeg]? = some (.int c2) := Has.at Ha15 hin16 rfl
  obtain ⟨cla18, Ara18, qa18, Sa18, Za18, Ha18, Ga18⟩ := id V13
  have hin19 : ¬ ((2 : Int32) < 0 ∨ cla18.slots.size ≤ ((2 : Int32)).toNatClampNeg) := inb_of Sa18 ⟨by decide, by decide⟩
  obtain ⟨T20, h20, X20, e20, W20, st20⟩ := stB X13 hx hZ e13 Ara18 (j := (2 : Int32)) hin19 (g := (mkF m 31 #[.val (.ref p0), .val (.int 2), .val (.ref p2), .val (.int 2), .val (.int 3), .val (.int 2), .val (.int c2)] [(.int (c2.toInt8.toInt32)), (.int 2), (.ref p2)])) rfl rfl (hb hby d6_31)
  have O20 := O13.wr W20 F2_
  have K20 : Keep h0 h20 [p2] := K13.wr W20 (Or.inl (List.mem_of_getElem? (i := 0) rfl))
  have N20 := Fr.snoc X20 N13 F2_
  have V20 : Arv Z h20 p2 kb .byte 3 [(.int ((c0.toInt8.toInt32).toInt8.toInt32)), (.int ((c1.toInt8.toInt32).toInt8.toInt32)), (.int ((c2.toInt8.toInt32).toInt8.toInt32))] (.int 0) := Arv.set Ara18 qa18 Sa18 Za18 Ha18 Ga18 (fits_nar_byte _) W20 2 rfl (Nat.le_of_ble_eq_true rfl)
  have s21 : Steps p.tables e below A₀ (T20.setTop (mkF m 46 #[.val (.ref p0), .val (.int 3), .val (.ref p2), .val (.int 3), .val (.int 3), .val (.int 3), .val (.int c2)] [(.int 3)])) := by
    refine s0.trans ?_
    refine XS.iconst X0.here hx rfl (hb hby d6_0) ?_
    refine XS.istore X0.here hx rfl (hb hby d6_1) rfl (l' := #[.val (.ref p0), .val (.int 0), .val (.ref p2), .val (.int 0), .val (.int 3), .val (.int 0), .unset]) rfl ?_
    refine XS.iload X0.here hx rfl (hb hby d6_3) rfl ?_
    refine XS.iload X0.here hx rfl (hb hby d6_5) rfl ?_
    refine XS.icmpNo X0.here hx rfl (hb hby d6_7) rfl (tlt (by decide)).2.1 ?_
    refine XS.aloadN X0.here hx rfl (hb hby d6_10) rfl rfl ?_
    refine XS.iloadN X0.here hx rfl (hb hby d6_11) rfl ?_
    refine X0.caload hx (j := (0 : Int32)) (v := (.int c0)) (by rw [e0]; exact Ara1.1) (State.isArrayOf_alike hZ.alike Ara1.2.1) Ara1.2.2 hin2 hat3 (g := (mkF m 12 #[.val (.ref p0), .val (.int 0), .val (.ref p2), .val (.int 0), .val (.int 3), .val (.int 0), .unset] [(.int 0), (.ref p0)])) rfl rfl (hb hby d6_12) _ ?_
    show Steps p.tables e below (s₁.setTop (mkF m 13 #[.val (.ref p0), .val (.int 0), .val (.ref p2), .val (.int 0), .val (.int 3), .val (.int 0), .unset] [(.int c0)])) _
    refine XS.istore X0.here hx rfl (hb hby d6_13) rfl (l' := #[.val (.ref p0), .val (.int 0), .val (.ref p2), .val (.int 0), .val (.int 3), .val (.int 0), .val (.int c0)]) rfl ?_
    refine XS.iload X0.here hx rfl (hb hby d6_15) rfl ?_
    refine XS.sipush X0.here hx rfl (hb hby d6_17) ?_
    refine XS.icmpYes X0.here hx rfl (pc0 := 20) (pc' := 26) rfl (hb hby d6_20) rfl (flt hc0).2.2.2 (by decide) (by decide) ?_
    refine XS.aloadN X0.here hx rfl (hb hby d6_26) rfl rfl ?_
    refine XS.iloadN X0.here hx rfl (hb hby d6_27) rfl ?_
    refine XS.iload X0.here hx rfl (hb hby d6_28) rfl ?_
    refine XS.i2b X0.here hx rfl (hb hby d6_30) rfl ?_
    refine st6 _ ?_
    refine XS.iinc X6.here hx rfl (hb hby d6_32) rfl (l' := #[.val (.ref p0), .val (.int 1), .val (.ref p2), .val (.int 0), .val (.int 3), .val (.int 0), .val (.int c0)]) rfl ?_
    show Steps p.tables e below (T6.setTop (mkF m 35 #[.val (.ref p0), .val (.int 1), .val (.ref p2), .val (.int 0), .val (.int 3), .val (.int 0), .val (.int c0)] [])) _
    refine XS.iinc X6.here hx rfl (hb hby d6_35) rfl (l' := #[.val (.ref p0), .val (.int 1), .val (.ref p2), .val (.int 1), .val (.int 3), .val (.int 0), .val (.int c0)]) rfl ?_
    refine XS.iinc X6.here hx rfl (hb hby d6_38) rfl (l' := #[.val (.ref p0), .val (.int 1), .val (.ref p2), .val (.int 1), .val (.int 3), .val (.int 1), .val (.int c0)]) rfl ?_
    refine XS.goto X6.here hx rfl (pc0 := 41) (pc' := 3) rfl (hb hby d6_41) (by decide) (by decide) ?_
    refine XS.iload X6.here hx rfl (hb hby d6_3) rfl ?_
    refine XS.iload X6.here hx rfl (hb hby d6_5) rfl ?_
    refine XS.icmpNo X6.here hx rfl (hb hby d6_7) rfl (tlt (by decide)).2.1 ?_
    refine XS.aloadN X6.here hx rfl (hb hby d6_10) rfl rfl ?_
    refine XS.iloadN X6.here hx rfl (hb hby d6_11) rfl ?_
    refine X6.caload hx (j := (1 : Int32)) (v := (.int c1)) (by rw [e6]; exact Ara8.1) (State.isArrayOf_alike hZ.alike Ara8.2.1) Ara8.2.2 hin9 hat10 (g := (mkF m 12 #[.val (.ref p0), .val (.int 1), .val (.ref p2), .val (.int 1), .val (.int 3), .val (.int 1), .val (.int c0)] [(.int 1), (.ref p0)])) rfl rfl (hb hby d6_12) _ ?_
    refine XS.istore X6.here hx rfl (hb hby d6_13) rfl (l' := #[.val (.ref p0), .val (.int 1), .val (.ref p2), .val (.int 1), .val (.int 3), .val (.int 1), .val (.int c1)]) rfl ?_
    show Steps p.tables e below (T6.setTop (mkF m 15 #[.val (.ref p0), .val (.int 1), .val (.ref p2), .val (.int 1), .val (.int 3), .val (.int 1), .val (.int c1)] [])) _
    refine XS.iload X6.here hx rfl (hb hby d6_15) rfl ?_
    refine XS.sipush X6.here hx rfl (hb hby d6_17) ?_
    refine XS.icmpYes X6.here hx rfl (pc0 := 20) (pc' := 26) rfl (hb hby d6_20) rfl (flt hc1).2.2.2 (by decide) (by decide) ?_
    refine XS.aloadN X6.here hx rfl (hb hby d6_26) rfl rfl ?_
    refine XS.iloadN X6.here hx rfl (hb hby d6_27) rfl ?_
    refine XS.iload X6.here hx rfl (hb hby d6_28) rfl ?_
    refine XS.i2b X6.here hx rfl (hb hby d6_30) rfl ?_
    refine st13 _ ?_
    refine XS.iinc X13.here hx rfl (hb hby d6_32) rfl (l' := #[.val (.ref p0), .val (.int 2), .val (.ref p2), .val (.int 1), .val (.int 3), .val (.int 1), .val (.int c1)]) rfl ?_
    refine XS.iinc X13.here hx rfl (hb hby d6_35) rfl (l' := #[.val (.ref p0), .val (.int 2), .val (.ref p2), .val (.int 2), .val (.int 3), .val (.int 1), .val (.int c1)]) rfl ?_
    show Steps p.tables e below (T13.setTop (mkF m 38 #[.val (.ref p0), .val (.int 2), .val (.ref p2), .val (.int 2), .val (.int 3), .val (.int 1), .val (.int c1)] [])) _
    refine XS.iinc X13.here hx rfl (hb hby d6_38) rfl (l' := #[.val (.ref p0), .val (.int 2), .val (.ref p2), .val (.int 2), .val (.int 3), .val (.int 2), .val (.int c1)]) rfl ?_
    refine XS.goto X13.here hx rfl (pc0 := 41) (pc' := 3) rfl (hb hby d6_41) (by decide) (by decide) ?_
    refine XS.iload X13.here hx rfl (hb hby d6_3) rfl ?_
    refine XS.iload X13.here hx rfl (hb hby d6_5) rfl ?_
    refine XS.icmpNo X13.here hx rfl (hb hby d6_7) rfl (tlt (by decide)).2.1 ?_
    refine XS.aloadN X13.here hx rfl (hb hby d6_10) rfl rfl ?_
    refine XS.iloadN X13.here hx rfl (hb hby d6_11) rfl ?_
    refine X13.caload hx (j := (2 : Int32)) (v := (.int c2)) (by rw [e13]; exact Ara15.1) (State.isArrayOf_alike hZ.alike Ara15.2.1) Ara15.2.2 hin16 hat17 (g := (mkF m 12 #[.val (.ref p0), .val (.int 2), .val (.ref p2), .val (.int 2), .val (.int 3), .val (.int 2), .val (.int c1)] [(.int 2), (.ref p0)])) rfl rfl (hb hby d6_12) _ ?_
    refine XS.istore X13.here hx rfl (hb hby d6_13) rfl (l' := #[.val (.ref p0), .val (.int 2), .val (.ref p2), .val (.int 2), .val (.int 3), .val (.int 2), .val (.int c2)]) rfl ?_
    refine XS.iload X13.here hx rfl (hb hby d6_15) rfl ?_
    show Steps p.tables e below (T13.setTop (mkF m 17 #[.val (.ref p0), .val (.int 2), .val (.ref p2), .val (.int 2), .val (.int 3), .val (.int 2), .val (.int c2)] [(.int c2)])) _
    refine XS.sipush X13.here hx rfl (hb hby d6_17) ?_
    refine XS.icmpYes X13.here hx rfl (pc0 := 20) (pc' := 26) rfl (hb hby d6_20) rfl (flt hc2).2.2.2 (by decide) (by decide) ?_
    refine XS.aloadN X13.here hx rfl (hb hby d6_26) rfl rfl ?_
    refine XS.iloadN X13.here hx rfl (hb hby d6_27) rfl ?_
    refine XS.iload X13.here hx rfl (hb hby d6_28) rfl ?_
    refine XS.i2b X13.here hx rfl (hb hby d6_30) rfl ?_
    refine st20 _ ?_
    refine XS.iinc X20.here hx rfl (hb hby d6_32) rfl (l' := #[.val (.ref p0), .val (.int 3), .val (.ref p2), .val (.int 2), .val (.int 3), .val (.int 2), .val (.int c2)]) rfl ?_
    refine XS.iinc X20.here hx rfl (hb hby d6_35) rfl (l' := #[.val (.ref p0), .val (.int 3), .val (.ref p2), .val (.int 3), .val (.int 3), .val (.int 2), .val (.int c2)]) rfl ?_
    refine XS.iinc X20.here hx rfl (hb hby d6_38) rfl (l' := #[.val (.ref p0), .val (.int 3), .val (.ref p2), .val (.int 3), .val (.int 3), .val (.int 3), .val (.int c2)]) rfl ?_
    show Steps p.tables e below (T20.setTop (mkF m 41 #[.val (.ref p0), .val (.int 3), .val (.ref p2), .val (.int 3), .val (.int 3), .val (.int 3), .val (.int c2)] [])) _
    refine XS.goto X20.here hx rfl (pc0 := 41) (pc' := 3) rfl (hb hby d6_41) (by decide) (by decide) ?_
    refine XS.iload X20.here hx rfl (hb hby d6_3) rfl ?_
    refine XS.iload X20.here hx rfl (hb hby d6_5) rfl ?_
    refine XS.icmpYes X20.here hx rfl (pc0 := 7) (pc' := 44) rfl (hb hby d6_7) rfl (flt (by decide)).2.1 (by decide) (by decide) ?_
    refine XS.iload X20.here hx rfl (hb hby d6_44) rfl ?_
    exact Steps.refl _
  subst hA₀
  obtain ⟨fs, hr, hrun, hended, hW, hsame⟩ := X20.leave (v := some (.int 3)) (fun h => by rw [Bd.returns] at h; cases h)
  refine ⟨_, _, s21.trans ?_, hrun, hended, _, _, rfl, ?_, ⟨_, rfl⟩, hW, hsame.mono (by decide) (by decide)⟩
  · show Steps p.tables e below (T20.setTop (mkF m 46 #[.val (.ref p0), .val (.int 3), .val (.ref p2), .val (.int 3), .val (.int 3), .val (.int 3), .val (.int c2)] [(.int 3)])) _
    exact retI X20 hx Bd.returns (hb hby d6_46) hr
  · show Qc5_3_n Z p0 p2 kc c0 c1 c2 kb h0 n0 _ T20.heap _
    rw [e20]
    exact ⟨rfl, N20, K20, V20⟩
theorem pd_rmc3_3_0 : parseMethodDescriptor "([CI[BII)I" = some ⟨[(.array .char), .int, (.array .byte), .int, .int], some .int⟩ := by decide +kernel
theorem pd_rmc3_3_1 : parseMethodDescriptor "([CII)[B" = some ⟨[(.array .char), .int, .int], some (.array .byte)⟩ := by decide +kernel
theorem pd_rmc3_3_2 : parseMethodDescriptor "([BI)C" = some ⟨[(.array .byte), .int], some .char⟩ := by decide +kernel
theorem ef_rmc3_3 (m : MethodId) (p0 : Addr) : entryFrame m #[(.ref p0), (.int 0), (.int 3)] 6 = mkF m 0 #[.val (.ref p0), .val (.int 0), .val (.int 3), .unset, .unset, .unset] [] := by first | (simp [entryFrame, mkF, argsToLocals, Value.category]; done) | rfl
def Qc3_3 (Z : State) (p0 : Addr) (kc : ClassId) (c0 : Int32) (c1 : Int32) (c2 : Int32) (h0 : Heap) (n0 : Nat) (v : Option Value) (h : Heap) (L : List Loc) : Prop := ∃ b : Addr, ∃ kb : ClassId, ∃ ln : Int32, ∃ xs : List Int32, v = some (.ref b) ∧ Fr n0 L ∧ Keep h0 h [] ∧ (Arv Z h b kb .byte ln (xs.map Value.int) (.int 0)) ∧ (h0.size ≤ b) ∧ (ln = (3 : Int32) ∨ ln = (6 : Int32))
set_option maxRecDepth 65536 in
set_option maxHeartbeats 40000000 in
theorem rmc3_3 (l : Launch) (Z : State) (a0 : Array Value) (hw : ∀ d ∈ tables_1, d.before a0 Z = true) (ws : List Jvm.Cond) (p0 : Addr) (kc : ClassId) (c0 : Int32) (c1 : Int32) (c2 : Int32) (h0 : Heap) (n0 : Nat) (O0 : Old Z n0 h0) (F0_ : Arv Z h0 p0 kc .char 3 [(.int c0), (.int c1), (.int c2)] (.int 0)) (F1_ : Sta Z Z.heap "java/lang/StringUTF16" "$assertionsDisabled" "Z" (.int 1)) (F2_ : Sta Z Z.heap "java/lang/StringUTF16" "HI_BYTE_SHIFT" "I" (.int 0)) (F3_ : Sta Z Z.heap "java/lang/StringUTF16" "LO_BYTE_SHIFT" "I" (.int 8)) :
    MetFree l nm6 (head1 (Jvm.Cond.code nm6 jdk_52_method_16_code 6 (some (.array .byte)) :: ws) ({ frames := 3, cells := 2, slots := 9, locals := 40 } : Room)) (fun a U => a = #[(.ref p0), (.int 0), (.int 3)] ∧ Z.Warmed39 U.vm ∧ U.heap = h0) (fun _ _ _ _ _ => True) (fun _ U o U' => ∃ v L, o = .returned v ∧ Qc3_3 Z p0 kc c0 c1 c2 h0 n0 v U'.heap L ∧ FrameEnd U o U' L ({ frames := 3, cells := 2, slots := 9, locals := 40 } : Room).cells ({ frames := 3, cells := 2, slots := 9, locals := 40 } : Room).slots) := by
  refine MetFree.of_bodySF (plainFor_of_name pn_18) hisR ?_
  intro p e s m args below meth c s₁ Bd hml0 hP hK
  obtain ⟨rfl, hZ, hh⟩ := hP
  have hx := Bd.exec
  have hby := Bd.bytes
  have hml : c.maxLocals = 6 := hml0
  have hown : s.vm.findClass "java/lang/StringUTF16" = some m.cls := findClass_of_methodNamed Bd.named
  have X0 : Stand p l e ({ frames := 3, cells := 2, slots := 9, locals := 40 } : Room) s m #[(.ref p0), (.int 0), (.int 3)] below meth c s₁ [] 0 0 := Stand.of_body Bd
  have e0 : s₁.heap = h0 := by rw [← hh, Bd.state]; rfl
  have N0 := Fr.nil n0
  have s0 : Steps p.tables e below (s₁.setTop (entryFrame m #[(.ref p0), (.int 0), (.int 3)] 6)) (s₁.setTop (mkF m 0 #[.val (.ref p0), .val (.int 0), .val (.int 3), .unset, .unset, .unset] [])) := castTop (ef_rmc3_3 m p0) (Steps.refl _)
  obtain ⟨A₀, hA₀⟩ : ∃ z, z = (s₁.setTop (entryFrame m #[(.ref p0), (.int 0), (.int 3)] 6)) := ⟨_, rfl⟩
  rw [← hA₀] at s0
  obtain ⟨T1, h1, k1, X1, e1, E1, A1, st1⟩ := newP X0 hx hZ (wq hw 23 rfl) e0 (g := (mkF m 1 #[.val (.ref p0), .val (.int 0), .val (.int 3), .unset, .unset, .unset] [(.int 3)])) rfl (hb hby d5_1) rfl (by decide) (cap := 3) (by decide) (by decide) (by decide) (by decide)
  obtain ⟨b1, g1⟩ : ∃ z, z = h0.size := ⟨_, rfl⟩
  rw [← g1] at A1 st1
  have ne_p0_b1 : p0 ≠ b1 := Nat.ne_of_lt (Nat.lt_of_lt_of_le F0_.lt (Nat.le_of_eq g1.symm))
  have g_b1 : n0 ≤ b1 := Nat.le_trans (Nat.le_of_eq O0.1.symm) (Nat.le_trans O0.2.1 (Nat.le_of_eq g1.symm))
  have sz_b1 : h0.size ≤ b1 := Nat.le_trans (Keep.refl h0 []).1 (Nat.le_of_eq g1.symm)
  have O1 := O0.ext E1
  have K1 : Keep h0 h1 [] := (Keep.refl h0 []).ext E1
  have V1 : Arv Z h1 b1 k1 .byte 3 [(.int 0), (.int 0), (.int 0)] (.int 0) := (Arv.new A1 (by decide)).pad (pad_rep [] (.int 0) 3)
  have s2 : Steps p.tables e below A₀ (T1.setTop (mkF m 9 #[.val (.ref p0), .val (.int 0), .val (.int 3), .val (.ref b1), .unset, .unset] [(.int 3), (.int 0), (.ref b1), (.int 0), (.ref p0)])) := by
    refine s0.trans ?_
    refine XS.iloadN X0.here hx rfl (hb hby d5_0) rfl ?_
    refine st1 _ ?_
    refine XS.astoreN X1.here hx rfl (hb hby d5_3) rfl rfl (l' := #[.val (.ref p0), .val (.int 0), .val (.int 3), .val (.ref b1), .unset, .unset]) rfl ?_
    refine XS.aloadN X1.here hx rfl (hb hby d5_4) rfl rfl ?_
    refine XS.iloadN X1.here hx rfl (hb hby d5_5) rfl ?_
    refine XS.aloadN X1.here hx rfl (hb hby d5_6) rfl rfl ?_
    refine XS.iconst X1.here hx rfl (hb hby d5_7) ?_
    refine XS.iloadN X1.here hx rfl (hb hby d5_8) rfl ?_
    exact Steps.refl _
  by_cases hy3 : (255 : Int32) < c0
  · have c4 : Arv Z h1 p0 kc .char 3 [(.int c0), (.int c1), (.int c2)] (.int 0) := (F0_.ext E1)
    obtain ⟨_, _, ⟨T5, L5, k5, n5⟩, -, X5, ⟨Lc5, hQ5, l5, y5, z5⟩, st5⟩ := Jvm.LawKit.callS X1 hx (y := (⟨"java/lang/StringUTF16", "compress", "([CI[BII)I"⟩ : MethodName)) hown (mvT hZ (wq hw 24 rfl)) (mvT hZ (wq hw 25 rfl)) (mvT hZ (wq hw 21 rfl)) (mvT hZ (wq hw 26 rfl)) (by decide) (backOf (W := 0) (rmc5_3_0 l Z a0 hw [] p0 b1 kc c0 c1 c2 k1 h1 n0 O1 c4 V1 g_b1 ne_p0_b1 hy3) hZ (wq hw 26 rfl) (wq hw 21 rfl) (by decide) (by decide)) (g := (mkF m 9 #[.val (.ref p0), .val (.int 0), .val (.int 3), .val (.ref b1), .unset, .unset] [(.int 3), (.int 0), (.ref b1), (.int 0), (.ref p0)])) rfl (by rw [hml]; rfl) (argsL := [(.ref p0), (.int 0), (.ref b1), (.int 0), (.int 3)]) (rest := []) (lenOf pd_rmc3_3_0 rfl) rfl (by exact Nat.le_refl _) (hb hby d5_9) (fun _ _ => ⟨rfl, e1, (by decide : 1 + 0 ≤ _), (by decide : 3 + 0 ≤ _)⟩)
    dsimp only [Pt.U, Pt.locs, Pt.cells, Pt.slots] at X5 l5 y5 z5 st5 hQ5
    subst l5 y5 z5
    obtain ⟨rfl, Nq5, Kc5, f5_0⟩ := hQ5
    have N5 := Fr.app N0 Nq5
    have K5 : Keep h0 T5.heap [] := K1.trans Kc5 (allS (Or.inr sz_b1) all0)
    have O5 := O1.keep Kc5 (allS g_b1 all0)
    have c6 : Arv Z T5.heap p0 kc .char 3 [(.int c0), (.int c1), (.int c2)] (.int 0) := (c4.keep Kc5 (ninS ne_p0_b1 nin0))
    obtain ⟨_, _, ⟨T7, L7, k7, n7⟩, -, X7, ⟨Lc7, hQ7, l7, y7, z7⟩, st7⟩ := Jvm.LawKit.callS X5 hx (y := (⟨"java/lang/StringUTF16", "toBytes", "([CII)[B"⟩ : MethodName)) hown (mvT hZ (wq hw 75 rfl)) (mvT hZ (wq hw 76 rfl)) (mvT hZ (wq hw 21 rfl)) (mvT hZ (wq hw 77 rfl)) (by decide) (backOf (W := 0) (rmtb3 l Z a0 hw [] p0 kc c0 c1 c2 T5.heap n0 O5 c6 F1_ F2_ F3_) hZ (wq hw 77 rfl) (wq hw 21 rfl) (by decide) (by decide)) (g := (mkF m 23 #[.val (.ref p0), .val (.int 0), .val (.int 3), .val (.ref b1), .val (.int 0), .unset] [(.int 3), (.int 0), (.ref p0)])) rfl (by rw [hml]; rfl) (argsL := [(.ref p0), (.int 0), (.int 3)]) (rest := []) (lenOf pd_rmc3_3_1 rfl) rfl (by exact Nat.le_refl _) (hb hby d5_23) (fun _ _ => ⟨rfl, (rfl : T5.heap = T5.heap), (by decide : 1 + 1 ≤ _), (by decide : 3 + 6 ≤ _)⟩)
    dsimp only [Pt.U, Pt.locs, Pt.cells, Pt.slots] at X7 l7 y7 z7 st7 hQ7
    subst l7 y7 z7
    obtain ⟨u8, u9, rfl, Nq7, Kc7, f7_0, f7_1⟩ := hQ7
    have N7 := Fr.app N5 Nq7
    have ne_p0_u8 : p0 ≠ u8 := Nat.ne_of_lt (Nat.lt_of_lt_of_le c6.lt f7_1)
    have ne_b1_u8 : b1 ≠ u8 := Nat.ne_of_lt (Nat.lt_of_lt_of_le f5_0.lt f7_1)
    have g_u8 : n0 ≤ u8 := Nat.le_trans (Nat.le_of_eq O5.1.symm) (Nat.le_trans O5.2.1 f7_1)
    have sz_u8 : h0.size ≤ u8 := Nat.le_trans K5.1 f7_1
    have K7 : Keep h0 T7.heap [] := K5.trans Kc7 all0
    have O7 := O5.keep Kc7 all0
    obtain ⟨T10, L10, X10, e10, N10, st10⟩ := own_callP X7 hx hZ hown (wk91 hw) (wk92 hw) (wk21 hw) (wk93 hw) (by decide) (rmug l Z a0 hw [] u8 (0 : Int32) u9 (6 : Int32) [(((c0 >>> ((0 : Int32) &&& 31)).toInt8.toInt32).toInt8.toInt32), (((c0 >>> ((8 : Int32) &&& 31)).toInt8.toInt32).toInt8.toInt32), (((c1 >>> ((0 : Int32) &&& 31)).toInt8.toInt32).toInt8.toInt32), (((c1 >>> ((8 : Int32) &&& 31)).toInt8.toInt32).toInt8.toInt32), (((c2 >>> ((0 : Int32) &&& 31)).toInt8.toInt32).toInt8.toInt32), (((c2 >>> ((8 : Int32) &&& 31)).toInt8.toInt32).toInt8.toInt32)] T7.heap n0 O7 f7_0 F1_ F2_ F3_ ⟨by decide, by decide⟩ ⟨by decide, by decide⟩) (rfl : T7.heap = T7.heap) N7 (W := 0) (by decide) (by decide) (by decide) (by decide) (g := (mkF m 32 #[.val (.ref p0), .val (.int 0), .val (.int 3), .val (.ref b1), .val (.int 0), .val (.ref u8)] [(.int 0), (.ref u8)])) rfl (by rw [hml]; rfl) (argsL := [(.ref u8), (.int 0)]) (rest := []) (lenOf pd_rmc3_3_2 rfl) rfl (by exact Nat.le_refl _) (hb hby d5_32)
    have c11 : Arv Z T7.heap p0 kc .char 3 [(.int c0), (.int c1), (.int c2)] (.int 0) := (c6.keep Kc7 nin0)
    obtain ⟨cla12, Ara12, qa12, Sa12, Za12, Ha12, Ga12⟩ := id c11
    have s13 : Steps p.tables e below A₀ (T10.setTop (mkF m 56 #[.val (.ref p0), .val (.int 0), .val (.int 3), .val (.ref b1), .val (.int 0), .val (.ref u8)] [(.ref u8)])) := by
      refine s2.trans ?_
      refine st5 _ ?_
      refine XS.istore X5.here hx rfl (hb hby d5_12) rfl (l' := #[.val (.ref p0), .val (.int 0), .val (.int 3), .val (.ref b1), .val (.int 0), .unset]) rfl ?_
      refine XS.iload X5.here hx rfl (hb hby d5_14) rfl ?_
      refine XS.iloadN X5.here hx rfl (hb hby d5_16) rfl ?_
      refine XS.icmpNo X5.here hx rfl (hb hby d5_17) rfl (feq (by decide)).1 ?_
      refine XS.aloadN X5.here hx rfl (hb hby d5_20) rfl rfl ?_
      refine XS.iloadN X5.here hx rfl (hb hby d5_21) rfl ?_
      refine XS.iloadN X5.here hx rfl (hb hby d5_22) rfl ?_
      show Steps p.tables e below (T5.setTop (mkF m 23 #[.val (.ref p0), .val (.int 0), .val (.int 3), .val (.ref b1), .val (.int 0), .unset] [(.int 3), (.int 0), (.ref p0)])) _
      refine st7 _ ?_
      refine XS.astore X7.here hx rfl (hb hby d5_26) rfl rfl (l' := #[.val (.ref p0), .val (.int 0), .val (.int 3), .val (.ref b1), .val (.int 0), .val (.ref u8)]) rfl ?_
      refine XS.aload X7.here hx rfl (hb hby d5_28) rfl rfl ?_
      refine XS.iload X7.here hx rfl (hb hby d5_30) rfl ?_
      refine st10 _ ?_
      refine XS.sipush X10.here hx rfl (hb hby d5_35) ?_
      refine XS.icmpYes X10.here hx rfl (pc0 := 38) (pc' := 54) rfl (hb hby d5_38) rfl (tlt (own_gc_gt c0 hy3 (Ga12 0 (by rw [Sa12]; decide)))).2.2.1 (by decide) (by decide) ?_
      refine XS.aload X10.here hx rfl (hb hby d5_54) rfl rfl ?_
      exact Steps.refl _
    subst hA₀
    obtain ⟨fs, hr, hrun, hended, hW, hsame⟩ := X10.leave (v := some (.ref u8)) (fun h => by rw [Bd.returns] at h; cases h)
    refine ⟨_, _, s13.trans ?_, hrun, hended, _, _, rfl, ?_, ⟨_, rfl⟩, hW, hsame.mono (by decide) (by decide)⟩
    · show Steps p.tables e below (T10.setTop (mkF m 56 #[.val (.ref p0), .val (.int 0), .val (.int 3), .val (.ref b1), .val (.int 0), .val (.ref u8)] [(.ref u8)])) _
      jvm_step X10.here [X10.here.top, hx, (hb hby d5_56), X10.method', Bd.returns, Value.isRef, FieldType.isReference]
      first | (intro acts; rw [hr _ acts rfl rfl rfl]) | rw [hr _ _ rfl rfl rfl]
      exact Steps.refl _
    · show Qc3_3 Z p0 kc c0 c1 c2 h0 n0 _ T10.heap _
      rw [e10]
      exact ⟨u8, u9, (6 : Int32), [(((c0 >>> ((0 : Int32) &&& 31)).toInt8.toInt32).toInt8.toInt32), (((c0 >>> ((8 : Int32) &&& 31)).toInt8.toInt32).toInt8.toInt32), (((c1 >>> ((0 : Int32) &&& 31)).toInt8.toInt32).toInt8.toInt32), (((c1 >>> ((8 : Int32) &&& 31)).toInt8.toInt32).toInt8.toInt32), (((c2 >>> ((0 : Int32) &&& 31)).toInt8.toInt32).toInt8.toInt32), (((c2 >>> ((8 : Int32) &&& 31)).toInt8.toInt32).toInt8.toInt32)], rfl, N10, K7, f7_0, sz_u8, (Or.inr rfl)⟩
  · by_cases hy14 : (255 : Int32) < c1
    · have c15 : Arv Z h1 p0 kc .char 3 [(.int c0), (.int c1), (.int c2)] (.int 0) := (F0_.ext E1)
      obtain ⟨_, _, ⟨T16, L16, k16, n16⟩, -, X16, ⟨Lc16, hQ16, l16, y16, z16⟩, st16⟩ := Jvm.LawKit.callS X1 hx (y := (⟨"java/lang/StringUTF16", "compress", "([CI[BII)I"⟩ : MethodName)) hown (mvT hZ (wq hw 24 rfl)) (mvT hZ (wq hw 25 rfl)) (mvT hZ (wq hw 21 rfl)) (mvT hZ (wq hw 26 rfl)) (by decide) (backOf (W := 0) (rmc5_3_1 l Z a0 hw [] p0 b1 kc c0 c1 c2 k1 h1 n0 O1 c15 V1 g_b1 ne_p0_b1 hy3 hy14) hZ (wq hw 26 rfl) (wq hw 21 rfl) (by decide) (by decide)) (g := (mkF m 9 #[.val (.ref p0), .val (.int 0), .val (.int 3), .val (.ref b1), .unset, .unset] [(.int 3), (.int 0), (.ref b1), (.int 0), (.ref p0)])) rfl (by rw [hml]; rfl) (argsL := [(.ref p0), (.int 0), (.ref b1), (.int 0), (.int 3)]) (rest := []) (lenOf pd_rmc3_3_0 rfl) rfl (by exact Nat.le_refl _) (hb hby d5_9) (fun _ _ => ⟨rfl, e1, (by decide : 1 + 0 ≤ _), (by decide : 3 + 0 ≤ _)⟩)
      dsimp only [Pt.U, Pt.locs, Pt.cells, Pt.slots] at X16 l16 y16 z16 st16 hQ16
      subst l16 y16 z16
      obtain ⟨rfl, Nq16, Kc16, f16_0⟩ := hQ16
      have N16 := Fr.app N0 Nq16
      have K16 : Keep h0 T16.heap [] := K1.trans Kc16 (allS (Or.inr sz_b1) all0)
      have O16 := O1.keep Kc16 (allS g_b1 all0)
      have c17 : Arv Z T16.heap p0 kc .char 3 [(.int c0), (.int c1), (.int c2)] (.int 0) := (c15.keep Kc16 (ninS ne_p0_b1 nin0))
      obtain ⟨_, _, ⟨T18, L18, k18, n18⟩, -, X18, ⟨Lc18, hQ18, l18, y18, z18⟩, st18⟩ := Jvm.LawKit.callS X16 hx (y := (⟨"java/lang/StringUTF16", "toBytes", "([CII)[B"⟩ : MethodName)) hown (mvT hZ (wq hw 75 rfl)) (mvT hZ (wq hw 76 rfl)) (mvT hZ (wq hw 21 rfl)) (mvT hZ (wq hw 77 rfl)) (by decide) (backOf (W := 0) (rmtb3 l Z a0 hw [] p0 kc c0 c1 c2 T16.heap n0 O16 c17 F1_ F2_ F3_) hZ (wq hw 77 rfl) (wq hw 21 rfl) (by decide) (by decide)) (g := (mkF m 23 #[.val (.ref p0), .val (.int 0), .val (.int 3), .val (.ref b1), .val (.int 1), .unset] [(.int 3), (.int 0), (.ref p0)])) rfl (by rw [hml]; rfl) (argsL := [(.ref p0), (.int 0), (.int 3)]) (rest := []) (lenOf pd_rmc3_3_1 rfl) rfl (by exact Nat.le_refl _) (hb hby d5_23) (fun _ _ => ⟨rfl, (rfl : T16.heap = T16.heap), (by decide : 1 + 1 ≤ _), (by decide : 3 + 6 ≤ _)⟩)
      dsimp only [Pt.U, Pt.locs, Pt.cells, Pt.slots] at X18 l18 y18 z18 st18 hQ18
      subst l18 y18 z18
      obtain ⟨u19, u20, rfl, Nq18, Kc18, f18_0, f18_1⟩ := hQ18
      have N18 := Fr.app N16 Nq18
      have ne_p0_u19 : p0 ≠ u19 := Nat.ne_of_lt (Nat.lt_of_lt_of_le c17.lt f18_1)
      have ne_b1_u19 : b1 ≠ u19 := Nat.ne_of_lt (Nat.lt_of_lt_of_le f16_0.lt f18_1)
      have g_u19 : n0 ≤ u19 := Nat.le_trans (Nat.le_of_eq O16.1.symm) (Nat.le_trans O16.2.1 f18_1)
      have sz_u19 : h0.size ≤ u19 := Nat.le_trans K16.1 f18_1
      have K18 : Keep h0 T18.heap [] := K16.trans Kc18 all0
      have O18 := O16.keep Kc18 all0
      obtain ⟨T21, L21, X21, e21, N21, st21⟩ := own_callP X18 hx hZ hown (wk91 hw) (wk92 hw) (wk21 hw) (wk93 hw) (by decide) (rmug l Z a0 hw [] u19 (1 : Int32) u20 (6 : Int32) [(((c0 >>> ((0 : Int32) &&& 31)).toInt8.toInt32).toInt8.toInt32), (((c0 >>> ((8 : Int32) &&& 31)).toInt8.toInt32).toInt8.toInt32), (((c1 >>> ((0 : Int32) &&& 31)).toInt8.toInt32).toInt8.toInt32), (((c1 >>> ((8 : Int32) &&& 31)).toInt8.toInt32).toInt8.toInt32), (((c2 >>> ((0 : Int32) &&& 31)).toInt8.toInt32).toInt8.toInt32), (((c2 >>> ((8 : Int32) &&& 31)).toInt8.toInt32).toInt8.toInt32)] T18.heap n0 O18 f18_0 F1_ F2_ F3_ ⟨by decide, by decide⟩ ⟨by decide, by decide⟩) (rfl : T18.heap = T18.heap) N18 (W := 0) (by decide) (by decide) (by decide) (by decide) (g := (mkF m 32 #[.val (.ref p0), .val (.int 0), .val (.int 3), .val (.ref b1), .val (.int 1), .val (.ref u19)] [(.int 1), (.ref u19)])) rfl (by rw [hml]; rfl) (argsL := [(.ref u19), (.int 1)]) (rest := []) (lenOf pd_rmc3_3_2 rfl) rfl (by exact Nat.le_refl _) (hb hby d5_32)
      have c22 : Arv Z T18.heap p0 kc .char 3 [(.int c0), (.int c1), (.int c2)] (.int 0) := (c17.keep Kc18 nin0)
      obtain ⟨cla23, Ara23, qa23, Sa23, Za23, Ha23, Ga23⟩ := id c22
      have s24 : Steps p.tables e below A₀ (T21.setTop (mkF m 56 #[.val (.ref p0), .val (.int 0), .val (.int 3), .val (.ref b1), .val (.int 1), .val (.ref u19)] [(.ref u19)])) := by
        refine s2.trans ?_
        refine st16 _ ?_
        refine XS.istore X16.here hx rfl (hb hby d5_12) rfl (l' := #[.val (.ref p0), .val (.int 0), .val (.int 3), .val (.ref b1), .val (.int 1), .unset]) rfl ?_
        refine XS.iload X16.here hx rfl (hb hby d5_14) rfl ?_
        refine XS.iloadN X16.here hx rfl (hb hby d5_16) rfl ?_
        refine XS.icmpNo X16.here hx rfl (hb hby d5_17) rfl (feq (by decide)).1 ?_
        refine XS.aloadN X16.here hx rfl (hb hby d5_20) rfl rfl ?_
        refine XS.iloadN X16.here hx rfl (hb hby d5_21) rfl ?_
        refine XS.iloadN X16.here hx rfl (hb hby d5_22) rfl ?_
        show Steps p.tables e below (T16.setTop (mkF m 23 #[.val (.ref p0), .val (.int 0), .val (.int 3), .val (.ref b1), .val (.int 1), .unset] [(.int 3), (.int 0), (.ref p0)])) _
        refine st18 _ ?_
        refine XS.astore X18.here hx rfl (hb hby d5_26) rfl rfl (l' := #[.val (.ref p0), .val (.int 0), .val (.int 3), .val (.ref b1), .val (.int 1), .val (.ref u19)]) rfl ?_
        refine XS.aload X18.here hx rfl (hb hby d5_28) rfl rfl ?_
        refine XS.iload X18.here hx rfl (hb hby d5_30) rfl ?_
        refine st21 _ ?_
        refine XS.sipush X21.here hx rfl (hb hby d5_35) ?_
        refine XS.icmpYes X21.here hx rfl (pc0 := 38) (pc' := 54) rfl (hb hby d5_38) rfl (tlt (own_gc_gt c1 hy14 (Ga23 1 (by rw [Sa23]; decide)))).2.2.1 (by decide) (by decide) ?_
        refine XS.aload X21.here hx rfl (hb hby d5_54) rfl rfl ?_
        exact Steps.refl _
      subst hA₀
      obtain ⟨fs, hr, hrun, hended, hW, hsame⟩ := X21.leave (v := some (.ref u19)) (fun h => by rw [Bd.returns] at h; cases h)
      refine ⟨_, _, s24.trans ?_, hrun, hended, _, _, rfl, ?_, ⟨_, rfl⟩, hW, hsame.mono (by decide) (by decide)⟩
      · show Steps p.tables e below (T21.setTop (mkF m 56 #[.val (.ref p0), .val (.int 0), .val (.int 3), .val (.ref b1), .val (.int 1), .val (.ref u19)] [(.ref u19)])) _
        jvm_step X21.here [X21.here.top, hx, (hb hby d5_56), X21.method', Bd.returns, Value.isRef, FieldType.isReference]
        first | (intro acts; rw [hr _ acts rfl rfl rfl]) | rw [hr _ _ rfl rfl rfl]
        exact Steps.refl _
      · show Qc3_3 Z p0 kc c0 c1 c2 h0 n0 _ T21.heap _
        rw [e21]
        exact ⟨u19, u20, (6 : Int32), [(((c0 >>> ((0 : Int32) &&& 31)).toInt8.toInt32).toInt8.toInt32), (((c0 >>> ((8 : Int32) &&& 31)).toInt8.toInt32).toInt8.toInt32), (((c1 >>> ((0 : Int32) &&& 31)).toInt8.toInt32).toInt8.toInt32), (((c1 >>> ((8 : Int32) &&& 31)).toInt8.toInt32).toInt8.toInt32), (((c2 >>> ((0 : Int32) &&& 31)).toInt8.toInt32).toInt8.toInt32), (((c2 >>> ((8 : Int32) &&& 31)).toInt8.toInt32).toInt8.toInt32)], rfl, N21, K18, f18_0, sz_u19, (Or.inr rfl)⟩
    · by_cases hy25 : (255 : Int32) < c2
      · have c26 : Arv Z h1 p0 kc .char 3 [(.int c0), (.int c1), (.int c2)] (.int 0) := (F0_.ext E1)
        obtain ⟨_, _, ⟨T27, L27, k27, n27⟩, -, X27, ⟨Lc27, hQ27, l27, y27, z27⟩, st27⟩ := Jvm.LawKit.callS X1 hx (y := (⟨"java/lang/StringUTF16", "compress", "([CI[BII)I"⟩ : MethodName)) hown (mvT hZ (wq hw 24 rfl)) (mvT hZ (wq hw 25 rfl)) (mvT hZ (wq hw 21 rfl)) (mvT hZ (wq hw 26 rfl)) (by decide) (backOf (W := 0) (rmc5_3_2 l Z a0 hw [] p0 b1 kc c0 c1 c2 k1 h1 n0 O1 c26 V1 g_b1 ne_p0_b1 hy3 hy14 hy25) hZ (wq hw 26 rfl) (wq hw 21 rfl) (by decide) (by decide)) (g := (mkF m 9 #[.val (.ref p0), .val (.int 0), .val (.int 3), .val (.ref b1), .unset, .unset] [(.int 3), (.int 0), (.ref b1), (.int 0), (.ref p0)])) rfl (by rw [hml]; rfl) (argsL := [(.ref p0), (.int 0), (.ref b1), (.int 0), (.int 3)]) (rest := []) (lenOf pd_rmc3_3_0 rfl) rfl (by exact Nat.le_refl _) (hb hby d5_9) (fun _ _ => ⟨rfl, e1, (by decide : 1 + 0 ≤ _), (by decide : 3 + 0 ≤ _)⟩)
        dsimp only [Pt.U, Pt.locs, Pt.cells, Pt.slots] at X27 l27 y27 z27 st27 hQ27
        subst l27 y27 z27
        obtain ⟨rfl, Nq27, Kc27, f27_0⟩ := hQ27
        have N27 := Fr.app N0 Nq27
        have K27 : Keep h0 T27.heap [] := K1.trans Kc27 (allS (Or.inr sz_b1) all0)
        have O27 := O1.keep Kc27 (allS g_b1 all0)
        have c28 : Arv Z T27.heap p0 kc .char 3 [(.int c0), (.int c1), (.int c2)] (.int 0) := (c26.keep Kc27 (ninS ne_p0_b1 nin0))
        obtain ⟨_, _, ⟨T29, L29, k29, n29⟩, -, X29, ⟨Lc29, hQ29, l29, y29, z29⟩, st29⟩ := Jvm.LawKit.callS X27 hx (y := (⟨"java/lang/StringUTF16", "toBytes", "([CII)[B"⟩ : MethodName)) hown (mvT hZ (wq hw 75 rfl)) (mvT hZ (wq hw 76 rfl)) (mvT hZ (wq hw 21 rfl)) (mvT hZ (wq hw 77 rfl)) (by decide) (backOf (W := 0) (rmtb3 l Z a0 hw [] p0 kc c0 c1 c2 T27.heap n0 O27 c28 F1_ F2_ F3_) hZ (wq hw 77 rfl) (wq hw 21 rfl) (by decide) (by decide)) (g := (mkF m 23 #[.val (.ref p0), .val (.int 0), .val (.int 3), .val (.ref b1), .val (.int 2), .unset] [(.int 3), (.int 0), (.ref p0)])) rfl (by rw [hml]; rfl) (argsL := [(.ref p0), (.int 0), (.int 3)]) (rest := []) (lenOf pd_rmc3_3_1 rfl) rfl (by exact Nat.le_refl _) (hb hby d5_23) (fun _ _ => ⟨rfl, (rfl : T27.heap = T27.heap), (by decide : 1 + 1 ≤ _), (by decide : 3 + 6 ≤ _)⟩)
        dsimp only [Pt.U, Pt.locs, Pt.cells, Pt.slots] at X29 l29 y29 z29 st29 hQ29
        subst l29 y29 z29
        obtain ⟨u30, u31, rfl, Nq29, Kc29, f29_0, f29_1⟩ := hQ29
        have N29 := Fr.app N27 Nq29
        have ne_p0_u30 : p0 ≠ u30 := Nat.ne_of_lt (Nat.lt_of_lt_of_le c28.lt f29_1)
        have ne_b1_u30 : b1 ≠ u30 := Nat.ne_of_lt (Nat.lt_of_lt_of_le f27_0.lt f29_1)
        have g_u30 : n0 ≤ u30 := Nat.le_trans (Nat.le_of_eq O27.1.symm) (Nat.le_trans O27.2.1 f29_1)
        have sz_u30 : h0.size ≤ u30 := Nat.le_trans K27.1 f29_1
        have K29 : Keep h0 T29.heap [] := K27.trans Kc29 all0
        have O29 := O27.keep Kc29 all0
        obtain ⟨T32, L32, X32, e32, N32, st32⟩ := own_callP X29 hx hZ hown (wk91 hw) (wk92 hw) (wk21 hw) (wk93 hw) (by decide) (rmug l Z a0 hw [] u30 (2 : Int32) u31 (6 : Int32) [(((c0 >>> ((0 : Int32) &&& 31)).toInt8.toInt32).toInt8.toInt32), (((c0 >>> ((8 : Int32) &&& 31)).toInt8.toInt32).toInt8.toInt32), (((c1 >>> ((0 : Int32) &&& 31)).toInt8.toInt32).toInt8.toInt32), (((c1 >>> ((8 : Int32) &&& 31)).toInt8.toInt32).toInt8.toInt32), (((c2 >>> ((0 : Int32) &&& 31)).toInt8.toInt32).toInt8.toInt32), (((c2 >>> ((8 : Int32) &&& 31)).toInt8.toInt32).toInt8.toInt32)] T29.heap n0 O29 f29_0 F1_ F2_ F3_ ⟨by decide, by decide⟩ ⟨by decide, by decide⟩) (rfl : T29.heap = T29.heap) N29 (W := 0) (by decide) (by decide) (by decide) (by decide) (g := (mkF m 32 #[.val (.ref p0), .val (.int 0), .val (.int 3), .val (.ref b1), .val (.int 2), .val (.ref u30)] [(.int 2), (.ref u30)])) rfl (by rw [hml]; rfl) (argsL := [(.ref u30), (.int 2)]) (rest := []) (lenOf pd_rmc3_3_2 rfl) rfl (by exact Nat.le_refl _) (hb hby d5_32)
        have c33 : Arv Z T29.heap p0 kc .char 3 [(.int c0), (.int c1), (.int c2)] (.int 0) := (c28.keep Kc29 nin0)
        obtain ⟨cla34, Ara34, qa34, Sa34, Za34, Ha34, Ga34⟩ := id c33
        have s35 : Steps p.tables e below A₀ (T32.setTop (mkF m 56 #[.val (.ref p0), .val (.int 0), .val (.int 3), .val (.ref b1), .val (.int 2), .val (.ref u30)] [(.ref u30)])) := by
          refine s2.trans ?_
          refine st27 _ ?_
          refine XS.istore X27.here hx rfl (hb hby d5_12) rfl (l' := #[.val (.ref p0), .val (.int 0), .val (.int 3), .val (.ref b1), .val (.int 2), .unset]) rfl ?_
          refine XS.iload X27.here hx rfl (hb hby d5_14) rfl ?_
          refine XS.iloadN X27.here hx rfl (hb hby d5_16) rfl ?_
          refine XS.icmpNo X27.here hx rfl (hb hby d5_17) rfl (feq (by decide)).1 ?_
          refine XS.aloadN X27.here hx rfl (hb hby d5_20) rfl rfl ?_
          refine XS.iloadN X27.here hx rfl (hb hby d5_21) rfl ?_
          refine XS.iloadN X27.here hx rfl (hb hby d5_22) rfl ?_
          show Steps p.tables e below (T27.setTop (mkF m 23 #[.val (.ref p0), .val (.int 0), .val (.int 3), .val (.ref b1), .val (.int 2), .unset] [(.int 3), (.int 0), (.ref p0)])) _
          refine st29 _ ?_
          refine XS.astore X29.here hx rfl (hb hby d5_26) rfl rfl (l' := #[.val (.ref p0), .val (.int 0), .val (.int 3), .val (.ref b1), .val (.int 2), .val (.ref u30)]) rfl ?_
          refine XS.aload X29.here hx rfl (hb hby d5_28) rfl rfl ?_
          refine XS.iload X29.here hx rfl (hb hby d5_30) rfl ?_
          refine st32 _ ?_
          refine XS.sipush X32.here hx rfl (hb hby d5_35) ?_
          refine XS.icmpYes X32.here hx rfl (pc0 := 38) (pc' := 54) rfl (hb hby d5_38) rfl (tlt (own_gc_gt c2 hy25 (Ga34 2 (by rw [Sa34]; decide)))).2.2.1 (by decide) (by decide) ?_
          refine XS.aload X32.here hx rfl (hb hby d5_54) rfl rfl ?_
          exact Steps.refl _
        subst hA₀
        obtain ⟨fs, hr, hrun, hended, hW, hsame⟩ := X32.leave (v := some (.ref u30)) (fun h => by rw [Bd.returns] at h; cases h)
        refine ⟨_, _, s35.trans ?_, hrun, hended, _, _, rfl, ?_, ⟨_, rfl⟩, hW, hsame.mono (by decide) (by decide)⟩
        · show Steps p.tables e below (T32.setTop (mkF m 56 #[.val (.ref p0), .val (.int 0), .val (.int 3), .val (.ref b1), .val (.int 2), .val (.ref u30)] [(.ref u30)])) _
          jvm_step X32.here [X32.here.top, hx, (hb hby d5_56), X32.method', Bd.returns, Value.isRef, FieldType.isReference]
          first | (intro acts; rw [hr _ acts rfl rfl rfl]) | rw [hr _ _ rfl rfl rfl]
          exact Steps.refl _
        · show Qc3_3 Z p0 kc c0 c1 c2 h0 n0 _ T32.heap _
          rw [e32]
          exact ⟨u30, u31, (6 : Int32), [(((c0 >>> ((0 : Int32) &&& 31)).toInt8.toInt32).toInt8.toInt32), (((c0 >>> ((8 : Int32) &&& 31)).toInt8.toInt32).toInt8.toInt32), (((c1 >>> ((0 : Int32) &&& 31)).toInt8.toInt32).toInt8.toInt32), (((c1 >>> ((8 : Int32) &&& 31)).toInt8.toInt32).toInt8.toInt32), (((c2 >>> ((0 : Int32) &&& 31)).toInt8.toInt32).toInt8.toInt32), (((c2 >>> ((8 : Int32) &&& 31)).toInt8.toInt32).toInt8.toInt32)], rfl, N32, K29, f29_0, sz_u30, (Or.inr rfl)⟩
      · have c36 : Arv Z h1 p0 kc .char 3 [(.int c0), (.int c1), (.int c2)] (.int 0) := (F0_.ext E1)
        obtain ⟨_, _, ⟨T37, L37, k37, n37⟩, -, X37, ⟨Lc37, hQ37, l37, y37, z37⟩, st37⟩ := Jvm.LawKit.callS X1 hx (y := (⟨"java/lang/StringUTF16", "compress", "([CI[BII)I"⟩ : MethodName)) hown (mvT hZ (wq hw 24 rfl)) (mvT hZ (wq hw 25 rfl)) (mvT hZ (wq hw 21 rfl)) (mvT hZ (wq hw 26 rfl)) (by decide) (backOf (W := 0) (rmc5_3_n l Z a0 hw [] p0 b1 kc c0 c1 c2 k1 h1 n0 O1 c36 V1 g_b1 ne_p0_b1 hy3 hy14 hy25) hZ (wq hw 26 rfl) (wq hw 21 rfl) (by decide) (by decide)) (g := (mkF m 9 #[.val (.ref p0), .val (.int 0), .val (.int 3), .val (.ref b1), .unset, .unset] [(.int 3), (.int 0), (.ref b1), (.int 0), (.ref p0)])) rfl (by rw [hml]; rfl) (argsL := [(.ref p0), (.int 0), (.ref b1), (.int 0), (.int 3)]) (rest := []) (lenOf pd_rmc3_3_0 rfl) rfl (by exact Nat.le_refl _) (hb hby d5_9) (fun _ _ => ⟨rfl, e1, (by decide : 1 + 0 ≤ _), (by decide : 3 + 0 ≤ _)⟩)
        dsimp only [Pt.U, Pt.locs, Pt.cells, Pt.slots] at X37 l37 y37 z37 st37 hQ37
        subst l37 y37 z37
        obtain ⟨rfl, Nq37, Kc37, f37_0⟩ := hQ37
        have N37 := Fr.app N0 Nq37
        have K37 : Keep h0 T37.heap [] := K1.trans Kc37 (allS (Or.inr sz_b1) all0)
        have O37 := O1.keep Kc37 (allS g_b1 all0)
        have s38 : Steps p.tables e below A₀ (T37.setTop (mkF m 58 #[.val (.ref p0), .val (.int 0), .val (.int 3), .val (.ref b1), .val (.int 3), .unset] [(.ref b1)])) := by
          refine s2.trans ?_
          refine st37 _ ?_
          refine XS.istore X37.here hx rfl (hb hby d5_12) rfl (l' := #[.val (.ref p0), .val (.int 0), .val (.int 3), .val (.ref b1), .val (.int 3), .unset]) rfl ?_
          refine XS.iload X37.here hx rfl (hb hby d5_14) rfl ?_
          refine XS.iloadN X37.here hx rfl (hb hby d5_16) rfl ?_
          refine XS.icmpYes X37.here hx rfl (pc0 := 17) (pc' := 57) rfl (hb hby d5_17) rfl (teq (by decide)).1 (by decide) (by decide) ?_
          refine XS.aloadN X37.here hx rfl (hb hby d5_57) rfl rfl ?_
          exact Steps.refl _
        subst hA₀
        obtain ⟨fs, hr, hrun, hended, hW, hsame⟩ := X37.leave (v := some (.ref b1)) (fun h => by rw [Bd.returns] at h; cases h)
        refine ⟨_, _, s38.trans ?_, hrun, hended, _, _, rfl, ?_, ⟨_, rfl⟩, hW, hsame.mono (by decide) (by decide)⟩
        · show Steps p.tables e below (T37.setTop (mkF m 58 #[.val (.ref p0), .val (.int 0), .val (.int 3), .val (.ref b1), .val (.int 3), .unset] [(.ref b1)])) _
          jvm_step X37.here [X37.here.top, hx, (hb hby d5_58), X37.method', Bd.returns, Value.isRef, FieldType.isReference]
          first | (intro acts; rw [hr _ acts rfl rfl rfl]) | rw [hr _ _ rfl rfl rfl]
          exact Steps.refl _
        · show Qc3_3 Z p0 kc c0 c1 c2 h0 n0 _ T37.heap _
          exact ⟨b1, k1, (3 : Int32), [((c0.toInt8.toInt32).toInt8.toInt32), ((c1.toInt8.toInt32).toInt8.toInt32), ((c2.toInt8.toInt32).toInt8.toInt32)], rfl, N37, K37, f37_0, sz_b1, (Or.inl rfl)⟩
theorem ef_rmcf_3_3 (m : MethodId) (p0 : Addr) : entryFrame m #[(.ref p0), (.int 3)] 2 = mkF m 0 #[.val (.ref p0), .val (.int 3)] [] := by first | (simp [entryFrame, mkF, argsToLocals, Value.category]; done) | rfl
def Qcf_3_3 (Z : State) (p0 : Addr) (kb : ClassId) (xs : List Int32) (h0 : Heap) (n0 : Nat) (v : Option Value) (h : Heap) (L : List Loc) : Prop := v = some (.int 0) ∧ Fr n0 L ∧ h = h0
set_option maxRecDepth 65536 in
set_option maxHeartbeats 40000000 in
theorem rmcf_3_3 (l : Launch) (Z : State) (a0 : Array Value) (hw : ∀ d ∈ tables_1, d.before a0 Z = true) (ws : List Jvm.Cond) (p0 : Addr) (kb : ClassId) (xs : List Int32) (h0 : Heap) (n0 : Nat) (O0 : Old Z n0 h0) (F0_ : Arv Z h0 p0 kb .byte 3 (xs.map Value.int) (.int 0)) :
    MetFree l nm7 (head1 (Jvm.Cond.code nm7 jdk_52_method_15_code 2 (some .byte) :: ws) ({ frames := 0, cells := 0, slots := 0, locals := 0 } : Room)) (fun a U => a = #[(.ref p0), (.int 3)] ∧ Z.Warmed39 U.vm ∧ U.heap = h0) (fun _ _ _ _ _ => True) (fun _ U o U' => ∃ v L, o = .returned v ∧ Qcf_3_3 Z p0 kb xs h0 n0 v U'.heap L ∧ FrameEnd U o U' L ({ frames := 0, cells := 0, slots := 0, locals := 0 } : Room).cells ({ frames := 0, cells := 0, slots := 0, locals := 0 } : Room).slots) := by
  refine MetFree.of_bodySF (plainFor_of_name pn_18) hisR ?_
  intro p e s m args below meth c s₁ Bd hml0 hP hK
  obtain ⟨rfl, hZ, hh⟩ := hP
  have hx := Bd.exec
  have hby := Bd.bytes
  have hml : c.maxLocals = 2 := hml0
  have hown : s.vm.findClass "java/lang/StringUTF16" = some m.cls := findClass_of_methodNamed Bd.named
  have X0 : Stand p l e ({ frames := 0, cells := 0, slots := 0, locals := 0 } : Room) s m #[(.ref p0), (.int 3)] below meth c s₁ [] 0 0 := Stand.of_body Bd
  have e0 : s₁.heap = h0 := by rw [← hh, Bd.state]; rfl
  have N0 := Fr.nil n0
  have s0 : Steps p.tables e below (s₁.setTop (entryFrame m #[(.ref p0), (.int 3)] 2)) (s₁.setTop (mkF m 0 #[.val (.ref p0), .val (.int 3)] [])) := castTop (ef_rmcf_3_3 m p0) (Steps.refl _)
  obtain ⟨A₀, hA₀⟩ : ∃ z, z = (s₁.setTop (entryFrame m #[(.ref p0), (.int 3)] 2)) := ⟨_, rfl⟩
  rw [← hA₀] at s0
  obtain ⟨cla1, Ara1, qa1, Sa1, Za1, Ha1, Ga1⟩ := id F0_
  have s2 : Steps p.tables e below A₀ (s₁.setTop (mkF m 8 #[.val (.ref p0), .val (.int 3)] [(.int ((0 : Int32).toInt8.toInt32))])) := by
    refine s0.trans ?_
    refine XS.iloadN X0.here hx rfl (hb hby d7_0) rfl ?_
    refine XS.aloadN X0.here hx rfl (hb hby d7_1) rfl rfl ?_
    refine X0.arraylength hx (by rw [e0]; exact Ara1.1) (State.isArrayOf_alike hZ.alike Ara1.2.1) (g := (mkF m 2 #[.val (.ref p0), .val (.int 3)] [(.ref p0), (.int 3)])) rfl rfl (hb hby d7_2) _ ?_
    rw [len_of Sa1 Za1]
    show Steps p.tables e below (s₁.setTop (mkF m 3 #[.val (.ref p0), .val (.int 3)] [(.int 3), (.int 3)])) _
    refine XS.isub X0.here hx rfl (hb hby d7_3) rfl ?_
    refine XS.bipush X0.here hx rfl (hb hby d7_4) ?_
    refine XS.iushr X0.here hx rfl (hb hby d7_6) rfl ?_
    refine XS.i2b X0.here hx rfl (hb hby d7_7) rfl ?_
    exact Steps.refl _
  subst hA₀
  obtain ⟨fs, hr, hrun, hended, hW, hsame⟩ := X0.leave (v := some (.int (nar .byte ((0 : Int32).toInt8.toInt32)))) (fun h => by rw [Bd.returns] at h; cases h)
  refine ⟨_, _, s2.trans ?_, hrun, hended, _, _, rfl, ?_, ⟨_, rfl⟩, hW, hsame.mono (by decide) (by decide)⟩
  · show Steps p.tables e below (s₁.setTop (mkF m 8 #[.val (.ref p0), .val (.int 3)] [(.int ((0 : Int32).toInt8.toInt32))])) _
    exact retN X0 hx (t := .byte) Bd.returns (by simp) (hb hby d7_8) hr
  · show Qcf_3_3 Z p0 kb xs h0 n0 _ s₁.heap _
    rw [e0]
    exact ⟨rfl, N0, rfl⟩
theorem ef_rmcf_3_6 (m : MethodId) (p0 : Addr) : entryFrame m #[(.ref p0), (.int 3)] 2 = mkF m 0 #[.val (.ref p0), .val (.int 3)] [] := by first | (simp [entryFrame, mkF, argsToLocals, Value.category]; done) | rfl
def Qcf_3_6 (Z : State) (p0 : Addr) (kb : ClassId) (xs : List Int32) (h0 : Heap) (n0 : Nat) (v : Option Value) (h : Heap) (L : List Loc) : Prop := v = some (.int 1) ∧ Fr n0 L ∧ h = h0
set_option maxRecDepth 65536 in
set_option maxHeartbeats 40000000 in
theorem rmcf_3_6 (l : Launch) (Z : State) (a0 : Array Value) (hw : ∀ d ∈ tables_1, d.before a0 Z = true) (ws : List Jvm.Cond) (p0 : Addr) (kb : ClassId) (xs : List Int32) (h0 : Heap) (n0 : Nat) (O0 : Old Z n0 h0) (F0_ : Arv Z h0 p0 kb .byte 6 (xs.map Value.int) (.int 0)) :
    MetFree l nm7 (head1 (Jvm.Cond.code nm7 jdk_52_method_15_code 2 (some .byte) :: ws) ({ frames := 0, cells := 0, slots := 0, locals := 0 } : Room)) (fun a U => a = #[(.ref p0), (.int 3)] ∧ Z.Warmed39 U.vm ∧ U.heap = h0) (fun _ _ _ _ _ => True) (fun _ U o U' => ∃ v L, o = .returned v ∧ Qcf_3_6 Z p0 kb xs h0 n0 v U'.heap L ∧ FrameEnd U o U' L ({ frames := 0, cells := 0, slots := 0, locals := 0 } : Room).cells ({ frames := 0, cells := 0, slots := 0, locals := 0 } : Room).slots) := by
  refine MetFree.of_bodySF (plainFor_of_name pn_18) hisR ?_
  intro p e s m args below meth c s₁ Bd hml0 hP hK
  obtain ⟨rfl, hZ, hh⟩ := hP
  have hx := Bd.exec
  have hby := Bd.bytes
  have hml : c.maxLocals = 2 := hml0
  have hown : s.vm.findClass "java/lang/StringUTF16" = some m.cls := findClass_of_methodNamed Bd.named
  have X0 : Stand p l e ({ frames := 0, cells := 0, slots := 0, locals := 0 } : Room) s m #[(.ref p0), (.int 3)] below meth c s₁ [] 0 0 := Stand.of_body Bd
  have e0 : s₁.heap = h0 := by rw [← hh, Bd.state]; rfl
  have N0 := Fr.nil n0
  have s0 : Steps p.tables e below (s₁.setTop (entryFrame m #[(.ref p0), (.int 3)] 2)) (s₁.setTop (mkF m 0 #[.val (.ref p0), .val (.int 3)] [])) := castTop (ef_rmcf_3_6 m p0) (Steps.refl _)
  obtain ⟨A₀, hA₀⟩ : ∃ z, z = (s₁.setTop (entryFrame m #[(.ref p0), (.int 3)] 2)) := ⟨_, rfl⟩
  rw [← hA₀] at s0
  obtain ⟨cla1, Ara1, qa1, Sa1, Za1, Ha1, Ga1⟩ := id F0_
  have s2 : Steps p.tables e below A₀ (s₁.setTop (mkF m 8 #[.val (.ref p0), .val (.int 3)] [(.int ((1 : Int32).toInt8.toInt32))])) := by
    refine s0.trans ?_
    refine XS.iloadN X0.here hx rfl (hb hby d7_0) rfl ?_
    refine XS.aloadN X0.here hx rfl (hb hby d7_1) rfl rfl ?_
    refine X0.arraylength hx (by rw [e0]; exact Ara1.1) (State.isArrayOf_alike hZ.alike Ara1.2.1) (g := (mkF m 2 #[.val (.ref p0), .val (.int 3)] [(.ref p0), (.int 3)])) rfl rfl (hb hby d7_2) _ ?_
    rw [len_of Sa1 Za1]
    show Steps p.tables e below (s₁.setTop (mkF m 3 #[.val (.ref p0), .val (.int 3)] [(.int 6), (.int 3)])) _
    refine XS.isub X0.here hx rfl (hb hby d7_3) rfl ?_
    refine XS.bipush X0.here hx rfl (hb hby d7_4) ?_
    refine XS.iushr X0.here hx rfl (hb hby d7_6) rfl ?_
    refine XS.i2b X0.here hx rfl (hb hby d7_7) rfl ?_
    exact Steps.refl _
  subst hA₀
  obtain ⟨fs, hr, hrun, hended, hW, hsame⟩ := X0.leave (v := some (.int (nar .byte ((1 : Int32).toInt8.toInt32)))) (fun h => by rw [Bd.returns] at h; cases h)
  refine ⟨_, _, s2.trans ?_, hrun, hended, _, _, rfl, ?_, ⟨_, rfl⟩, hW, hsame.mono (by decide) (by decide)⟩
  · show Steps p.tables e below (s₁.setTop (mkF m 8 #[.val (.ref p0), .val (.int 3)] [(.int ((1 : Int32).toInt8.toInt32))])) _
    exact retN X0 hx (t := .byte) Bd.returns (by simp) (hb hby d7_8) hr
  · show Qcf_3_6 Z p0 kb xs h0 n0 _ s₁.heap _
    rw [e0]
    exact ⟨rfl, N0, rfl⟩
theorem pd_rmsv_3_0 : parseMethodDescriptor "([CII)[B" = some ⟨[(.array .char), .int, .int], some (.array .byte)⟩ := by decide +kernel
theorem pd_rmsv_3_1 : parseMethodDescriptor "([BI)B" = some ⟨[(.array .byte), .int], some .byte⟩ := by decide +kernel
theorem ef_rmsv_3 (m : MethodId) (p0 : Addr) (p1 : Addr) : entryFrame m #[(.ref p0), (.ref p1), (.int 0), (.int 3), .null] 6 = mkF m 0 #[.val (.ref p0), .val (.ref p1), .val (.int 0), .val (.int 3), .val .null, .unset] [] := by first | (simp [entryFrame, mkF, argsToLocals, Value.category]; done) | rfl
def Qsv_3 (Z : State) (p0 : Addr) (p1 : Addr) (wc : Int32) (kc : ClassId) (c0 : Int32) (c1 : Int32) (c2 : Int32) (h0 : Heap) (n0 : Nat) (v : Option Value) (h : Heap) (L : List Loc) : Prop := ∃ b : Addr, ∃ kb : ClassId, ∃ ln : Int32, ∃ cd : Int32, ∃ xs : List Int32, v = none ∧ Fr n0 L ∧ Keep h0 h [p0] ∧ (Exa Z h p0 "java/lang/String") ∧ (Fld Z h p0 "java/lang/String" "value" "[B" (.ref b)) ∧ (Fld Z h p0 "java/lang/String" "coder" "B" (.int cd)) ∧ (Arv Z h b kb .byte ln (xs.map Value.int) (.int 0)) ∧ (h0.size ≤ b) ∧ ((ln = (3 : Int32) ∧ cd = (0 : Int32)) ∨ (ln = (6 : Int32) ∧ cd = (1 : Int32)))
set_option maxRecDepth 65536 in
set_option maxHeartbeats 40000000 in
theorem rmsv_3 (l : Launch) (Z : State) (a0 : Array Value) (hw : ∀ d ∈ tables_1, d.before a0 Z = true) (ws : List Jvm.Cond) (p0 : Addr) (p1 : Addr) (wc : Int32) (kc : ClassId) (c0 : Int32) (c1 : Int32) (c2 : Int32) (h0 : Heap) (n0 : Nat) (O0 : Old Z n0 h0) (F0_ : Exa Z h0 p0 "java/lang/String") (F1_ : Fld Z h0 p0 "java/lang/String" "value" "[B" .null) (F2_ : Fld Z h0 p0 "java/lang/String" "coder" "B" (.int 0)) (F3_ : n0 ≤ p0) (F4_ : Arv Z h0 p1 kc .char 3 [(.int c0), (.int c1), (.int c2)] (.int 0)) (F5_ : Sta Z Z.heap "java/lang/String" "COMPACT_STRINGS" "Z" (.int wc)) (F6_ : p0 ≠ p1) (F7_ : Sta Z Z.heap "java/lang/StringUTF16" "$assertionsDisabled" "Z" (.int 1)) (F8_ : Sta Z Z.heap "java/lang/StringUTF16" "HI_BYTE_SHIFT" "I" (.int 0)) (F9_ : Sta Z Z.heap "java/lang/StringUTF16" "LO_BYTE_SHIFT" "I" (.int 8)) (hcs : ¬ (wc = (0 : Int32))) :
    MetFree l nm8 (head1 (Jvm.Cond.code nm8 jdk_42_method_149_code 6 none :: ws) ({ frames := 4, cells := 2, slots := 9, locals := 57 } : Room)) (fun a U => a = #[(.ref p0), (.ref p1), (.int 0), (.int 3), .null] ∧ Z.Warmed39 U.vm ∧ U.heap = h0) (fun _ _ _ _ _ => True) (fun _ U o U' => ∃ v L, o = .returned v ∧ Qsv_3 Z p0 p1 wc kc c0 c1 c2 h0 n0 v U'.heap L ∧ FrameEnd U o U' L ({ frames := 4, cells := 2, slots := 9, locals := 57 } : Room).cells ({ frames := 4, cells := 2, slots := 9, locals := 57 } : Room).slots) := by
  refine MetFree.of_bodySF (plainFor_of_name pn_3) hisR ?_
  intro p e s m args below meth c s₁ Bd hml0 hP hK
  obtain ⟨rfl, hZ, hh⟩ := hP
  have hx := Bd.exec
  have hby := Bd.bytes
  have hml : c.maxLocals = 6 := hml0
  have hown : s.vm.findClass "java/lang/String" = some m.cls := findClass_of_methodNamed Bd.named
  have hnm := (name_of_methodNamed Bd.named Bd.method).1
  have X0 : Stand p l e ({ frames := 4, cells := 2, slots := 9, locals := 57 } : Room) s m #[(.ref p0), (.ref p1), (.int 0), (.int 3), .null] below meth c s₁ [] 0 0 := Stand.of_body Bd
  have e0 : s₁.heap = h0 := by rw [← hh, Bd.state]; rfl
  have N0 := Fr.nil n0
  have s0 : Steps p.tables e below (s₁.setTop (entryFrame m #[(.ref p0), (.ref p1), (.int 0), (.int 3), .null] 6)) (s₁.setTop (mkF m 0 #[.val (.ref p0), .val (.ref p1), .val (.int 0), .val (.int 3), .val .null, .unset] [])) := castTop (ef_rmsv_3 m p0 p1) (Steps.refl _)
  obtain ⟨A₀, hA₀⟩ : ∃ z, z = (s₁.setTop (entryFrame m #[(.ref p0), (.ref p1), (.int 0), (.int 3), .null] 6)) := ⟨_, rfl⟩
  rw [← hA₀] at s0
  obtain ⟨T1, X1, e1, st1⟩ := initO X0 hx hZ hown (wq hw 15 rfl) (wq hw 16 rfl) (wq hw 17 rfl) e0 (g := (mkF m 1 #[.val (.ref p0), .val (.ref p1), .val (.int 0), .val (.int 3), .val .null, .unset] [(.ref p0)])) rfl (by rw [hml]; rfl) rfl (hb hby d3_1) (by decide) (W := 0) (by exact Nat.le_refl _) (by decide)
  obtain ⟨T2, X2, e2, st2⟩ := getS2 X1 hx hZ hown (host := "") (Or.inl (wq hw 18 rfl)) Via.refl e1 (F5_.ext O0.2) (g := (mkF m 27 #[.val (.ref p0), .val (.ref p1), .val (.int 0), .val (.int 3), .val .null, .unset] [])) rfl (hb hby d3_27)
  obtain ⟨_, _, ⟨T3, L3, k3, n3⟩, -, X3, ⟨Lc3, hQ3, l3, y3, z3⟩, st3⟩ := Jvm.LawKit.callS X2 hx (y := (⟨"java/lang/StringUTF16", "compress", "([CII)[B"⟩ : MethodName)) hown (mvT hZ (wq hw 19 rfl)) (mvT hZ (wq hw 20 rfl)) (mvT hZ (wq hw 21 rfl)) (mvT hZ (wq hw 22 rfl)) (by decide) (backOf (W := 0) (rmc3_3 l Z a0 hw [] p1 kc c0 c1 c2 h0 n0 O0 F4_ F7_ F8_ F9_) hZ (wq hw 22 rfl) (wq hw 21 rfl) (by decide) (by decide)) (g := (mkF m 36 #[.val (.ref p0), .val (.ref p1), .val (.int 0), .val (.int 3), .val .null, .unset] [(.int 3), (.int 0), (.ref p1)])) rfl (by rw [hml]; rfl) (argsL := [(.ref p1), (.int 0), (.int 3)]) (rest := []) (lenOf pd_rmsv_3_0 rfl) rfl (by exact Nat.le_refl _) (hb hby d3_36) (fun _ _ => ⟨rfl, e2, (by decide : 0 + 2 ≤ _), (by decide : 0 + 9 ≤ _)⟩)
  dsimp only [Pt.U, Pt.locs, Pt.cells, Pt.slots] at X3 l3 y3 z3 st3 hQ3
  subst l3 y3 z3
  obtain ⟨u4, u5, u6, u7, rfl, Nq3, Kc3, f3_0, f3_1, f3_2⟩ := hQ3
  have N3 := Fr.app N0 Nq3
  have ne_p0_u4 : p0 ≠ u4 := Nat.ne_of_lt (Nat.lt_of_lt_of_le F0_.lt f3_1)
  have ne_p1_u4 : p1 ≠ u4 := Nat.ne_of_lt (Nat.lt_of_lt_of_le F4_.lt f3_1)
  have g_u4 : n0 ≤ u4 := Nat.le_trans (Nat.le_of_eq O0.1.symm) (Nat.le_trans O0.2.1 f3_1)
  have sz_u4 : h0.size ≤ u4 := Nat.le_trans (Keep.refl h0 [p0]).1 f3_1
  have K3 : Keep h0 T3.heap [p0] := (Keep.refl h0 [p0]).trans Kc3 all0
  have O3 := O0.keep Kc3 all0
  have s8 : Steps p.tables e below A₀ (T3.setTop (mkF m 39 #[.val (.ref p0), .val (.ref p1), .val (.int 0), .val (.int 3), .val .null, .unset] [(.ref u4)])) := by
    refine s0.trans ?_
    refine XS.aloadN X0.here hx rfl (hb hby d3_0) rfl rfl ?_
    refine st1 _ ?_
    refine XS.iloadN X1.here hx rfl (hb hby d3_4) rfl ?_
    refine XS.ifYes X1.here hx rfl (pc0 := 5) (pc' := 27) rfl (hb hby d3_5) rfl ((if0 _ _).trans (feq (by decide)).2) (by decide) (by decide) ?_
    refine st2 _ ?_
    refine XS.ifNo X2.here hx rfl (hb hby d3_30) rfl ((if0 _ _).trans (feq hcs).1) ?_
    refine XS.aloadN X2.here hx rfl (hb hby d3_33) rfl rfl ?_
    refine XS.iloadN X2.here hx rfl (hb hby d3_34) rfl ?_
    show Steps p.tables e below (T2.setTop (mkF m 35 #[.val (.ref p0), .val (.ref p1), .val (.int 0), .val (.int 3), .val .null, .unset] [(.int 0), (.ref p1)])) _
    refine XS.iloadN X2.here hx rfl (hb hby d3_35) rfl ?_
    refine st3 _ ?_
    exact Steps.refl _
  rcases f3_2 with rfl | rfl
  · obtain ⟨T9, L9, X9, e9, N9, st9⟩ := own_callP X3 hx hZ hown (wk27 hw) (wk28 hw) (wk21 hw) (wk29 hw) (by decide) (rmcf_3_3 l Z a0 hw [] u4 u5 u7 T3.heap n0 O3 f3_0) (rfl : T3.heap = T3.heap) N3 (W := 1) (by decide) (by decide) (by decide) (by decide) (g := (mkF m 45 #[.val (.ref p0), .val (.ref p1), .val (.int 0), .val (.int 3), .val .null, .val (.ref u4)] [(.int 3), (.ref u4), (.ref p0)])) rfl (by rw [hml]; rfl) (argsL := [(.ref u4), (.int 3)]) (rest := [(.ref p0)]) (lenOf pd_rmsv_3_1 rfl) rfl (by exact Nat.le_refl _) (hb hby d3_45)
    have c10 : Exa Z T3.heap p0 "java/lang/String" := (F0_.keep Kc3)
    have c11 : Fld Z T3.heap p0 "java/lang/String" "coder" "B" (.int 0) := (F2_.keep Kc3 nin0)
    obtain ⟨T12, h12, X12, e12, W12, st12⟩ := putFN X9 hx hZ hown (wq hw 30 rfl) Via.refl e9 c11 c10 (Or.inr ⟨(wq hw 31 rfl), rfl, hnm⟩) (wq hw 5 rfl) (ty := .byte) (v' := (.int ((0 : Int32).toInt8.toInt32))) (by decide) rfl (fits_nar_byte _) (g := (mkF m 48 #[.val (.ref p0), .val (.ref p1), .val (.int 0), .val (.int 3), .val .null, .val (.ref u4)] [(.int 0), (.ref p0)])) rfl rfl (hb hby d3_48)
    have Fw12 := c11.same W12
    have O12 := O3.wr W12 F3_
    have K12 : Keep h0 h12 [p0] := K3.wr W12 (Or.inl (List.mem_of_getElem? (i := 0) rfl))
    have N12 := Fr.snoc X12 N9 F3_
    have c13 : Exa Z h12 p0 "java/lang/String" := (c10.wr W12)
    have c14 : Fld Z h12 p0 "java/lang/String" "value" "[B" .null := ((F1_.keep Kc3 nin0).other W12 (Or.inr (slot_ne (Or.inr (wq hw 33 rfl)) (Or.inr (wq hw 31 rfl)) (by decide) (t := (.array .byte)) (t' := .byte) (by decide) (by decide))))
    obtain ⟨T15, h15, X15, e15, W15, st15⟩ := putF X12 hx hZ hown (host := "") (Or.inl (wq hw 32 rfl)) Via.refl e12 c14 c13 (Or.inr ⟨(wq hw 33 rfl), rfl, hnm⟩) (wq hw 5 rfl) (ty := (.array .byte)) (by decide) rfl rfl (g := (mkF m 54 #[.val (.ref p0), .val (.ref p1), .val (.int 0), .val (.int 3), .val .null, .val (.ref u4)] [(.ref u4), (.ref p0)])) rfl rfl (hb hby d3_54)
    have Fw15 := c14.same W15
    have O15 := O12.wr W15 F3_
    have K15 : Keep h0 h15 [p0] := K12.wr W15 (Or.inl (List.mem_of_getElem? (i := 0) rfl))
    have N15 := Fr.snoc X15 N12 F3_
    have s16 : Steps p.tables e below A₀ (T15.setTop (mkF m 57 #[.val (.ref p0), .val (.ref p1), .val (.int 0), .val (.int 3), .val .null, .val (.ref u4)] [])) := by
      refine s8.trans ?_
      refine XS.astore X3.here hx rfl (hb hby d3_39) rfl rfl (l' := #[.val (.ref p0), .val (.ref p1), .val (.int 0), .val (.int 3), .val .null, .val (.ref u4)]) rfl ?_
      refine XS.aloadN X3.here hx rfl (hb hby d3_41) rfl rfl ?_
      refine XS.aload X3.here hx rfl (hb hby d3_42) rfl rfl ?_
      refine XS.iloadN X3.here hx rfl (hb hby d3_44) rfl ?_
      refine st9 _ ?_
      refine st12 _ ?_
      refine XS.aloadN X12.here hx rfl (hb hby d3_51) rfl rfl ?_
      refine XS.aload X12.here hx rfl (hb hby d3_52) rfl rfl ?_
      show Steps p.tables e below (T12.setTop (mkF m 54 #[.val (.ref p0), .val (.ref p1), .val (.int 0), .val (.int 3), .val .null, .val (.ref u4)] [(.ref u4), (.ref p0)])) _
      refine st15 _ ?_
      exact Steps.refl _
    have c17 : Fld Z h15 p0 "java/lang/String" "coder" "B" (.int ((0 : Int32).toInt8.toInt32)) := (Fw12.other W15 (Or.inr (slot_ne (Or.inr (wq hw 31 rfl)) (Or.inr (wq hw 33 rfl)) (by decide) (t := .byte) (t' := (.array .byte)) (by decide) (by decide))))
    subst hA₀
    have c18 : Exa Z h15 p0 "java/lang/String" := (c13.wr W15)
    have c19 : Arv Z h15 u4 u5 .byte 3 (u7.map Value.int) (.int 0) := ((f3_0.other W12 (Ne.symm ne_p0_u4)).other W15 (Ne.symm ne_p0_u4))
    obtain ⟨fs, hr, hrun, hended, hW, hsame⟩ := X15.leave (v := none) (fun _ => rfl)
    refine ⟨_, _, s16.trans ?_, hrun, hended, _, _, rfl, ?_, ⟨_, rfl⟩, hW, hsame.mono (by decide) (by decide)⟩
    · show Steps p.tables e below (T15.setTop (mkF m 57 #[.val (.ref p0), .val (.ref p1), .val (.int 0), .val (.int 3), .val .null, .val (.ref u4)] [])) _
      exact X15.returnOut hx Bd.returns (hb hby d3_57) hr
    · show Qsv_3 Z p0 p1 wc kc c0 c1 c2 h0 n0 _ T15.heap _
      rw [e15]
      exact ⟨u4, u5, (3 : Int32), (0 : Int32), u7, rfl, N15, K15, c18, Fw15, c17, c19, sz_u4, (Or.inl ⟨rfl, rfl⟩)⟩
  · obtain ⟨T20, L20, X20, e20, N20, st20⟩ := own_callP X3 hx hZ hown (wk27 hw) (wk28 hw) (wk21 hw) (wk29 hw) (by decide) (rmcf_3_6 l Z a0 hw [] u4 u5 u7 T3.heap n0 O3 f3_0) (rfl : T3.heap = T3.heap) N3 (W := 1) (by decide) (by decide) (by decide) (by decide) (g := (mkF m 45 #[.val (.ref p0), .val (.ref p1), .val (.int 0), .val (.int 3), .val .null, .val (.ref u4)] [(.int 3), (.ref u4), (.ref p0)])) rfl (by rw [hml]; rfl) (argsL := [(.ref u4), (.int 3)]) (rest := [(.ref p0)]) (lenOf pd_rmsv_3_1 rfl) rfl (by exact Nat.le_refl _) (hb hby d3_45)
    have c21 : Exa Z T3.heap p0 "java/lang/String" := (F0_.keep Kc3)
    have c22 : Fld Z T3.heap p0 "java/lang/String" "coder" "B" (.int 0) := (F2_.keep Kc3 nin0)
    obtain ⟨T23, h23, X23, e23, W23, st23⟩ := putFN X20 hx hZ hown (wq hw 30 rfl) Via.refl e20 c22 c21 (Or.inr ⟨(wq hw 31 rfl), rfl, hnm⟩) (wq hw 5 rfl) (ty := .byte) (v' := (.int ((1 : Int32).toInt8.toInt32))) (by decide) rfl (fits_nar_byte _) (g := (mkF m 48 #[.val (.ref p0), .val (.ref p1), .val (.int 0), .val (.int 3), .val .null, .val (.ref u4)] [(.int 1), (.ref p0)])) rfl rfl (hb hby d3_48)
    have Fw23 := c22.same W23
    have O23 := O3.wr W23 F3_
    have K23 : Keep h0 h23 [p0] := K3.wr W23 (Or.inl (List.mem_of_getElem? (i := 0) rfl))
    have N23 := Fr.snoc X23 N20 F3_
    have c24 : Exa Z h23 p0 "java/lang/String" := (c21.wr W23)
    have c25 : Fld Z h23 p0 "java/lang/String" "value" "[B" .null := ((F1_.keep Kc3 nin0).other W23 (Or.inr (slot_ne (Or.inr (wq hw 33 rfl)) (Or.inr (wq hw 31 rfl)) (by decide) (t := (.array .byte)) (t' := .byte) (by decide) (by decide))))
    obtain ⟨T26, h26, X26, e26, W26, st26⟩ := putF X23 hx hZ hown (host := "") (Or.inl (wq hw 32 rfl)) Via.refl e23 c25 c24 (Or.inr ⟨(wq hw 33 rfl), rfl, hnm⟩) (wq hw 5 rfl) (ty := (.array .byte)) (by decide) rfl rfl (g := (mkF m 54 #[.val (.ref p0), .val (.ref p1), .val (.int 0), .val (.int 3), .val .null, .val (.ref u4)] [(.ref u4), (.ref p0)])) rfl rfl (hb hby d3_54)
    have Fw26 := c25.same W26
    have O26 := O23.wr W26 F3_
    have K26 : Keep h0 h26 [p0] := K23.wr W26 (Or.inl (List.mem_of_getElem? (i := 0) rfl))
    have N26 := Fr.snoc X26 N23 F3_
    have s27 : Steps p.tables e below A₀ (T26.setTop (mkF m 57 #[.val (.ref p0), .val (.ref p1), .val (.int 0), .val (.int 3), .val .null, .val (.ref u4)] [])) := by
      refine s8.trans ?_
      refine XS.astore X3.here hx rfl (hb hby d3_39) rfl rfl (l' := #[.val (.ref p0), .val (.ref p1), .val (.int 0), .val (.int 3), .val .null, .val (.ref u4)]) rfl ?_
      refine XS.aloadN X3.here hx rfl (hb hby d3_41) rfl rfl ?_
      refine XS.aload X3.here hx rfl (hb hby d3_42) rfl rfl ?_
      refine XS.iloadN X3.here hx rfl (hb hby d3_44) rfl ?_
      refine st20 _ ?_
      refine st23 _ ?_
      refine XS.aloadN X23.here hx rfl (hb hby d3_51) rfl rfl ?_
      refine XS.aload X23.here hx rfl (hb hby d3_52) rfl rfl ?_
      show Steps p.tables e below (T23.setTop (mkF m 54 #[.val (.ref p0), .val (.ref p1), .val (.int 0), .val (.int 3), .val .null, .val (.ref u4)] [(.ref u4), (.ref p0)])) _
      refine st26 _ ?_
      exact Steps.refl _
    have c28 : Fld Z h26 p0 "java/lang/String" "coder" "B" (.int ((1 : Int32).toInt8.toInt32)) := (Fw23.other W26 (Or.inr (slot_ne (Or.inr (wq hw 31 rfl)) (Or.inr (wq hw 33 rfl)) (by decide) (t := .byte) (t' := (.array .byte)) (by decide) (by decide))))
    subst hA₀
    have c29 : Exa Z h26 p0 "java/lang/String" := (c24.wr W26)
    have c30 : Arv Z h26 u4 u5 .byte 6 (u7.map Value.int) (.int 0) := ((f3_0.other W23 (Ne.symm ne_p0_u4)).other W26 (Ne.symm ne_p0_u4))
    obtain ⟨fs, hr, hrun, hended, hW, hsame⟩ := X26.leave (v := none) (fun _ => rfl)
    refine ⟨_, _, s27.trans ?_, hrun, hended, _, _, rfl, ?_, ⟨_, rfl⟩, hW, hsame.mono (by decide) (by decide)⟩
    · show Steps p.tables e below (T26.setTop (mkF m 57 #[.val (.ref p0), .val (.ref p1), .val (.int 0), .val (.int 3), .val .null, .val (.ref u4)] [])) _
      exact X26.returnOut hx Bd.returns (hb hby d3_57) hr
    · show Qsv_3 Z p0 p1 wc kc c0 c1 c2 h0 n0 _ T26.heap _
      rw [e26]
      exact ⟨u4, u5, (6 : Int32), (1 : Int32), u7, rfl, N26, K26, c29, Fw26, c28, c30, sz_u4, (Or.inr ⟨rfl, rfl⟩)⟩
theorem pd_rms1_3_0 : parseMethodDescriptor "([CIILjava/lang/Void;)V" = some ⟨[(.array .char), .int, .int, (.object "java/lang/Void")], none⟩ := by decide +kernel
theorem ef_rms1_3 (m : MethodId) (p0 : Addr) (p1 : Addr) : entryFrame m #[(.ref p0), (.ref p1)] 2 = mkF m 0 #[.val (.ref p0), .val (.ref p1)] [] := by first | (simp [entryFrame, mkF, argsToLocals, Value.category]; done) | rfl
def Qs1_3 (Z : State) (p0 : Addr) (p1 : Addr) (wc : Int32) (kc : ClassId) (c0 : Int32) (c1 : Int32) (c2 : Int32) (h0 : Heap) (n0 : Nat) (v : Option Value) (h : Heap) (L : List Loc) : Prop := ∃ b : Addr, ∃ kb : ClassId, ∃ ln : Int32, ∃ cd : Int32, ∃ xs : List Int32, v = none ∧ Fr n0 L ∧ Keep h0 h [p0] ∧ (Exa Z h p0 "java/lang/String") ∧ (Fld Z h p0 "java/lang/String" "value" "[B" (.ref b)) ∧ (Fld Z h p0 "java/lang/String" "coder" "B" (.int cd)) ∧ (Arv Z h b kb .byte ln (xs.map Value.int) (.int 0)) ∧ (h0.size ≤ b) ∧ ((ln = (3 : Int32) ∧ cd = (0 : Int32)) ∨ (ln = (6 : Int32) ∧ cd = (1 : Int32)))
set_option maxRecDepth 65536 in
set_option maxHeartbeats 40000000 in
theorem rms1_3 (l : Launch) (Z : State) (a0 : Array Value) (hw : ∀ d ∈ tables_1, d.before a0 Z = true) (ws : List Jvm.Cond) (p0 : Addr) (p1 : Addr) (wc : Int32) (kc : ClassId) (c0 : Int32) (c1 : Int32) (c2 : Int32) (h0 : Heap) (n0 : Nat) (O0 : Old Z n0 h0) (F0_ : Exa Z h0 p0 "java/lang/String") (F1_ : Fld Z h0 p0 "java/lang/String" "value" "[B" .null) (F2_ : Fld Z h0 p0 "java/lang/String" "coder" "B" (.int 0)) (F3_ : n0 ≤ p0) (F4_ : Arv Z h0 p1 kc .char 3 [(.int c0), (.int c1), (.int c2)] (.int 0)) (F5_ : Sta Z Z.heap "java/lang/String" "COMPACT_STRINGS" "Z" (.int wc)) (F6_ : p0 ≠ p1) (F7_ : Sta Z Z.heap "java/lang/StringUTF16" "$assertionsDisabled" "Z" (.int 1)) (F8_ : Sta Z Z.heap "java/lang/StringUTF16" "HI_BYTE_SHIFT" "I" (.int 0)) (F9_ : Sta Z Z.heap "java/lang/StringUTF16" "LO_BYTE_SHIFT" "I" (.int 8)) (hcs : ¬ (wc = (0 : Int32))) :
    MetFree l nm9 (head1 (Jvm.Cond.code nm9 jdk_42_method_3_code 2 none :: ws) ({ frames := 5, cells := 2, slots := 9, locals := 74 } : Room)) (fun a U => a = #[(.ref p0), (.ref p1)] ∧ Z.Warmed39 U.vm ∧ U.heap = h0) (fun _ _ _ _ _ => True) (fun _ U o U' => ∃ v L, o = .returned v ∧ Qs1_3 Z p0 p1 wc kc c0 c1 c2 h0 n0 v U'.heap L ∧ FrameEnd U o U' L ({ frames := 5, cells := 2, slots := 9, locals := 74 } : Room).cells ({ frames := 5, cells := 2, slots := 9, locals := 74 } : Room).slots) := by
  refine MetFree.of_bodySF (plainFor_of_name pn_3) hisR ?_
  intro p e s m args below meth c s₁ Bd hml0 hP hK
  obtain ⟨rfl, hZ, hh⟩ := hP
  have hx := Bd.exec
  have hby := Bd.bytes
  have hml : c.maxLocals = 2 := hml0
  have hown : s.vm.findClass "java/lang/String" = some m.cls := findClass_of_methodNamed Bd.named
  have X0 : Stand p l e ({ frames := 5, cells := 2, slots := 9, locals := 74 } : Room) s m #[(.ref p0), (.ref p1)] below meth c s₁ [] 0 0 := Stand.of_body Bd
  have e0 : s₁.heap = h0 := by rw [← hh, Bd.state]; rfl
  have N0 := Fr.nil n0
  have s0 : Steps p.tables e below (s₁.setTop (entryFrame m #[(.ref p0), (.ref p1)] 2)) (s₁.setTop (mkF m 0 #[.val (.ref p0), .val (.ref p1)] [])) := castTop (ef_rms1_3 m p0 p1) (Steps.refl _)
  obtain ⟨A₀, hA₀⟩ : ∃ z, z = (s₁.setTop (entryFrame m #[(.ref p0), (.ref p1)] 2)) := ⟨_, rfl⟩
  rw [← hA₀] at s0
  obtain ⟨cla1, Ara1, qa1, Sa1, Za1, Ha1, Ga1⟩ := id F4_
  obtain ⟨_, _, ⟨T2, L2, k2, n2⟩, -, X2, ⟨Lc2, hQ2, l2, y2, z2⟩, st2⟩ := X0.specialBack hx (y := (⟨"java/lang/String", "<init>", "([CIILjava/lang/Void;)V"⟩ : MethodName)) rfl hown (mvT hZ (wq hw 11 rfl)) (mvT hZ (wq hw 12 rfl)) (mvT hZ (wq hw 14 rfl)) (by decide) (backOf (W := 0) (rmsv_3 l Z a0 hw [] p0 p1 wc kc c0 c1 c2 h0 n0 O0 F0_ F1_ F2_ F3_ F4_ F5_ F6_ F7_ F8_ F9_ hcs) hZ (wq hw 14 rfl) (wq hw 6 rfl) (by decide) (by decide)) (g := (mkF m 6 #[.val (.ref p0), .val (.ref p1)] [.null, (.int 3), (.int 0), (.ref p1), (.ref p0)])) rfl (by rw [hml]; rfl) (Steps.refl _) (a := p0) (argsL := [(.ref p1), (.int 0), (.int 3), .null]) (rest := []) (lenOf pd_rms1_3_0 rfl) rfl (by exact Nat.le_refl _) (hb hby d2_6) (fun _ _ => ⟨rfl, e0, (by decide : 0 + 2 ≤ _), (by decide : 0 + 9 ≤ _)⟩)
  dsimp only [Pt.U, Pt.locs, Pt.cells, Pt.slots] at X2 l2 y2 z2 st2 hQ2
  subst l2 y2 z2
  obtain ⟨u3, u4, u5, u6, u7, rfl, Nq2, Kc2, f2_0, f2_1, f2_2, f2_3, f2_4, f2_5⟩ := hQ2
  have N2 := Fr.app N0 Nq2
  have ne_p0_u3 : p0 ≠ u3 := Nat.ne_of_lt (Nat.lt_of_lt_of_le F0_.lt f2_4)
  have ne_p1_u3 : p1 ≠ u3 := Nat.ne_of_lt (Nat.lt_of_lt_of_le F4_.lt f2_4)
  have g_u3 : n0 ≤ u3 := Nat.le_trans (Nat.le_of_eq O0.1.symm) (Nat.le_trans O0.2.1 f2_4)
  have sz_u3 : h0.size ≤ u3 := Nat.le_trans (Keep.refl h0 [p0]).1 f2_4
  have K2 : Keep h0 T2.heap [p0] := (Keep.refl h0 [p0]).trans Kc2 (allS (Or.inl (List.mem_of_getElem? (i := 0) rfl)) all0)
  have O2 := O0.keep Kc2 (allS F3_ all0)
  have s8 : Steps p.tables e below A₀ (T2.setTop (mkF m 9 #[.val (.ref p0), .val (.ref p1)] [])) := by
    refine s0.trans ?_
    refine XS.aloadN X0.here hx rfl (hb hby d2_0) rfl rfl ?_
    refine XS.aloadN X0.here hx rfl (hb hby d2_1) rfl rfl ?_
    refine XS.iconst X0.here hx rfl (hb hby d2_2) ?_
    refine XS.aloadN X0.here hx rfl (hb hby d2_3) rfl rfl ?_
    refine X0.arraylength hx (by rw [e0]; exact Ara1.1) (State.isArrayOf_alike hZ.alike Ara1.2.1) (g := (mkF m 4 #[.val (.ref p0), .val (.ref p1)] [(.ref p1), (.int 0), (.ref p1), (.ref p0)])) rfl rfl (hb hby d2_4) _ ?_
    rw [len_of Sa1 Za1]
    show Steps p.tables e below (s₁.setTop (mkF m 5 #[.val (.ref p0), .val (.ref p1)] [(.int 3), (.int 0), (.ref p1), (.ref p0)])) _
    refine XS.aconstNull X0.here hx rfl (hb hby d2_5) ?_
    refine st2.trans ?_
    exact Steps.refl _
  subst hA₀
  obtain ⟨fs, hr, hrun, hended, hW, hsame⟩ := X2.leave (v := none) (fun _ => rfl)
  refine ⟨_, _, s8.trans ?_, hrun, hended, _, _, rfl, ?_, ⟨_, rfl⟩, hW, hsame.mono (by decide) (by decide)⟩
  · show Steps p.tables e below (T2.setTop (mkF m 9 #[.val (.ref p0), .val (.ref p1)] [])) _
    exact X2.returnOut hx Bd.returns (hb hby d2_9) hr
  · show Qs1_3 Z p0 p1 wc kc c0 c1 c2 h0 n0 _ T2.heap _
    exact ⟨u3, u4, u5, u6, u7, rfl, N2, K2, f2_0, f2_1, f2_2, f2_3, sz_u3, f2_5⟩
theorem d1_59 : decode method_2_code 59 = .ok (.new 7, 3) := by decide +kernel
theorem d1_62 : decode method_2_code 62 = .ok (.dup, 1) := by decide +kernel
theorem d1_63 : decode method_2_code 63 = .ok (.iconst 3, 1) := by decide +kernel
theorem d1_64 : decode method_2_code 64 = .ok (.newarray .char, 2) := by decide +kernel
theorem d1_66 : decode method_2_code 66 = .ok (.dup, 1) := by decide +kernel
theorem d1_67 : decode method_2_code 67 = .ok (.iconst 0, 1) := by decide +kernel
theorem d1_68 : decode method_2_code 68 = .ok (.iload_n 1, 1) := by decide +kernel
theorem d1_69 : decode method_2_code 69 = .ok (.castore, 1) := by decide +kernel
theorem d1_70 : decode method_2_code 70 = .ok (.dup, 1) := by decide +kernel
theorem d1_71 : decode method_2_code 71 = .ok (.iconst 1, 1) := by decide +kernel
theorem d1_72 : decode method_2_code 72 = .ok (.iload_n 2, 1) := by decide +kernel
theorem d1_73 : decode method_2_code 73 = .ok (.castore, 1) := by decide +kernel
theorem d1_74 : decode method_2_code 74 = .ok (.dup, 1) := by decide +kernel
theorem d1_75 : decode method_2_code 75 = .ok (.iconst 2, 1) := by decide +kernel
theorem d1_76 : decode method_2_code 76 = .ok (.iload_n 3, 1) := by decide +kernel
theorem d1_77 : decode method_2_code 77 = .ok (.castore, 1) := by decide +kernel
theorem d1_78 : decode method_2_code 78 = .ok (.invokespecial 9, 3) := by decide +kernel
theorem d1_81 : decode method_2_code 81 = .ok (.areturn, 1) := by decide +kernel
theorem pd_rmmk_3_0 : parseMethodDescriptor "([C)V" = some ⟨[(.array .char)], none⟩ := by decide +kernel
theorem ef_rmmk_3 (m : MethodId) (p1 : Int32) (p2 : Int32) (p3 : Int32) : entryFrame m #[(.int 3), (.int p1), (.int p2), (.int p3)] 4 = mkF m 0 #[.val (.int 3), .val (.int p1), .val (.int p2), .val (.int p3)] [] := by first | (simp [entryFrame, mkF, argsToLocals, Value.category]; done) | rfl
def Qmk_3 (Z : State) (p1 : Int32) (p2 : Int32) (p3 : Int32) (wc : Int32) (h0 : Heap) (n0 : Nat) (v : Option Value) (h : Heap) (L : List Loc) : Prop := ∃ u : Addr, ∃ b : Addr, ∃ kb : ClassId, ∃ ln : Int32, ∃ cd : Int32, ∃ xs : List Int32, v = some (.ref u) ∧ Fr n0 L ∧ Keep h0 h [] ∧ (Exa Z h u "java/lang/String") ∧ (Fld Z h u "java/lang/String" "value" "[B" (.ref b)) ∧ (Fld Z h u "java/lang/String" "coder" "B" (.int cd)) ∧ (Arv Z h b kb .byte ln (xs.map Value.int) (.int 0)) ∧ (h0.size ≤ b) ∧ ((ln = (3 : Int32) ∧ cd = (0 : Int32)) ∨ (ln = (6 : Int32) ∧ cd = (1 : Int32))) ∧ (h0.size ≤ u) ∧ (u ≠ b)
set_option maxRecDepth 65536 in
set_option maxHeartbeats 40000000 in
theorem rmmk_3 (l : Launch) (Z : State) (a0 : Array Value) (hw : ∀ d ∈ tables_1, d.before a0 Z = true) (ws : List Jvm.Cond) (p1 : Int32) (p2 : Int32) (p3 : Int32) (wc : Int32) (h0 : Heap) (n0 : Nat) (O0 : Old Z n0 h0) (F0_ : Sta Z Z.heap "java/lang/String" "COMPACT_STRINGS" "Z" (.int wc)) (F1_ : Sta Z Z.heap "java/lang/StringUTF16" "$assertionsDisabled" "Z" (.int 1)) (F2_ : Sta Z Z.heap "java/lang/StringUTF16" "HI_BYTE_SHIFT" "I" (.int 0)) (F3_ : Sta Z Z.heap "java/lang/StringUTF16" "LO_BYTE_SHIFT" "I" (.int 8)) (hcs : ¬ (wc = (0 : Int32))) :
    MetFree l nm10 (head1 (Jvm.Cond.code nm10 method_2_code 4 (some (.object "java/lang/String")) :: ws) ({ frames := 6, cells := 4, slots := 16, locals := 88 } : Room)) (fun a U => a = #[(.int 3), (.int p1), (.int p2), (.int p3)] ∧ Z.Warmed39 U.vm ∧ U.heap = h0) (fun _ _ _ _ _ => True) (fun _ U o U' => ∃ v L, o = .returned v ∧ Qmk_3 Z p1 p2 p3 wc h0 n0 v U'.heap L ∧ FrameEnd U o U' L ({ frames := 6, cells := 4, slots := 16, locals := 88 } : Room).cells ({ frames := 6, cells := 4, slots := 16, locals := 88 } : Room).slots) := by
  refine MetFree.of_bodySF (plainFor_of_name pn_1) hisR ?_
  intro p e s m args below meth c s₁ Bd hml0 hP hK
  obtain ⟨rfl, hZ, hh⟩ := hP
  have hx := Bd.exec
  have hby := Bd.bytes
  have hml : c.maxLocals = 4 := hml0
  have hown : s.vm.findClass "com/example/lintel/lintel/message/HeaderCursorAtEndPinLaw" = some m.cls := findClass_of_methodNamed Bd.named
  have X0 : Stand p l e ({ frames := 6, cells := 4, slots := 16, locals := 88 } : Room) s m #[(.int 3), (.int p1), (.int p2), (.int p3)] below meth c s₁ [] 0 0 := Stand.of_body Bd
  have e0 : s₁.heap = h0 := by rw [← hh, Bd.state]; rfl
  have N0 := Fr.nil n0
  have s0 : Steps p.tables e below (s₁.setTop (entryFrame m #[(.int 3), (.int p1), (.int p2), (.int p3)] 4)) (s₁.setTop (mkF m 0 #[.val (.int 3), .val (.int p1), .val (.int p2), .val (.int p3)] [])) := castTop (ef_rmmk_3 m p1 p2 p3) (Steps.refl _)
  obtain ⟨A₀, hA₀⟩ : ∃ z, z = (s₁.setTop (entryFrame m #[(.int 3), (.int p1), (.int p2), (.int p3)] 4)) := ⟨_, rfl⟩
  rw [← hA₀] at s0
  obtain ⟨T1, h1, X1, e1, E1, A1, D1, -, st1⟩ := newO X0 hx hZ hown (wq hw 4 rfl) (wq hw 5 rfl) (wq hw 6 rfl) e0 (g := (mkF m 59 #[.val (.int 3), .val (.int p1), .val (.int p2), .val (.int p3)] [])) rfl (hb hby d1_59) (by decide) (by decide)
  obtain ⟨b1, g1⟩ : ∃ z, z = h0.size := ⟨_, rfl⟩
  rw [← g1] at A1 D1 st1
  have g_b1 : n0 ≤ b1 := Nat.le_trans (Nat.le_of_eq O0.1.symm) (Nat.le_trans O0.2.1 (Nat.le_of_eq g1.symm))
  have sz_b1 : h0.size ≤ b1 := Nat.le_trans (Keep.refl h0 []).1 (Nat.le_of_eq g1.symm)
  have O1 := O0.ext E1
  have K1 : Keep h0 h1 [] := (Keep.refl h0 []).ext E1
  have F1_coder : Fld Z h1 b1 "java/lang/String" "coder" "B" (.int 0) := D1 (Or.inr (wq hw 31 rfl)) (ty := .byte) (by decide)
  have F1_value : Fld Z h1 b1 "java/lang/String" "value" "[B" .null := D1 (Or.inr (wq hw 33 rfl)) (ty := (.array .byte)) (by decide)
  obtain ⟨T2, h2, k2, X2, e2, E2, A2, st2⟩ := newP X1 hx hZ (wq hw 7 rfl) e1 (g := (mkF m 64 #[.val (.int 3), .val (.int p1), .val (.int p2), .val (.int p3)] [(.int 3), (.ref b1), (.ref b1)])) rfl (hb hby d1_64) rfl (by decide) (cap := 3) (by decide) (by decide) (by decide) (by decide)
  obtain ⟨b2, g2⟩ : ∃ z, z = h1.size := ⟨_, rfl⟩
  rw [← g2] at A2 st2
  have ne_b1_b2 : b1 ≠ b2 := Nat.ne_of_lt (Nat.lt_of_lt_of_le A1.lt (Nat.le_of_eq g2.symm))
  have g_b2 : n0 ≤ b2 := Nat.le_trans (Nat.le_of_eq O1.1.symm) (Nat.le_trans O1.2.1 (Nat.le_of_eq g2.symm))
  have sz_b2 : h0.size ≤ b2 := Nat.le_trans K1.1 (Nat.le_of_eq g2.symm)
  have O2 := O1.ext E2
  have K2 : Keep h0 h2 [] := K1.ext E2
  have V2 : Arv Z h2 b2 k2 .char 3 [(.int 0), (.int 0), (.int 0)] (.int 0) := (Arv.new A2 (by decide)).pad (pad_rep [] (.int 0) 3)
  obtain ⟨cla3, Ara3, qa3, Sa3, Za3, Ha3, Ga3⟩ := id V2
  have hin4 : ¬ ((0 : Int32) < 0 ∨ cla3.slots.size ≤ ((0 : Int32)).toNatClampNeg) := inb_of Sa3 ⟨by decide, by decide⟩
  obtain ⟨T5, h5, X5, e5, W5, st5⟩ := stC X2 hx hZ e2 Ara3 (j := (0 : Int32)) hin4 (g := (mkF m 69 #[.val (.int 3), .val (.int p1), .val (.int p2), .val (.int p3)] [(.int p1), (.int 0), (.ref b2), (.ref b2), (.ref b1), (.ref b1)])) rfl rfl (hb hby d1_69)
  have O5 := O2.wr W5 g_b2
  have K5 : Keep h0 h5 [] := K2.wr W5 (Or.inr sz_b2)
  have N5 := Fr.snoc X5 N0 g_b2
  have V5 : Arv Z h5 b2 k2 .char 3 [(.int (nar .char p1)), (.int 0), (.int 0)] (.int 0) := Arv.set Ara3 qa3 Sa3 Za3 Ha3 Ga3 (fits_nar_char _) W5 0 rfl (Nat.le_of_ble_eq_true rfl)
  obtain ⟨cla6, Ara6, qa6, Sa6, Za6, Ha6, Ga6⟩ := id V5
  have hin7 : ¬ ((1 : Int32) < 0 ∨ cla6.slots.size ≤ ((1 : Int32)).toNatClampNeg) := inb_of Sa6 ⟨by decide, by decide⟩
  obtain ⟨T8, h8, X8, e8, W8, st8⟩ := stC X5 hx hZ e5 Ara6 (j := (1 : Int32)) hin7 (g := (mkF m 73 #[.val (.int 3), .val (.int p1), .val (.int p2), .val (.int p3)] [(.int p2), (.int 1), (.ref b2), (.ref b2), (.ref b1), (.ref b1)])) rfl rfl (hb hby d1_73)
  have O8 := O5.wr W8 g_b2
  have K8 : Keep h0 h8 [] := K5.wr W8 (Or.inr sz_b2)
  have N8 := Fr.snoc X8 N5 g_b2
  have V8 : Arv Z h8 b2 k2 .char 3 [(.int (nar .char p1)), (.int (nar .char p2)), (.int 0)] (.int 0) := Arv.set Ara6 qa6 Sa6 Za6 Ha6 Ga6 (fits_nar_char _) W8 1 rfl (Nat.le_of_ble_eq_true rfl)
  obtain ⟨cla9, Ara9, qa9, Sa9, Za9, Ha9, Ga9⟩ := id V8
  have hin10 : ¬ ((2 : Int32) < 0 ∨ cla9.slots.size ≤ ((2 : Int32)).toNatClampNeg) := inb_of Sa9 ⟨by decide, by decide⟩
  obtain ⟨T11, h11, X11, e11, W11, st11⟩ := stC X8 hx hZ e8 Ara9 (j := (2 : Int32)) hin10 (g := (mkF m 77 #[.val (.int 3), .val (.int p1), .val (.int p2), .val (.int p3)] [(.int p3), (.int 2), (.ref b2), (.ref b2), (.ref b1), (.ref b1)])) rfl rfl (hb hby d1_77)
  have O11 := O8.wr W11 g_b2
  have K11 : Keep h0 h11 [] := K8.wr W11 (Or.inr sz_b2)
  have N11 := Fr.snoc X11 N8 g_b2
  have V11 : Arv Z h11 b2 k2 .char 3 [(.int (nar .char p1)), (.int (nar .char p2)), (.int (nar .char p3))] (.int 0) := Arv.set Ara9 qa9 Sa9 Za9 Ha9 Ga9 (fits_nar_char _) W11 2 rfl (Nat.le_of_ble_eq_true rfl)
  have c12 : Exa Z h11 b1 "java/lang/String" := ((((A1.ext E2).wr W5).wr W8).wr W11)
  have c13 : Fld Z h11 b1 "java/lang/String" "value" "[B" .null := ((((F1_value.ext E2).other W5 (Or.inl ne_b1_b2)).other W8 (Or.inl ne_b1_b2)).other W11 (Or.inl ne_b1_b2))
  have c14 : Fld Z h11 b1 "java/lang/String" "coder" "B" (.int 0) := ((((F1_coder.ext E2).other W5 (Or.inl ne_b1_b2)).other W8 (Or.inl ne_b1_b2)).other W11 (Or.inl ne_b1_b2))
  obtain ⟨_, _, ⟨T15, L15, k15, n15⟩, -, X15, ⟨Lc15, hQ15, l15, y15, z15⟩, st15⟩ := X11.specialBack hx (y := (⟨"java/lang/String", "<init>", "([C)V"⟩ : MethodName)) rfl hown (mvT hZ (wq hw 8 rfl)) (mvT hZ (wq hw 9 rfl)) (mvT hZ (wq hw 10 rfl)) (by decide) (backOf (W := 1) (rms1_3 l Z a0 hw [] b1 b2 wc k2 (nar .char p1) (nar .char p2) (nar .char p3) h11 n0 O11 c12 c13 c14 g_b1 V11 F0_ ne_b1_b2 F1_ F2_ F3_ hcs) hZ (wq hw 10 rfl) (wq hw 6 rfl) (by decide) (by decide)) (g := (mkF m 78 #[.val (.int 3), .val (.int p1), .val (.int p2), .val (.int p3)] [(.ref b2), (.ref b1), (.ref b1)])) rfl (by rw [hml]; rfl) (Steps.refl _) (a := b1) (argsL := [(.ref b2)]) (rest := [(.ref b1)]) (lenOf pd_rmmk_3_0 rfl) rfl (by exact Nat.le_refl _) (hb hby d1_78) (fun _ _ => ⟨rfl, e11, (by decide : 2 + 2 ≤ _), (by decide : 7 + 9 ≤ _)⟩)
  dsimp only [Pt.U, Pt.locs, Pt.cells, Pt.slots] at X15 l15 y15 z15 st15 hQ15
  subst l15 y15 z15
  obtain ⟨u16, u17, u18, u19, u20, rfl, Nq15, Kc15, f15_0, f15_1, f15_2, f15_3, f15_4, f15_5⟩ := hQ15
  have N15 := Fr.app N11 Nq15
  have ne_b1_u16 : b1 ≠ u16 := Nat.ne_of_lt (Nat.lt_of_lt_of_le c12.lt f15_4)
  have ne_b2_u16 : b2 ≠ u16 := Nat.ne_of_lt (Nat.lt_of_lt_of_le V11.lt f15_4)
  have g_u16 : n0 ≤ u16 := Nat.le_trans (Nat.le_of_eq O11.1.symm) (Nat.le_trans O11.2.1 f15_4)
  have sz_u16 : h0.size ≤ u16 := Nat.le_trans K11.1 f15_4
  have K15 : Keep h0 T15.heap [] := K11.trans Kc15 (allS (Or.inr sz_b1) all0)
  have O15 := O11.keep Kc15 (allS g_b1 all0)
  have s21 : Steps p.tables e below A₀ (T15.setTop (mkF m 81 #[.val (.int 3), .val (.int p1), .val (.int p2), .val (.int p3)] [(.ref b1)])) := by
    refine s0.trans ?_
    refine XS.iloadN X0.here hx rfl (hb hby d1_0) rfl ?_
    refine XS.ifYes X0.here hx rfl (pc0 := 1) (pc' := 15) rfl (hb hby d1_1) rfl ((if0 _ _).trans (feq (by decide)).2) (by decide) (by decide) ?_
    refine XS.iloadN X0.here hx rfl (hb hby d1_15) rfl ?_
    refine XS.iconst X0.here hx rfl (hb hby d1_16) ?_
    refine XS.icmpYes X0.here hx rfl (pc0 := 17) (pc' := 35) rfl (hb hby d1_17) rfl (feq (by decide)).2 (by decide) (by decide) ?_
    refine XS.iloadN X0.here hx rfl (hb hby d1_35) rfl ?_
    refine XS.iconst X0.here hx rfl (hb hby d1_36) ?_
    refine XS.icmpYes X0.here hx rfl (pc0 := 37) (pc' := 59) rfl (hb hby d1_37) rfl (feq (by decide)).2 (by decide) (by decide) ?_
    show Steps p.tables e below (s₁.setTop (mkF m 59 #[.val (.int 3), .val (.int p1), .val (.int p2), .val (.int p3)] [])) _
    refine st1 _ ?_
    refine XS.dup X1.here hx rfl (hb hby d1_62) rfl rfl ?_
    refine XS.iconst X1.here hx rfl (hb hby d1_63) ?_
    refine st2 _ ?_
    refine XS.dup X2.here hx rfl (hb hby d1_66) rfl rfl ?_
    refine XS.iconst X2.here hx rfl (hb hby d1_67) ?_
    refine XS.iloadN X2.here hx rfl (hb hby d1_68) rfl ?_
    refine st5 _ ?_
    refine XS.dup X5.here hx rfl (hb hby d1_70) rfl rfl ?_
    refine XS.iconst X5.here hx rfl (hb hby d1_71) ?_
    show Steps p.tables e below (T5.setTop (mkF m 72 #[.val (.int 3), .val (.int p1), .val (.int p2), .val (.int p3)] [(.int 1), (.ref b2), (.ref b2), (.ref b1), (.ref b1)])) _
    refine XS.iloadN X5.here hx rfl (hb hby d1_72) rfl ?_
    refine st8 _ ?_
    refine XS.dup X8.here hx rfl (hb hby d1_74) rfl rfl ?_
    refine XS.iconst X8.here hx rfl (hb hby d1_75) ?_
    refine XS.iloadN X8.here hx rfl (hb hby d1_76) rfl ?_
    refine st11 _ ?_
    refine st15.trans ?_
    exact Steps.refl _
  subst hA₀
  obtain ⟨fs, hr, hrun, hended, hW, hsame⟩ := X15.leave (v := some (.ref b1)) (fun h => by rw [Bd.returns] at h; cases h)
  refine ⟨_, _, s21.trans ?_, hrun, hended, _, _, rfl, ?_, ⟨_, rfl⟩, hW, hsame.mono (by decide) (by decide)⟩
  · show Steps p.tables e below (T15.setTop (mkF m 81 #[.val (.int 3), .val (.int p1), .val (.int p2), .val (.int p3)] [(.ref b1)])) _
    jvm_step X15.here [X15.here.top, hx, (hb hby d1_81), X15.method', Bd.returns, Value.isRef, FieldType.isReference]
    first | (intro acts; rw [hr _ acts rfl rfl rfl]) | rw [hr _ _ rfl rfl rfl]
    exact Steps.refl _
  · show Qmk_3 Z p1 p2 p3 wc h0 n0 _ T15.heap _
    exact ⟨b1, u16, u17, u18, u19, u20, rfl, N15, K15, f15_0, f15_1, f15_2, f15_3, sz_u16, f15_5, sz_b1, ne_b1_u16⟩
theorem d3_8 : decode jdk_42_method_149_code 8 = .ok (.aload_n 0, 1) := by decide +kernel
theorem d3_9 : decode jdk_42_method_149_code 9 = .ok (.ldc 7, 2) := by decide +kernel
theorem d3_11 : decode jdk_42_method_149_code 11 = .ok (.getfield 9, 3) := by decide +kernel
theorem d3_14 : decode jdk_42_method_149_code 14 = .ok (.putfield 9, 3) := by decide +kernel
theorem d3_17 : decode jdk_42_method_149_code 17 = .ok (.aload_n 0, 1) := by decide +kernel
theorem d3_18 : decode jdk_42_method_149_code 18 = .ok (.ldc 7, 2) := by decide +kernel
theorem d3_20 : decode jdk_42_method_149_code 20 = .ok (.getfield 15, 3) := by decide +kernel
theorem d3_23 : decode jdk_42_method_149_code 23 = .ok (.putfield 15, 3) := by decide +kernel
theorem d3_26 : decode jdk_42_method_149_code 26 = .ok (.return_, 1) := by decide +kernel
theorem ef_rmsv_0 (m : MethodId) (p0 : Addr) (p1 : Addr) : entryFrame m #[(.ref p0), (.ref p1), (.int 0), (.int 0), .null] 6 = mkF m 0 #[.val (.ref p0), .val (.ref p1), .val (.int 0), .val (.int 0), .val .null, .unset] [] := by first | (simp [entryFrame, mkF, argsToLocals, Value.category]; done) | rfl
def Qsv_0 (Z : State) (p0 : Addr) (p1 : Addr) (h0 : Heap) (n0 : Nat) (v : Option Value) (h : Heap) (L : List Loc) : Prop := ∃ b : Addr, ∃ kb : ClassId, v = none ∧ Fr n0 L ∧ Keep h0 h [p0] ∧ (Exa Z h p0 "java/lang/String") ∧ (Fld Z h p0 "java/lang/String" "value" "[B" (.ref b)) ∧ (Fld Z h p0 "java/lang/String" "coder" "B" (.int 0)) ∧ (Arv Z h b kb .byte 0 [] (.int 0)) ∧ (p0 ≠ b)
set_option maxRecDepth 65536 in
set_option maxHeartbeats 40000000 in
theorem rmsv_0 (l : Launch) (Z : State) (a0 : Array Value) (hw : ∀ d ∈ tables_1, d.before a0 Z = true) (ws : List Jvm.Cond) (p0 : Addr) (p1 : Addr) (h0 : Heap) (n0 : Nat) (O0 : Old Z n0 h0) (F0_ : Exa Z h0 p0 "java/lang/String") (F1_ : Fld Z h0 p0 "java/lang/String" "value" "[B" .null) (F2_ : Fld Z h0 p0 "java/lang/String" "coder" "B" (.int 0)) (F3_ : n0 ≤ p0) (hheld : Jvm.Lit.constHeld Z "java/lang/String" 7) (hcw : Jvm.Lit.compactW.before a0 Z = true) :
    MetFree l nm8 (head1 (Jvm.Cond.code nm8 jdk_42_method_149_code 6 none :: ws) ({ frames := 1, cells := 2, slots := 4, locals := 12 } : Room)) (fun a U => a = #[(.ref p0), (.ref p1), (.int 0), (.int 0), .null] ∧ Z.Warmed39 U.vm ∧ U.heap = h0 ∧ own_R Z h0 U.vm) (fun _ _ _ _ _ => True) (fun _ U o U' => ∃ v L, o = .returned v ∧ (Qsv_0 Z p0 p1 h0 n0 v U'.heap L ∧ own_R Z U'.heap U'.vm) ∧ ReturnedEndW U o U' L ({ frames := 1, cells := 2, slots := 4, locals := 12 } : Room).cells ({ frames := 1, cells := 2, slots := 4, locals := 12 } : Room).slots) := by
  refine MetFree.of_bodySF (plainFor_of_name pn_3) hisR ?_
  intro p e s m args below meth c s₁ Bd hml0 hP hK
  obtain ⟨rfl, hZ, hh, hR⟩ := hP
  have hx := Bd.exec
  have hby := Bd.bytes
  have hml : c.maxLocals = 6 := hml0
  have hown : s.vm.findClass "java/lang/String" = some m.cls := findClass_of_methodNamed Bd.named
  have hnm := (name_of_methodNamed Bd.named Bd.method).1
  have X0 : Stand p l e ({ frames := 1, cells := 2, slots := 4, locals := 12 } : Room) (s.setVm s.vm) m #[(.ref p0), (.ref p1), (.int 0), (.int 0), .null] below meth c s₁ [] 0 0 := Stand.of_body Bd
  have e0 : s₁.heap = h0 := by rw [← hh, Bd.state]; rfl
  have N0 := Fr.nil n0
  have hS0 : s.Since s.vm s.heap.size := (State.WarmedH.refl s).since _
  have hk0 : s.heap.size ≤ h0.size := Nat.le_of_eq (congrArg Array.size hh)
  have s0 : Steps p.tables e below (s₁.setTop (entryFrame m #[(.ref p0), (.ref p1), (.int 0), (.int 0), .null] 6)) (s₁.setTop (mkF m 0 #[.val (.ref p0), .val (.ref p1), .val (.int 0), .val (.int 0), .val .null, .unset] [])) := castTop (ef_rmsv_0 m p0 p1) (Steps.refl _)
  obtain ⟨A₀, hA₀⟩ : ∃ z, z = (s₁.setTop (entryFrame m #[(.ref p0), (.ref p1), (.int 0), (.int 0), .null] 6)) := ⟨_, rfl⟩
  rw [← hA₀] at s0
  obtain ⟨T1, X1, e1, st1⟩ := initO X0 hx hZ hown (wq hw 15 rfl) (wq hw 16 rfl) (wq hw 17 rfl) e0 (g := (mkF m 1 #[.val (.ref p0), .val (.ref p1), .val (.int 0), .val (.int 0), .val .null, .unset] [(.ref p0)])) rfl (by rw [hml]; rfl) rfl (hb hby d3_1) (by decide) (W := 0) (by exact Nat.le_refl _) (by decide)
  have s2 : Steps p.tables e below A₀ (T1.setTop (mkF m 9 #[.val (.ref p0), .val (.ref p1), .val (.int 0), .val (.int 0), .val .null, .unset] [(.ref p0)])) := by
    refine s0.trans ?_
    refine XS.aloadN X0.here hx rfl (hb hby d3_0) rfl rfl ?_
    refine st1 _ ?_
    refine XS.iloadN X1.here hx rfl (hb hby d3_4) rfl ?_
    refine XS.ifNo X1.here hx rfl (hb hby d3_5) rfl ((if0 _ _).trans (teq (by decide)).2) ?_
    refine XS.aloadN X1.here hx rfl (hb hby d3_8) rfl rfl ?_
    exact Steps.refl _
  rcases hR with hI | ⟨ax, bx, kx, La, Ea, Ca, Va, Aa⟩
  · obtain ⟨a3, T3, h3, k3, b3, kk3, X3, e3, E3, hS3, hk3, hZ3, hown3, Ex3, Fc3, Fv3, Ar3, -, -, -, Li, st3⟩ := ldcSVL X1 hx hZ hown (wq hw 74 rfl) (own_wS hw) e1 hS0 hk0 (Fr.nil _) (fun b cl q => by rw [hh]; exact O0.2.2 b cl q) hI (by simp) hheld hcw (vs := []) (z := (0 : Int32)) ⟨by decide, rfl⟩ (by decide) rfl (g := (mkF m 9 #[.val (.ref p0), .val (.ref p1), .val (.int 0), .val (.int 0), .val .null, .unset] [(.ref p0)])) rfl (hb hby d3_9) (n := 0) (by decide) (by decide) (by decide) (by decide)
    have O3 := O0.ext E3
    have hkk3 := Nat.le_trans hk0 E3.1
    have K3 : Keep h0 h3 [p0] := (Keep.refl h0 [p0]).ext E3
    have c4 : Fld Z h3 p0 "java/lang/String" "value" "[B" .null := (F1_.ext E3)
    have nap : a3 ≠ p0 := Fld.ne Fv3 c4 (fun q => nomatch q)
    have c5 : Exa Z h3 p0 "java/lang/String" := (F0_.ext E3)
    have nbp : b3 ≠ p0 := own_ne_arr c5 (wq hw 5 rfl) Ar3
    obtain ⟨T6, X6, e6, st6⟩ := getF X3 hx hZ3 hown3 (host := "") (Or.inl (wq hw 32 rfl)) Via.refl e3 Fv3 (g := (mkF m 11 #[.val (.ref p0), .val (.ref p1), .val (.int 0), .val (.int 0), .val .null, .unset] [(.ref a3), (.ref p0)])) rfl rfl (hb hby d3_11)
    obtain ⟨T7, h7, X7, e7, W7, st7⟩ := putF X6 hx hZ3 hown3 (host := "") (Or.inl (wq hw 32 rfl)) Via.refl e6 c4 c5 (Or.inr ⟨(wq hw 33 rfl), rfl, hnm⟩) (wq hw 5 rfl) (ty := (.array .byte)) (by decide) rfl rfl (g := (mkF m 14 #[.val (.ref p0), .val (.ref p1), .val (.int 0), .val (.int 0), .val .null, .unset] [(.ref b3), (.ref p0)])) rfl rfl (hb hby d3_14)
    have Fw7 := c4.same W7
    have O7 := O3.wr W7 F3_
    have hkk7 := Nat.le_trans hk3 (Keep.of_wr W7).1
    have K7 : Keep h0 h7 [p0] := K3.wr W7 (Or.inl (List.mem_of_getElem? (i := 0) rfl))
    have N7 := Fr.snoc X7 N0 F3_
    have c8 : Fld Z h7 a3 "java/lang/String" "coder" "B" (.int 0) := (Fc3.other W7 (Or.inl nap))
    obtain ⟨T9, X9, e9, st9⟩ := getF X7 hx hZ3 hown3 (host := "") (Or.inl (wq hw 30 rfl)) Via.refl e7 c8 (g := (mkF m 20 #[.val (.ref p0), .val (.ref p1), .val (.int 0), .val (.int 0), .val .null, .unset] [(.ref a3), (.ref p0)])) rfl rfl (hb hby d3_20)
    have c10 : Exa Z h7 p0 "java/lang/String" := (c5.wr W7)
    have c11 : Fld Z h7 p0 "java/lang/String" "coder" "B" (.int 0) := ((F2_.ext E3).other W7 (Or.inr (slot_ne (Or.inr (wq hw 31 rfl)) (Or.inr (wq hw 33 rfl)) (by decide) (t := .byte) (t' := (.array .byte)) (by decide) (by decide))))
    obtain ⟨T12, h12, X12, e12, W12, st12⟩ := putFN X9 hx hZ3 hown3 (wq hw 30 rfl) Via.refl e9 c11 c10 (Or.inr ⟨(wq hw 31 rfl), rfl, hnm⟩) (wq hw 5 rfl) (ty := .byte) (v' := (.int ((0 : Int32).toInt8.toInt32))) (by decide) rfl (fits_nar_byte _) (g := (mkF m 23 #[.val (.ref p0), .val (.ref p1), .val (.int 0), .val (.int 0), .val .null, .unset] [(.int 0), (.ref p0)])) rfl rfl (hb hby d3_23)
    have Fw12 := c11.same W12
    have O12 := O7.wr W12 F3_
    have hkk12 := Nat.le_trans hkk7 (Keep.of_wr W12).1
    have K12 : Keep h0 h12 [p0] := K7.wr W12 (Or.inl (List.mem_of_getElem? (i := 0) rfl))
    have N12 := Fr.snoc X12 N7 F3_
    have s13 : Steps p.tables e below A₀ (T12.setTop (mkF m 26 #[.val (.ref p0), .val (.ref p1), .val (.int 0), .val (.int 0), .val .null, .unset] [])) := by
      refine s2.trans ?_
      refine st3 _ ?_
      refine st6 _ ?_
      refine st7 _ ?_
      refine XS.aloadN X7.here hx rfl (hb hby d3_17) rfl rfl ?_
      show Steps p.tables e below (T7.setTop (mkF m 18 #[.val (.ref p0), .val (.ref p1), .val (.int 0), .val (.int 0), .val .null, .unset] [(.ref p0)])) _
      refine ldcAgain X7 hx hZ3 hown3 (wq hw 74 rfl) Li (g := (mkF m 18 #[.val (.ref p0), .val (.ref p1), .val (.int 0), .val (.int 0), .val .null, .unset] [(.ref p0)])) rfl (hb hby d3_18) _ ?_
      refine st9 _ ?_
      refine st12 _ ?_
      exact Steps.refl _
    have c14 : Exa Z h12 a3 "java/lang/String" := ((Ex3.wr W7).wr W12)
    have c15 : Fld Z h12 a3 "java/lang/String" "coder" "B" (.int 0) := (c8.other W12 (Or.inl nap))
    have c16 : Fld Z h12 a3 "java/lang/String" "value" "[B" (.ref b3) := ((Fv3.other W7 (Or.inl nap)).other W12 (Or.inl nap))
    have c17 : Arv Z h12 b3 kk3 .byte 0 [] (.int 0) := ((Ar3.other W7 nbp).other W12 nbp)
    subst hA₀
    have c18 : Exa Z h12 p0 "java/lang/String" := (c10.wr W12)
    have c19 : Fld Z h12 p0 "java/lang/String" "value" "[B" (.ref b3) := (Fw7.other W12 (Or.inr (slot_ne (Or.inr (wq hw 33 rfl)) (Or.inr (wq hw 31 rfl)) (by decide) (t := (.array .byte)) (t' := .byte) (by decide) (by decide))))
    obtain ⟨fs, hr, hrun, hended, -, hW, hIn, hsame⟩ := X12.leaveW hS3 (by rw [e12]; exact hkk12) (v := none) (fun _ => rfl)
    refine ⟨_, _, s13.trans ?_, hrun, hended, _, _, rfl, ?_, ⟨_, rfl⟩, hW, hIn, hsame.mono (by decide) (by decide)⟩
    · show Steps p.tables e below (T12.setTop (mkF m 26 #[.val (.ref p0), .val (.ref p1), .val (.int 0), .val (.int 0), .val .null, .unset] [])) _
      exact X12.returnOut hx Bd.returns (hb hby d3_26) hr
    · refine ⟨?_, ?_⟩
      · show Qsv_0 Z p0 p1 h0 n0 _ T12.heap _
        rw [e12]
        exact ⟨b3, kk3, rfl, N12, K12, c18, c19, Fw12, c17, (Ne.symm nbp)⟩
      · show own_R Z T12.heap T12.vm
        rw [e12]
        exact Or.inr ⟨a3, b3, kk3, own_lit_warm (own_lit_of Li) X12.warmed, c14, c15, c16, c17⟩
  · have nap : ax ≠ p0 := Fld.ne Va F1_ (fun q => nomatch q)
    have nbp : bx ≠ p0 := own_ne_arr F0_ (wq hw 5 rfl) Aa
    obtain ⟨T20, X20, e20, st20⟩ := getF X1 hx hZ hown (host := "") (Or.inl (wq hw 32 rfl)) Via.refl e1 Va (g := (mkF m 11 #[.val (.ref p0), .val (.ref p1), .val (.int 0), .val (.int 0), .val .null, .unset] [(.ref ax), (.ref p0)])) rfl rfl (hb hby d3_11)
    obtain ⟨T21, h21, X21, e21, W21, st21⟩ := putF X20 hx hZ hown (host := "") (Or.inl (wq hw 32 rfl)) Via.refl e20 F1_ F0_ (Or.inr ⟨(wq hw 33 rfl), rfl, hnm⟩) (wq hw 5 rfl) (ty := (.array .byte)) (by decide) rfl rfl (g := (mkF m 14 #[.val (.ref p0), .val (.ref p1), .val (.int 0), .val (.int 0), .val .null, .unset] [(.ref bx), (.ref p0)])) rfl rfl (hb hby d3_14)
    have Fw21 := F1_.same W21
    have O21 := O0.wr W21 F3_
    have hkk21 := Nat.le_trans hk0 (Keep.of_wr W21).1
    have K21 : Keep h0 h21 [p0] := (Keep.refl h0 [p0]).wr W21 (Or.inl (List.mem_of_getElem? (i := 0) rfl))
    have N21 := Fr.snoc X21 N0 F3_
    have c22 : Fld Z h21 ax "java/lang/String" "coder" "B" (.int 0) := (Ca.other W21 (Or.inl nap))
    obtain ⟨T23, X23, e23, st23⟩ := getF X21 hx hZ hown (host := "") (Or.inl (wq hw 30 rfl)) Via.refl e21 c22 (g := (mkF m 20 #[.val (.ref p0), .val (.ref p1), .val (.int 0), .val (.int 0), .val .null, .unset] [(.ref ax), (.ref p0)])) rfl rfl (hb hby d3_20)
    have c24 : Exa Z h21 p0 "java/lang/String" := (F0_.wr W21)
    have c25 : Fld Z h21 p0 "java/lang/String" "coder" "B" (.int 0) := (F2_.other W21 (Or.inr (slot_ne (Or.inr (wq hw 31 rfl)) (Or.inr (wq hw 33 rfl)) (by decide) (t := .byte) (t' := (.array .byte)) (by decide) (by decide))))
    obtain ⟨T26, h26, X26, e26, W26, st26⟩ := putFN X23 hx hZ hown (wq hw 30 rfl) Via.refl e23 c25 c24 (Or.inr ⟨(wq hw 31 rfl), rfl, hnm⟩) (wq hw 5 rfl) (ty := .byte) (v' := (.int ((0 : Int32).toInt8.toInt32))) (by decide) rfl (fits_nar_byte _) (g := (mkF m 23 #[.val (.ref p0), .val (.ref p1), .val (.int 0), .val (.int 0), .val .null, .unset] [(.int 0), (.ref p0)])) rfl rfl (hb hby d3_23)
    have Fw26 := c25.same W26
    have O26 := O21.wr W26 F3_
    have hkk26 := Nat.le_trans hkk21 (Keep.of_wr W26).1
    have K26 : Keep h0 h26 [p0] := K21.wr W26 (Or.inl (List.mem_of_getElem? (i := 0) rfl))
    have N26 := Fr.snoc X26 N21 F3_
    have s27 : Steps p.tables e below A₀ (T26.setTop (mkF m 26 #[.val (.ref p0), .val (.ref p1), .val (.int 0), .val (.int 0), .val .null, .unset] [])) := by
      refine s2.trans ?_
      refine ldcAgain X1 hx hZ hown (wq hw 74 rfl) (La s) (g := (mkF m 9 #[.val (.ref p0), .val (.ref p1), .val (.int 0), .val (.int 0), .val .null, .unset] [(.ref p0)])) rfl (hb hby d3_9) _ ?_
      refine st20 _ ?_
      refine st21 _ ?_
      refine XS.aloadN X21.here hx rfl (hb hby d3_17) rfl rfl ?_
      show Steps p.tables e below (T21.setTop (mkF m 18 #[.val (.ref p0), .val (.ref p1), .val (.int 0), .val (.int 0), .val .null, .unset] [(.ref p0)])) _
      refine ldcAgain X21 hx hZ hown (wq hw 74 rfl) (La s) (g := (mkF m 18 #[.val (.ref p0), .val (.ref p1), .val (.int 0), .val (.int 0), .val .null, .unset] [(.ref p0)])) rfl (hb hby d3_18) _ ?_
      refine st23 _ ?_
      refine st26 _ ?_
      exact Steps.refl _
    have c28 : Exa Z h26 ax "java/lang/String" := ((Ea.wr W21).wr W26)
    have c29 : Fld Z h26 ax "java/lang/String" "coder" "B" (.int 0) := (c22.other W26 (Or.inl nap))
    have c30 : Fld Z h26 ax "java/lang/String" "value" "[B" (.ref bx) := ((Va.other W21 (Or.inl nap)).other W26 (Or.inl nap))
    have c31 : Arv Z h26 bx kx .byte 0 [] (.int 0) := ((Aa.other W21 nbp).other W26 nbp)
    subst hA₀
    have c32 : Exa Z h26 p0 "java/lang/String" := (c24.wr W26)
    have c33 : Fld Z h26 p0 "java/lang/String" "value" "[B" (.ref bx) := (Fw21.other W26 (Or.inr (slot_ne (Or.inr (wq hw 33 rfl)) (Or.inr (wq hw 31 rfl)) (by decide) (t := (.array .byte)) (t' := .byte) (by decide) (by decide))))
    obtain ⟨fs, hr, hrun, hended, -, hW, hIn, hsame⟩ := X26.leaveW hS0 (by rw [e26]; exact hkk26) (v := none) (fun _ => rfl)
    refine ⟨_, _, s27.trans ?_, hrun, hended, _, _, rfl, ?_, ⟨_, rfl⟩, hW, hIn, hsame.mono (by decide) (by decide)⟩
    · show Steps p.tables e below (T26.setTop (mkF m 26 #[.val (.ref p0), .val (.ref p1), .val (.int 0), .val (.int 0), .val .null, .unset] [])) _
      exact X26.returnOut hx Bd.returns (hb hby d3_26) hr
    · refine ⟨?_, ?_⟩
      · show Qsv_0 Z p0 p1 h0 n0 _ T26.heap _
        rw [e26]
        exact ⟨bx, kx, rfl, N26, K26, c32, c33, Fw26, c31, (Ne.symm nbp)⟩
      · show own_R Z T26.heap T26.vm
        rw [e26]
        exact Or.inr ⟨ax, bx, kx, own_lit_warm La X26.warmed, c28, c29, c30, c31⟩
theorem pd_rms1_0_0 : parseMethodDescriptor "([CIILjava/lang/Void;)V" = some ⟨[(.array .char), .int, .int, (.object "java/lang/Void")], none⟩ := by decide +kernel
theorem ef_rms1_0 (m : MethodId) (p0 : Addr) (p1 : Addr) : entryFrame m #[(.ref p0), (.ref p1)] 2 = mkF m 0 #[.val (.ref p0), .val (.ref p1)] [] := by first | (simp [entryFrame, mkF, argsToLocals, Value.category]; done) | rfl
def Qs1_0 (Z : State) (p0 : Addr) (p1 : Addr) (kc : ClassId) (h0 : Heap) (n0 : Nat) (v : Option Value) (h : Heap) (L : List Loc) : Prop := ∃ b : Addr, ∃ kb : ClassId, v = none ∧ Fr n0 L ∧ Keep h0 h [p0] ∧ (Exa Z h p0 "java/lang/String") ∧ (Fld Z h p0 "java/lang/String" "value" "[B" (.ref b)) ∧ (Fld Z h p0 "java/lang/String" "coder" "B" (.int 0)) ∧ (Arv Z h b kb .byte 0 [] (.int 0)) ∧ (p0 ≠ b)
set_option maxRecDepth 65536 in
set_option maxHeartbeats 40000000 in
theorem rms1_0 (l : Launch) (Z : State) (a0 : Array Value) (hw : ∀ d ∈ tables_1, d.before a0 Z = true) (ws : List Jvm.Cond) (p0 : Addr) (p1 : Addr) (kc : ClassId) (h0 : Heap) (n0 : Nat) (O0 : Old Z n0 h0) (F0_ : Exa Z h0 p0 "java/lang/String") (F1_ : Fld Z h0 p0 "java/lang/String" "value" "[B" .null) (F2_ : Fld Z h0 p0 "java/lang/String" "coder" "B" (.int 0)) (F3_ : n0 ≤ p0) (F4_ : Arv Z h0 p1 kc .char 0 [] (.int 0)) (hheld : Jvm.Lit.constHeld Z "java/lang/String" 7) (hcw : Jvm.Lit.compactW.before a0 Z = true) :
    MetFree l nm9 (head1 (Jvm.Cond.code nm9 jdk_42_method_3_code 2 none :: ws) ({ frames := 2, cells := 2, slots := 4, locals := 29 } : Room)) (fun a U => a = #[(.ref p0), (.ref p1)] ∧ Z.Warmed39 U.vm ∧ U.heap = h0 ∧ own_R Z h0 U.vm) (fun _ _ _ _ _ => True) (fun _ U o U' => ∃ v L, o = .returned v ∧ (Qs1_0 Z p0 p1 kc h0 n0 v U'.heap L ∧ own_R Z U'.heap U'.vm) ∧ ReturnedEndW U o U' L ({ frames := 2, cells := 2, slots := 4, locals := 29 } : Room).cells ({ frames := 2, cells := 2, slots := 4, locals := 29 } : Room).slots) := by
  refine MetFree.of_bodySF (plainFor_of_name pn_3) hisR ?_
  intro p e s m args below meth c s₁ Bd hml0 hP hK
  obtain ⟨rfl, hZ, hh, hR⟩ := hP
  have hx := Bd.exec
  have hby := Bd.bytes
  have hml : c.maxLocals = 2 := hml0
  have hown : s.vm.findClass "java/lang/String" = some m.cls := findClass_of_methodNamed Bd.named
  have X0 : Stand p l e ({ frames := 2, cells := 2, slots := 4, locals := 29 } : Room) (s.setVm s.vm) m #[(.ref p0), (.ref p1)] below meth c s₁ [] 0 0 := Stand.of_body Bd
  have e0 : s₁.heap = h0 := by rw [← hh, Bd.state]; rfl
  have N0 := Fr.nil n0
  have hS0 : s.Since s.vm s.heap.size := (State.WarmedH.refl s).since _
  have hk0 : s.heap.size ≤ h0.size := Nat.le_of_eq (congrArg Array.size hh)
  have s0 : Steps p.tables e below (s₁.setTop (entryFrame m #[(.ref p0), (.ref p1)] 2)) (s₁.setTop (mkF m 0 #[.val (.ref p0), .val (.ref p1)] [])) := castTop (ef_rms1_0 m p0 p1) (Steps.refl _)
  obtain ⟨A₀, hA₀⟩ : ∃ z, z = (s₁.setTop (entryFrame m #[(.ref p0), (.ref p1)] 2)) := ⟨_, rfl⟩
  rw [← hA₀] at s0
  obtain ⟨cla1, Ara1, qa1, Sa1, Za1, Ha1, Ga1⟩ := id F4_
  have s2 : Steps p.tables e below A₀ (s₁.setTop (mkF m 6 #[.val (.ref p0), .val (.ref p1)] [.null, (.int 0), (.int 0), (.ref p1), (.ref p0)])) := by
    refine s0.trans ?_
    refine XS.aloadN X0.here hx rfl (hb hby d2_0) rfl rfl ?_
    refine XS.aloadN X0.here hx rfl (hb hby d2_1) rfl rfl ?_
    refine XS.iconst X0.here hx rfl (hb hby d2_2) ?_
    refine XS.aloadN X0.here hx rfl (hb hby d2_3) rfl rfl ?_
    refine X0.arraylength hx (by rw [e0]; exact Ara1.1) (State.isArrayOf_alike hZ.alike Ara1.2.1) (g := (mkF m 4 #[.val (.ref p0), .val (.ref p1)] [(.ref p1), (.int 0), (.ref p1), (.ref p0)])) rfl rfl (hb hby d2_4) _ ?_
    rw [len_of Sa1 Za1]
    show Steps p.tables e below (s₁.setTop (mkF m 5 #[.val (.ref p0), .val (.ref p1)] [(.int 0), (.int 0), (.ref p1), (.ref p0)])) _
    refine XS.aconstNull X0.here hx rfl (hb hby d2_5) ?_
    exact Steps.refl _
  obtain ⟨_, _, ⟨T3, L3, k3, n3⟩, -, Xa3, hSa3, hga3, ⟨Lc3, hQ3, hR3, l3, y3, z3⟩, st3⟩ := X0.specialBackS hx (y := (⟨"java/lang/String", "<init>", "([CIILjava/lang/Void;)V"⟩ : MethodName)) rfl hown (mvT hZ (wq hw 11 rfl)) (mvT hZ (wq hw 12 rfl)) (mvT hZ (wq hw 14 rfl)) (by decide) (own_backW (W := 0) (rmsv_0 l Z a0 hw [] p0 p1 h0 n0 O0 F0_ F1_ F2_ F3_ hheld hcw) hZ (wq hw 14 rfl) (wq hw 6 rfl) (by decide) (by decide)) (g := (mkF m 6 #[.val (.ref p0), .val (.ref p1)] [.null, (.int 0), (.int 0), (.ref p1), (.ref p0)])) rfl (by rw [hml]; rfl) (Steps.refl _) (a := p0) (argsL := [(.ref p1), (.int 0), (.int 0), .null]) (rest := []) (lenOf pd_rms1_0_0 rfl) rfl (by exact Nat.le_refl _) (hb hby d2_6) (fun vm₁ hv => ⟨rfl, e0, own_R_warm hv hR, (by decide : 0 + 2 ≤ _), (by decide : 0 + 4 ≤ _)⟩)
  dsimp only [Pt.U, Pt.locs, Pt.cells, Pt.slots] at Xa3 hSa3 hga3 l3 y3 z3 st3 hQ3 hR3
  subst l3 y3 z3
  obtain ⟨X3, hS3, hZ3, hown3⟩ := rebS hS0 (by rw [e0]; exact hk0) Xa3 hSa3 hga3 hZ hown
  obtain ⟨u4, u5, rfl, Nq3, Kc3, f3_0, f3_1, f3_2, f3_3, f3_4⟩ := hQ3
  have N3 := Fr.app N0 Nq3
  have K3 : Keep h0 T3.heap [p0] := (Keep.refl h0 [p0]).trans Kc3 (allS (Or.inl (List.mem_of_getElem? (i := 0) rfl)) all0)
  have O3 := O0.keep Kc3 (allS F3_ all0)
  have s6 : Steps p.tables e below A₀ (T3.setTop (mkF m 9 #[.val (.ref p0), .val (.ref p1)] [])) := by
    refine s2.trans ?_
    show Steps p.tables e below (s₁.setTop (mkF m 6 #[.val (.ref p0), .val (.ref p1)] [.null, (.int 0), (.int 0), (.ref p1), (.ref p0)])) _
    refine st3.trans ?_
    exact Steps.refl _
  subst hA₀
  obtain ⟨fs, hr, hrun, hended, -, hW, hIn, hsame⟩ := X3.leaveW hS3 (by rw [(rfl : T3.heap = T3.heap)]; exact (Nat.le_refl T3.heap.size)) (v := none) (fun _ => rfl)
  refine ⟨_, _, s6.trans ?_, hrun, hended, _, _, rfl, ?_, ⟨_, rfl⟩, hW, hIn, hsame.mono (by decide) (by decide)⟩
  · show Steps p.tables e below (T3.setTop (mkF m 9 #[.val (.ref p0), .val (.ref p1)] [])) _
    exact X3.returnOut hx Bd.returns (hb hby d2_9) hr
  · refine ⟨?_, ?_⟩
    · show Qs1_0 Z p0 p1 kc h0 n0 _ T3.heap _
      exact ⟨u4, u5, rfl, N3, K3, f3_0, f3_1, f3_2, f3_3, f3_4⟩
    · show own_R Z T3.heap T3.vm
      exact own_R_warm X3.warmed hR3
theorem d1_4 : decode method_2_code 4 = .ok (.new 7, 3) := by decide +kernel
theorem d1_7 : decode method_2_code 7 = .ok (.dup, 1) := by decide +kernel
theorem d1_8 : decode method_2_code 8 = .ok (.iconst 0, 1) := by decide +kernel
theorem d1_9 : decode method_2_code 9 = .ok (.newarray .char, 2) := by decide +kernel
theorem d1_11 : decode method_2_code 11 = .ok (.invokespecial 9, 3) := by decide +kernel
theorem d1_14 : decode method_2_code 14 = .ok (.areturn, 1) := by decide +kernel
theorem pd_rmmk_0_0 : parseMethodDescriptor "([C)V" = some ⟨[(.array .char)], none⟩ := by decide +kernel
theorem ef_rmmk_0 (m : MethodId) (p1 : Int32) (p2 : Int32) (p3 : Int32) : entryFrame m #[(.int 0), (.int p1), (.int p2), (.int p3)] 4 = mkF m 0 #[.val (.int 0), .val (.int p1), .val (.int p2), .val (.int p3)] [] := by first | (simp [entryFrame, mkF, argsToLocals, Value.category]; done) | rfl
def Qmk_0 (Z : State) (p1 : Int32) (p2 : Int32) (p3 : Int32) (h0 : Heap) (n0 : Nat) (v : Option Value) (h : Heap) (L : List Loc) : Prop := ∃ u : Addr, ∃ b : Addr, ∃ kb : ClassId, v = some (.ref u) ∧ Fr n0 L ∧ Keep h0 h [] ∧ (Exa Z h u "java/lang/String") ∧ (Fld Z h u "java/lang/String" "value" "[B" (.ref b)) ∧ (Fld Z h u "java/lang/String" "coder" "B" (.int 0)) ∧ (Arv Z h b kb .byte 0 [] (.int 0)) ∧ (h0.size ≤ u) ∧ (u ≠ b)
set_option maxRecDepth 65536 in
set_option maxHeartbeats 40000000 in
theorem rmmk_0 (l : Launch) (Z : State) (a0 : Array Value) (hw : ∀ d ∈ tables_1, d.before a0 Z = true) (ws : List Jvm.Cond) (p1 : Int32) (p2 : Int32) (p3 : Int32) (h0 : Heap) (n0 : Nat) (O0 : Old Z n0 h0) (hheld : Jvm.Lit.constHeld Z "java/lang/String" 7) (hcw : Jvm.Lit.compactW.before a0 Z = true) :
    MetFree l nm10 (head1 (Jvm.Cond.code nm10 method_2_code 4 (some (.object "java/lang/String")) :: ws) ({ frames := 3, cells := 4, slots := 8, locals := 43 } : Room)) (fun a U => a = #[(.int 0), (.int p1), (.int p2), (.int p3)] ∧ Z.Warmed39 U.vm ∧ U.heap = h0 ∧ own_R Z h0 U.vm) (fun _ _ _ _ _ => True) (fun _ U o U' => ∃ v L, o = .returned v ∧ (Qmk_0 Z p1 p2 p3 h0 n0 v U'.heap L ∧ own_R Z U'.heap U'.vm) ∧ ReturnedEndW U o U' L ({ frames := 3, cells := 4, slots := 8, locals := 43 } : Room).cells ({ frames := 3, cells := 4, slots := 8, locals := 43 } : Room).slots) := by
  refine MetFree.of_bodySF (plainFor_of_name pn_1) hisR ?_
  intro p e s m args below meth c s₁ Bd hml0 hP hK
  obtain ⟨rfl, hZ, hh, hR⟩ := hP
  have hx := Bd.exec
  have hby := Bd.bytes
  have hml : c.maxLocals = 4 := hml0
  have hown : s.vm.findClass "com/example/lintel/lintel/message/HeaderCursorAtEndPinLaw" = some m.cls := findClass_of_methodNamed Bd.named
  have X0 : Stand p l e ({ frames := 3, cells := 4, slots := 8, locals := 43 } : Room) (s.setVm s.vm) m #[(.int 0), (.int p1), (.int p2), (.int p3)] below meth c s₁ [] 0 0 := Stand.of_body Bd
  have e0 : s₁.heap = h0 := by rw [← hh, Bd.state]; rfl
  have N0 := Fr.nil n0
  have hS0 : s.Since s.vm s.heap.size := (State.WarmedH.refl s).since _
  have hk0 : s.heap.size ≤ h0.size := Nat.le_of_eq (congrArg Array.size hh)
  have s0 : Steps p.tables e below (s₁.setTop (entryFrame m #[(.int 0), (.int p1), (.int p2), (.int p3)] 4)) (s₁.setTop (mkF m 0 #[.val (.int 0), .val (.int p1), .val (.int p2), .val (.int p3)] [])) := castTop (ef_rmmk_0 m p1 p2 p3) (Steps.refl _)
  obtain ⟨A₀, hA₀⟩ : ∃ z, z = (s₁.setTop (entryFrame m #[(.int 0), (.int p1), (.int p2), (.int p3)] 4)) := ⟨_, rfl⟩
  rw [← hA₀] at s0
  obtain ⟨T1, h1, X1, e1, E1, A1, D1, -, st1⟩ := newO X0 hx hZ hown (wq hw 4 rfl) (wq hw 5 rfl) (wq hw 6 rfl) e0 (g := (mkF m 4 #[.val (.int 0), .val (.int p1), .val (.int p2), .val (.int p3)] [])) rfl (hb hby d1_4) (by decide) (by decide)
  obtain ⟨b1, g1⟩ : ∃ z, z = h0.size := ⟨_, rfl⟩
  rw [← g1] at A1 D1 st1
  have g_b1 : n0 ≤ b1 := Nat.le_trans (Nat.le_of_eq O0.1.symm) (Nat.le_trans O0.2.1 (Nat.le_of_eq g1.symm))
  have sz_b1 : h0.size ≤ b1 := Nat.le_trans (Keep.refl h0 []).1 (Nat.le_of_eq g1.symm)
  have O1 := O0.ext E1
  have hkk1 := Nat.le_trans hk0 E1.1
  have K1 : Keep h0 h1 [] := (Keep.refl h0 []).ext E1
  have F1_coder : Fld Z h1 b1 "java/lang/String" "coder" "B" (.int 0) := D1 (Or.inr (wq hw 31 rfl)) (ty := .byte) (by decide)
  have F1_value : Fld Z h1 b1 "java/lang/String" "value" "[B" .null := D1 (Or.inr (wq hw 33 rfl)) (ty := (.array .byte)) (by decide)
  obtain ⟨T2, h2, k2, X2, e2, E2, A2, st2⟩ := newP X1 hx hZ (wq hw 7 rfl) e1 (g := (mkF m 9 #[.val (.int 0), .val (.int p1), .val (.int p2), .val (.int p3)] [(.int 0), (.ref b1), (.ref b1)])) rfl (hb hby d1_9) rfl (by decide) (cap := 0) (by decide) (by decide) (by decide) (by decide)
  obtain ⟨b2, g2⟩ : ∃ z, z = h1.size := ⟨_, rfl⟩
  rw [← g2] at A2 st2
  have ne_b1_b2 : b1 ≠ b2 := Nat.ne_of_lt (Nat.lt_of_lt_of_le A1.lt (Nat.le_of_eq g2.symm))
  have g_b2 : n0 ≤ b2 := Nat.le_trans (Nat.le_of_eq O1.1.symm) (Nat.le_trans O1.2.1 (Nat.le_of_eq g2.symm))
  have sz_b2 : h0.size ≤ b2 := Nat.le_trans K1.1 (Nat.le_of_eq g2.symm)
  have O2 := O1.ext E2
  have hkk2 := Nat.le_trans hkk1 E2.1
  have K2 : Keep h0 h2 [] := K1.ext E2
  have V2 : Arv Z h2 b2 k2 .char 0 [] (.int 0) := (Arv.new A2 (by decide)).pad (pad_rep [] (.int 0) 0)
  have s3 : Steps p.tables e below A₀ (T2.setTop (mkF m 11 #[.val (.int 0), .val (.int p1), .val (.int p2), .val (.int p3)] [(.ref b2), (.ref b1), (.ref b1)])) := by
    refine s0.trans ?_
    refine XS.iloadN X0.here hx rfl (hb hby d1_0) rfl ?_
    refine XS.ifNo X0.here hx rfl (hb hby d1_1) rfl ((if0 _ _).trans (teq (by decide)).2) ?_
    refine st1 _ ?_
    refine XS.dup X1.here hx rfl (hb hby d1_7) rfl rfl ?_
    refine XS.iconst X1.here hx rfl (hb hby d1_8) ?_
    refine st2 _ ?_
    exact Steps.refl _
  have c4 : Exa Z h2 b1 "java/lang/String" := (A1.ext E2)
  have c5 : Fld Z h2 b1 "java/lang/String" "value" "[B" .null := (F1_value.ext E2)
  have c6 : Fld Z h2 b1 "java/lang/String" "coder" "B" (.int 0) := (F1_coder.ext E2)
  obtain ⟨_, _, ⟨T7, L7, k7, n7⟩, -, Xa7, hSa7, hga7, ⟨Lc7, hQ7, hR7, l7, y7, z7⟩, st7⟩ := X2.specialBackS hx (y := (⟨"java/lang/String", "<init>", "([C)V"⟩ : MethodName)) rfl hown (mvT hZ (wq hw 8 rfl)) (mvT hZ (wq hw 9 rfl)) (mvT hZ (wq hw 10 rfl)) (by decide) (own_backW (W := 1) (rms1_0 l Z a0 hw [] b1 b2 k2 h2 n0 O2 c4 c5 c6 g_b1 V2 hheld hcw) hZ (wq hw 10 rfl) (wq hw 6 rfl) (by decide) (by decide)) (g := (mkF m 11 #[.val (.int 0), .val (.int p1), .val (.int p2), .val (.int p3)] [(.ref b2), (.ref b1), (.ref b1)])) rfl (by rw [hml]; rfl) (Steps.refl _) (a := b1) (argsL := [(.ref b2)]) (rest := [(.ref b1)]) (lenOf pd_rmmk_0_0 rfl) rfl (by exact Nat.le_refl _) (hb hby d1_11) (fun vm₁ hv => ⟨rfl, e2, own_R_warm hv (own_R_keep hR K2), (by decide : 2 + 2 ≤ _), (by decide : 4 + 4 ≤ _)⟩)
  dsimp only [Pt.U, Pt.locs, Pt.cells, Pt.slots] at Xa7 hSa7 hga7 l7 y7 z7 st7 hQ7 hR7
  subst l7 y7 z7
  obtain ⟨X7, hS7, hZ7, hown7⟩ := rebS hS0 (by rw [e2]; exact hkk2) Xa7 hSa7 hga7 hZ hown
  obtain ⟨u8, u9, rfl, Nq7, Kc7, f7_0, f7_1, f7_2, f7_3, f7_4⟩ := hQ7
  have N7 := Fr.app N0 Nq7
  have K7 : Keep h0 T7.heap [] := K2.trans Kc7 (allS (Or.inr sz_b1) all0)
  have O7 := O2.keep Kc7 (allS g_b1 all0)
  have s10 : Steps p.tables e below A₀ (T7.setTop (mkF m 14 #[.val (.int 0), .val (.int p1), .val (.int p2), .val (.int p3)] [(.ref b1)])) := by
    refine s3.trans ?_
    show Steps p.tables e below (T2.setTop (mkF m 11 #[.val (.int 0), .val (.int p1), .val (.int p2), .val (.int p3)] [(.ref b2), (.ref b1), (.ref b1)])) _
    refine st7.trans ?_
    exact Steps.refl _
  subst hA₀
  obtain ⟨fs, hr, hrun, hended, -, hW, hIn, hsame⟩ := X7.leaveW hS7 (by rw [(rfl : T7.heap = T7.heap)]; exact (Nat.le_refl T7.heap.size)) (v := some (.ref b1)) (fun h => by rw [Bd.returns] at h; cases h)
  refine ⟨_, _, s10.trans ?_, hrun, hended, _, _, rfl, ?_, ⟨_, rfl⟩, hW, hIn, hsame.mono (by decide) (by decide)⟩
  · show Steps p.tables e below (T7.setTop (mkF m 14 #[.val (.int 0), .val (.int p1), .val (.int p2), .val (.int p3)] [(.ref b1)])) _
    jvm_step X7.here [X7.here.top, hx, (hb hby d1_14), X7.method', Bd.returns, Value.isRef, FieldType.isReference]
    first | (intro acts; rw [hr _ acts rfl rfl rfl]) | rw [hr _ _ rfl rfl rfl]
    exact Steps.refl _
  · refine ⟨?_, ?_⟩
    · show Qmk_0 Z p1 p2 p3 h0 n0 _ T7.heap _
      exact ⟨b1, u8, u9, rfl, N7, K7, f7_0, f7_1, f7_2, f7_3, sz_b1, f7_4⟩
    · show own_R Z T7.heap T7.vm
      exact own_R_warm X7.warmed hR7
theorem d11_0 : decode jdk_42_method_152_code 0 = .ok (.getstatic 38, 3) := by decide +kernel
theorem d11_3 : decode jdk_42_method_152_code 3 = .ok (.ifCond .eq 10, 3) := by decide +kernel
theorem d11_6 : decode jdk_42_method_152_code 6 = .ok (.aload_n 0, 1) := by decide +kernel
theorem d11_7 : decode jdk_42_method_152_code 7 = .ok (.getfield 15, 3) := by decide +kernel
theorem d11_10 : decode jdk_42_method_152_code 10 = .ok (.goto 4, 3) := by decide +kernel
theorem d11_14 : decode jdk_42_method_152_code 14 = .ok (.ireturn, 1) := by decide +kernel
theorem ef_rmcod0 (m : MethodId) (p0 : Addr) : entryFrame m #[(.ref p0)] 1 = mkF m 0 #[.val (.ref p0)] [] := by first | (simp [entryFrame, mkF, argsToLocals, Value.category]; done) | rfl
def Qcod0 (Z : State) (p0 : Addr) (wc : Int32) (h0 : Heap) (n0 : Nat) (v : Option Value) (h : Heap) (L : List Loc) : Prop := v = some (.int 0) ∧ Fr n0 L ∧ h = h0
set_option maxRecDepth 65536 in
set_option maxHeartbeats 40000000 in
theorem rmcod0 (l : Launch) (Z : State) (a0 : Array Value) (hw : ∀ d ∈ tables_1, d.before a0 Z = true) (ws : List Jvm.Cond) (p0 : Addr) (wc : Int32) (h0 : Heap) (n0 : Nat) (O0 : Old Z n0 h0) (F0_ : Fld Z h0 p0 "java/lang/String" "coder" "B" (.int 0)) (F1_ : Sta Z Z.heap "java/lang/String" "COMPACT_STRINGS" "Z" (.int wc)) (hcs : ¬ (wc = (0 : Int32))) :
    MetFree l nm11 (head1 (Jvm.Cond.code nm11 jdk_42_method_152_code 1 (some .byte) :: ws) ({ frames := 0, cells := 0, slots := 0, locals := 0 } : Room)) (fun a U => a = #[(.ref p0)] ∧ Z.Warmed39 U.vm ∧ U.heap = h0) (fun _ _ _ _ _ => True) (fun _ U o U' => ∃ v L, o = .returned v ∧ Qcod0 Z p0 wc h0 n0 v U'.heap L ∧ FrameEnd U o U' L ({ frames := 0, cells := 0, slots := 0, locals := 0 } : Room).cells ({ frames := 0, cells := 0, slots := 0, locals := 0 } : Room).slots) := by
  refine MetFree.of_bodySF (plainFor_of_name pn_3) hisR ?_
  intro p e s m args below meth c s₁ Bd hml0 hP hK
  obtain ⟨rfl, hZ, hh⟩ := hP
  have hx := Bd.exec
  have hby := Bd.bytes
  have hml : c.maxLocals = 1 := hml0
  have hown : s.vm.findClass "java/lang/String" = some m.cls := findClass_of_methodNamed Bd.named
  have X0 : Stand p l e ({ frames := 0, cells := 0, slots := 0, locals := 0 } : Room) s m #[(.ref p0)] below meth c s₁ [] 0 0 := Stand.of_body Bd
  have e0 : s₁.heap = h0 := by rw [← hh, Bd.state]; rfl
  have N0 := Fr.nil n0
  have s0 : Steps p.tables e below (s₁.setTop (entryFrame m #[(.ref p0)] 1)) (s₁.setTop (mkF m 0 #[.val (.ref p0)] [])) := castTop (ef_rmcod0 m p0) (Steps.refl _)
  obtain ⟨A₀, hA₀⟩ : ∃ z, z = (s₁.setTop (entryFrame m #[(.ref p0)] 1)) := ⟨_, rfl⟩
  rw [← hA₀] at s0
  obtain ⟨T1, X1, e1, st1⟩ := getS2 X0 hx hZ hown (host := "") (Or.inl (wq hw 18 rfl)) Via.refl e0 (F1_.ext O0.2) (g := (mkF m 0 #[.val (.ref p0)] [])) rfl (hb hby d11_0)
  obtain ⟨T2, X2, e2, st2⟩ := getF X1 hx hZ hown (host := "") (Or.inl (wq hw 30 rfl)) Via.refl e1 F0_ (g := (mkF m 7 #[.val (.ref p0)] [(.ref p0)])) rfl rfl (hb hby d11_7)
  have s3 : Steps p.tables e below A₀ (T2.setTop (mkF m 14 #[.val (.ref p0)] [(.int 0)])) := by
    refine s0.trans ?_
    refine st1 _ ?_
    refine XS.ifNo X1.here hx rfl (hb hby d11_3) rfl ((if0 _ _).trans (feq hcs).1) ?_
    refine XS.aloadN X1.here hx rfl (hb hby d11_6) rfl rfl ?_
    refine st2 _ ?_
    refine XS.goto X2.here hx rfl (pc0 := 10) (pc' := 14) rfl (hb hby d11_10) (by decide) (by decide) ?_
    exact Steps.refl _
  subst hA₀
  obtain ⟨fs, hr, hrun, hended, hW, hsame⟩ := X2.leave (v := some (.int 0)) (fun h => by rw [Bd.returns] at h; cases h)
  refine ⟨_, _, s3.trans ?_, hrun, hended, _, _, rfl, ?_, ⟨_, rfl⟩, hW, hsame.mono (by decide) (by decide)⟩
  · show Steps p.tables e below (T2.setTop (mkF m 14 #[.val (.ref p0)] [(.int 0)])) _
    exact retN X2 hx (t := .byte) Bd.returns (by simp) (hb hby d11_14) hr
  · show Qcod0 Z p0 wc h0 n0 _ T2.heap _
    rw [e2]
    exact ⟨rfl, N0, rfl⟩
theorem d21_0 : decode jdk_42_method_154_code 0 = .ok (.getstatic 38, 3) := by decide +kernel
theorem d21_3 : decode jdk_42_method_154_code 3 = .ok (.ifCond .eq 14, 3) := by decide +kernel
theorem d21_6 : decode jdk_42_method_154_code 6 = .ok (.aload_n 0, 1) := by decide +kernel
theorem d21_7 : decode jdk_42_method_154_code 7 = .ok (.getfield 15, 3) := by decide +kernel
theorem d21_10 : decode jdk_42_method_154_code 10 = .ok (.ifCond .ne 7, 3) := by decide +kernel
theorem d21_13 : decode jdk_42_method_154_code 13 = .ok (.iconst 1, 1) := by decide +kernel
theorem d21_14 : decode jdk_42_method_154_code 14 = .ok (.goto 4, 3) := by decide +kernel
theorem d21_18 : decode jdk_42_method_154_code 18 = .ok (.ireturn, 1) := by decide +kernel
theorem ef_rmisl0 (m : MethodId) (p0 : Addr) : entryFrame m #[(.ref p0)] 1 = mkF m 0 #[.val (.ref p0)] [] := by first | (simp [entryFrame, mkF, argsToLocals, Value.category]; done) | rfl
def Qisl0 (Z : State) (p0 : Addr) (wc : Int32) (h0 : Heap) (n0 : Nat) (v : Option Value) (h : Heap) (L : List Loc) : Prop := v = some (.int 1) ∧ Fr n0 L ∧ h = h0
set_option maxRecDepth 65536 in
set_option maxHeartbeats 40000000 in
theorem rmisl0 (l : Launch) (Z : State) (a0 : Array Value) (hw : ∀ d ∈ tables_1, d.before a0 Z = true) (ws : List Jvm.Cond) (p0 : Addr) (wc : Int32) (h0 : Heap) (n0 : Nat) (O0 : Old Z n0 h0) (F0_ : Fld Z h0 p0 "java/lang/String" "coder" "B" (.int 0)) (F1_ : Sta Z Z.heap "java/lang/String" "COMPACT_STRINGS" "Z" (.int wc)) (hcs : ¬ (wc = (0 : Int32))) :
    MetFree l nm12 (head1 (Jvm.Cond.code nm12 jdk_42_method_154_code 1 (some .boolean) :: ws) ({ frames := 0, cells := 0, slots := 0, locals := 0 } : Room)) (fun a U => a = #[(.ref p0)] ∧ Z.Warmed39 U.vm ∧ U.heap = h0) (fun _ _ _ _ _ => True) (fun _ U o U' => ∃ v L, o = .returned v ∧ Qisl0 Z p0 wc h0 n0 v U'.heap L ∧ FrameEnd U o U' L ({ frames := 0, cells := 0, slots := 0, locals := 0 } : Room).cells ({ frames := 0, cells := 0, slots := 0, locals := 0 } : Room).slots) := by
  refine MetFree.of_bodySF (plainFor_of_name pn_3) hisR ?_
  intro p e s m args below meth c s₁ Bd hml0 hP hK
  obtain ⟨rfl, hZ, hh⟩ := hP
  have hx := Bd.exec
  have hby := Bd.bytes
  have hml : c.maxLocals = 1 := hml0
  have hown : s.vm.findClass "java/lang/String" = some m.cls := findClass_of_methodNamed Bd.named
  have X0 : Stand p l e ({ frames := 0, cells := 0, slots := 0, locals := 0 } : Room) s m #[(.ref p0)] below meth c s₁ [] 0 0 := Stand.of_body Bd
  have e0 : s₁.heap = h0 := by rw [← hh, Bd.state]; rfl
  have N0 := Fr.nil n0
  have s0 : Steps p.tables e below (s₁.setTop (entryFrame m #[(.ref p0)] 1)) (s₁.setTop (mkF m 0 #[.val (.ref p0)] [])) := castTop (ef_rmisl0 m p0) (Steps.refl _)
  obtain ⟨A₀, hA₀⟩ : ∃ z, z = (s₁.setTop (entryFrame m #[(.ref p0)] 1)) := ⟨_, rfl⟩
  rw [← hA₀] at s0
  obtain ⟨T1, X1, e1, st1⟩ := getS2 X0 hx hZ hown (host := "") (Or.inl (wq hw 18 rfl)) Via.refl e0 (F1_.ext O0.2) (g := (mkF m 0 #[.val (.ref p0)] [])) rfl (hb hby d21_0)
  obtain ⟨T2, X2, e2, st2⟩ := getF X1 hx hZ hown (host := "") (Or.inl (wq hw 30 rfl)) Via.refl e1 F0_ (g := (mkF m 7 #[.val (.ref p0)] [(.ref p0)])) rfl rfl (hb hby d21_7)
  have s3 : Steps p.tables e below A₀ (T2.setTop (mkF m 18 #[.val (.ref p0)] [(.int 1)])) := by
    refine s0.trans ?_
    refine st1 _ ?_
    refine XS.ifNo X1.here hx rfl (hb hby d21_3) rfl ((if0 _ _).trans (feq hcs).1) ?_
    refine XS.aloadN X1.here hx rfl (hb hby d21_6) rfl rfl ?_
    refine st2 _ ?_
    refine XS.ifNo X2.here hx rfl (hb hby d21_10) rfl ((if0 _ _).trans (teq (by decide)).2) ?_
    refine XS.iconst X2.here hx rfl (hb hby d21_13) ?_
    refine XS.goto X2.here hx rfl (pc0 := 14) (pc' := 18) rfl (hb hby d21_14) (by decide) (by decide) ?_
    exact Steps.refl _
  subst hA₀
  obtain ⟨fs, hr, hrun, hended, hW, hsame⟩ := X2.leave (v := some (.int 1)) (fun h => by rw [Bd.returns] at h; cases h)
  refine ⟨_, _, s3.trans ?_, hrun, hended, _, _, rfl, ?_, ⟨_, rfl⟩, hW, hsame.mono (by decide) (by decide)⟩
  · show Steps p.tables e below (T2.setTop (mkF m 18 #[.val (.ref p0)] [(.int 1)])) _
    exact retN X2 hx (t := .boolean) Bd.returns (by simp) (hb hby d21_18) hr
  · show Qisl0 Z p0 wc h0 n0 _ T2.heap _
    rw [e2]
    exact ⟨rfl, N0, rfl⟩
theorem ef_rmcod1 (m : MethodId) (p0 : Addr) : entryFrame m #[(.ref p0)] 1 = mkF m 0 #[.val (.ref p0)] [] := by first | (simp [entryFrame, mkF, argsToLocals, Value.category]; done) | rfl
def Qcod1 (Z : State) (p0 : Addr) (wc : Int32) (h0 : Heap) (n0 : Nat) (v : Option Value) (h : Heap) (L : List Loc) : Prop := v = some (.int 1) ∧ Fr n0 L ∧ h = h0
set_option maxRecDepth 65536 in
set_option maxHeartbeats 40000000 in
theorem rmcod1 (l : Launch) (Z : State) (a0 : Array Value) (hw : ∀ d ∈ tables_1, d.before a0 Z = true) (ws : List Jvm.Cond) (p0 : Addr) (wc : Int32) (h0 : Heap) (n0 : Nat) (O0 : Old Z n0 h0) (F0_ : Fld Z h0 p0 "java/lang/String" "coder" "B" (.int 1)) (F1_ : Sta Z Z.heap "java/lang/String" "COMPACT_STRINGS" "Z" (.int wc)) (hcs : ¬ (wc = (0 : Int32))) :
    MetFree l nm11 (head1 (Jvm.Cond.code nm11 jdk_42_method_152_code 1 (some .byte) :: ws) ({ frames := 0, cells := 0, slots := 0, locals := 0 } : Room)) (fun a U => a = #[(.ref p0)] ∧ Z.Warmed39 U.vm ∧ U.heap = h0) (fun _ _ _ _ _ => True) (fun _ U o U' => ∃ v L, o = .returned v ∧ Qcod1 Z p0 wc h0 n0 v U'.heap L ∧ FrameEnd U o U' L ({ frames := 0, cells := 0, slots := 0, locals := 0 } : Room).cells ({ frames := 0, cells := 0, slots := 0, locals := 0 } : Room).slots) := by
  refine MetFree.of_bodySF (plainFor_of_name pn_3) hisR ?_
  intro p e s m args below meth c s₁ Bd hml0 hP hK
  obtain ⟨rfl, hZ, hh⟩ := hP
  have hx := Bd.exec
  have hby := Bd.bytes
  have hml : c.maxLocals = 1 := hml0
  have hown : s.vm.findClass "java/lang/String" = some m.cls := findClass_of_methodNamed Bd.named
  have X0 : Stand p l e ({ frames := 0, cells := 0, slots := 0, locals := 0 } : Room) s m #[(.ref p0)] below meth c s₁ [] 0 0 := Stand.of_body Bd
  have e0 : s₁.heap = h0 := by rw [← hh, Bd.state]; rfl
  have N0 := Fr.nil n0
  have s0 : Steps p.tables e below (s₁.setTop (entryFrame m #[(.ref p0)] 1)) (s₁.setTop (mkF m 0 #[.val (.ref p0)] [])) := castTop (ef_rmcod1 m p0) (Steps.refl _)
  obtain ⟨A₀, hA₀⟩ : ∃ z, z = (s₁.setTop (entryFrame m #[(.ref p0)] 1)) := ⟨_, rfl⟩
  rw [← hA₀] at s0
  obtain ⟨T1, X1, e1, st1⟩ := getS2 X0 hx hZ hown (host := "") (Or.inl (wq hw 18 rfl)) Via.refl e0 (F1_.ext O0.2) (g := (mkF m 0 #[.val (.ref p0)] [])) rfl (hb hby d11_0)
  obtain ⟨T2, X2, e2, st2⟩ := getF X1 hx hZ hown (host := "") (Or.inl (wq hw 30 rfl)) Via.refl e1 F0_ (g := (mkF m 7 #[.val (.ref p0)] [(.ref p0)])) rfl rfl (hb hby d11_7)
  have s3 : Steps p.tables e below A₀ (T2.setTop (mkF m 14 #[.val (.ref p0)] [(.int 1)])) := by
    refine s0.trans ?_
    refine st1 _ ?_
    refine XS.ifNo X1.here hx rfl (hb hby d11_3) rfl ((if0 _ _).trans (feq hcs).1) ?_
    refine XS.aloadN X1.here hx rfl (hb hby d11_6) rfl rfl ?_
    refine st2 _ ?_
    refine XS.goto X2.here hx rfl (pc0 := 10) (pc' := 14) rfl (hb hby d11_10) (by decide) (by decide) ?_
    exact Steps.refl _
  subst hA₀
  obtain ⟨fs, hr, hrun, hended, hW, hsame⟩ := X2.leave (v := some (.int 1)) (fun h => by rw [Bd.returns] at h; cases h)
  refine ⟨_, _, s3.trans ?_, hrun, hended, _, _, rfl, ?_, ⟨_, rfl⟩, hW, hsame.mono (by decide) (by decide)⟩
  · show Steps p.tables e below (T2.setTop (mkF m 14 #[.val (.ref p0)] [(.int 1)])) _
    exact retN X2 hx (t := .byte) Bd.returns (by simp) (hb hby d11_14) hr
  · show Qcod1 Z p0 wc h0 n0 _ T2.heap _
    rw [e2]
    exact ⟨rfl, N0, rfl⟩
theorem d21_17 : decode jdk_42_method_154_code 17 = .ok (.iconst 0, 1) := by decide +kernel
theorem ef_rmisl1 (m : MethodId) (p0 : Addr) : entryFrame m #[(.ref p0)] 1 = mkF m 0 #[.val (.ref p0)] [] := by first | (simp [entryFrame, mkF, argsToLocals, Value.category]; done) | rfl
def Qisl1 (Z : State) (p0 : Addr) (wc : Int32) (h0 : Heap) (n0 : Nat) (v : Option Value) (h : Heap) (L : List Loc) : Prop := v = some (.int 0) ∧ Fr n0 L ∧ h = h0
set_option maxRecDepth 65536 in
set_option maxHeartbeats 40000000 in
theorem rmisl1 (l : Launch) (Z : State) (a0 : Array Value) (hw : ∀ d ∈ tables_1, d.before a0 Z = true) (ws : List Jvm.Cond) (p0 : Addr) (wc : Int32) (h0 : Heap) (n0 : Nat) (O0 : Old Z n0 h0) (F0_ : Fld Z h0 p0 "java/lang/String" "coder" "B" (.int 1)) (F1_ : Sta Z Z.heap "java/lang/String" "COMPACT_STRINGS" "Z" (.int wc)) (hcs : ¬ (wc = (0 : Int32))) :
    MetFree l nm12 (head1 (Jvm.Cond.code nm12 jdk_42_method_154_code 1 (some .boolean) :: ws) ({ frames := 0, cells := 0, slots := 0, locals := 0 } : Room)) (fun a U => a = #[(.ref p0)] ∧ Z.Warmed39 U.vm ∧ U.heap = h0) (fun _ _ _ _ _ => True) (fun _ U o U' => ∃ v L, o = .returned v ∧ Qisl1 Z p0 wc h0 n0 v U'.heap L ∧ FrameEnd U o U' L ({ frames := 0, cells := 0, slots := 0, locals := 0 } : Room).cells ({ frames := 0, cells := 0, slots := 0, locals := 0 } : Room).slots) := by
  refine MetFree.of_bodySF (plainFor_of_name pn_3) hisR ?_
  intro p e s m args below meth c s₁ Bd hml0 hP hK
  obtain ⟨rfl, hZ, hh⟩ := hP
  have hx := Bd.exec
  have hby := Bd.bytes
  have hml : c.maxLocals = 1 := hml0
  have hown : s.vm.findClass "java/lang/String" = some m.cls := findClass_of_methodNamed Bd.named
  have X0 : Stand p l e ({ frames := 0, cells := 0, slots := 0, locals := 0 } : Room) s m #[(.ref p0)] below meth c s₁ [] 0 0 := Stand.of_body Bd
  have e0 : s₁.heap = h0 := by rw [← hh, Bd.state]; rfl
  have N0 := Fr.nil n0
  have s0 : Steps p.tables e below (s₁.setTop (entryFrame m #[(.ref p0)] 1)) (s₁.setTop (mkF m 0 #[.val (.ref p0)] [])) := castTop (ef_rmisl1 m p0) (Steps.refl _)
  obtain ⟨A₀, hA₀⟩ : ∃ z, z = (s₁.setTop (entryFrame m #[(.ref p0)] 1)) := ⟨_, rfl⟩
  rw [← hA₀] at s0
  obtain ⟨T1, X1, e1, st1⟩ := getS2 X0 hx hZ hown (host := "") (Or.inl (wq hw 18 rfl)) Via.refl e0 (F1_.ext O0.2) (g := (mkF m 0 #[.val (.ref p0)] [])) rfl (hb hby d21_0)
  obtain ⟨T2, X2, e2, st2⟩ := getF X1 hx hZ hown (host := "") (Or.inl (wq hw 30 rfl)) Via.refl e1 F0_ (g := (mkF m 7 #[.val (.ref p0)] [(.ref p0)])) rfl rfl (hb hby d21_7)
  have s3 : Steps p.tables e below A₀ (T2.setTop (mkF m 18 #[.val (.ref p0)] [(.int 0)])) := by
    refine s0.trans ?_
    refine st1 _ ?_
    refine XS.ifNo X1.here hx rfl (hb hby d21_3) rfl ((if0 _ _).trans (feq hcs).1) ?_
    refine XS.aloadN X1.here hx rfl (hb hby d21_6) rfl rfl ?_
    refine st2 _ ?_
    refine XS.ifYes X2.here hx rfl (pc0 := 10) (pc' := 17) rfl (hb hby d21_10) rfl ((if0 _ _).trans (feq (by decide)).2) (by decide) (by decide) ?_
    refine XS.iconst X2.here hx rfl (hb hby d21_17) ?_
    exact Steps.refl _
  subst hA₀
  obtain ⟨fs, hr, hrun, hended, hW, hsame⟩ := X2.leave (v := some (.int 0)) (fun h => by rw [Bd.returns] at h; cases h)
  refine ⟨_, _, s3.trans ?_, hrun, hended, _, _, rfl, ?_, ⟨_, rfl⟩, hW, hsame.mono (by decide) (by decide)⟩
  · show Steps p.tables e below (T2.setTop (mkF m 18 #[.val (.ref p0)] [(.int 0)])) _
    exact retN X2 hx (t := .boolean) Bd.returns (by simp) (hb hby d21_18) hr
  · show Qisl1 Z p0 wc h0 n0 _ T2.heap _
    rw [e2]
    exact ⟨rfl, N0, rfl⟩
theorem d26_0 : decode jdk_41_method_11_code 0 = .ok (.iload_n 0, 1) := by decide +kernel
theorem d26_1 : decode jdk_41_method_11_code 1 = .ok (.ifCond .lt 8, 3) := by decide +kernel
theorem d26_4 : decode jdk_41_method_11_code 4 = .ok (.iload_n 0, 1) := by decide +kernel
theorem d26_5 : decode jdk_41_method_11_code 5 = .ok (.iload_n 1, 1) := by decide +kernel
theorem d26_6 : decode jdk_41_method_11_code 6 = .ok (.if_icmp .lt 10, 3) := by decide +kernel
theorem d26_16 : decode jdk_41_method_11_code 16 = .ok (.iload_n 0, 1) := by decide +kernel
theorem d26_17 : decode jdk_41_method_11_code 17 = .ok (.ireturn, 1) := by decide +kernel
theorem pn_26 : plainName "jdk/internal/util/Preconditions" = true := by first | (simp [plainName, overriddenIn]; done) | decide +kernel
theorem ef_rmpci (m : MethodId) (p0 : Int32) (p1 : Int32) (p2 : Value) (r_p2 : p2.isRef = true) : entryFrame m #[(.int p0), (.int p1), p2] 3 = mkF m 0 #[.val (.int p0), .val (.int p1), .val p2] [] := by
  cases p2 <;> first | (cases r_p2; done) | (simp [entryFrame, mkF, argsToLocals, Value.category]; done) | rfl
def Qpci (Z : State) (p0 : Int32) (p1 : Int32) (p2 : Value) (h0 : Heap) (n0 : Nat) (v : Option Value) (h : Heap) (L : List Loc) : Prop := v = some (.int p0) ∧ Fr n0 L ∧ h = h0
set_option maxRecDepth 65536 in
set_option maxHeartbeats 40000000 in
theorem rmpci (l : Launch) (Z : State) (a0 : Array Value) (hw : ∀ d ∈ tables_1, d.before a0 Z = true) (ws : List Jvm.Cond) (p0 : Int32) (p1 : Int32) (p2 : Value) (h0 : Heap) (n0 : Nat) (O0 : Old Z n0 h0) (F0_ : p2.isRef = true) (h1 : ¬ p0 < (0 : Int32)) (h2 : p0 < p1) :
    MetFree l nm13 (head1 (Jvm.Cond.code nm13 jdk_41_method_11_code 3 (some .int) :: ws) ({ frames := 0, cells := 0, slots := 0, locals := 0 } : Room)) (fun a U => a = #[(.int p0), (.int p1), p2] ∧ Z.Warmed39 U.vm ∧ U.heap = h0) (fun _ _ _ _ _ => True) (fun _ U o U' => ∃ v L, o = .returned v ∧ Qpci Z p0 p1 p2 h0 n0 v U'.heap L ∧ FrameEnd U o U' L ({ frames := 0, cells := 0, slots := 0, locals := 0 } : Room).cells ({ frames := 0, cells := 0, slots := 0, locals := 0 } : Room).slots) := by
  refine MetFree.of_bodySF (plainFor_of_name pn_26) hisR ?_
  intro p e s m args below meth c s₁ Bd hml0 hP hK
  obtain ⟨rfl, hZ, hh⟩ := hP
  have hx := Bd.exec
  have hby := Bd.bytes
  have hml : c.maxLocals = 3 := hml0
  have hown : s.vm.findClass "jdk/internal/util/Preconditions" = some m.cls := findClass_of_methodNamed Bd.named
  have X0 : Stand p l e ({ frames := 0, cells := 0, slots := 0, locals := 0 } : Room) s m #[(.int p0), (.int p1), p2] below meth c s₁ [] 0 0 := Stand.of_body Bd
  have e0 : s₁.heap = h0 := by rw [← hh, Bd.state]; rfl
  have N0 := Fr.nil n0
  have s0 : Steps p.tables e below (s₁.setTop (entryFrame m #[(.int p0), (.int p1), p2] 3)) (s₁.setTop (mkF m 0 #[.val (.int p0), .val (.int p1), .val p2] [])) := castTop (ef_rmpci m p0 p1 p2 F0_) (Steps.refl _)
  obtain ⟨A₀, hA₀⟩ : ∃ z, z = (s₁.setTop (entryFrame m #[(.int p0), (.int p1), p2] 3)) := ⟨_, rfl⟩
  rw [← hA₀] at s0
  have s1 : Steps p.tables e below A₀ (s₁.setTop (mkF m 17 #[.val (.int p0), .val (.int p1), .val p2] [(.int p0)])) := by
    refine s0.trans ?_
    refine XS.iloadN X0.here hx rfl (hb hby d26_0) rfl ?_
    refine XS.ifNo X0.here hx rfl (hb hby d26_1) rfl ((if0 _ _).trans (flt h1).1) ?_
    refine XS.iloadN X0.here hx rfl (hb hby d26_4) rfl ?_
    refine XS.iloadN X0.here hx rfl (hb hby d26_5) rfl ?_
    refine XS.icmpYes X0.here hx rfl (pc0 := 6) (pc' := 16) rfl (hb hby d26_6) rfl (tlt h2).1 (by decide) (by decide) ?_
    refine XS.iloadN X0.here hx rfl (hb hby d26_16) rfl ?_
    exact Steps.refl _
  subst hA₀
  obtain ⟨fs, hr, hrun, hended, hW, hsame⟩ := X0.leave (v := some (.int p0)) (fun h => by rw [Bd.returns] at h; cases h)
  refine ⟨_, _, s1.trans ?_, hrun, hended, _, _, rfl, ?_, ⟨_, rfl⟩, hW, hsame.mono (by decide) (by decide)⟩
  · show Steps p.tables e below (s₁.setTop (mkF m 17 #[.val (.int p0), .val (.int p1), .val p2] [(.int p0)])) _
    exact retI X0 hx Bd.returns (hb hby d26_17) hr
  · show Qpci Z p0 p1 p2 h0 n0 _ s₁.heap _
    rw [e0]
    exact ⟨rfl, N0, rfl⟩
theorem d25_0 : decode jdk_42_method_155_code 0 = .ok (.iload_n 0, 1) := by decide +kernel
theorem d25_1 : decode jdk_42_method_155_code 1 = .ok (.iload_n 1, 1) := by decide +kernel
theorem d25_2 : decode jdk_42_method_155_code 2 = .ok (.getstatic 1053, 3) := by decide +kernel
theorem d25_5 : decode jdk_42_method_155_code 5 = .ok (.invokestatic 1059, 3) := by decide +kernel
theorem d25_8 : decode jdk_42_method_155_code 8 = .ok (.pop, 1) := by decide +kernel
theorem d25_9 : decode jdk_42_method_155_code 9 = .ok (.return_, 1) := by decide +kernel
theorem pd_rmsci_0 : parseMethodDescriptor "(IILjava/util/function/BiFunction;)I" = some ⟨[.int, .int, (.object "java/util/function/BiFunction")], some .int⟩ := by decide +kernel
theorem ef_rmsci (m : MethodId) (p0 : Int32) (p1 : Int32) : entryFrame m #[(.int p0), (.int p1)] 2 = mkF m 0 #[.val (.int p0), .val (.int p1)] [] := by first | (simp [entryFrame, mkF, argsToLocals, Value.category]; done) | rfl
def Qsci (Z : State) (p0 : Int32) (p1 : Int32) (rg : Value) (h0 : Heap) (n0 : Nat) (v : Option Value) (h : Heap) (L : List Loc) : Prop := v = none ∧ Fr n0 L ∧ h = h0
set_option maxRecDepth 65536 in
set_option maxHeartbeats 40000000 in
theorem rmsci (l : Launch) (Z : State) (a0 : Array Value) (hw : ∀ d ∈ tables_1, d.before a0 Z = true) (ws : List Jvm.Cond) (p0 : Int32) (p1 : Int32) (rg : Value) (h0 : Heap) (n0 : Nat) (O0 : Old Z n0 h0) (F0_ : Sta Z Z.heap "jdk/internal/util/Preconditions" "SIOOBE_FORMATTER" "Ljava/util/function/BiFunction;" rg) (F1_ : rg.isRef = true) (h1 : ¬ p0 < (0 : Int32)) (h2 : p0 < p1) :
    MetFree l nm14 (head1 (Jvm.Cond.code nm14 jdk_42_method_155_code 2 none :: ws) ({ frames := 1, cells := 0, slots := 0, locals := 14 } : Room)) (fun a U => a = #[(.int p0), (.int p1)] ∧ Z.Warmed39 U.vm ∧ U.heap = h0) (fun _ _ _ _ _ => True) (fun _ U o U' => ∃ v L, o = .returned v ∧ Qsci Z p0 p1 rg h0 n0 v U'.heap L ∧ FrameEnd U o U' L ({ frames := 1, cells := 0, slots := 0, locals := 14 } : Room).cells ({ frames := 1, cells := 0, slots := 0, locals := 14 } : Room).slots) := by
  refine MetFree.of_bodySF (plainFor_of_name pn_3) hisR ?_
  intro p e s m args below meth c s₁ Bd hml0 hP hK
  obtain ⟨rfl, hZ, hh⟩ := hP
  have hx := Bd.exec
  have hby := Bd.bytes
  have hml : c.maxLocals = 2 := hml0
  have hown : s.vm.findClass "java/lang/String" = some m.cls := findClass_of_methodNamed Bd.named
  have X0 : Stand p l e ({ frames := 1, cells := 0, slots := 0, locals := 14 } : Room) s m #[(.int p0), (.int p1)] below meth c s₁ [] 0 0 := Stand.of_body Bd
  have e0 : s₁.heap = h0 := by rw [← hh, Bd.state]; rfl
  have N0 := Fr.nil n0
  have s0 : Steps p.tables e below (s₁.setTop (entryFrame m #[(.int p0), (.int p1)] 2)) (s₁.setTop (mkF m 0 #[.val (.int p0), .val (.int p1)] [])) := castTop (ef_rmsci m p0 p1) (Steps.refl _)
  obtain ⟨A₀, hA₀⟩ : ∃ z, z = (s₁.setTop (entryFrame m #[(.int p0), (.int p1)] 2)) := ⟨_, rfl⟩
  rw [← hA₀] at s0
  obtain ⟨T1, X1, e1, st1⟩ := getS2 X0 hx hZ hown (host := "") (Or.inl (wq hw 121 rfl)) Via.refl e0 (F0_.ext O0.2) (g := (mkF m 2 #[.val (.int p0), .val (.int p1)] [(.int p1), (.int p0)])) rfl (hb hby d25_2)
  obtain ⟨T2, L2, X2, e2, N2, st2⟩ := own_callP X1 hx hZ hown (wk123 hw) (wk124 hw) (wk122 hw) (wk125 hw) (by decide) (rmpci l Z a0 hw [] p0 p1 rg h0 n0 O0 F1_ h1 h2) e1 N0 (W := 0) (by decide) (by decide) (by decide) (by decide) (g := (mkF m 5 #[.val (.int p0), .val (.int p1)] [rg, (.int p1), (.int p0)])) rfl (by rw [hml]; rfl) (argsL := [(.int p0), (.int p1), rg]) (rest := []) (lenOf pd_rmsci_0 rfl) rfl (by exact Nat.le_refl _) (hb hby d25_5)
  have s3 : Steps p.tables e below A₀ (T2.setTop (mkF m 9 #[.val (.int p0), .val (.int p1)] [])) := by
    refine s0.trans ?_
    refine XS.iloadN X0.here hx rfl (hb hby d25_0) rfl ?_
    refine XS.iloadN X0.here hx rfl (hb hby d25_1) rfl ?_
    refine st1 _ ?_
    refine st2 _ ?_
    refine XS.pop X2.here hx rfl (hb hby d25_8) rfl rfl ?_
    exact Steps.refl _
  subst hA₀
  obtain ⟨fs, hr, hrun, hended, hW, hsame⟩ := X2.leave (v := none) (fun _ => rfl)
  refine ⟨_, _, s3.trans ?_, hrun, hended, _, _, rfl, ?_, ⟨_, rfl⟩, hW, hsame.mono (by decide) (by decide)⟩
  · show Steps p.tables e below (T2.setTop (mkF m 9 #[.val (.int p0), .val (.int p1)] [])) _
    exact X2.returnOut hx Bd.returns (hb hby d25_9) hr
  · show Qsci Z p0 p1 rg h0 n0 _ T2.heap _
    rw [e2]
    exact ⟨rfl, N2, rfl⟩
theorem d27_0 : decode jdk_43_method_2_code 0 = .ok (.iload_n 1, 1) := by decide +kernel
theorem d27_1 : decode jdk_43_method_2_code 1 = .ok (.aload_n 0, 1) := by decide +kernel
theorem d27_2 : decode jdk_43_method_2_code 2 = .ok (.arraylength, 1) := by decide +kernel
theorem d27_3 : decode jdk_43_method_2_code 3 = .ok (.invokestatic 9, 3) := by decide +kernel
theorem d27_6 : decode jdk_43_method_2_code 6 = .ok (.aload_n 0, 1) := by decide +kernel
theorem d27_7 : decode jdk_43_method_2_code 7 = .ok (.iload_n 1, 1) := by decide +kernel
theorem d27_8 : decode jdk_43_method_2_code 8 = .ok (.baload, 1) := by decide +kernel
theorem d27_9 : decode jdk_43_method_2_code 9 = .ok (.sipush 255, 3) := by decide +kernel
theorem d27_12 : decode jdk_43_method_2_code 12 = .ok (.iand, 1) := by decide +kernel
theorem d27_13 : decode jdk_43_method_2_code 13 = .ok (.i2c, 1) := by decide +kernel
theorem d27_14 : decode jdk_43_method_2_code 14 = .ok (.ireturn, 1) := by decide +kernel
theorem pn_27 : plainName "java/lang/StringLatin1" = true := by first | (simp [plainName, overriddenIn]; done) | decide +kernel
theorem pd_rmlch_0 : parseMethodDescriptor "(II)V" = some ⟨[.int, .int], none⟩ := by decide +kernel
theorem ef_rmlch (m : MethodId) (p0 : Addr) (p1 : Int32) : entryFrame m #[(.ref p0), (.int p1)] 2 = mkF m 0 #[.val (.ref p0), .val (.int p1)] [] := by first | (simp [entryFrame, mkF, argsToLocals, Value.category]; done) | rfl
def Qlch (Z : State) (p0 : Addr) (p1 : Int32) (kb : ClassId) (nn : Int32) (xs : List Int32) (rg : Value) (h0 : Heap) (n0 : Nat) (v : Option Value) (h : Heap) (L : List Loc) : Prop := ∃ r : Int32, v = some (.int r) ∧ Fr n0 L ∧ h = h0
set_option maxRecDepth 65536 in
set_option maxHeartbeats 40000000 in
theorem rmlch (l : Launch) (Z : State) (a0 : Array Value) (hw : ∀ d ∈ tables_1, d.before a0 Z = true) (ws : List Jvm.Cond) (p0 : Addr) (p1 : Int32) (kb : ClassId) (nn : Int32) (xs : List Int32) (rg : Value) (h0 : Heap) (n0 : Nat) (O0 : Old Z n0 h0) (F0_ : Arv Z h0 p0 kb .byte nn (xs.map Value.int) (.int 0)) (F1_ : Sta Z Z.heap "jdk/internal/util/Preconditions" "SIOOBE_FORMATTER" "Ljava/util/function/BiFunction;" rg) (F2_ : rg.isRef = true) (h1 : ¬ p1 < (0 : Int32)) (h2 : p1 < nn) :
    MetFree l nm15 (head1 (Jvm.Cond.code nm15 jdk_43_method_2_code 2 (some .char) :: ws) ({ frames := 2, cells := 0, slots := 0, locals := 27 } : Room)) (fun a U => a = #[(.ref p0), (.int p1)] ∧ Z.Warmed39 U.vm ∧ U.heap = h0) (fun _ _ _ _ _ => True) (fun _ U o U' => ∃ v L, o = .returned v ∧ Qlch Z p0 p1 kb nn xs rg h0 n0 v U'.heap L ∧ FrameEnd U o U' L ({ frames := 2, cells := 0, slots := 0, locals := 27 } : Room).cells ({ frames := 2, cells := 0, slots := 0, locals := 27 } : Room).slots) := by
  refine MetFree.of_bodySF (plainFor_of_name pn_27) hisR ?_
  intro p e s m args below meth c s₁ Bd hml0 hP hK
  obtain ⟨rfl, hZ, hh⟩ := hP
  have hx := Bd.exec
  have hby := Bd.bytes
  have hml : c.maxLocals = 2 := hml0
  have hown : s.vm.findClass "java/lang/StringLatin1" = some m.cls := findClass_of_methodNamed Bd.named
  have X0 : Stand p l e ({ frames := 2, cells := 0, slots := 0, locals := 27 } : Room) s m #[(.ref p0), (.int p1)] below meth c s₁ [] 0 0 := Stand.of_body Bd
  have e0 : s₁.heap = h0 := by rw [← hh, Bd.state]; rfl
  have N0 := Fr.nil n0
  have s0 : Steps p.tables e below (s₁.setTop (entryFrame m #[(.ref p0), (.int p1)] 2)) (s₁.setTop (mkF m 0 #[.val (.ref p0), .val (.int p1)] [])) := castTop (ef_rmlch m p0 p1) (Steps.refl _)
  obtain ⟨A₀, hA₀⟩ : ∃ z, z = (s₁.setTop (entryFrame m #[(.ref p0), (.int p1)] 2)) := ⟨_, rfl⟩
  rw [← hA₀] at s0
  obtain ⟨cla1, Ara1, qa1, Sa1, Za1, Ha1, Ga1⟩ := id F0_
  obtain ⟨_, _, ⟨T2, L2, k2, n2⟩, -, X2, ⟨Lc2, hQ2, l2, y2, z2⟩, st2⟩ := Jvm.LawKit.callS X0 hx (y := (⟨"java/lang/String", "checkIndex", "(II)V"⟩ : MethodName)) hown (mvT hZ (wq hw 130 rfl)) (mvT hZ (wq hw 119 rfl)) (mvT hZ (wq hw 6 rfl)) (mvT hZ (wq hw 120 rfl)) (by decide) (backOf (W := 0) (rmsci l Z a0 hw [] p1 nn rg h0 n0 O0 F1_ F2_ h1 h2) hZ (wq hw 120 rfl) (wq hw 6 rfl) (by decide) (by decide)) (g := (mkF m 3 #[.val (.ref p0), .val (.int p1)] [(.int nn), (.int p1)])) rfl (by rw [hml]; rfl) (argsL := [(.int p1), (.int nn)]) (rest := []) (lenOf pd_rmlch_0 rfl) rfl (by exact Nat.le_refl _) (hb hby d27_3) (fun _ _ => ⟨rfl, e0, (by decide : 0 + 0 ≤ _), (by decide : 0 + 0 ≤ _)⟩)
  dsimp only [Pt.U, Pt.locs, Pt.cells, Pt.slots] at X2 l2 y2 z2 st2 hQ2
  subst l2 y2 z2
  obtain ⟨rfl, Nq2, e2⟩ := hQ2
  have N2 := Fr.app N0 Nq2
  have hin3 : ¬ (p1 < 0 ∨ cla1.slots.size ≤ (p1).toNatClampNeg) := inb_of Sa1 ⟨h1, h2⟩
  have hat4 : cla1.slots[(p1).toNatClampNeg]? = some (.int (own_at xs p1)) := Has.at Ha1 hin3 (own_getD xs _)
  have s5 : Steps p.tables e below A₀ (T2.setTop (mkF m 14 #[.val (.ref p0), .val (.int p1)] [(.int (((own_at xs p1) &&& (255 : Int32)).toUInt32.toUInt16.toUInt32.toInt32))])) := by
    refine s0.trans ?_
    refine XS.iloadN X0.here hx rfl (hb hby d27_0) rfl ?_
    refine XS.aloadN X0.here hx rfl (hb hby d27_1) rfl rfl ?_
    refine X0.arraylength hx (by rw [e0]; exact Ara1.1) (State.isArrayOf_alike hZ.alike Ara1.2.1) (g := (mkF m 2 #[.val (.ref p0), .val (.int p1)] [(.ref p0), (.int p1)])) rfl rfl (hb hby d27_2) _ ?_
    rw [len_of Sa1 Za1]
    show Steps p.tables e below (s₁.setTop (mkF m 3 #[.val (.ref p0), .val (.int p1)] [(.int nn), (.int p1)])) _
    refine st2 _ ?_
    refine XS.aloadN X2.here hx rfl (hb hby d27_6) rfl rfl ?_
    refine XS.iloadN X2.here hx rfl (hb hby d27_7) rfl ?_
    refine X2.baloadBytes hx (j := p1) (v := (.int (own_at xs p1))) (by rw [e2]; exact Ara1.1) (State.isArrayOf_alike hZ.alike Ara1.2.1) Ara1.2.2 hin3 hat4 (g := (mkF m 8 #[.val (.ref p0), .val (.int p1)] [(.int p1), (.ref p0)])) rfl rfl (hb hby d27_8) _ ?_
    refine XS.sipush X2.here hx rfl (hb hby d27_9) ?_
    refine XS.iand X2.here hx rfl (hb hby d27_12) rfl ?_
    refine XS.i2c X2.here hx rfl (hb hby d27_13) rfl ?_
    exact Steps.refl _
  subst hA₀
  obtain ⟨fs, hr, hrun, hended, hW, hsame⟩ := X2.leave (v := some (.int (nar .char (((own_at xs p1) &&& (255 : Int32)).toUInt32.toUInt16.toUInt32.toInt32)))) (fun h => by rw [Bd.returns] at h; cases h)
  refine ⟨_, _, s5.trans ?_, hrun, hended, _, _, rfl, ?_, ⟨_, rfl⟩, hW, hsame.mono (by decide) (by decide)⟩
  · show Steps p.tables e below (T2.setTop (mkF m 14 #[.val (.ref p0), .val (.int p1)] [(.int (((own_at xs p1) &&& (255 : Int32)).toUInt32.toUInt16.toUInt32.toInt32))])) _
    exact retN X2 hx (t := .char) Bd.returns (by simp) (hb hby d27_14) hr
  · show Qlch Z p0 p1 kb nn xs rg h0 n0 _ T2.heap _
    rw [e2]
    exact ⟨(nar .char (((own_at xs p1) &&& (255 : Int32)).toUInt32.toUInt16.toUInt32.toInt32)), rfl, N2, rfl⟩
theorem d24_0 : decode jdk_52_method_6_code 0 = .ok (.aload_n 0, 1) := by decide +kernel
theorem d24_1 : decode jdk_52_method_6_code 1 = .ok (.arraylength, 1) := by decide +kernel
theorem d24_2 : decode jdk_52_method_6_code 2 = .ok (.iconst 1, 1) := by decide +kernel
theorem d24_3 : decode jdk_52_method_6_code 3 = .ok (.ishr, 1) := by decide +kernel
theorem d24_4 : decode jdk_52_method_6_code 4 = .ok (.ireturn, 1) := by decide +kernel
theorem ef_rmul (m : MethodId) (p0 : Addr) : entryFrame m #[(.ref p0)] 1 = mkF m 0 #[.val (.ref p0)] [] := by first | (simp [entryFrame, mkF, argsToLocals, Value.category]; done) | rfl
def Qul (Z : State) (p0 : Addr) (kb : ClassId) (nn : Int32) (xs : List Int32) (h0 : Heap) (n0 : Nat) (v : Option Value) (h : Heap) (L : List Loc) : Prop := v = some (.int (nn >>> ((1 : Int32) &&& 31))) ∧ Fr n0 L ∧ h = h0
set_option maxRecDepth 65536 in
set_option maxHeartbeats 40000000 in
theorem rmul (l : Launch) (Z : State) (a0 : Array Value) (hw : ∀ d ∈ tables_1, d.before a0 Z = true) (ws : List Jvm.Cond) (p0 : Addr) (kb : ClassId) (nn : Int32) (xs : List Int32) (h0 : Heap) (n0 : Nat) (O0 : Old Z n0 h0) (F0_ : Arv Z h0 p0 kb .byte nn (xs.map Value.int) (.int 0)) :
    MetFree l nm16 (head1 (Jvm.Cond.code nm16 jdk_52_method_6_code 1 (some .int) :: ws) ({ frames := 0, cells := 0, slots := 0, locals := 0 } : Room)) (fun a U => a = #[(.ref p0)] ∧ Z.Warmed39 U.vm ∧ U.heap = h0) (fun _ _ _ _ _ => True) (fun _ U o U' => ∃ v L, o = .returned v ∧ Qul Z p0 kb nn xs h0 n0 v U'.heap L ∧ FrameEnd U o U' L ({ frames := 0, cells := 0, slots := 0, locals := 0 } : Room).cells ({ frames := 0, cells := 0, slots := 0, locals := 0 } : Room).slots) := by
  refine MetFree.of_bodySF (plainFor_of_name pn_18) hisR ?_
  intro p e s m args below meth c s₁ Bd hml0 hP hK
  obtain ⟨rfl, hZ, hh⟩ := hP
  have hx := Bd.exec
  have hby := Bd.bytes
  have hml : c.maxLocals = 1 := hml0
  have hown : s.vm.findClass "java/lang/StringUTF16" = some m.cls := findClass_of_methodNamed Bd.named
  have X0 : Stand p l e ({ frames := 0, cells := 0, slots := 0, locals := 0 } : Room) s m #[(.ref p0)] below meth c s₁ [] 0 0 := Stand.of_body Bd
  have e0 : s₁.heap = h0 := by rw [← hh, Bd.state]; rfl
  have N0 := Fr.nil n0
  have s0 : Steps p.tables e below (s₁.setTop (entryFrame m #[(.ref p0)] 1)) (s₁.setTop (mkF m 0 #[.val (.ref p0)] [])) := castTop (ef_rmul m p0) (Steps.refl _)
  obtain ⟨A₀, hA₀⟩ : ∃ z, z = (s₁.setTop (entryFrame m #[(.ref p0)] 1)) := ⟨_, rfl⟩
  rw [← hA₀] at s0
  obtain ⟨cla1, Ara1, qa1, Sa1, Za1, Ha1, Ga1⟩ := id F0_
  have s2 : Steps p.tables e below A₀ (s₁.setTop (mkF m 4 #[.val (.ref p0)] [(.int (nn >>> ((1 : Int32) &&& 31)))])) := by
    refine s0.trans ?_
    refine XS.aloadN X0.here hx rfl (hb hby d24_0) rfl rfl ?_
    refine X0.arraylength hx (by rw [e0]; exact Ara1.1) (State.isArrayOf_alike hZ.alike Ara1.2.1) (g := (mkF m 1 #[.val (.ref p0)] [(.ref p0)])) rfl rfl (hb hby d24_1) _ ?_
    rw [len_of Sa1 Za1]
    show Steps p.tables e below (s₁.setTop (mkF m 2 #[.val (.ref p0)] [(.int nn)])) _
    refine XS.iconst X0.here hx rfl (hb hby d24_2) ?_
    refine XS.ishr X0.here hx rfl (hb hby d24_3) rfl ?_
    exact Steps.refl _
  subst hA₀
  obtain ⟨fs, hr, hrun, hended, hW, hsame⟩ := X0.leave (v := some (.int (nn >>> ((1 : Int32) &&& 31)))) (fun h => by rw [Bd.returns] at h; cases h)
  refine ⟨_, _, s2.trans ?_, hrun, hended, _, _, rfl, ?_, ⟨_, rfl⟩, hW, hsame.mono (by decide) (by decide)⟩
  · show Steps p.tables e below (s₁.setTop (mkF m 4 #[.val (.ref p0)] [(.int (nn >>> ((1 : Int32) &&& 31)))])) _
    exact retI X0 hx Bd.returns (hb hby d24_4) hr
  · show Qul Z p0 kb nn xs h0 n0 _ s₁.heap _
    rw [e0]
    exact ⟨rfl, N0, rfl⟩
theorem d23_0 : decode jdk_52_method_91_code 0 = .ok (.iload_n 0, 1) := by decide +kernel
theorem d23_1 : decode jdk_52_method_91_code 1 = .ok (.aload_n 1, 1) := by decide +kernel
theorem d23_2 : decode jdk_52_method_91_code 2 = .ok (.invokestatic 48, 3) := by decide +kernel
theorem d23_5 : decode jdk_52_method_91_code 5 = .ok (.invokestatic 414, 3) := by decide +kernel
theorem d23_8 : decode jdk_52_method_91_code 8 = .ok (.return_, 1) := by decide +kernel
theorem pd_rmuk_0 : parseMethodDescriptor "([B)I" = some ⟨[(.array .byte)], some .int⟩ := by decide +kernel
theorem pd_rmuk_1 : parseMethodDescriptor "(II)V" = some ⟨[.int, .int], none⟩ := by decide +kernel
theorem ef_rmuk (m : MethodId) (p0 : Int32) (p1 : Addr) : entryFrame m #[(.int p0), (.ref p1)] 2 = mkF m 0 #[.val (.int p0), .val (.ref p1)] [] := by first | (simp [entryFrame, mkF, argsToLocals, Value.category]; done) | rfl
def Quk (Z : State) (p0 : Int32) (p1 : Addr) (kb : ClassId) (nn : Int32) (xs : List Int32) (rg : Value) (h0 : Heap) (n0 : Nat) (v : Option Value) (h : Heap) (L : List Loc) : Prop := v = none ∧ Fr n0 L ∧ h = h0
set_option maxRecDepth 65536 in
set_option maxHeartbeats 40000000 in
theorem rmuk (l : Launch) (Z : State) (a0 : Array Value) (hw : ∀ d ∈ tables_1, d.before a0 Z = true) (ws : List Jvm.Cond) (p0 : Int32) (p1 : Addr) (kb : ClassId) (nn : Int32) (xs : List Int32) (rg : Value) (h0 : Heap) (n0 : Nat) (O0 : Old Z n0 h0) (F0_ : Arv Z h0 p1 kb .byte nn (xs.map Value.int) (.int 0)) (F1_ : Sta Z Z.heap "jdk/internal/util/Preconditions" "SIOOBE_FORMATTER" "Ljava/util/function/BiFunction;" rg) (F2_ : rg.isRef = true) (h1 : ¬ p0 < (0 : Int32)) (h2 : p0 < (nn >>> ((1 : Int32) &&& 31))) :
    MetFree l nm17 (head1 (Jvm.Cond.code nm17 jdk_52_method_91_code 2 none :: ws) ({ frames := 2, cells := 0, slots := 0, locals := 27 } : Room)) (fun a U => a = #[(.int p0), (.ref p1)] ∧ Z.Warmed39 U.vm ∧ U.heap = h0) (fun _ _ _ _ _ => True) (fun _ U o U' => ∃ v L, o = .returned v ∧ Quk Z p0 p1 kb nn xs rg h0 n0 v U'.heap L ∧ FrameEnd U o U' L ({ frames := 2, cells := 0, slots := 0, locals := 27 } : Room).cells ({ frames := 2, cells := 0, slots := 0, locals := 27 } : Room).slots) := by
  refine MetFree.of_bodySF (plainFor_of_name pn_18) hisR ?_
  intro p e s m args below meth c s₁ Bd hml0 hP hK
  obtain ⟨rfl, hZ, hh⟩ := hP
  have hx := Bd.exec
  have hby := Bd.bytes
  have hml : c.maxLocals = 2 := hml0
  have hown : s.vm.findClass "java/lang/StringUTF16" = some m.cls := findClass_of_methodNamed Bd.named
  have X0 : Stand p l e ({ frames := 2, cells := 0, slots := 0, locals := 27 } : Room) s m #[(.int p0), (.ref p1)] below meth c s₁ [] 0 0 := Stand.of_body Bd
  have e0 : s₁.heap = h0 := by rw [← hh, Bd.state]; rfl
  have N0 := Fr.nil n0
  have s0 : Steps p.tables e below (s₁.setTop (entryFrame m #[(.int p0), (.ref p1)] 2)) (s₁.setTop (mkF m 0 #[.val (.int p0), .val (.ref p1)] [])) := castTop (ef_rmuk m p0 p1) (Steps.refl _)
  obtain ⟨A₀, hA₀⟩ : ∃ z, z = (s₁.setTop (entryFrame m #[(.int p0), (.ref p1)] 2)) := ⟨_, rfl⟩
  rw [← hA₀] at s0
  obtain ⟨T1, L1, X1, e1, N1, st1⟩ := own_callP X0 hx hZ hown (wk115 hw) (wk116 hw) (wk21 hw) (wk117 hw) (by decide) (rmul l Z a0 hw [] p1 kb nn xs h0 n0 O0 F0_) e0 N0 (W := 1) (by decide) (by decide) (by decide) (by decide) (g := (mkF m 2 #[.val (.int p0), .val (.ref p1)] [(.ref p1), (.int p0)])) rfl (by rw [hml]; rfl) (argsL := [(.ref p1)]) (rest := [(.int p0)]) (lenOf pd_rmuk_0 rfl) rfl (by exact Nat.le_refl _) (hb hby d23_2)
  obtain ⟨_, _, ⟨T2, L2, k2, n2⟩, -, X2, ⟨Lc2, hQ2, l2, y2, z2⟩, st2⟩ := Jvm.LawKit.callS X1 hx (y := (⟨"java/lang/String", "checkIndex", "(II)V"⟩ : MethodName)) hown (mvT hZ (wq hw 118 rfl)) (mvT hZ (wq hw 119 rfl)) (mvT hZ (wq hw 6 rfl)) (mvT hZ (wq hw 120 rfl)) (by decide) (backOf (W := 0) (rmsci l Z a0 hw [] p0 (nn >>> ((1 : Int32) &&& 31)) rg h0 n0 O0 F1_ F2_ h1 h2) hZ (wq hw 120 rfl) (wq hw 6 rfl) (by decide) (by decide)) (g := (mkF m 5 #[.val (.int p0), .val (.ref p1)] [(.int (nn >>> ((1 : Int32) &&& 31))), (.int p0)])) rfl (by rw [hml]; rfl) (argsL := [(.int p0), (.int (nn >>> ((1 : Int32) &&& 31)))]) (rest := []) (lenOf pd_rmuk_1 rfl) rfl (by exact Nat.le_refl _) (hb hby d23_5) (fun _ _ => ⟨rfl, e1, (by decide : 0 + 0 ≤ _), (by decide : 0 + 0 ≤ _)⟩)
  dsimp only [Pt.U, Pt.locs, Pt.cells, Pt.slots] at X2 l2 y2 z2 st2 hQ2
  subst l2 y2 z2
  obtain ⟨rfl, Nq2, e2⟩ := hQ2
  have N2 := Fr.app N1 Nq2
  have s3 : Steps p.tables e below A₀ (T2.setTop (mkF m 8 #[.val (.int p0), .val (.ref p1)] [])) := by
    refine s0.trans ?_
    refine XS.iloadN X0.here hx rfl (hb hby d23_0) rfl ?_
    refine XS.aloadN X0.here hx rfl (hb hby d23_1) rfl rfl ?_
    refine st1 _ ?_
    refine st2 _ ?_
    exact Steps.refl _
  subst hA₀
  obtain ⟨fs, hr, hrun, hended, hW, hsame⟩ := X2.leave (v := none) (fun _ => rfl)
  refine ⟨_, _, s3.trans ?_, hrun, hended, _, _, rfl, ?_, ⟨_, rfl⟩, hW, hsame.mono (by decide) (by decide)⟩
  · show Steps p.tables e below (T2.setTop (mkF m 8 #[.val (.int p0), .val (.ref p1)] [])) _
    exact X2.returnOut hx Bd.returns (hb hby d23_8) hr
  · show Quk Z p0 p1 kb nn xs rg h0 n0 _ T2.heap _
    rw [e2]
    exact ⟨rfl, N2, rfl⟩
theorem d22_0 : decode jdk_52_method_83_code 0 = .ok (.iload_n 1, 1) := by decide +kernel
theorem d22_1 : decode jdk_52_method_83_code 1 = .ok (.aload_n 0, 1) := by decide +kernel
theorem d22_2 : decode jdk_52_method_83_code 2 = .ok (.invokestatic 67, 3) := by decide +kernel
theorem d22_5 : decode jdk_52_method_83_code 5 = .ok (.aload_n 0, 1) := by decide +kernel
theorem d22_6 : decode jdk_52_method_83_code 6 = .ok (.iload_n 1, 1) := by decide +kernel
theorem d22_7 : decode jdk_52_method_83_code 7 = .ok (.invokestatic 71, 3) := by decide +kernel
theorem d22_10 : decode jdk_52_method_83_code 10 = .ok (.ireturn, 1) := by decide +kernel
theorem pd_rmuch_0 : parseMethodDescriptor "(I[B)V" = some ⟨[.int, (.array .byte)], none⟩ := by decide +kernel
theorem pd_rmuch_1 : parseMethodDescriptor "([BI)C" = some ⟨[(.array .byte), .int], some .char⟩ := by decide +kernel
theorem ef_rmuch (m : MethodId) (p0 : Addr) (p1 : Int32) : entryFrame m #[(.ref p0), (.int p1)] 2 = mkF m 0 #[.val (.ref p0), .val (.int p1)] [] := by first | (simp [entryFrame, mkF, argsToLocals, Value.category]; done) | rfl
def Quch (Z : State) (p0 : Addr) (p1 : Int32) (kb : ClassId) (nn : Int32) (xs : List Int32) (rg : Value) (h0 : Heap) (n0 : Nat) (v : Option Value) (h : Heap) (L : List Loc) : Prop := ∃ r : Int32, v = some (.int r) ∧ Fr n0 L ∧ h = h0
set_option maxRecDepth 65536 in
set_option maxHeartbeats 40000000 in
theorem rmuch (l : Launch) (Z : State) (a0 : Array Value) (hw : ∀ d ∈ tables_1, d.before a0 Z = true) (ws : List Jvm.Cond) (p0 : Addr) (p1 : Int32) (kb : ClassId) (nn : Int32) (xs : List Int32) (rg : Value) (h0 : Heap) (n0 : Nat) (O0 : Old Z n0 h0) (F0_ : Arv Z h0 p0 kb .byte nn (xs.map Value.int) (.int 0)) (F1_ : Sta Z Z.heap "jdk/internal/util/Preconditions" "SIOOBE_FORMATTER" "Ljava/util/function/BiFunction;" rg) (F2_ : rg.isRef = true) (F3_ : Sta Z Z.heap "java/lang/StringUTF16" "$assertionsDisabled" "Z" (.int 1)) (F4_ : Sta Z Z.heap "java/lang/StringUTF16" "HI_BYTE_SHIFT" "I" (.int 0)) (F5_ : Sta Z Z.heap "java/lang/StringUTF16" "LO_BYTE_SHIFT" "I" (.int 8)) (h1 : ¬ p1 < (0 : Int32)) (h2 : p1 < (nn >>> ((1 : Int32) &&& 31))) (h3 : ¬ (p1 <<< ((1 : Int32) &&& 31)) < (0 : Int32) ∧ (p1 <<< ((1 : Int32) &&& 31)) < nn) (h4 : ¬ ((p1 <<< ((1 : Int32) &&& 31)) + (1 : Int32)) < (0 : Int32) ∧ ((p1 <<< ((1 : Int32) &&& 31)) + (1 : Int32)) < nn) :
    MetFree l nm18 (head1 (Jvm.Cond.code nm18 jdk_52_method_83_code 2 (some .char) :: ws) ({ frames := 3, cells := 0, slots := 0, locals := 40 } : Room)) (fun a U => a = #[(.ref p0), (.int p1)] ∧ Z.Warmed39 U.vm ∧ U.heap = h0) (fun _ _ _ _ _ => True) (fun _ U o U' => ∃ v L, o = .returned v ∧ Quch Z p0 p1 kb nn xs rg h0 n0 v U'.heap L ∧ FrameEnd U o U' L ({ frames := 3, cells := 0, slots := 0, locals := 40 } : Room).cells ({ frames := 3, cells := 0, slots := 0, locals := 40 } : Room).slots) := by
  refine MetFree.of_bodySF (plainFor_of_name pn_18) hisR ?_
  intro p e s m args below meth c s₁ Bd hml0 hP hK
  obtain ⟨rfl, hZ, hh⟩ := hP
  have hx := Bd.exec
  have hby := Bd.bytes
  have hml : c.maxLocals = 2 := hml0
  have hown : s.vm.findClass "java/lang/StringUTF16" = some m.cls := findClass_of_methodNamed Bd.named
  have X0 : Stand p l e ({ frames := 3, cells := 0, slots := 0, locals := 40 } : Room) s m #[(.ref p0), (.int p1)] below meth c s₁ [] 0 0 := Stand.of_body Bd
  have e0 : s₁.heap = h0 := by rw [← hh, Bd.state]; rfl
  have N0 := Fr.nil n0
  have s0 : Steps p.tables e below (s₁.setTop (entryFrame m #[(.ref p0), (.int p1)] 2)) (s₁.setTop (mkF m 0 #[.val (.ref p0), .val (.int p1)] [])) := castTop (ef_rmuch m p0 p1) (Steps.refl _)
  obtain ⟨A₀, hA₀⟩ : ∃ z, z = (s₁.setTop (entryFrame m #[(.ref p0), (.int p1)] 2)) := ⟨_, rfl⟩
  rw [← hA₀] at s0
  obtain ⟨_, _, ⟨T1, L1, k1, n1⟩, -, X1, ⟨Lc1, hQ1, l1, y1, z1⟩, st1⟩ := Jvm.LawKit.callS X0 hx (y := (⟨"java/lang/StringUTF16", "checkIndex", "(I[B)V"⟩ : MethodName)) hown (mvT hZ (wq hw 112 rfl)) (mvT hZ (wq hw 113 rfl)) (mvT hZ (wq hw 21 rfl)) (mvT hZ (wq hw 114 rfl)) (by decide) (backOf (W := 0) (rmuk l Z a0 hw [] p1 p0 kb nn xs rg h0 n0 O0 F0_ F1_ F2_ h1 h2) hZ (wq hw 114 rfl) (wq hw 21 rfl) (by decide) (by decide)) (g := (mkF m 2 #[.val (.ref p0), .val (.int p1)] [(.ref p0), (.int p1)])) rfl (by rw [hml]; rfl) (argsL := [(.int p1), (.ref p0)]) (rest := []) (lenOf pd_rmuch_0 rfl) rfl (by exact Nat.le_refl _) (hb hby d22_2) (fun _ _ => ⟨rfl, e0, (by decide : 0 + 0 ≤ _), (by decide : 0 + 0 ≤ _)⟩)
  dsimp only [Pt.U, Pt.locs, Pt.cells, Pt.slots] at X1 l1 y1 z1 st1 hQ1
  subst l1 y1 z1
  obtain ⟨rfl, Nq1, e1⟩ := hQ1
  have N1 := Fr.app N0 Nq1
  obtain ⟨T2, L2, X2, e2, N2, st2⟩ := own_callP X1 hx hZ hown (wk91 hw) (wk92 hw) (wk21 hw) (wk93 hw) (by decide) (rmug l Z a0 hw [] p0 p1 kb nn xs h0 n0 O0 F0_ F3_ F4_ F5_ h3 h4) e1 N1 (W := 0) (by decide) (by decide) (by decide) (by decide) (g := (mkF m 7 #[.val (.ref p0), .val (.int p1)] [(.int p1), (.ref p0)])) rfl (by rw [hml]; rfl) (argsL := [(.ref p0), (.int p1)]) (rest := []) (lenOf pd_rmuch_1 rfl) rfl (by exact Nat.le_refl _) (hb hby d22_7)
  have s3 : Steps p.tables e below A₀ (T2.setTop (mkF m 10 #[.val (.ref p0), .val (.int p1)] [(.int (own_gc (own_at xs (p1 <<< ((1 : Int32) &&& 31))) (own_at xs ((p1 <<< ((1 : Int32) &&& 31)) + (1 : Int32)))))])) := by
    refine s0.trans ?_
    refine XS.iloadN X0.here hx rfl (hb hby d22_0) rfl ?_
    refine XS.aloadN X0.here hx rfl (hb hby d22_1) rfl rfl ?_
    refine st1 _ ?_
    refine XS.aloadN X1.here hx rfl (hb hby d22_5) rfl rfl ?_
    refine XS.iloadN X1.here hx rfl (hb hby d22_6) rfl ?_
    refine st2 _ ?_
    exact Steps.refl _
  subst hA₀
  obtain ⟨fs, hr, hrun, hended, hW, hsame⟩ := X2.leave (v := some (.int (nar .char (own_gc (own_at xs (p1 <<< ((1 : Int32) &&& 31))) (own_at xs ((p1 <<< ((1 : Int32) &&& 31)) + (1 : Int32))))))) (fun h => by rw [Bd.returns] at h; cases h)
  refine ⟨_, _, s3.trans ?_, hrun, hended, _, _, rfl, ?_, ⟨_, rfl⟩, hW, hsame.mono (by decide) (by decide)⟩
  · show Steps p.tables e below (T2.setTop (mkF m 10 #[.val (.ref p0), .val (.int p1)] [(.int (own_gc (own_at xs (p1 <<< ((1 : Int32) &&& 31))) (own_at xs ((p1 <<< ((1 : Int32) &&& 31)) + (1 : Int32)))))])) _
    exact retN X2 hx (t := .char) Bd.returns (by simp) (hb hby d22_10) hr
  · show Quch Z p0 p1 kb nn xs rg h0 n0 _ T2.heap _
    rw [e2]
    exact ⟨(nar .char (own_gc (own_at xs (p1 <<< ((1 : Int32) &&& 31))) (own_at xs ((p1 <<< ((1 : Int32) &&& 31)) + (1 : Int32))))), rfl, N2, rfl⟩
theorem d20_0 : decode jdk_42_method_56_code 0 = .ok (.aload_n 0, 1) := by decide +kernel
theorem d20_1 : decode jdk_42_method_56_code 1 = .ok (.invokevirtual 492, 3) := by decide +kernel
theorem d20_4 : decode jdk_42_method_56_code 4 = .ok (.ifCond .eq 12, 3) := by decide +kernel
theorem d20_7 : decode jdk_42_method_56_code 7 = .ok (.aload_n 0, 1) := by decide +kernel
theorem d20_8 : decode jdk_42_method_56_code 8 = .ok (.getfield 9, 3) := by decide +kernel
theorem d20_11 : decode jdk_42_method_56_code 11 = .ok (.iload_n 1, 1) := by decide +kernel
theorem d20_12 : decode jdk_42_method_56_code 12 = .ok (.invokestatic 495, 3) := by decide +kernel
theorem d20_15 : decode jdk_42_method_56_code 15 = .ok (.ireturn, 1) := by decide +kernel
theorem pd_rmcha0_0 : parseMethodDescriptor "()Z" = some ⟨[], some .boolean⟩ := by decide +kernel
theorem pd_rmcha0_1 : parseMethodDescriptor "([BI)C" = some ⟨[(.array .byte), .int], some .char⟩ := by decide +kernel
theorem ef_rmcha0 (m : MethodId) (p0 : Addr) (p1 : Int32) : entryFrame m #[(.ref p0), (.int p1)] 2 = mkF m 0 #[.val (.ref p0), .val (.int p1)] [] := by first | (simp [entryFrame, mkF, argsToLocals, Value.category]; done) | rfl
def Qcha0 (Z : State) (p0 : Addr) (p1 : Int32) (wc : Int32) (b : Addr) (kb : ClassId) (nn : Int32) (xs : List Int32) (rg : Value) (h0 : Heap) (n0 : Nat) (v : Option Value) (h : Heap) (L : List Loc) : Prop := ∃ r : Int32, v = some (.int r) ∧ Fr n0 L ∧ h = h0
set_option maxRecDepth 65536 in
set_option maxHeartbeats 40000000 in
theorem rmcha0 (l : Launch) (Z : State) (a0 : Array Value) (hw : ∀ d ∈ tables_1, d.before a0 Z = true) (ws : List Jvm.Cond) (p0 : Addr) (p1 : Int32) (wc : Int32) (b : Addr) (kb : ClassId) (nn : Int32) (xs : List Int32) (rg : Value) (h0 : Heap) (n0 : Nat) (O0 : Old Z n0 h0) (F0_ : Exa Z h0 p0 "java/lang/String") (F1_ : Fld Z h0 p0 "java/lang/String" "value" "[B" (.ref b)) (F2_ : Fld Z h0 p0 "java/lang/String" "coder" "B" (.int 0)) (F3_ : Arv Z h0 b kb .byte nn (xs.map Value.int) (.int 0)) (F4_ : Sta Z Z.heap "java/lang/String" "COMPACT_STRINGS" "Z" (.int wc)) (F5_ : Sta Z Z.heap "jdk/internal/util/Preconditions" "SIOOBE_FORMATTER" "Ljava/util/function/BiFunction;" rg) (F6_ : rg.isRef = true) (F7_ : Sta Z Z.heap "java/lang/StringUTF16" "$assertionsDisabled" "Z" (.int 1)) (F8_ : Sta Z Z.heap "java/lang/StringUTF16" "HI_BYTE_SHIFT" "I" (.int 0)) (F9_ : Sta Z Z.heap "java/lang/StringUTF16" "LO_BYTE_SHIFT" "I" (.int 8)) (hcs : ¬ (wc = (0 : Int32))) (h1 : ¬ p1 < (0 : Int32)) (h2 : p1 < nn) :
    MetFree l nm19 (head1 (Jvm.Cond.code nm19 jdk_42_method_56_code 2 (some .char) :: ws) ({ frames := 3, cells := 0, slots := 0, locals := 40 } : Room)) (fun a U => a = #[(.ref p0), (.int p1)] ∧ Z.Warmed39 U.vm ∧ U.heap = h0) (fun _ _ _ _ _ => True) (fun _ U o U' => ∃ v L, o = .returned v ∧ Qcha0 Z p0 p1 wc b kb nn xs rg h0 n0 v U'.heap L ∧ FrameEnd U o U' L ({ frames := 3, cells := 0, slots := 0, locals := 40 } : Room).cells ({ frames := 3, cells := 0, slots := 0, locals := 40 } : Room).slots) := by
  refine MetFree.of_bodySF (plainFor_of_name pn_3) hisR ?_
  intro p e s m args below meth c s₁ Bd hml0 hP hK
  obtain ⟨rfl, hZ, hh⟩ := hP
  have hx := Bd.exec
  have hby := Bd.bytes
  have hml : c.maxLocals = 2 := hml0
  have hown : s.vm.findClass "java/lang/String" = some m.cls := findClass_of_methodNamed Bd.named
  have X0 : Stand p l e ({ frames := 3, cells := 0, slots := 0, locals := 40 } : Room) s m #[(.ref p0), (.int p1)] below meth c s₁ [] 0 0 := Stand.of_body Bd
  have e0 : s₁.heap = h0 := by rw [← hh, Bd.state]; rfl
  have N0 := Fr.nil n0
  have s0 : Steps p.tables e below (s₁.setTop (entryFrame m #[(.ref p0), (.int p1)] 2)) (s₁.setTop (mkF m 0 #[.val (.ref p0), .val (.int p1)] [])) := castTop (ef_rmcha0 m p0 p1) (Steps.refl _)
  obtain ⟨A₀, hA₀⟩ : ∃ z, z = (s₁.setTop (entryFrame m #[(.ref p0), (.int p1)] 2)) := ⟨_, rfl⟩
  rw [← hA₀] at s0
  obtain ⟨T1, L1, X1, e1, N1, st1⟩ := own_callVP X0 hx hZ hown (wk104 hw) (wk105 hw) (wk107 hw) (wk106 hw) (by decide) (wk6 hw) (wk108 hw) (rmisl0 l Z a0 hw [] p0 wc h0 n0 O0 F2_ F4_ hcs) e0 N0 (W := 0) (by decide) (by decide) (by decide) (by decide) F0_ (g := (mkF m 1 #[.val (.ref p0), .val (.int p1)] [(.ref p0)])) rfl (by rw [hml]; rfl) (argsL := []) (rest := []) (lenOf pd_rmcha0_0 rfl) rfl (by exact Nat.le_refl _) (hb hby d20_1)
  obtain ⟨T2, X2, e2, st2⟩ := getF X1 hx hZ hown (host := "") (Or.inl (wq hw 32 rfl)) Via.refl e1 F1_ (g := (mkF m 8 #[.val (.ref p0), .val (.int p1)] [(.ref p0)])) rfl rfl (hb hby d20_8)
  obtain ⟨_, _, ⟨T3, L3, k3, n3⟩, -, X3, ⟨Lc3, hQ3, l3, y3, z3⟩, st3⟩ := Jvm.LawKit.callS X2 hx (y := (⟨"java/lang/StringLatin1", "charAt", "([BI)C"⟩ : MethodName)) hown (mvT hZ (wq hw 126 rfl)) (mvT hZ (wq hw 127 rfl)) (mvT hZ (wq hw 128 rfl)) (mvT hZ (wq hw 129 rfl)) (by decide) (backOf (W := 0) (rmlch l Z a0 hw [] b p1 kb nn xs rg h0 n0 O0 F3_ F5_ F6_ h1 h2) hZ (wq hw 129 rfl) (wq hw 128 rfl) (by decide) (by decide)) (g := (mkF m 12 #[.val (.ref p0), .val (.int p1)] [(.int p1), (.ref b)])) rfl (by rw [hml]; rfl) (argsL := [(.ref b), (.int p1)]) (rest := []) (lenOf pd_rmcha0_1 rfl) rfl (by exact Nat.le_refl _) (hb hby d20_12) (fun _ _ => ⟨rfl, e2, (by decide : 0 + 0 ≤ _), (by decide : 0 + 0 ≤ _)⟩)
  dsimp only [Pt.U, Pt.locs, Pt.cells, Pt.slots] at X3 l3 y3 z3 st3 hQ3
  subst l3 y3 z3
  obtain ⟨u4, rfl, Nq3, e3⟩ := hQ3
  have N3 := Fr.app N1 Nq3
  have s5 : Steps p.tables e below A₀ (T3.setTop (mkF m 15 #[.val (.ref p0), .val (.int p1)] [(.int u4)])) := by
    refine s0.trans ?_
    refine XS.aloadN X0.here hx rfl (hb hby d20_0) rfl rfl ?_
    refine st1 _ ?_
    refine XS.ifNo X1.here hx rfl (hb hby d20_4) rfl ((if0 _ _).trans (feq (by decide)).1) ?_
    refine XS.aloadN X1.here hx rfl (hb hby d20_7) rfl rfl ?_
    refine st2 _ ?_
    refine XS.iloadN X2.here hx rfl (hb hby d20_11) rfl ?_
    refine st3 _ ?_
    exact Steps.refl _
  subst hA₀
  obtain ⟨fs, hr, hrun, hended, hW, hsame⟩ := X3.leave (v := some (.int (nar .char u4))) (fun h => by rw [Bd.returns] at h; cases h)
  refine ⟨_, _, s5.trans ?_, hrun, hended, _, _, rfl, ?_, ⟨_, rfl⟩, hW, hsame.mono (by decide) (by decide)⟩
  · show Steps p.tables e below (T3.setTop (mkF m 15 #[.val (.ref p0), .val (.int p1)] [(.int u4)])) _
    exact retN X3 hx (t := .char) Bd.returns (by simp) (hb hby d20_15) hr
  · show Qcha0 Z p0 p1 wc b kb nn xs rg h0 n0 _ T3.heap _
    rw [e3]
    exact ⟨(nar .char u4), rfl, N3, rfl⟩
theorem d20_16 : decode jdk_42_method_56_code 16 = .ok (.aload_n 0, 1) := by decide +kernel
theorem d20_17 : decode jdk_42_method_56_code 17 = .ok (.getfield 9, 3) := by decide +kernel
theorem d20_20 : decode jdk_42_method_56_code 20 = .ok (.iload_n 1, 1) := by decide +kernel
theorem d20_21 : decode jdk_42_method_56_code 21 = .ok (.invokestatic 498, 3) := by decide +kernel
theorem d20_24 : decode jdk_42_method_56_code 24 = .ok (.ireturn, 1) := by decide +kernel
theorem pd_rmcha1_0 : parseMethodDescriptor "()Z" = some ⟨[], some .boolean⟩ := by decide +kernel
theorem pd_rmcha1_1 : parseMethodDescriptor "([BI)C" = some ⟨[(.array .byte), .int], some .char⟩ := by decide +kernel
theorem ef_rmcha1 (m : MethodId) (p0 : Addr) (p1 : Int32) : entryFrame m #[(.ref p0), (.int p1)] 2 = mkF m 0 #[.val (.ref p0), .val (.int p1)] [] := by first | (simp [entryFrame, mkF, argsToLocals, Value.category]; done) | rfl
def Qcha1 (Z : State) (p0 : Addr) (p1 : Int32) (wc : Int32) (b : Addr) (kb : ClassId) (nn : Int32) (xs : List Int32) (rg : Value) (h0 : Heap) (n0 : Nat) (v : Option Value) (h : Heap) (L : List Loc) : Prop := ∃ r : Int32, v = some (.int r) ∧ Fr n0 L ∧ h = h0
set_option maxRecDepth 65536 in
set_option maxHeartbeats 40000000 in
theorem rmcha1 (l : Launch) (Z : State) (a0 : Array Value) (hw : ∀ d ∈ tables_1, d.before a0 Z = true) (ws : List Jvm.Cond) (p0 : Addr) (p1 : Int32) (wc : Int32) (b : Addr) (kb : ClassId) (nn : Int32) (xs : List Int32) (rg : Value) (h0 : Heap) (n0 : Nat) (O0 : Old Z n0 h0) (F0_ : Exa Z h0 p0 "java/lang/String") (F1_ : Fld Z h0 p0 "java/lang/String" "value" "[B" (.ref b)) (F2_ : Fld Z h0 p0 "java/lang/String" "coder" "B" (.int 1)) (F3_ : Arv Z h0 b kb .byte nn (xs.map Value.int) (.int 0)) (F4_ : Sta Z Z.heap "java/lang/String" "COMPACT_STRINGS" "Z" (.int wc)) (F5_ : Sta Z Z.heap "jdk/internal/util/Preconditions" "SIOOBE_FORMATTER" "Ljava/util/function/BiFunction;" rg) (F6_ : rg.isRef = true) (F7_ : Sta Z Z.heap "java/lang/StringUTF16" "$assertionsDisabled" "Z" (.int 1)) (F8_ : Sta Z Z.heap "java/lang/StringUTF16" "HI_BYTE_SHIFT" "I" (.int 0)) (F9_ : Sta Z Z.heap "java/lang/StringUTF16" "LO_BYTE_SHIFT" "I" (.int 8)) (hcs : ¬ (wc = (0 : Int32))) (h1 : ¬ p1 < (0 : Int32)) (h2 : p1 < (nn >>> ((1 : Int32) &&& 31))) (h3 : ¬ (p1 <<< ((1 : Int32) &&& 31)) < (0 : Int32) ∧ (p1 <<< ((1 : Int32) &&& 31)) < nn) (h4 : ¬ ((p1 <<< ((1 : Int32) &&& 31)) + (1 : Int32)) < (0 : Int32) ∧ ((p1 <<< ((1 : Int32) &&& 31)) + (1 : Int32)) < nn) :
    MetFree l nm19 (head1 (Jvm.Cond.code nm19 jdk_42_method_56_code 2 (some .char) :: ws) ({ frames := 4, cells := 0, slots := 0, locals := 53 } : Room)) (fun a U => a = #[(.ref p0), (.int p1)] ∧ Z.Warmed39 U.vm ∧ U.heap = h0) (fun _ _ _ _ _ => True) (fun _ U o U' => ∃ v L, o = .returned v ∧ Qcha1 Z p0 p1 wc b kb nn xs rg h0 n0 v U'.heap L ∧ FrameEnd U o U' L ({ frames := 4, cells := 0, slots := 0, locals := 53 } : Room).cells ({ frames := 4, cells := 0, slots := 0, locals := 53 } : Room).slots) := by
  refine MetFree.of_bodySF (plainFor_of_name pn_3) hisR ?_
  intro p e s m args below meth c s₁ Bd hml0 hP hK
  obtain ⟨rfl, hZ, hh⟩ := hP
  have hx := Bd.exec
  have hby := Bd.bytes
  have hml : c.maxLocals = 2 := hml0
  have hown : s.vm.findClass "java/lang/String" = some m.cls := findClass_of_methodNamed Bd.named
  have X0 : Stand p l e ({ frames := 4, cells := 0, slots := 0, locals := 53 } : Room) s m #[(.ref p0), (.int p1)] below meth c s₁ [] 0 0 := Stand.of_body Bd
  have e0 : s₁.heap = h0 := by rw [← hh, Bd.state]; rfl
  have N0 := Fr.nil n0
  have s0 : Steps p.tables e below (s₁.setTop (entryFrame m #[(.ref p0), (.int p1)] 2)) (s₁.setTop (mkF m 0 #[.val (.ref p0), .val (.int p1)] [])) := castTop (ef_rmcha1 m p0 p1) (Steps.refl _)
  obtain ⟨A₀, hA₀⟩ : ∃ z, z = (s₁.setTop (entryFrame m #[(.ref p0), (.int p1)] 2)) := ⟨_, rfl⟩
  rw [← hA₀] at s0
  obtain ⟨T1, L1, X1, e1, N1, st1⟩ := own_callVP X0 hx hZ hown (wk104 hw) (wk105 hw) (wk107 hw) (wk106 hw) (by decide) (wk6 hw) (wk108 hw) (rmisl1 l Z a0 hw [] p0 wc h0 n0 O0 F2_ F4_ hcs) e0 N0 (W := 0) (by decide) (by decide) (by decide) (by decide) F0_ (g := (mkF m 1 #[.val (.ref p0), .val (.int p1)] [(.ref p0)])) rfl (by rw [hml]; rfl) (argsL := []) (rest := []) (lenOf pd_rmcha1_0 rfl) rfl (by exact Nat.le_refl _) (hb hby d20_1)
  obtain ⟨T2, X2, e2, st2⟩ := getF X1 hx hZ hown (host := "") (Or.inl (wq hw 32 rfl)) Via.refl e1 F1_ (g := (mkF m 17 #[.val (.ref p0), .val (.int p1)] [(.ref p0)])) rfl rfl (hb hby d20_17)
  obtain ⟨_, _, ⟨T3, L3, k3, n3⟩, -, X3, ⟨Lc3, hQ3, l3, y3, z3⟩, st3⟩ := Jvm.LawKit.callS X2 hx (y := (⟨"java/lang/StringUTF16", "charAt", "([BI)C"⟩ : MethodName)) hown (mvT hZ (wq hw 109 rfl)) (mvT hZ (wq hw 110 rfl)) (mvT hZ (wq hw 21 rfl)) (mvT hZ (wq hw 111 rfl)) (by decide) (backOf (W := 0) (rmuch l Z a0 hw [] b p1 kb nn xs rg h0 n0 O0 F3_ F5_ F6_ F7_ F8_ F9_ h1 h2 h3 h4) hZ (wq hw 111 rfl) (wq hw 21 rfl) (by decide) (by decide)) (g := (mkF m 21 #[.val (.ref p0), .val (.int p1)] [(.int p1), (.ref b)])) rfl (by rw [hml]; rfl) (argsL := [(.ref b), (.int p1)]) (rest := []) (lenOf pd_rmcha1_1 rfl) rfl (by exact Nat.le_refl _) (hb hby d20_21) (fun _ _ => ⟨rfl, e2, (by decide : 0 + 0 ≤ _), (by decide : 0 + 0 ≤ _)⟩)
  dsimp only [Pt.U, Pt.locs, Pt.cells, Pt.slots] at X3 l3 y3 z3 st3 hQ3
  subst l3 y3 z3
  obtain ⟨u4, rfl, Nq3, e3⟩ := hQ3
  have N3 := Fr.app N1 Nq3
  have s5 : Steps p.tables e below A₀ (T3.setTop (mkF m 24 #[.val (.ref p0), .val (.int p1)] [(.int u4)])) := by
    refine s0.trans ?_
    refine XS.aloadN X0.here hx rfl (hb hby d20_0) rfl rfl ?_
    refine st1 _ ?_
    refine XS.ifYes X1.here hx rfl (pc0 := 4) (pc' := 16) rfl (hb hby d20_4) rfl ((if0 _ _).trans (teq (by decide)).1) (by decide) (by decide) ?_
    refine XS.aloadN X1.here hx rfl (hb hby d20_16) rfl rfl ?_
    refine st2 _ ?_
    refine XS.iloadN X2.here hx rfl (hb hby d20_20) rfl ?_
    refine st3 _ ?_
    exact Steps.refl _
  subst hA₀
  obtain ⟨fs, hr, hrun, hended, hW, hsame⟩ := X3.leave (v := some (.int (nar .char u4))) (fun h => by rw [Bd.returns] at h; cases h)
  refine ⟨_, _, s5.trans ?_, hrun, hended, _, _, rfl, ?_, ⟨_, rfl⟩, hW, hsame.mono (by decide) (by decide)⟩
  · show Steps p.tables e below (T3.setTop (mkF m 24 #[.val (.ref p0), .val (.int p1)] [(.int u4)])) _
    exact retN X3 hx (t := .char) Bd.returns (by simp) (hb hby d20_24) hr
  · show Qcha1 Z p0 p1 wc b kb nn xs rg h0 n0 _ T3.heap _
    rw [e3]
    exact ⟨(nar .char u4), rfl, N3, rfl⟩
theorem d10_0 : decode jdk_42_method_54_code 0 = .ok (.aload_n 0, 1) := by decide +kernel
theorem d10_1 : decode jdk_42_method_54_code 1 = .ok (.getfield 9, 3) := by decide +kernel
theorem d10_4 : decode jdk_42_method_54_code 4 = .ok (.arraylength, 1) := by decide +kernel
theorem d10_5 : decode jdk_42_method_54_code 5 = .ok (.aload_n 0, 1) := by decide +kernel
theorem d10_6 : decode jdk_42_method_54_code 6 = .ok (.invokevirtual 335, 3) := by decide +kernel
theorem d10_9 : decode jdk_42_method_54_code 9 = .ok (.ishr, 1) := by decide +kernel
theorem d10_10 : decode jdk_42_method_54_code 10 = .ok (.ireturn, 1) := by decide +kernel
theorem pd_rmll0_0_0 : parseMethodDescriptor "()B" = some ⟨[], some .byte⟩ := by decide +kernel
theorem ef_rmll0_0 (m : MethodId) (p0 : Addr) : entryFrame m #[(.ref p0)] 1 = mkF m 0 #[.val (.ref p0)] [] := by first | (simp [entryFrame, mkF, argsToLocals, Value.category]; done) | rfl
def Qll0_0 (Z : State) (p0 : Addr) (wc : Int32) (b : Addr) (kb : ClassId) (xs : List Int32) (h0 : Heap) (n0 : Nat) (v : Option Value) (h : Heap) (L : List Loc) : Prop := v = some (.int 0) ∧ Fr n0 L ∧ h = h0
set_option maxRecDepth 65536 in
set_option maxHeartbeats 40000000 in
theorem rmll0_0 (l : Launch) (Z : State) (a0 : Array Value) (hw : ∀ d ∈ tables_1, d.before a0 Z = true) (ws : List Jvm.Cond) (p0 : Addr) (wc : Int32) (b : Addr) (kb : ClassId) (xs : List Int32) (h0 : Heap) (n0 : Nat) (O0 : Old Z n0 h0) (F0_ : Exa Z h0 p0 "java/lang/String") (F1_ : Fld Z h0 p0 "java/lang/String" "value" "[B" (.ref b)) (F2_ : Fld Z h0 p0 "java/lang/String" "coder" "B" (.int 0)) (F3_ : Arv Z h0 b kb .byte 0 (xs.map Value.int) (.int 0)) (F4_ : Sta Z Z.heap "java/lang/String" "COMPACT_STRINGS" "Z" (.int wc)) (hcs : ¬ (wc = (0 : Int32))) :
    MetFree l nm20 (head1 (Jvm.Cond.code nm20 jdk_42_method_54_code 1 (some .int) :: ws) ({ frames := 1, cells := 0, slots := 0, locals := 13 } : Room)) (fun a U => a = #[(.ref p0)] ∧ Z.Warmed39 U.vm ∧ U.heap = h0) (fun _ _ _ _ _ => True) (fun _ U o U' => ∃ v L, o = .returned v ∧ Qll0_0 Z p0 wc b kb xs h0 n0 v U'.heap L ∧ FrameEnd U o U' L ({ frames := 1, cells := 0, slots := 0, locals := 13 } : Room).cells ({ frames := 1, cells := 0, slots := 0, locals := 13 } : Room).slots) := by
  refine MetFree.of_bodySF (plainFor_of_name pn_3) hisR ?_
  intro p e s m args below meth c s₁ Bd hml0 hP hK
  obtain ⟨rfl, hZ, hh⟩ := hP
  have hx := Bd.exec
  have hby := Bd.bytes
  have hml : c.maxLocals = 1 := hml0
  have hown : s.vm.findClass "java/lang/String" = some m.cls := findClass_of_methodNamed Bd.named
  have X0 : Stand p l e ({ frames := 1, cells := 0, slots := 0, locals := 13 } : Room) s m #[(.ref p0)] below meth c s₁ [] 0 0 := Stand.of_body Bd
  have e0 : s₁.heap = h0 := by rw [← hh, Bd.state]; rfl
  have N0 := Fr.nil n0
  have s0 : Steps p.tables e below (s₁.setTop (entryFrame m #[(.ref p0)] 1)) (s₁.setTop (mkF m 0 #[.val (.ref p0)] [])) := castTop (ef_rmll0_0 m p0) (Steps.refl _)
  obtain ⟨A₀, hA₀⟩ : ∃ z, z = (s₁.setTop (entryFrame m #[(.ref p0)] 1)) := ⟨_, rfl⟩
  rw [← hA₀] at s0
  obtain ⟨T1, X1, e1, st1⟩ := getF X0 hx hZ hown (host := "") (Or.inl (wq hw 32 rfl)) Via.refl e0 F1_ (g := (mkF m 1 #[.val (.ref p0)] [(.ref p0)])) rfl rfl (hb hby d10_1)
  obtain ⟨cla2, Ara2, qa2, Sa2, Za2, Ha2, Ga2⟩ := id F3_
  obtain ⟨T3, L3, X3, e3, N3, st3⟩ := own_callVP X1 hx hZ hown (wk60 hw) (wk61 hw) (wk63 hw) (wk62 hw) (by decide) (wk6 hw) (wk64 hw) (rmcod0 l Z a0 hw [] p0 wc h0 n0 O0 F2_ F4_ hcs) e1 N0 (W := 1) (by decide) (by decide) (by decide) (by decide) F0_ (g := (mkF m 6 #[.val (.ref p0)] [(.ref p0), (.int 0)])) rfl (by rw [hml]; rfl) (argsL := []) (rest := [(.int 0)]) (lenOf pd_rmll0_0_0 rfl) rfl (by exact Nat.le_refl _) (hb hby d10_6)
  have s4 : Steps p.tables e below A₀ (T3.setTop (mkF m 10 #[.val (.ref p0)] [(.int 0)])) := by
    refine s0.trans ?_
    refine XS.aloadN X0.here hx rfl (hb hby d10_0) rfl rfl ?_
    refine st1 _ ?_
    refine X1.arraylength hx (by rw [e1]; exact Ara2.1) (State.isArrayOf_alike hZ.alike Ara2.2.1) (g := (mkF m 4 #[.val (.ref p0)] [(.ref b)])) rfl rfl (hb hby d10_4) _ ?_
    rw [len_of Sa2 Za2]
    show Steps p.tables e below (T1.setTop (mkF m 5 #[.val (.ref p0)] [(.int 0)])) _
    refine XS.aloadN X1.here hx rfl (hb hby d10_5) rfl rfl ?_
    refine st3 _ ?_
    refine XS.ishr X3.here hx rfl (hb hby d10_9) rfl ?_
    exact Steps.refl _
  subst hA₀
  obtain ⟨fs, hr, hrun, hended, hW, hsame⟩ := X3.leave (v := some (.int 0)) (fun h => by rw [Bd.returns] at h; cases h)
  refine ⟨_, _, s4.trans ?_, hrun, hended, _, _, rfl, ?_, ⟨_, rfl⟩, hW, hsame.mono (by decide) (by decide)⟩
  · show Steps p.tables e below (T3.setTop (mkF m 10 #[.val (.ref p0)] [(.int 0)])) _
    exact retI X3 hx Bd.returns (hb hby d10_10) hr
  · show Qll0_0 Z p0 wc b kb xs h0 n0 _ T3.heap _
    rw [e3]
    exact ⟨rfl, N3, rfl⟩
theorem pd_rmll1_0_0 : parseMethodDescriptor "()B" = some ⟨[], some .byte⟩ := by decide +kernel
theorem ef_rmll1_0 (m : MethodId) (p0 : Addr) : entryFrame m #[(.ref p0)] 1 = mkF m 0 #[.val (.ref p0)] [] := by first | (simp [entryFrame, mkF, argsToLocals, Value.category]; done) | rfl
def Qll1_0 (Z : State) (p0 : Addr) (wc : Int32) (b : Addr) (kb : ClassId) (xs : List Int32) (h0 : Heap) (n0 : Nat) (v : Option Value) (h : Heap) (L : List Loc) : Prop := v = some (.int 1) ∧ Fr n0 L ∧ h = h0
set_option maxRecDepth 65536 in
set_option maxHeartbeats 40000000 in
theorem rmll1_0 (l : Launch) (Z : State) (a0 : Array Value) (hw : ∀ d ∈ tables_1, d.before a0 Z = true) (ws : List Jvm.Cond) (p0 : Addr) (wc : Int32) (b : Addr) (kb : ClassId) (xs : List Int32) (h0 : Heap) (n0 : Nat) (O0 : Old Z n0 h0) (F0_ : Exa Z h0 p0 "java/lang/String") (F1_ : Fld Z h0 p0 "java/lang/String" "value" "[B" (.ref b)) (F2_ : Fld Z h0 p0 "java/lang/String" "coder" "B" (.int 0)) (F3_ : Arv Z h0 b kb .byte 1 (xs.map Value.int) (.int 0)) (F4_ : Sta Z Z.heap "java/lang/String" "COMPACT_STRINGS" "Z" (.int wc)) (hcs : ¬ (wc = (0 : Int32))) :
    MetFree l nm20 (head1 (Jvm.Cond.code nm20 jdk_42_method_54_code 1 (some .int) :: ws) ({ frames := 1, cells := 0, slots := 0, locals := 13 } : Room)) (fun a U => a = #[(.ref p0)] ∧ Z.Warmed39 U.vm ∧ U.heap = h0) (fun _ _ _ _ _ => True) (fun _ U o U' => ∃ v L, o = .returned v ∧ Qll1_0 Z p0 wc b kb xs h0 n0 v U'.heap L ∧ FrameEnd U o U' L ({ frames := 1, cells := 0, slots := 0, locals := 13 } : Room).cells ({ frames := 1, cells := 0, slots := 0, locals := 13 } : Room).slots) := by
  refine MetFree.of_bodySF (plainFor_of_name pn_3) hisR ?_
  intro p e s m args below meth c s₁ Bd hml0 hP hK
  obtain ⟨rfl, hZ, hh⟩ := hP
  have hx := Bd.exec
  have hby := Bd.bytes
  have hml : c.maxLocals = 1 := hml0
  have hown : s.vm.findClass "java/lang/String" = some m.cls := findClass_of_methodNamed Bd.named
  have X0 : Stand p l e ({ frames := 1, cells := 0, slots := 0, locals := 13 } : Room) s m #[(.ref p0)] below meth c s₁ [] 0 0 := Stand.of_body Bd
  have e0 : s₁.heap = h0 := by rw [← hh, Bd.state]; rfl
  have N0 := Fr.nil n0
  have s0 : Steps p.tables e below (s₁.setTop (entryFrame m #[(.ref p0)] 1)) (s₁.setTop (mkF m 0 #[.val (.ref p0)] [])) := castTop (ef_rmll1_0 m p0) (Steps.refl _)
  obtain ⟨A₀, hA₀⟩ : ∃ z, z = (s₁.setTop (entryFrame m #[(.ref p0)] 1)) := ⟨_, rfl⟩
  rw [← hA₀] at s0
  obtain ⟨T1, X1, e1, st1⟩ := getF X0 hx hZ hown (host := "") (Or.inl (wq hw 32 rfl)) Via.refl e0 F1_ (g := (mkF m 1 #[.val (.ref p0)] [(.ref p0)])) rfl rfl (hb hby d10_1)
  obtain ⟨cla2, Ara2, qa2, Sa2, Za2, Ha2, Ga2⟩ := id F3_
  obtain ⟨T3, L3, X3, e3, N3, st3⟩ := own_callVP X1 hx hZ hown (wk60 hw) (wk61 hw) (wk63 hw) (wk62 hw) (by decide) (wk6 hw) (wk64 hw) (rmcod0 l Z a0 hw [] p0 wc h0 n0 O0 F2_ F4_ hcs) e1 N0 (W := 1) (by decide) (by decide) (by decide) (by decide) F0_ (g := (mkF m 6 #[.val (.ref p0)] [(.ref p0), (.int 1)])) rfl (by rw [hml]; rfl) (argsL := []) (rest := [(.int 1)]) (lenOf pd_rmll1_0_0 rfl) rfl (by exact Nat.le_refl _) (hb hby d10_6)
  have s4 : Steps p.tables e below A₀ (T3.setTop (mkF m 10 #[.val (.ref p0)] [(.int 1)])) := by
    refine s0.trans ?_
    refine XS.aloadN X0.here hx rfl (hb hby d10_0) rfl rfl ?_
    refine st1 _ ?_
    refine X1.arraylength hx (by rw [e1]; exact Ara2.1) (State.isArrayOf_alike hZ.alike Ara2.2.1) (g := (mkF m 4 #[.val (.ref p0)] [(.ref b)])) rfl rfl (hb hby d10_4) _ ?_
    rw [len_of Sa2 Za2]
    show Steps p.tables e below (T1.setTop (mkF m 5 #[.val (.ref p0)] [(.int 1)])) _
    refine XS.aloadN X1.here hx rfl (hb hby d10_5) rfl rfl ?_
    refine st3 _ ?_
    refine XS.ishr X3.here hx rfl (hb hby d10_9) rfl ?_
    exact Steps.refl _
  subst hA₀
  obtain ⟨fs, hr, hrun, hended, hW, hsame⟩ := X3.leave (v := some (.int 1)) (fun h => by rw [Bd.returns] at h; cases h)
  refine ⟨_, _, s4.trans ?_, hrun, hended, _, _, rfl, ?_, ⟨_, rfl⟩, hW, hsame.mono (by decide) (by decide)⟩
  · show Steps p.tables e below (T3.setTop (mkF m 10 #[.val (.ref p0)] [(.int 1)])) _
    exact retI X3 hx Bd.returns (hb hby d10_10) hr
  · show Qll1_0 Z p0 wc b kb xs h0 n0 _ T3.heap _
    rw [e3]
    exact ⟨rfl, N3, rfl⟩
theorem pd_rmll1_1_0 : parseMethodDescriptor "()B" = some ⟨[], some .byte⟩ := by decide +kernel
theorem ef_rmll1_1 (m : MethodId) (p0 : Addr) : entryFrame m #[(.ref p0)] 1 = mkF m 0 #[.val (.ref p0)] [] := by first | (simp [entryFrame, mkF, argsToLocals, Value.category]; done) | rfl
def Qll1_1 (Z : State) (p0 : Addr) (wc : Int32) (b : Addr) (kb : ClassId) (xs : List Int32) (h0 : Heap) (n0 : Nat) (v : Option Value) (h : Heap) (L : List Loc) : Prop := v = some (.int 1) ∧ Fr n0 L ∧ h = h0
set_option maxRecDepth 65536 in
set_option maxHeartbeats 40000000 in
theorem rmll1_1 (l : Launch) (Z : State) (a0 : Array Value) (hw : ∀ d ∈ tables_1, d.before a0 Z = true) (ws : List Jvm.Cond) (p0 : Addr) (wc : Int32) (b : Addr) (kb : ClassId) (xs : List Int32) (h0 : Heap) (n0 : Nat) (O0 : Old Z n0 h0) (F0_ : Exa Z h0 p0 "java/lang/String") (F1_ : Fld Z h0 p0 "java/lang/String" "value" "[B" (.ref b)) (F2_ : Fld Z h0 p0 "java/lang/String" "coder" "B" (.int 1)) (F3_ : Arv Z h0 b kb .byte 2 (xs.map Value.int) (.int 0)) (F4_ : Sta Z Z.heap "java/lang/String" "COMPACT_STRINGS" "Z" (.int wc)) (hcs : ¬ (wc = (0 : Int32))) :
    MetFree l nm20 (head1 (Jvm.Cond.code nm20 jdk_42_method_54_code 1 (some .int) :: ws) ({ frames := 1, cells := 0, slots := 0, locals := 13 } : Room)) (fun a U => a = #[(.ref p0)] ∧ Z.Warmed39 U.vm ∧ U.heap = h0) (fun _ _ _ _ _ => True) (fun _ U o U' => ∃ v L, o = .returned v ∧ Qll1_1 Z p0 wc b kb xs h0 n0 v U'.heap L ∧ FrameEnd U o U' L ({ frames := 1, cells := 0, slots := 0, locals := 13 } : Room).cells ({ frames := 1, cells := 0, slots := 0, locals := 13 } : Room).slots) := by
  refine MetFree.of_bodySF (plainFor_of_name pn_3) hisR ?_
  intro p e s m args below meth c s₁ Bd hml0 hP hK
  obtain ⟨rfl, hZ, hh⟩ := hP
  have hx := Bd.exec
  have hby := Bd.bytes
  have hml : c.maxLocals = 1 := hml0
  have hown : s.vm.findClass "java/lang/String" = some m.cls := findClass_of_methodNamed Bd.named
  have X0 : Stand p l e ({ frames := 1, cells := 0, slots := 0, locals := 13 } : Room) s m #[(.ref p0)] below meth c s₁ [] 0 0 := Stand.of_body Bd
  have e0 : s₁.heap = h0 := by rw [← hh, Bd.state]; rfl
  have N0 := Fr.nil n0
  have s0 : Steps p.tables e below (s₁.setTop (entryFrame m #[(.ref p0)] 1)) (s₁.setTop (mkF m 0 #[.val (.ref p0)] [])) := castTop (ef_rmll1_1 m p0) (Steps.refl _)
  obtain ⟨A₀, hA₀⟩ : ∃ z, z = (s₁.setTop (entryFrame m #[(.ref p0)] 1)) := ⟨_, rfl⟩
  rw [← hA₀] at s0
  obtain ⟨T1, X1, e1, st1⟩ := getF X0 hx hZ hown (host := "") (Or.inl (wq hw 32 rfl)) Via.refl e0 F1_ (g := (mkF m 1 #[.val (.ref p0)] [(.ref p0)])) rfl rfl (hb hby d10_1)
  obtain ⟨cla2, Ara2, qa2, Sa2, Za2, Ha2, Ga2⟩ := id F3_
  obtain ⟨T3, L3, X3, e3, N3, st3⟩ := own_callVP X1 hx hZ hown (wk60 hw) (wk61 hw) (wk63 hw) (wk62 hw) (by decide) (wk6 hw) (wk64 hw) (rmcod1 l Z a0 hw [] p0 wc h0 n0 O0 F2_ F4_ hcs) e1 N0 (W := 1) (by decide) (by decide) (by decide) (by decide) F0_ (g := (mkF m 6 #[.val (.ref p0)] [(.ref p0), (.int 2)])) rfl (by rw [hml]; rfl) (argsL := []) (rest := [(.int 2)]) (lenOf pd_rmll1_1_0 rfl) rfl (by exact Nat.le_refl _) (hb hby d10_6)
  have s4 : Steps p.tables e below A₀ (T3.setTop (mkF m 10 #[.val (.ref p0)] [(.int 1)])) := by
    refine s0.trans ?_
    refine XS.aloadN X0.here hx rfl (hb hby d10_0) rfl rfl ?_
    refine st1 _ ?_
    refine X1.arraylength hx (by rw [e1]; exact Ara2.1) (State.isArrayOf_alike hZ.alike Ara2.2.1) (g := (mkF m 4 #[.val (.ref p0)] [(.ref b)])) rfl rfl (hb hby d10_4) _ ?_
    rw [len_of Sa2 Za2]
    show Steps p.tables e below (T1.setTop (mkF m 5 #[.val (.ref p0)] [(.int 2)])) _
    refine XS.aloadN X1.here hx rfl (hb hby d10_5) rfl rfl ?_
    refine st3 _ ?_
    refine XS.ishr X3.here hx rfl (hb hby d10_9) rfl ?_
    exact Steps.refl _
  subst hA₀
  obtain ⟨fs, hr, hrun, hended, hW, hsame⟩ := X3.leave (v := some (.int 1)) (fun h => by rw [Bd.returns] at h; cases h)
  refine ⟨_, _, s4.trans ?_, hrun, hended, _, _, rfl, ?_, ⟨_, rfl⟩, hW, hsame.mono (by decide) (by decide)⟩
  · show Steps p.tables e below (T3.setTop (mkF m 10 #[.val (.ref p0)] [(.int 1)])) _
    exact retI X3 hx Bd.returns (hb hby d10_10) hr
  · show Qll1_1 Z p0 wc b kb xs h0 n0 _ T3.heap _
    rw [e3]
    exact ⟨rfl, N3, rfl⟩
theorem pd_rmll2_0_0 : parseMethodDescriptor "()B" = some ⟨[], some .byte⟩ := by decide +kernel
theorem ef_rmll2_0 (m : MethodId) (p0 : Addr) : entryFrame m #[(.ref p0)] 1 = mkF m 0 #[.val (.ref p0)] [] := by first | (simp [entryFrame, mkF, argsToLocals, Value.category]; done) | rfl
def Qll2_0 (Z : State) (p0 : Addr) (wc : Int32) (b : Addr) (kb : ClassId) (xs : List Int32) (h0 : Heap) (n0 : Nat) (v : Option Value) (h : Heap) (L : List Loc) : Prop := v = some (.int 2) ∧ Fr n0 L ∧ h = h0
set_option maxRecDepth 65536 in
set_option maxHeartbeats 40000000 in
theorem rmll2_0 (l : Launch) (Z : State) (a0 : Array Value) (hw : ∀ d ∈ tables_1, d.before a0 Z = true) (ws : List Jvm.Cond) (p0 : Addr) (wc : Int32) (b : Addr) (kb : ClassId) (xs : List Int32) (h0 : Heap) (n0 : Nat) (O0 : Old Z n0 h0) (F0_ : Exa Z h0 p0 "java/lang/String") (F1_ : Fld Z h0 p0 "java/lang/String" "value" "[B" (.ref b)) (F2_ : Fld Z h0 p0 "java/lang/String" "coder" "B" (.int 0)) (F3_ : Arv Z h0 b kb .byte 2 (xs.map Value.int) (.int 0)) (F4_ : Sta Z Z.heap "java/lang/String" "COMPACT_STRINGS" "Z" (.int wc)) (hcs : ¬ (wc = (0 : Int32))) :
    MetFree l nm20 (head1 (Jvm.Cond.code nm20 jdk_42_method_54_code 1 (some .int) :: ws) ({ frames := 1, cells := 0, slots := 0, locals := 13 } : Room)) (fun a U => a = #[(.ref p0)] ∧ Z.Warmed39 U.vm ∧ U.heap = h0) (fun _ _ _ _ _ => True) (fun _ U o U' => ∃ v L, o = .returned v ∧ Qll2_0 Z p0 wc b kb xs h0 n0 v U'.heap L ∧ FrameEnd U o U' L ({ frames := 1, cells := 0, slots := 0, locals := 13 } : Room).cells ({ frames := 1, cells := 0, slots := 0, locals := 13 } : Room).slots) := by
  refine MetFree.of_bodySF (plainFor_of_name pn_3) hisR ?_
  intro p e s m args below meth c s₁ Bd hml0 hP hK
  obtain ⟨rfl, hZ, hh⟩ := hP
  have hx := Bd.exec
  have hby := Bd.bytes
  have hml : c.maxLocals = 1 := hml0
  have hown : s.vm.findClass "java/lang/String" = some m.cls := findClass_of_methodNamed Bd.named
  have X0 : Stand p l e ({ frames := 1, cells := 0, slots := 0, locals := 13 } : Room) s m #[(.ref p0)] below meth c s₁ [] 0 0 := Stand.of_body Bd
  have e0 : s₁.heap = h0 := by rw [← hh, Bd.state]; rfl
  have N0 := Fr.nil n0
  have s0 : Steps p.tables e below (s₁.setTop (entryFrame m #[(.ref p0)] 1)) (s₁.setTop (mkF m 0 #[.val (.ref p0)] [])) := castTop (ef_rmll2_0 m p0) (Steps.refl _)
  obtain ⟨A₀, hA₀⟩ : ∃ z, z = (s₁.setTop (entryFrame m #[(.ref p0)] 1)) := ⟨_, rfl⟩
  rw [← hA₀] at s0
  obtain ⟨T1, X1, e1, st1⟩ := getF X0 hx hZ hown (host := "") (Or.inl (wq hw 32 rfl)) Via.refl e0 F1_ (g := (mkF m 1 #[.val (.ref p0)] [(.ref p0)])) rfl rfl (hb hby d10_1)
  obtain ⟨cla2, Ara2, qa2, Sa2, Za2, Ha2, Ga2⟩ := id F3_
  obtain ⟨T3, L3, X3, e3, N3, st3⟩ := own_callVP X1 hx hZ hown (wk60 hw) (wk61 hw) (wk63 hw) (wk62 hw) (by decide) (wk6 hw) (wk64 hw) (rmcod0 l Z a0 hw [] p0 wc h0 n0 O0 F2_ F4_ hcs) e1 N0 (W := 1) (by decide) (by decide) (by decide) (by decide) F0_ (g := (mkF m 6 #[.val (.ref p0)] [(.ref p0), (.int 2)])) rfl (by rw [hml]; rfl) (argsL := []) (rest := [(.int 2)]) (lenOf pd_rmll2_0_0 rfl) rfl (by exact Nat.le_refl _) (hb hby d10_6)
  have s4 : Steps p.tables e below A₀ (T3.setTop (mkF m 10 #[.val (.ref p0)] [(.int 2)])) := by
    refine s0.trans ?_
    refine XS.aloadN X0.here hx rfl (hb hby d10_0) rfl rfl ?_
    refine st1 _ ?_
    refine X1.arraylength hx (by rw [e1]; exact Ara2.1) (State.isArrayOf_alike hZ.alike Ara2.2.1) (g := (mkF m 4 #[.val (.ref p0)] [(.ref b)])) rfl rfl (hb hby d10_4) _ ?_
    rw [len_of Sa2 Za2]
    show Steps p.tables e below (T1.setTop (mkF m 5 #[.val (.ref p0)] [(.int 2)])) _
    refine XS.aloadN X1.here hx rfl (hb hby d10_5) rfl rfl ?_
    refine st3 _ ?_
    refine XS.ishr X3.here hx rfl (hb hby d10_9) rfl ?_
    exact Steps.refl _
  subst hA₀
  obtain ⟨fs, hr, hrun, hended, hW, hsame⟩ := X3.leave (v := some (.int 2)) (fun h => by rw [Bd.returns] at h; cases h)
  refine ⟨_, _, s4.trans ?_, hrun, hended, _, _, rfl, ?_, ⟨_, rfl⟩, hW, hsame.mono (by decide) (by decide)⟩
  · show Steps p.tables e below (T3.setTop (mkF m 10 #[.val (.ref p0)] [(.int 2)])) _
    exact retI X3 hx Bd.returns (hb hby d10_10) hr
  · show Qll2_0 Z p0 wc b kb xs h0 n0 _ T3.heap _
    rw [e3]
    exact ⟨rfl, N3, rfl⟩
theorem pd_rmll2_1_0 : parseMethodDescriptor "()B" = some ⟨[], some .byte⟩ := by decide +kernel
theorem ef_rmll2_1 (m : MethodId) (p0 : Addr) : entryFrame m #[(.ref p0)] 1 = mkF m 0 #[.val (.ref p0)] [] := by first | (simp [entryFrame, mkF, argsToLocals, Value.category]; done) | rfl
def Qll2_1 (Z : State) (p0 : Addr) (wc : Int32) (b : Addr) (kb : ClassId) (xs : List Int32) (h0 : Heap) (n0 : Nat) (v : Option Value) (h : Heap) (L : List Loc) : Prop := v = some (.int 2) ∧ Fr n0 L ∧ h = h0
set_option maxRecDepth 65536 in
set_option maxHeartbeats 40000000 in
theorem rmll2_1 (l : Launch) (Z : State) (a0 : Array Value) (hw : ∀ d ∈ tables_1, d.before a0 Z = true) (ws : List Jvm.Cond) (p0 : Addr) (wc : Int32) (b : Addr) (kb : ClassId) (xs : List Int32) (h0 : Heap) (n0 : Nat) (O0 : Old Z n0 h0) (F0_ : Exa Z h0 p0 "java/lang/String") (F1_ : Fld Z h0 p0 "java/lang/String" "value" "[B" (.ref b)) (F2_ : Fld Z h0 p0 "java/lang/String" "coder" "B" (.int 1)) (F3_ : Arv Z h0 b kb .byte 4 (xs.map Value.int) (.int 0)) (F4_ : Sta Z Z.heap "java/lang/String" "COMPACT_STRINGS" "Z" (.int wc)) (hcs : ¬ (wc = (0 : Int32))) :
    MetFree l nm20 (head1 (Jvm.Cond.code nm20 jdk_42_method_54_code 1 (some .int) :: ws) ({ frames := 1, cells := 0, slots := 0, locals := 13 } : Room)) (fun a U => a = #[(.ref p0)] ∧ Z.Warmed39 U.vm ∧ U.heap = h0) (fun _ _ _ _ _ => True) (fun _ U o U' => ∃ v L, o = .returned v ∧ Qll2_1 Z p0 wc b kb xs h0 n0 v U'.heap L ∧ FrameEnd U o U' L ({ frames := 1, cells := 0, slots := 0, locals := 13 } : Room).cells ({ frames := 1, cells := 0, slots := 0, locals := 13 } : Room).slots) := by
  refine MetFree.of_bodySF (plainFor_of_name pn_3) hisR ?_
  intro p e s m args below meth c s₁ Bd hml0 hP hK
  obtain ⟨rfl, hZ, hh⟩ := hP
  have hx := Bd.exec
  have hby := Bd.bytes
  have hml : c.maxLocals = 1 := hml0
  have hown : s.vm.findClass "java/lang/String" = some m.cls := findClass_of_methodNamed Bd.named
  have X0 : Stand p l e ({ frames := 1, cells := 0, slots := 0, locals := 13 } : Room) s m #[(.ref p0)] below meth c s₁ [] 0 0 := Stand.of_body Bd
  have e0 : s₁.heap = h0 := by rw [← hh, Bd.state]; rfl
  have N0 := Fr.nil n0
  have s0 : Steps p.tables e below (s₁.setTop (entryFrame m #[(.ref p0)] 1)) (s₁.setTop (mkF m 0 #[.val (.ref p0)] [])) := castTop (ef_rmll2_1 m p0) (Steps.refl _)
  obtain ⟨A₀, hA₀⟩ : ∃ z, z = (s₁.setTop (entryFrame m #[(.ref p0)] 1)) := ⟨_, rfl⟩
  rw [← hA₀] at s0
  obtain ⟨T1, X1, e1, st1⟩ := getF X0 hx hZ hown (host := "") (Or.inl (wq hw 32 rfl)) Via.refl e0 F1_ (g := (mkF m 1 #[.val (.ref p0)] [(.ref p0)])) rfl rfl (hb hby d10_1)
  obtain ⟨cla2, Ara2, qa2, Sa2, Za2, Ha2, Ga2⟩ := id F3_
  obtain ⟨T3, L3, X3, e3, N3, st3⟩ := own_callVP X1 hx hZ hown (wk60 hw) (wk61 hw) (wk63 hw) (wk62 hw) (by decide) (wk6 hw) (wk64 hw) (rmcod1 l Z a0 hw [] p0 wc h0 n0 O0 F2_ F4_ hcs) e1 N0 (W := 1) (by decide) (by decide) (by decide) (by decide) F0_ (g := (mkF m 6 #[.val (.ref p0)] [(.ref p0), (.int 4)])) rfl (by rw [hml]; rfl) (argsL := []) (rest := [(.int 4)]) (lenOf pd_rmll2_1_0 rfl) rfl (by exact Nat.le_refl _) (hb hby d10_6)
  have s4 : Steps p.tables e below A₀ (T3.setTop (mkF m 10 #[.val (.ref p0)] [(.int 2)])) := by
    refine s0.trans ?_
    refine XS.aloadN X0.here hx rfl (hb hby d10_0) rfl rfl ?_
    refine st1 _ ?_
    refine X1.arraylength hx (by rw [e1]; exact Ara2.1) (State.isArrayOf_alike hZ.alike Ara2.2.1) (g := (mkF m 4 #[.val (.ref p0)] [(.ref b)])) rfl rfl (hb hby d10_4) _ ?_
    rw [len_of Sa2 Za2]
    show Steps p.tables e below (T1.setTop (mkF m 5 #[.val (.ref p0)] [(.int 4)])) _
    refine XS.aloadN X1.here hx rfl (hb hby d10_5) rfl rfl ?_
    refine st3 _ ?_
    refine XS.ishr X3.here hx rfl (hb hby d10_9) rfl ?_
    exact Steps.refl _
  subst hA₀
  obtain ⟨fs, hr, hrun, hended, hW, hsame⟩ := X3.leave (v := some (.int 2)) (fun h => by rw [Bd.returns] at h; cases h)
  refine ⟨_, _, s4.trans ?_, hrun, hended, _, _, rfl, ?_, ⟨_, rfl⟩, hW, hsame.mono (by decide) (by decide)⟩
  · show Steps p.tables e below (T3.setTop (mkF m 10 #[.val (.ref p0)] [(.int 2)])) _
    exact retI X3 hx Bd.returns (hb hby d10_10) hr
  · show Qll2_1 Z p0 wc b kb xs h0 n0 _ T3.heap _
    rw [e3]
    exact ⟨rfl, N3, rfl⟩
theorem pd_rmll3_0_0 : parseMethodDescriptor "()B" = some ⟨[], some .byte⟩ := by decide +kernel
theorem ef_rmll3_0 (m : MethodId) (p0 : Addr) : entryFrame m #[(.ref p0)] 1 = mkF m 0 #[.val (.ref p0)] [] := by first | (simp [entryFrame, mkF, argsToLocals, Value.category]; done) | rfl
def Qll3_0 (Z : State) (p0 : Addr) (wc : Int32) (b : Addr) (kb : ClassId) (xs : List Int32) (h0 : Heap) (n0 : Nat) (v : Option Value) (h : Heap) (L : List Loc) : Prop := v = some (.int 3) ∧ Fr n0 L ∧ h = h0
set_option maxRecDepth 65536 in
set_option maxHeartbeats 40000000 in
theorem rmll3_0 (l : Launch) (Z : State) (a0 : Array Value) (hw : ∀ d ∈ tables_1, d.before a0 Z = true) (ws : List Jvm.Cond) (p0 : Addr) (wc : Int32) (b : Addr) (kb : ClassId) (xs : List Int32) (h0 : Heap) (n0 : Nat) (O0 : Old Z n0 h0) (F0_ : Exa Z h0 p0 "java/lang/String") (F1_ : Fld Z h0 p0 "java/lang/String" "value" "[B" (.ref b)) (F2_ : Fld Z h0 p0 "java/lang/String" "coder" "B" (.int 0)) (F3_ : Arv Z h0 b kb .byte 3 (xs.map Value.int) (.int 0)) (F4_ : Sta Z Z.heap "java/lang/String" "COMPACT_STRINGS" "Z" (.int wc)) (hcs : ¬ (wc = (0 : Int32))) :
    MetFree l nm20 (head1 (Jvm.Cond.code nm20 jdk_42_method_54_code 1 (some .int) :: ws) ({ frames := 1, cells := 0, slots := 0, locals := 13 } : Room)) (fun a U => a = #[(.ref p0)] ∧ Z.Warmed39 U.vm ∧ U.heap = h0) (fun _ _ _ _ _ => True) (fun _ U o U' => ∃ v L, o = .returned v ∧ Qll3_0 Z p0 wc b kb xs h0 n0 v U'.heap L ∧ FrameEnd U o U' L ({ frames := 1, cells := 0, slots := 0, locals := 13 } : Room).cells ({ frames := 1, cells := 0, slots := 0, locals := 13 } : Room).slots) := by
  refine MetFree.of_bodySF (plainFor_of_name pn_3) hisR ?_
  intro p e s m args below meth c s₁ Bd hml0 hP hK
  obtain ⟨rfl, hZ, hh⟩ := hP
  have hx := Bd.exec
  have hby := Bd.bytes
  have hml : c.maxLocals = 1 := hml0
  have hown : s.vm.findClass "java/lang/String" = some m.cls := findClass_of_methodNamed Bd.named
  have X0 : Stand p l e ({ frames := 1, cells := 0, slots := 0, locals := 13 } : Room) s m #[(.ref p0)] below meth c s₁ [] 0 0 := Stand.of_body Bd
  have e0 : s₁.heap = h0 := by rw [← hh, Bd.state]; rfl
  have N0 := Fr.nil n0
  have s0 : Steps p.tables e below (s₁.setTop (entryFrame m #[(.ref p0)] 1)) (s₁.setTop (mkF m 0 #[.val (.ref p0)] [])) := castTop (ef_rmll3_0 m p0) (Steps.refl _)
  obtain ⟨A₀, hA₀⟩ : ∃ z, z = (s₁.setTop (entryFrame m #[(.ref p0)] 1)) := ⟨_, rfl⟩
  rw [← hA₀] at s0
  obtain ⟨T1, X1, e1, st1⟩ := getF X0 hx hZ hown (host := "") (Or.inl (wq hw 32 rfl)) Via.refl e0 F1_ (g := (mkF m 1 #[.val (.ref p0)] [(.ref p0)])) rfl rfl (hb hby d10_1)
  obtain ⟨cla2, Ara2, qa2, Sa2, Za2, Ha2, Ga2⟩ := id F3_
  obtain ⟨T3, L3, X3, e3, N3, st3⟩ := own_callVP X1 hx hZ hown (wk60 hw) (wk61 hw) (wk63 hw) (wk62 hw) (by decide) (wk6 hw) (wk64 hw) (rmcod0 l Z a0 hw [] p0 wc h0 n0 O0 F2_ F4_ hcs) e1 N0 (W := 1) (by decide) (by decide) (by decide) (by decide) F0_ (g := (mkF m 6 #[.val (.ref p0)] [(.ref p0), (.int 3)])) rfl (by rw [hml]; rfl) (argsL := []) (rest := [(.int 3)]) (lenOf pd_rmll3_0_0 rfl) rfl (by exact Nat.le_refl _) (hb hby d10_6)
  have s4 : Steps p.tables e below A₀ (T3.setTop (mkF m 10 #[.val (.ref p0)] [(.int 3)])) := by
    refine s0.trans ?_
    refine XS.aloadN X0.here hx rfl (hb hby d10_0) rfl rfl ?_
    refine st1 _ ?_
    refine X1.arraylength hx (by rw [e1]; exact Ara2.1) (State.isArrayOf_alike hZ.alike Ara2.2.1) (g := (mkF m 4 #[.val (.ref p0)] [(.ref b)])) rfl rfl (hb hby d10_4) _ ?_
    rw [len_of Sa2 Za2]
    show Steps p.tables e below (T1.setTop (mkF m 5 #[.val (.ref p0)] [(.int 3)])) _
    refine XS.aloadN X1.here hx rfl (hb hby d10_5) rfl rfl ?_
    refine st3 _ ?_
    refine XS.ishr X3.here hx rfl (hb hby d10_9) rfl ?_
    exact Steps.refl _
  subst hA₀
  obtain ⟨fs, hr, hrun, hended, hW, hsame⟩ := X3.leave (v := some (.int 3)) (fun h => by rw [Bd.returns] at h; cases h)
  refine ⟨_, _, s4.trans ?_, hrun, hended, _, _, rfl, ?_, ⟨_, rfl⟩, hW, hsame.mono (by decide) (by decide)⟩
  · show Steps p.tables e below (T3.setTop (mkF m 10 #[.val (.ref p0)] [(.int 3)])) _
    exact retI X3 hx Bd.returns (hb hby d10_10) hr
  · show Qll3_0 Z p0 wc b kb xs h0 n0 _ T3.heap _
    rw [e3]
    exact ⟨rfl, N3, rfl⟩
theorem pd_rmll3_1_0 : parseMethodDescriptor "()B" = some ⟨[], some .byte⟩ := by decide +kernel
theorem ef_rmll3_1 (m : MethodId) (p0 : Addr) : entryFrame m #[(.ref p0)] 1 = mkF m 0 #[.val (.ref p0)] [] := by first | (simp [entryFrame, mkF, argsToLocals, Value.category]; done) | rfl
def Qll3_1 (Z : State) (p0 : Addr) (wc : Int32) (b : Addr) (kb : ClassId) (xs : List Int32) (h0 : Heap) (n0 : Nat) (v : Option Value) (h : Heap) (L : List Loc) : Prop := v = some (.int 3) ∧ Fr n0 L ∧ h = h0
set_option maxRecDepth 65536 in
set_option maxHeartbeats 40000000 in
theorem rmll3_1 (l : Launch) (Z : State) (a0 : Array Value) (hw : ∀ d ∈ tables_1, d.before a0 Z = true) (ws : List Jvm.Cond) (p0 : Addr) (wc : Int32) (b : Addr) (kb : ClassId) (xs : List Int32) (h0 : Heap) (n0 : Nat) (O0 : Old Z n0 h0) (F0_ : Exa Z h0 p0 "java/lang/String") (F1_ : Fld Z h0 p0 "java/lang/String" "value" "[B" (.ref b)) (F2_ : Fld Z h0 p0 "java/lang/String" "coder" "B" (.int 1)) (F3_ : Arv Z h0 b kb .byte 6 (xs.map Value.int) (.int 0)) (F4_ : Sta Z Z.heap "java/lang/String" "COMPACT_STRINGS" "Z" (.int wc)) (hcs : ¬ (wc = (0 : Int32))) :
    MetFree l nm20 (head1 (Jvm.Cond.code nm20 jdk_42_method_54_code 1 (some .int) :: ws) ({ frames := 1, cells := 0, slots := 0, locals := 13 } : Room)) (fun a U => a = #[(.ref p0)] ∧ Z.Warmed39 U.vm ∧ U.heap = h0) (fun _ _ _ _ _ => True) (fun _ U o U' => ∃ v L, o = .returned v ∧ Qll3_1 Z p0 wc b kb xs h0 n0 v U'.heap L ∧ FrameEnd U o U' L ({ frames := 1, cells := 0, slots := 0, locals := 13 } : Room).cells ({ frames := 1, cells := 0, slots := 0, locals := 13 } : Room).slots) := by
  refine MetFree.of_bodySF (plainFor_of_name pn_3) hisR ?_
  intro p e s m args below meth c s₁ Bd hml0 hP hK
  obtain ⟨rfl, hZ, hh⟩ := hP
  have hx := Bd.exec
  have hby := Bd.bytes
  have hml : c.maxLocals = 1 := hml0
  have hown : s.vm.findClass "java/lang/String" = some m.cls := findClass_of_methodNamed Bd.named
  have X0 : Stand p l e ({ frames := 1, cells := 0, slots := 0, locals := 13 } : Room) s m #[(.ref p0)] below meth c s₁ [] 0 0 := Stand.of_body Bd
  have e0 : s₁.heap = h0 := by rw [← hh, Bd.state]; rfl
  have N0 := Fr.nil n0
  have s0 : Steps p.tables e below (s₁.setTop (entryFrame m #[(.ref p0)] 1)) (s₁.setTop (mkF m 0 #[.val (.ref p0)] [])) := castTop (ef_rmll3_1 m p0) (Steps.refl _)
  obtain ⟨A₀, hA₀⟩ : ∃ z, z = (s₁.setTop (entryFrame m #[(.ref p0)] 1)) := ⟨_, rfl⟩
  rw [← hA₀] at s0
  obtain ⟨T1, X1, e1, st1⟩ := getF X0 hx hZ hown (host := "") (Or.inl (wq hw 32 rfl)) Via.refl e0 F1_ (g := (mkF m 1 #[.val (.ref p0)] [(.ref p0)])) rfl rfl (hb hby d10_1)
  obtain ⟨cla2, Ara2, qa2, Sa2, Za2, Ha2, Ga2⟩ := id F3_
  obtain ⟨T3, L3, X3, e3, N3, st3⟩ := own_callVP X1 hx hZ hown (wk60 hw) (wk61 hw) (wk63 hw) (wk62 hw) (by decide) (wk6 hw) (wk64 hw) (rmcod1 l Z a0 hw [] p0 wc h0 n0 O0 F2_ F4_ hcs) e1 N0 (W := 1) (by decide) (by decide) (by decide) (by decide) F0_ (g := (mkF m 6 #[.val (.ref p0)] [(.ref p0), (.int 6)])) rfl (by rw [hml]; rfl) (argsL := []) (rest := [(.int 6)]) (lenOf pd_rmll3_1_0 rfl) rfl (by exact Nat.le_refl _) (hb hby d10_6)
  have s4 : Steps p.tables e below A₀ (T3.setTop (mkF m 10 #[.val (.ref p0)] [(.int 3)])) := by
    refine s0.trans ?_
    refine XS.aloadN X0.here hx rfl (hb hby d10_0) rfl rfl ?_
    refine st1 _ ?_
    refine X1.arraylength hx (by rw [e1]; exact Ara2.1) (State.isArrayOf_alike hZ.alike Ara2.2.1) (g := (mkF m 4 #[.val (.ref p0)] [(.ref b)])) rfl rfl (hb hby d10_4) _ ?_
    rw [len_of Sa2 Za2]
    show Steps p.tables e below (T1.setTop (mkF m 5 #[.val (.ref p0)] [(.int 6)])) _
    refine XS.aloadN X1.here hx rfl (hb hby d10_5) rfl rfl ?_
    refine st3 _ ?_
    refine XS.ishr X3.here hx rfl (hb hby d10_9) rfl ?_
    exact Steps.refl _
  subst hA₀
  obtain ⟨fs, hr, hrun, hended, hW, hsame⟩ := X3.leave (v := some (.int 3)) (fun h => by rw [Bd.returns] at h; cases h)
  refine ⟨_, _, s4.trans ?_, hrun, hended, _, _, rfl, ?_, ⟨_, rfl⟩, hW, hsame.mono (by decide) (by decide)⟩
  · show Steps p.tables e below (T3.setTop (mkF m 10 #[.val (.ref p0)] [(.int 3)])) _
    exact retI X3 hx Bd.returns (hb hby d10_10) hr
  · show Qll3_1 Z p0 wc b kb xs h0 n0 _ T3.heap _
    rw [e3]
    exact ⟨rfl, N3, rfl⟩
theorem d9_0 : decode prog_1_method_2_code 0 = .ok (.aload_n 0, 1) := by decide +kernel
theorem d9_1 : decode prog_1_method_2_code 1 = .ok (.getfield 16, 3) := by decide +kernel
theorem d9_4 : decode prog_1_method_2_code 4 = .ok (.aload_n 0, 1) := by decide +kernel
theorem d9_5 : decode prog_1_method_2_code 5 = .ok (.getfield 7, 3) := by decide +kernel
theorem d9_8 : decode prog_1_method_2_code 8 = .ok (.invokevirtual 20, 3) := by decide +kernel
theorem d9_11 : decode prog_1_method_2_code 11 = .ok (.if_icmp .lt 7, 3) := by decide +kernel
theorem d9_18 : decode prog_1_method_2_code 18 = .ok (.iconst 0, 1) := by decide +kernel
theorem d9_19 : decode prog_1_method_2_code 19 = .ok (.ireturn, 1) := by decide +kernel
theorem pn_9 : plainName "com/example/lintel/lintel/message/HeaderCursor" = true := by first | (simp [plainName, overriddenIn]; done) | decide +kernel
theorem pd_rmate0_1_0 : parseMethodDescriptor "()I" = some ⟨[], some .int⟩ := by decide +kernel
theorem ef_rmate0_1 (m : MethodId) (p0 : Addr) : entryFrame m #[(.ref p0)] 1 = mkF m 0 #[.val (.ref p0)] [] := by first | (simp [entryFrame, mkF, argsToLocals, Value.category]; done) | rfl
def Qate0_1 (Z : State) (p0 : Addr) (wc : Int32) (ut : Addr) (b : Addr) (kb : ClassId) (xs : List Int32) (wa : Int32) (h0 : Heap) (n0 : Nat) (v : Option Value) (h : Heap) (L : List Loc) : Prop := v = some (.int 0) ∧ Fr n0 L ∧ h = h0
set_option maxRecDepth 65536 in
set_option maxHeartbeats 40000000 in
theorem rmate0_1 (l : Launch) (Z : State) (a0 : Array Value) (hw : ∀ d ∈ tables_1, d.before a0 Z = true) (ws : List Jvm.Cond) (p0 : Addr) (wc : Int32) (ut : Addr) (b : Addr) (kb : ClassId) (xs : List Int32) (wa : Int32) (h0 : Heap) (n0 : Nat) (O0 : Old Z n0 h0) (F0_ : Fld Z h0 p0 "com/example/lintel/lintel/message/HeaderCursor" "at" "I" (.int wa)) (F1_ : Fld Z h0 p0 "com/example/lintel/lintel/message/HeaderCursor" "text" "Ljava/lang/String;" (.ref ut)) (F2_ : Exa Z h0 ut "java/lang/String") (F3_ : Fld Z h0 ut "java/lang/String" "value" "[B" (.ref b)) (F4_ : Fld Z h0 ut "java/lang/String" "coder" "B" (.int 0)) (F5_ : Arv Z h0 b kb .byte 0 (xs.map Value.int) (.int 0)) (F6_ : Sta Z Z.heap "java/lang/String" "COMPACT_STRINGS" "Z" (.int wc)) (hcs : ¬ (wc = (0 : Int32))) (hat : wa < (0 : Int32)) :
    MetFree l nm21 (head1 (Jvm.Cond.code nm21 prog_1_method_2_code 1 (some .boolean) :: ws) ({ frames := 2, cells := 0, slots := 0, locals := 26 } : Room)) (fun a U => a = #[(.ref p0)] ∧ Z.Warmed39 U.vm ∧ U.heap = h0) (fun _ _ _ _ _ => True) (fun _ U o U' => ∃ v L, o = .returned v ∧ Qate0_1 Z p0 wc ut b kb xs wa h0 n0 v U'.heap L ∧ FrameEnd U o U' L ({ frames := 2, cells := 0, slots := 0, locals := 26 } : Room).cells ({ frames := 2, cells := 0, slots := 0, locals := 26 } : Room).slots) := by
  refine MetFree.of_bodySF (plainFor_of_name pn_9) hisR ?_
  intro p e s m args below meth c s₁ Bd hml0 hP hK
  obtain ⟨rfl, hZ, hh⟩ := hP
  have hx := Bd.exec
  have hby := Bd.bytes
  have hml : c.maxLocals = 1 := hml0
  have hown : s.vm.findClass "com/example/lintel/lintel/message/HeaderCursor" = some m.cls := findClass_of_methodNamed Bd.named
  have X0 : Stand p l e ({ frames := 2, cells := 0, slots := 0, locals := 26 } : Room) s m #[(.ref p0)] below meth c s₁ [] 0 0 := Stand.of_body Bd
  have e0 : s₁.heap = h0 := by rw [← hh, Bd.state]; rfl
  have N0 := Fr.nil n0
  have s0 : Steps p.tables e below (s₁.setTop (entryFrame m #[(.ref p0)] 1)) (s₁.setTop (mkF m 0 #[.val (.ref p0)] [])) := castTop (ef_rmate0_1 m p0) (Steps.refl _)
  obtain ⟨A₀, hA₀⟩ : ∃ z, z = (s₁.setTop (entryFrame m #[(.ref p0)] 1)) := ⟨_, rfl⟩
  rw [← hA₀] at s0
  obtain ⟨T1, X1, e1, st1⟩ := getF X0 hx hZ hown (host := "") (Or.inl (wq hw 53 rfl)) Via.refl e0 F0_ (g := (mkF m 1 #[.val (.ref p0)] [(.ref p0)])) rfl rfl (hb hby d9_1)
  obtain ⟨T2, X2, e2, st2⟩ := getF X1 hx hZ hown (host := "") (Or.inl (wq hw 44 rfl)) Via.refl e1 F1_ (g := (mkF m 5 #[.val (.ref p0)] [(.ref p0), (.int wa)])) rfl rfl (hb hby d9_5)
  obtain ⟨T3, L3, X3, e3, N3, st3⟩ := own_callVP X2 hx hZ hown (wk55 hw) (wk56 hw) (wk58 hw) (wk57 hw) (by decide) (wk6 hw) (wk59 hw) (rmll0_0 l Z a0 hw [] ut wc b kb xs h0 n0 O0 F2_ F3_ F4_ F5_ F6_ hcs) e2 N0 (W := 1) (by decide) (by decide) (by decide) (by decide) F2_ (g := (mkF m 8 #[.val (.ref p0)] [(.ref ut), (.int wa)])) rfl (by rw [hml]; rfl) (argsL := []) (rest := [(.int wa)]) (lenOf pd_rmate0_1_0 rfl) rfl (by exact Nat.le_refl _) (hb hby d9_8)
  have s4 : Steps p.tables e below A₀ (T3.setTop (mkF m 19 #[.val (.ref p0)] [(.int 0)])) := by
    refine s0.trans ?_
    refine XS.aloadN X0.here hx rfl (hb hby d9_0) rfl rfl ?_
    refine st1 _ ?_
    refine XS.aloadN X1.here hx rfl (hb hby d9_4) rfl rfl ?_
    refine st2 _ ?_
    refine st3 _ ?_
    refine XS.icmpYes X3.here hx rfl (pc0 := 11) (pc' := 18) rfl (hb hby d9_11) rfl (tlt hat).1 (by decide) (by decide) ?_
    refine XS.iconst X3.here hx rfl (hb hby d9_18) ?_
    exact Steps.refl _
  subst hA₀
  obtain ⟨fs, hr, hrun, hended, hW, hsame⟩ := X3.leave (v := some (.int 0)) (fun h => by rw [Bd.returns] at h; cases h)
  refine ⟨_, _, s4.trans ?_, hrun, hended, _, _, rfl, ?_, ⟨_, rfl⟩, hW, hsame.mono (by decide) (by decide)⟩
  · show Steps p.tables e below (T3.setTop (mkF m 19 #[.val (.ref p0)] [(.int 0)])) _
    exact retN X3 hx (t := .boolean) Bd.returns (by simp) (hb hby d9_19) hr
  · show Qate0_1 Z p0 wc ut b kb xs wa h0 n0 _ T3.heap _
    rw [e3]
    exact ⟨rfl, N3, rfl⟩
theorem d9_14 : decode prog_1_method_2_code 14 = .ok (.iconst 1, 1) := by decide +kernel
theorem d9_15 : decode prog_1_method_2_code 15 = .ok (.goto 4, 3) := by decide +kernel
theorem pd_rmate0_0_0 : parseMethodDescriptor "()I" = some ⟨[], some .int⟩ := by decide +kernel
theorem ef_rmate0_0 (m : MethodId) (p0 : Addr) : entryFrame m #[(.ref p0)] 1 = mkF m 0 #[.val (.ref p0)] [] := by first | (simp [entryFrame, mkF, argsToLocals, Value.category]; done) | rfl
def Qate0_0 (Z : State) (p0 : Addr) (wc : Int32) (ut : Addr) (b : Addr) (kb : ClassId) (xs : List Int32) (wa : Int32) (h0 : Heap) (n0 : Nat) (v : Option Value) (h : Heap) (L : List Loc) : Prop := v = some (.int 1) ∧ Fr n0 L ∧ h = h0
set_option maxRecDepth 65536 in
set_option maxHeartbeats 40000000 in
theorem rmate0_0 (l : Launch) (Z : State) (a0 : Array Value) (hw : ∀ d ∈ tables_1, d.before a0 Z = true) (ws : List Jvm.Cond) (p0 : Addr) (wc : Int32) (ut : Addr) (b : Addr) (kb : ClassId) (xs : List Int32) (wa : Int32) (h0 : Heap) (n0 : Nat) (O0 : Old Z n0 h0) (F0_ : Fld Z h0 p0 "com/example/lintel/lintel/message/HeaderCursor" "at" "I" (.int wa)) (F1_ : Fld Z h0 p0 "com/example/lintel/lintel/message/HeaderCursor" "text" "Ljava/lang/String;" (.ref ut)) (F2_ : Exa Z h0 ut "java/lang/String") (F3_ : Fld Z h0 ut "java/lang/String" "value" "[B" (.ref b)) (F4_ : Fld Z h0 ut "java/lang/String" "coder" "B" (.int 0)) (F5_ : Arv Z h0 b kb .byte 0 (xs.map Value.int) (.int 0)) (F6_ : Sta Z Z.heap "java/lang/String" "COMPACT_STRINGS" "Z" (.int wc)) (hcs : ¬ (wc = (0 : Int32))) (hat : ¬ (wa < (0 : Int32))) :
    MetFree l nm21 (head1 (Jvm.Cond.code nm21 prog_1_method_2_code 1 (some .boolean) :: ws) ({ frames := 2, cells := 0, slots := 0, locals := 26 } : Room)) (fun a U => a = #[(.ref p0)] ∧ Z.Warmed39 U.vm ∧ U.heap = h0) (fun _ _ _ _ _ => True) (fun _ U o U' => ∃ v L, o = .returned v ∧ Qate0_0 Z p0 wc ut b kb xs wa h0 n0 v U'.heap L ∧ FrameEnd U o U' L ({ frames := 2, cells := 0, slots := 0, locals := 26 } : Room).cells ({ frames := 2, cells := 0, slots := 0, locals := 26 } : Room).slots) := by
  refine MetFree.of_bodySF (plainFor_of_name pn_9) hisR ?_
  intro p e s m args below meth c s₁ Bd hml0 hP hK
  obtain ⟨rfl, hZ, hh⟩ := hP
  have hx := Bd.exec
  have hby := Bd.bytes
  have hml : c.maxLocals = 1 := hml0
  have hown : s.vm.findClass "com/example/lintel/lintel/message/HeaderCursor" = some m.cls := findClass_of_methodNamed Bd.named
  have X0 : Stand p l e ({ frames := 2, cells := 0, slots := 0, locals := 26 } : Room) s m #[(.ref p0)] below meth c s₁ [] 0 0 := Stand.of_body Bd
  have e0 : s₁.heap = h0 := by rw [← hh, Bd.state]; rfl
  have N0 := Fr.nil n0
  have s0 : Steps p.tables e below (s₁.setTop (entryFrame m #[(.ref p0)] 1)) (s₁.setTop (mkF m 0 #[.val (.ref p0)] [])) := castTop (ef_rmate0_0 m p0) (Steps.refl _)
  obtain ⟨A₀, hA₀⟩ : ∃ z, z = (s₁.setTop (entryFrame m #[(.ref p0)] 1)) := ⟨_, rfl⟩
  rw [← hA₀] at s0
  obtain ⟨T1, X1, e1, st1⟩ := getF X0 hx hZ hown (host := "") (Or.inl (wq hw 53 rfl)) Via.refl e0 F0_ (g := (mkF m 1 #[.val (.ref p0)] [(.ref p0)])) rfl rfl (hb hby d9_1)
  obtain ⟨T2, X2, e2, st2⟩ := getF X1 hx hZ hown (host := "") (Or.inl (wq hw 44 rfl)) Via.refl e1 F1_ (g := (mkF m 5 #[.val (.ref p0)] [(.ref p0), (.int wa)])) rfl rfl (hb hby d9_5)
  obtain ⟨T3, L3, X3, e3, N3, st3⟩ := own_callVP X2 hx hZ hown (wk55 hw) (wk56 hw) (wk58 hw) (wk57 hw) (by decide) (wk6 hw) (wk59 hw) (rmll0_0 l Z a0 hw [] ut wc b kb xs h0 n0 O0 F2_ F3_ F4_ F5_ F6_ hcs) e2 N0 (W := 1) (by decide) (by decide) (by decide) (by decide) F2_ (g := (mkF m 8 #[.val (.ref p0)] [(.ref ut), (.int wa)])) rfl (by rw [hml]; rfl) (argsL := []) (rest := [(.int wa)]) (lenOf pd_rmate0_0_0 rfl) rfl (by exact Nat.le_refl _) (hb hby d9_8)
  have s4 : Steps p.tables e below A₀ (T3.setTop (mkF m 19 #[.val (.ref p0)] [(.int 1)])) := by
    refine s0.trans ?_
    refine XS.aloadN X0.here hx rfl (hb hby d9_0) rfl rfl ?_
    refine st1 _ ?_
    refine XS.aloadN X1.here hx rfl (hb hby d9_4) rfl rfl ?_
    refine st2 _ ?_
    refine st3 _ ?_
    refine XS.icmpNo X3.here hx rfl (hb hby d9_11) rfl (flt hat).1 ?_
    refine XS.iconst X3.here hx rfl (hb hby d9_14) ?_
    refine XS.goto X3.here hx rfl (pc0 := 15) (pc' := 19) rfl (hb hby d9_15) (by decide) (by decide) ?_
    exact Steps.refl _
  subst hA₀
  obtain ⟨fs, hr, hrun, hended, hW, hsame⟩ := X3.leave (v := some (.int 1)) (fun h => by rw [Bd.returns] at h; cases h)
  refine ⟨_, _, s4.trans ?_, hrun, hended, _, _, rfl, ?_, ⟨_, rfl⟩, hW, hsame.mono (by decide) (by decide)⟩
  · show Steps p.tables e below (T3.setTop (mkF m 19 #[.val (.ref p0)] [(.int 1)])) _
    exact retN X3 hx (t := .boolean) Bd.returns (by simp) (hb hby d9_19) hr
  · show Qate0_0 Z p0 wc ut b kb xs wa h0 n0 _ T3.heap _
    rw [e3]
    exact ⟨rfl, N3, rfl⟩
theorem pd_rmate1_1_0 : parseMethodDescriptor "()I" = some ⟨[], some .int⟩ := by decide +kernel
theorem ef_rmate1_1 (m : MethodId) (p0 : Addr) : entryFrame m #[(.ref p0)] 1 = mkF m 0 #[.val (.ref p0)] [] := by first | (simp [entryFrame, mkF, argsToLocals, Value.category]; done) | rfl
def Qate1_1 (Z : State) (p0 : Addr) (wc : Int32) (ut : Addr) (b : Addr) (kb : ClassId) (ln : Int32) (cd : Int32) (xs : List Int32) (wa : Int32) (h0 : Heap) (n0 : Nat) (v : Option Value) (h : Heap) (L : List Loc) : Prop := v = some (.int 0) ∧ Fr n0 L ∧ h = h0
set_option maxRecDepth 65536 in
set_option maxHeartbeats 40000000 in
theorem rmate1_1 (l : Launch) (Z : State) (a0 : Array Value) (hw : ∀ d ∈ tables_1, d.before a0 Z = true) (ws : List Jvm.Cond) (p0 : Addr) (wc : Int32) (ut : Addr) (b : Addr) (kb : ClassId) (ln : Int32) (cd : Int32) (xs : List Int32) (wa : Int32) (h0 : Heap) (n0 : Nat) (O0 : Old Z n0 h0) (F0_ : Fld Z h0 p0 "com/example/lintel/lintel/message/HeaderCursor" "at" "I" (.int wa)) (F1_ : Fld Z h0 p0 "com/example/lintel/lintel/message/HeaderCursor" "text" "Ljava/lang/String;" (.ref ut)) (F2_ : Exa Z h0 ut "java/lang/String") (F3_ : Fld Z h0 ut "java/lang/String" "value" "[B" (.ref b)) (F4_ : Fld Z h0 ut "java/lang/String" "coder" "B" (.int cd)) (F5_ : Arv Z h0 b kb .byte ln (xs.map Value.int) (.int 0)) (F6_ : Sta Z Z.heap "java/lang/String" "COMPACT_STRINGS" "Z" (.int wc)) (hcs : ¬ (wc = (0 : Int32))) (hv : (ln = (1 : Int32) ∧ cd = (0 : Int32)) ∨ (ln = (2 : Int32) ∧ cd = (1 : Int32))) (hat : wa < (1 : Int32)) :
    MetFree l nm21 (head1 (Jvm.Cond.code nm21 prog_1_method_2_code 1 (some .boolean) :: ws) ({ frames := 2, cells := 0, slots := 0, locals := 26 } : Room)) (fun a U => a = #[(.ref p0)] ∧ Z.Warmed39 U.vm ∧ U.heap = h0) (fun _ _ _ _ _ => True) (fun _ U o U' => ∃ v L, o = .returned v ∧ Qate1_1 Z p0 wc ut b kb ln cd xs wa h0 n0 v U'.heap L ∧ FrameEnd U o U' L ({ frames := 2, cells := 0, slots := 0, locals := 26 } : Room).cells ({ frames := 2, cells := 0, slots := 0, locals := 26 } : Room).slots) := by
  refine MetFree.of_bodySF (plainFor_of_name pn_9) hisR ?_
  intro p e s m args below meth c s₁ Bd hml0 hP hK
  obtain ⟨rfl, hZ, hh⟩ := hP
  have hx := Bd.exec
  have hby := Bd.bytes
  have hml : c.maxLocals = 1 := hml0
  have hown : s.vm.findClass "com/example/lintel/lintel/message/HeaderCursor" = some m.cls := findClass_of_methodNamed Bd.named
  have X0 : Stand p l e ({ frames := 2, cells := 0, slots := 0, locals := 26 } : Room) s m #[(.ref p0)] below meth c s₁ [] 0 0 := Stand.of_body Bd
  have e0 : s₁.heap = h0 := by rw [← hh, Bd.state]; rfl
  have N0 := Fr.nil n0
  have s0 : Steps p.tables e below (s₁.setTop (entryFrame m #[(.ref p0)] 1)) (s₁.setTop (mkF m 0 #[.val (.ref p0)] [])) := castTop (ef_rmate1_1 m p0) (Steps.refl _)
  obtain ⟨A₀, hA₀⟩ : ∃ z, z = (s₁.setTop (entryFrame m #[(.ref p0)] 1)) := ⟨_, rfl⟩
  rw [← hA₀] at s0
  rcases hv with ⟨rfl, rfl⟩ | ⟨rfl, rfl⟩
  · obtain ⟨T1, X1, e1, st1⟩ := getF X0 hx hZ hown (host := "") (Or.inl (wq hw 53 rfl)) Via.refl e0 F0_ (g := (mkF m 1 #[.val (.ref p0)] [(.ref p0)])) rfl rfl (hb hby d9_1)
    obtain ⟨T2, X2, e2, st2⟩ := getF X1 hx hZ hown (host := "") (Or.inl (wq hw 44 rfl)) Via.refl e1 F1_ (g := (mkF m 5 #[.val (.ref p0)] [(.ref p0), (.int wa)])) rfl rfl (hb hby d9_5)
    obtain ⟨T3, L3, X3, e3, N3, st3⟩ := own_callVP X2 hx hZ hown (wk55 hw) (wk56 hw) (wk58 hw) (wk57 hw) (by decide) (wk6 hw) (wk59 hw) (rmll1_0 l Z a0 hw [] ut wc b kb xs h0 n0 O0 F2_ F3_ F4_ F5_ F6_ hcs) e2 N0 (W := 1) (by decide) (by decide) (by decide) (by decide) F2_ (g := (mkF m 8 #[.val (.ref p0)] [(.ref ut), (.int wa)])) rfl (by rw [hml]; rfl) (argsL := []) (rest := [(.int wa)]) (lenOf pd_rmate1_1_0 rfl) rfl (by exact Nat.le_refl _) (hb hby d9_8)
    have s4 : Steps p.tables e below A₀ (T3.setTop (mkF m 19 #[.val (.ref p0)] [(.int 0)])) := by
      refine s0.trans ?_
      refine XS.aloadN X0.here hx rfl (hb hby d9_0) rfl rfl ?_
      refine st1 _ ?_
      refine XS.aloadN X1.here hx rfl (hb hby d9_4) rfl rfl ?_
      refine st2 _ ?_
      refine st3 _ ?_
      refine XS.icmpYes X3.here hx rfl (pc0 := 11) (pc' := 18) rfl (hb hby d9_11) rfl (tlt hat).1 (by decide) (by decide) ?_
      refine XS.iconst X3.here hx rfl (hb hby d9_18) ?_
      exact Steps.refl _
    subst hA₀
    obtain ⟨fs, hr, hrun, hended, hW, hsame⟩ := X3.leave (v := some (.int 0)) (fun h => by rw [Bd.returns] at h; cases h)
    refine ⟨_, _, s4.trans ?_, hrun, hended, _, _, rfl, ?_, ⟨_, rfl⟩, hW, hsame.mono (by decide) (by decide)⟩
    · show Steps p.tables e below (T3.setTop (mkF m 19 #[.val (.ref p0)] [(.int 0)])) _
      exact retN X3 hx (t := .boolean) Bd.returns (by simp) (hb hby d9_19) hr
    · show Qate1_1 Z p0 wc ut b kb (1 : Int32) (0 : Int32) xs wa h0 n0 _ T3.heap _
      rw [e3]
      exact ⟨rfl, N3, rfl⟩
  · obtain ⟨T5, X5, e5, st5⟩ := getF X0 hx hZ hown (host := "") (Or.inl (wq hw 53 rfl)) Via.refl e0 F0_ (g := (mkF m 1 #[.val (.ref p0)] [(.ref p0)])) rfl rfl (hb hby d9_1)
    obtain ⟨T6, X6, e6, st6⟩ := getF X5 hx hZ hown (host := "") (Or.inl (wq hw 44 rfl)) Via.refl e5 F1_ (g := (mkF m 5 #[.val (.ref p0)] [(.ref p0), (.int wa)])) rfl rfl (hb hby d9_5)
    obtain ⟨T7, L7, X7, e7, N7, st7⟩ := own_callVP X6 hx hZ hown (wk55 hw) (wk56 hw) (wk58 hw) (wk57 hw) (by decide) (wk6 hw) (wk59 hw) (rmll1_1 l Z a0 hw [] ut wc b kb xs h0 n0 O0 F2_ F3_ F4_ F5_ F6_ hcs) e6 N0 (W := 1) (by decide) (by decide) (by decide) (by decide) F2_ (g := (mkF m 8 #[.val (.ref p0)] [(.ref ut), (.int wa)])) rfl (by rw [hml]; rfl) (argsL := []) (rest := [(.int wa)]) (lenOf pd_rmate1_1_0 rfl) rfl (by exact Nat.le_refl _) (hb hby d9_8)
    have s8 : Steps p.tables e below A₀ (T7.setTop (mkF m 19 #[.val (.ref p0)] [(.int 0)])) := by
      refine s0.trans ?_
      refine XS.aloadN X0.here hx rfl (hb hby d9_0) rfl rfl ?_
      refine st5 _ ?_
      refine XS.aloadN X5.here hx rfl (hb hby d9_4) rfl rfl ?_
      refine st6 _ ?_
      refine st7 _ ?_
      refine XS.icmpYes X7.here hx rfl (pc0 := 11) (pc' := 18) rfl (hb hby d9_11) rfl (tlt hat).1 (by decide) (by decide) ?_
      refine XS.iconst X7.here hx rfl (hb hby d9_18) ?_
      exact Steps.refl _
    subst hA₀
    obtain ⟨fs, hr, hrun, hended, hW, hsame⟩ := X7.leave (v := some (.int 0)) (fun h => by rw [Bd.returns] at h; cases h)
    refine ⟨_, _, s8.trans ?_, hrun, hended, _, _, rfl, ?_, ⟨_, rfl⟩, hW, hsame.mono (by decide) (by decide)⟩
    · show Steps p.tables e below (T7.setTop (mkF m 19 #[.val (.ref p0)] [(.int 0)])) _
      exact retN X7 hx (t := .boolean) Bd.returns (by simp) (hb hby d9_19) hr
    · show Qate1_1 Z p0 wc ut b kb (2 : Int32) (1 : Int32) xs wa h0 n0 _ T7.heap _
      rw [e7]
      exact ⟨rfl, N7, rfl⟩
theorem pd_rmate1_0_0 : parseMethodDescriptor "()I" = some ⟨[], some .int⟩ := by decide +kernel
theorem ef_rmate1_0 (m : MethodId) (p0 : Addr) : entryFrame m #[(.ref p0)] 1 = mkF m 0 #[.val (.ref p0)] [] := by first | (simp [entryFrame, mkF, argsToLocals, Value.category]; done) | rfl
def Qate1_0 (Z : State) (p0 : Addr) (wc : Int32) (ut : Addr) (b : Addr) (kb : ClassId) (ln : Int32) (cd : Int32) (xs : List Int32) (wa : Int32) (h0 : Heap) (n0 : Nat) (v : Option Value) (h : Heap) (L : List Loc) : Prop := v = some (.int 1) ∧ Fr n0 L ∧ h = h0
set_option maxRecDepth 65536 in
set_option maxHeartbeats 40000000 in
theorem rmate1_0 (l : Launch) (Z : State) (a0 : Array Value) (hw : ∀ d ∈ tables_1, d.before a0 Z = true) (ws : List Jvm.Cond) (p0 : Addr) (wc : Int32) (ut : Addr) (b : Addr) (kb : ClassId) (ln : Int32) (cd : Int32) (xs : List Int32) (wa : Int32) (h0 : Heap) (n0 : Nat) (O0 : Old Z n0 h0) (F0_ : Fld Z h0 p0 "com/example/lintel/lintel/message/HeaderCursor" "at" "I" (.int wa)) (F1_ : Fld Z h0 p0 "com/example/lintel/lintel/message/HeaderCursor" "text" "Ljava/lang/String;" (.ref ut)) (F2_ : Exa Z h0 ut "java/lang/String") (F3_ : Fld Z h0 ut "java/lang/String" "value" "[B" (.ref b)) (F4_ : Fld Z h0 ut "java/lang/String" "coder" "B" (.int cd)) (F5_ : Arv Z h0 b kb .byte ln (xs.map Value.int) (.int 0)) (F6_ : Sta Z Z.heap "java/lang/String" "COMPACT_STRINGS" "Z" (.int wc)) (hcs : ¬ (wc = (0 : Int32))) (hv : (ln = (1 : Int32) ∧ cd = (0 : Int32)) ∨ (ln = (2 : Int32) ∧ cd = (1 : Int32))) (hat : ¬ (wa < (1 : Int32))) :
    MetFree l nm21 (head1 (Jvm.Cond.code nm21 prog_1_method_2_code 1 (some .boolean) :: ws) ({ frames := 2, cells := 0, slots := 0, locals := 26 } : Room)) (fun a U => a = #[(.ref p0)] ∧ Z.Warmed39 U.vm ∧ U.heap = h0) (fun _ _ _ _ _ => True) (fun _ U o U' => ∃ v L, o = .returned v ∧ Qate1_0 Z p0 wc ut b kb ln cd xs wa h0 n0 v U'.heap L ∧ FrameEnd U o U' L ({ frames := 2, cells := 0, slots := 0, locals := 26 } : Room).cells ({ frames := 2, cells := 0, slots := 0, locals := 26 } : Room).slots) := by
  refine MetFree.of_bodySF (plainFor_of_name pn_9) hisR ?_
  intro p e s m args below meth c s₁ Bd hml0 hP hK
  obtain ⟨rfl, hZ, hh⟩ := hP
  have hx := Bd.exec
  have hby := Bd.bytes
  have hml : c.maxLocals = 1 := hml0
  have hown : s.vm.findClass "com/example/lintel/lintel/message/HeaderCursor" = some m.cls := findClass_of_methodNamed Bd.named
  have X0 : Stand p l e ({ frames := 2, cells := 0, slots := 0, locals := 26 } : Room) s m #[(.ref p0)] below meth c s₁ [] 0 0 := Stand.of_body Bd
  have e0 : s₁.heap = h0 := by rw [← hh, Bd.state]; rfl
  have N0 := Fr.nil n0
  have s0 : Steps p.tables e below (s₁.setTop (entryFrame m #[(.ref p0)] 1)) (s₁.setTop (mkF m 0 #[.val (.ref p0)] [])) := castTop (ef_rmate1_0 m p0) (Steps.refl _)
  obtain ⟨A₀, hA₀⟩ : ∃ z, z = (s₁.setTop (entryFrame m #[(.ref p0)] 1)) := ⟨_, rfl⟩
  rw [← hA₀] at s0
  rcases hv with ⟨rfl, rfl⟩ | ⟨rfl, rfl⟩
  · obtain ⟨T1, X1, e1, st1⟩ := getF X0 hx hZ hown (host := "") (Or.inl (wq hw 53 rfl)) Via.refl e0 F0_ (g := (mkF m 1 #[.val (.ref p0)] [(.ref p0)])) rfl rfl (hb hby d9_1)
    obtain ⟨T2, X2, e2, st2⟩ := getF X1 hx hZ hown (host := "") (Or.inl (wq hw 44 rfl)) Via.refl e1 F1_ (g := (mkF m 5 #[.val (.ref p0)] [(.ref p0), (.int wa)])) rfl rfl (hb hby d9_5)
    obtain ⟨T3, L3, X3, e3, N3, st3⟩ := own_callVP X2 hx hZ hown (wk55 hw) (wk56 hw) (wk58 hw) (wk57 hw) (by decide) (wk6 hw) (wk59 hw) (rmll1_0 l Z a0 hw [] ut wc b kb xs h0 n0 O0 F2_ F3_ F4_ F5_ F6_ hcs) e2 N0 (W := 1) (by decide) (by decide) (by decide) (by decide) F2_ (g := (mkF m 8 #[.val (.ref p0)] [(.ref ut), (.int wa)])) rfl (by rw [hml]; rfl) (argsL := []) (rest := [(.int wa)]) (lenOf pd_rmate1_0_0 rfl) rfl (by exact Nat.le_refl _) (hb hby d9_8)
    have s4 : Steps p.tables e below A₀ (T3.setTop (mkF m 19 #[.val (.ref p0)] [(.int 1)])) := by
      refine s0.trans ?_
      refine XS.aloadN X0.here hx rfl (hb hby d9_0) rfl rfl ?_
      refine st1 _ ?_
      refine XS.aloadN X1.here hx rfl (hb hby d9_4) rfl rfl ?_
      refine st2 _ ?_
      refine st3 _ ?_
      refine XS.icmpNo X3.here hx rfl (hb hby d9_11) rfl (flt hat).1 ?_
      refine XS.iconst X3.here hx rfl (hb hby d9_14) ?_
      refine XS.goto X3.here hx rfl (pc0 := 15) (pc' := 19) rfl (hb hby d9_15) (by decide) (by decide) ?_
      exact Steps.refl _
    subst hA₀
    obtain ⟨fs, hr, hrun, hended, hW, hsame⟩ := X3.leave (v := some (.int 1)) (fun h => by rw [Bd.returns] at h; cases h)
    refine ⟨_, _, s4.trans ?_, hrun, hended, _, _, rfl, ?_, ⟨_, rfl⟩, hW, hsame.mono (by decide) (by decide)⟩
    · show Steps p.tables e below (T3.setTop (mkF m 19 #[.val (.ref p0)] [(.int 1)])) _
      exact retN X3 hx (t := .boolean) Bd.returns (by simp) (hb hby d9_19) hr
    · show Qate1_0 Z p0 wc ut b kb (1 : Int32) (0 : Int32) xs wa h0 n0 _ T3.heap _
      rw [e3]
      exact ⟨rfl, N3, rfl⟩
  · obtain ⟨T5, X5, e5, st5⟩ := getF X0 hx hZ hown (host := "") (Or.inl (wq hw 53 rfl)) Via.refl e0 F0_ (g := (mkF m 1 #[.val (.ref p0)] [(.ref p0)])) rfl rfl (hb hby d9_1)
    obtain ⟨T6, X6, e6, st6⟩ := getF X5 hx hZ hown (host := "") (Or.inl (wq hw 44 rfl)) Via.refl e5 F1_ (g := (mkF m 5 #[.val (.ref p0)] [(.ref p0), (.int wa)])) rfl rfl (hb hby d9_5)
    obtain ⟨T7, L7, X7, e7, N7, st7⟩ := own_callVP X6 hx hZ hown (wk55 hw) (wk56 hw) (wk58 hw) (wk57 hw) (by decide) (wk6 hw) (wk59 hw) (rmll1_1 l Z a0 hw [] ut wc b kb xs h0 n0 O0 F2_ F3_ F4_ F5_ F6_ hcs) e6 N0 (W := 1) (by decide) (by decide) (by decide) (by decide) F2_ (g := (mkF m 8 #[.val (.ref p0)] [(.ref ut), (.int wa)])) rfl (by rw [hml]; rfl) (argsL := []) (rest := [(.int wa)]) (lenOf pd_rmate1_0_0 rfl) rfl (by exact Nat.le_refl _) (hb hby d9_8)
    have s8 : Steps p.tables e below A₀ (T7.setTop (mkF m 19 #[.val (.ref p0)] [(.int 1)])) := by
      refine s0.trans ?_
      refine XS.aloadN X0.here hx rfl (hb hby d9_0) rfl rfl ?_
      refine st5 _ ?_
      refine XS.aloadN X5.here hx rfl (hb hby d9_4) rfl rfl ?_
      refine st6 _ ?_
      refine st7 _ ?_
      refine XS.icmpNo X7.here hx rfl (hb hby d9_11) rfl (flt hat).1 ?_
      refine XS.iconst X7.here hx rfl (hb hby d9_14) ?_
      refine XS.goto X7.here hx rfl (pc0 := 15) (pc' := 19) rfl (hb hby d9_15) (by decide) (by decide) ?_
      exact Steps.refl _
    subst hA₀
    obtain ⟨fs, hr, hrun, hended, hW, hsame⟩ := X7.leave (v := some (.int 1)) (fun h => by rw [Bd.returns] at h; cases h)
    refine ⟨_, _, s8.trans ?_, hrun, hended, _, _, rfl, ?_, ⟨_, rfl⟩, hW, hsame.mono (by decide) (by decide)⟩
    · show Steps p.tables e below (T7.setTop (mkF m 19 #[.val (.ref p0)] [(.int 1)])) _
      exact retN X7 hx (t := .boolean) Bd.returns (by simp) (hb hby d9_19) hr
    · show Qate1_0 Z p0 wc ut b kb (2 : Int32) (1 : Int32) xs wa h0 n0 _ T7.heap _
      rw [e7]
      exact ⟨rfl, N7, rfl⟩
theorem d19_0 : decode prog_1_method_4_code 0 = .ok (.aload_n 0, 1) := by decide +kernel
theorem d19_1 : decode prog_1_method_4_code 1 = .ok (.getfield 7, 3) := by decide +kernel
theorem d19_4 : decode prog_1_method_4_code 4 = .ok (.aload_n 0, 1) := by decide +kernel
theorem d19_5 : decode prog_1_method_4_code 5 = .ok (.dup, 1) := by decide +kernel
theorem d19_6 : decode prog_1_method_4_code 6 = .ok (.getfield 16, 3) := by decide +kernel
theorem d19_9 : decode prog_1_method_4_code 9 = .ok (.dup_x1, 1) := by decide +kernel
theorem d19_10 : decode prog_1_method_4_code 10 = .ok (.iconst 1, 1) := by decide +kernel
theorem d19_11 : decode prog_1_method_4_code 11 = .ok (.iadd, 1) := by decide +kernel
theorem d19_12 : decode prog_1_method_4_code 12 = .ok (.putfield 16, 3) := by decide +kernel
theorem d19_15 : decode prog_1_method_4_code 15 = .ok (.invokevirtual 26, 3) := by decide +kernel
theorem d19_18 : decode prog_1_method_4_code 18 = .ok (.ireturn, 1) := by decide +kernel
theorem pd_rmnxt1_0_0 : parseMethodDescriptor "(I)C" = some ⟨[.int], some .char⟩ := by decide +kernel
theorem ef_rmnxt1_0 (m : MethodId) (p0 : Addr) : entryFrame m #[(.ref p0)] 1 = mkF m 0 #[.val (.ref p0)] [] := by first | (simp [entryFrame, mkF, argsToLocals, Value.category]; done) | rfl
def Qnxt1_0 (Z : State) (p0 : Addr) (wc : Int32) (ut : Addr) (b : Addr) (kb : ClassId) (ln : Int32) (cd : Int32) (xs : List Int32) (rg : Value) (h0 : Heap) (n0 : Nat) (v : Option Value) (h : Heap) (L : List Loc) : Prop := ∃ r : Int32, v = some (.int r) ∧ Fr n0 L ∧ Keep h0 h [p0] ∧ (Exa Z h p0 "com/example/lintel/lintel/message/HeaderCursor") ∧ (Fld Z h p0 "com/example/lintel/lintel/message/HeaderCursor" "at" "I" (.int 1)) ∧ (Fld Z h p0 "com/example/lintel/lintel/message/HeaderCursor" "text" "Ljava/lang/String;" (.ref ut))
set_option maxRecDepth 65536 in
set_option maxHeartbeats 40000000 in
theorem rmnxt1_0 (l : Launch) (Z : State) (a0 : Array Value) (hw : ∀ d ∈ tables_1, d.before a0 Z = true) (ws : List Jvm.Cond) (p0 : Addr) (wc : Int32) (ut : Addr) (b : Addr) (kb : ClassId) (ln : Int32) (cd : Int32) (xs : List Int32) (rg : Value) (h0 : Heap) (n0 : Nat) (O0 : Old Z n0 h0) (F0_ : Exa Z h0 p0 "com/example/lintel/lintel/message/HeaderCursor") (F1_ : n0 ≤ p0) (F2_ : p0 ≠ ut) (F3_ : p0 ≠ b) (F4_ : Fld Z h0 p0 "com/example/lintel/lintel/message/HeaderCursor" "at" "I" (.int 0)) (F5_ : Fld Z h0 p0 "com/example/lintel/lintel/message/HeaderCursor" "text" "Ljava/lang/String;" (.ref ut)) (F6_ : Exa Z h0 ut "java/lang/String") (F7_ : Fld Z h0 ut "java/lang/String" "value" "[B" (.ref b)) (F8_ : Fld Z h0 ut "java/lang/String" "coder" "B" (.int cd)) (F9_ : Arv Z h0 b kb .byte ln (xs.map Value.int) (.int 0)) (F10_ : Sta Z Z.heap "java/lang/String" "COMPACT_STRINGS" "Z" (.int wc)) (F11_ : Sta Z Z.heap "jdk/internal/util/Preconditions" "SIOOBE_FORMATTER" "Ljava/util/function/BiFunction;" rg) (F12_ : rg.isRef = true) (F13_ : Sta Z Z.heap "java/lang/StringUTF16" "$assertionsDisabled" "Z" (.int 1)) (F14_ : Sta Z Z.heap "java/lang/StringUTF16" "HI_BYTE_SHIFT" "I" (.int 0)) (F15_ : Sta Z Z.heap "java/lang/StringUTF16" "LO_BYTE_SHIFT" "I" (.int 8)) (hcs : ¬ (wc = (0 : Int32))) (hv : (ln = (1 : Int32) ∧ cd = (0 : Int32)) ∨ (ln = (2 : Int32) ∧ cd = (1 : Int32))) :
    MetFree l nm22 (head1 (Jvm.Cond.code nm22 prog_1_method_4_code 1 (some .char) :: ws) ({ frames := 5, cells := 0, slots := 0, locals := 66 } : Room)) (fun a U => a = #[(.ref p0)] ∧ Z.Warmed39 U.vm ∧ U.heap = h0) (fun _ _ _ _ _ => True) (fun _ U o U' => ∃ v L, o = .returned v ∧ Qnxt1_0 Z p0 wc ut b kb ln cd xs rg h0 n0 v U'.heap L ∧ FrameEnd U o U' L ({ frames := 5, cells := 0, slots := 0, locals := 66 } : Room).cells ({ frames := 5, cells := 0, slots := 0, locals := 66 } : Room).slots) := by
  refine MetFree.of_bodySF (plainFor_of_name pn_9) hisR ?_
  intro p e s m args below meth c s₁ Bd hml0 hP hK
  obtain ⟨rfl, hZ, hh⟩ := hP
  have hx := Bd.exec
  have hby := Bd.bytes
  have hml : c.maxLocals = 1 := hml0
  have hown : s.vm.findClass "com/example/lintel/lintel/message/HeaderCursor" = some m.cls := findClass_of_methodNamed Bd.named
  have X0 : Stand p l e ({ frames := 5, cells := 0, slots := 0, locals := 66 } : Room) s m #[(.ref p0)] below meth c s₁ [] 0 0 := Stand.of_body Bd
  have e0 : s₁.heap = h0 := by rw [← hh, Bd.state]; rfl
  have N0 := Fr.nil n0
  have s0 : Steps p.tables e below (s₁.setTop (entryFrame m #[(.ref p0)] 1)) (s₁.setTop (mkF m 0 #[.val (.ref p0)] [])) := castTop (ef_rmnxt1_0 m p0) (Steps.refl _)
  obtain ⟨A₀, hA₀⟩ : ∃ z, z = (s₁.setTop (entryFrame m #[(.ref p0)] 1)) := ⟨_, rfl⟩
  rw [← hA₀] at s0
  rcases hv with ⟨rfl, rfl⟩ | ⟨rfl, rfl⟩
  · obtain ⟨T1, X1, e1, st1⟩ := getF X0 hx hZ hown (host := "") (Or.inl (wq hw 44 rfl)) Via.refl e0 F5_ (g := (mkF m 1 #[.val (.ref p0)] [(.ref p0)])) rfl rfl (hb hby d19_1)
    obtain ⟨T2, X2, e2, st2⟩ := getF X1 hx hZ hown (host := "") (Or.inl (wq hw 53 rfl)) Via.refl e1 F4_ (g := (mkF m 6 #[.val (.ref p0)] [(.ref p0), (.ref p0), (.ref ut)])) rfl rfl (hb hby d19_6)
    obtain ⟨T3, h3, X3, e3, W3, st3⟩ := putF X2 hx hZ hown (host := "") (Or.inl (wq hw 53 rfl)) Via.refl e2 F4_ F0_ (Or.inl (wq hw 54 rfl)) (wq hw 35 rfl) (ty := .int) (by decide) rfl rfl (g := (mkF m 12 #[.val (.ref p0)] [(.int 1), (.ref p0), (.int 0), (.ref ut)])) rfl rfl (hb hby d19_12)
    have Fw3 := F4_.same W3
    have O3 := O0.wr W3 F1_
    have K3 : Keep h0 h3 [p0] := (Keep.refl h0 [p0]).wr W3 (Or.inl (List.mem_of_getElem? (i := 0) rfl))
    have N3 := Fr.snoc X3 N0 F1_
    have c4 : Exa Z h3 ut "java/lang/String" := (F6_.wr W3)
    have c5 : Fld Z h3 ut "java/lang/String" "value" "[B" (.ref b) := (F7_.other W3 (Or.inl (Ne.symm F2_)))
    have c6 : Fld Z h3 ut "java/lang/String" "coder" "B" (.int 0) := (F8_.other W3 (Or.inl (Ne.symm F2_)))
    have c7 : Arv Z h3 b kb .byte 1 (xs.map Value.int) (.int 0) := (F9_.other W3 (Ne.symm F3_))
    obtain ⟨cq8, kq8, q8a, q8b, q8c⟩ := isOf hZ e3 c4
    obtain ⟨_, _, ⟨T8, L8, k8, n8⟩, -, X8, ⟨Lc8, hQ8, l8, y8, z8⟩, st8⟩ := X3.virtualBack hx (y := (⟨"java/lang/String", "charAt", "(I)C"⟩ : MethodName)) (z := (⟨"java/lang/String", "charAt", "(I)C"⟩ : MethodName)) hown (mvT hZ (wq hw 99 rfl)) (mvT hZ (wq hw 100 rfl)) (notFace_of_selects (args := #[]) (mvT hZ (wq hw 102 rfl))) (mvT hZ (wq hw 102 rfl)) (mvT hZ (wq hw 101 rfl)) (by decide) (backOf (W := 0) (rmcha0 l Z a0 hw [] ut (0 : Int32) wc b kb (1 : Int32) xs rg h3 n0 O3 c4 c5 c6 c7 F10_ F11_ F12_ F13_ F14_ F15_ hcs (by decide) (by decide)) hZ (wq hw 103 rfl) (wq hw 6 rfl) (by decide) (by decide)) q8a q8c (g := (mkF m 15 #[.val (.ref p0)] [(.int 0), (.ref ut)])) rfl (by rw [hml]; rfl) (Steps.refl _) (argsL := [(.int 0)]) (rest := []) (lenOf pd_rmnxt1_0_0 rfl) rfl (by exact Nat.le_refl _) (hb hby d19_15) (fun _ _ => ⟨rfl, e3, (by decide : 0 + 0 ≤ _), (by decide : 0 + 0 ≤ _)⟩)
    dsimp only [Pt.U, Pt.locs, Pt.cells, Pt.slots] at X8 l8 y8 z8 st8 hQ8
    subst l8 y8 z8
    obtain ⟨u9, rfl, Nq8, e8⟩ := hQ8
    have N8 := Fr.app N3 Nq8
    have s10 : Steps p.tables e below A₀ (T8.setTop (mkF m 18 #[.val (.ref p0)] [(.int u9)])) := by
      refine s0.trans ?_
      refine XS.aloadN X0.here hx rfl (hb hby d19_0) rfl rfl ?_
      refine st1 _ ?_
      refine XS.aloadN X1.here hx rfl (hb hby d19_4) rfl rfl ?_
      refine XS.dup X1.here hx rfl (hb hby d19_5) rfl rfl ?_
      refine st2 _ ?_
      refine XS.dupX1 X2.here hx rfl (hb hby d19_9) rfl rfl rfl ?_
      refine XS.iconst X2.here hx rfl (hb hby d19_10) ?_
      refine XS.iadd X2.here hx rfl (hb hby d19_11) rfl ?_
      show Steps p.tables e below (T2.setTop (mkF m 12 #[.val (.ref p0)] [(.int 1), (.ref p0), (.int 0), (.ref ut)])) _
      refine st3 _ ?_
      refine st8.trans ?_
      exact Steps.refl _
    subst hA₀
    have c11 : Exa Z h3 p0 "com/example/lintel/lintel/message/HeaderCursor" := (F0_.wr W3)
    have c12 : Fld Z h3 p0 "com/example/lintel/lintel/message/HeaderCursor" "text" "Ljava/lang/String;" (.ref ut) := (F5_.other W3 (Or.inr (slot_ne (Or.inr (wq hw 45 rfl)) (Or.inl (wq hw 54 rfl)) (by decide) (t := (.object "java/lang/String")) (t' := .int) (by decide) (by decide))))
    obtain ⟨fs, hr, hrun, hended, hW, hsame⟩ := X8.leave (v := some (.int (nar .char u9))) (fun h => by rw [Bd.returns] at h; cases h)
    refine ⟨_, _, s10.trans ?_, hrun, hended, _, _, rfl, ?_, ⟨_, rfl⟩, hW, hsame.mono (by decide) (by decide)⟩
    · show Steps p.tables e below (T8.setTop (mkF m 18 #[.val (.ref p0)] [(.int u9)])) _
      exact retN X8 hx (t := .char) Bd.returns (by simp) (hb hby d19_18) hr
    · show Qnxt1_0 Z p0 wc ut b kb (1 : Int32) (0 : Int32) xs rg h0 n0 _ T8.heap _
      rw [e8]
      exact ⟨(nar .char u9), rfl, N8, K3, c11, Fw3, c12⟩
  · obtain ⟨T13, X13, e13, st13⟩ := getF X0 hx hZ hown (host := "") (Or.inl (wq hw 44 rfl)) Via.refl e0 F5_ (g := (mkF m 1 #[.val (.ref p0)] [(.ref p0)])) rfl rfl (hb hby d19_1)
    obtain ⟨T14, X14, e14, st14⟩ := getF X13 hx hZ hown (host := "") (Or.inl (wq hw 53 rfl)) Via.refl e13 F4_ (g := (mkF m 6 #[.val (.ref p0)] [(.ref p0), (.ref p0), (.ref ut)])) rfl rfl (hb hby d19_6)
    obtain ⟨T15, h15, X15, e15, W15, st15⟩ := putF X14 hx hZ hown (host := "") (Or.inl (wq hw 53 rfl)) Via.refl e14 F4_ F0_ (Or.inl (wq hw 54 rfl)) (wq hw 35 rfl) (ty := .int) (by decide) rfl rfl (g := (mkF m 12 #[.val (.ref p0)] [(.int 1), (.ref p0), (.int 0), (.ref ut)])) rfl rfl (hb hby d19_12)
    have Fw15 := F4_.same W15
    have O15 := O0.wr W15 F1_
    have K15 : Keep h0 h15 [p0] := (Keep.refl h0 [p0]).wr W15 (Or.inl (List.mem_of_getElem? (i := 0) rfl))
    have N15 := Fr.snoc X15 N0 F1_
    have c16 : Exa Z h15 ut "java/lang/String" := (F6_.wr W15)
    have c17 : Fld Z h15 ut "java/lang/String" "value" "[B" (.ref b) := (F7_.other W15 (Or.inl (Ne.symm F2_)))
    have c18 : Fld Z h15 ut "java/lang/String" "coder" "B" (.int 1) := (F8_.other W15 (Or.inl (Ne.symm F2_)))
    have c19 : Arv Z h15 b kb .byte 2 (xs.map Value.int) (.int 0) := (F9_.other W15 (Ne.symm F3_))
    obtain ⟨cq20, kq20, q20a, q20b, q20c⟩ := isOf hZ e15 c16
    obtain ⟨_, _, ⟨T20, L20, k20, n20⟩, -, X20, ⟨Lc20, hQ20, l20, y20, z20⟩, st20⟩ := X15.virtualBack hx (y := (⟨"java/lang/String", "charAt", "(I)C"⟩ : MethodName)) (z := (⟨"java/lang/String", "charAt", "(I)C"⟩ : MethodName)) hown (mvT hZ (wq hw 99 rfl)) (mvT hZ (wq hw 100 rfl)) (notFace_of_selects (args := #[]) (mvT hZ (wq hw 102 rfl))) (mvT hZ (wq hw 102 rfl)) (mvT hZ (wq hw 101 rfl)) (by decide) (backOf (W := 0) (rmcha1 l Z a0 hw [] ut (0 : Int32) wc b kb (2 : Int32) xs rg h15 n0 O15 c16 c17 c18 c19 F10_ F11_ F12_ F13_ F14_ F15_ hcs (by decide) (by decide) ⟨by decide, by decide⟩ ⟨by decide, by decide⟩) hZ (wq hw 103 rfl) (wq hw 6 rfl) (by decide) (by decide)) q20a q20c (g := (mkF m 15 #[.val (.ref p0)] [(.int 0), (.ref ut)])) rfl (by rw [hml]; rfl) (Steps.refl _) (argsL := [(.int 0)]) (rest := []) (lenOf pd_rmnxt1_0_0 rfl) rfl (by exact Nat.le_refl _) (hb hby d19_15) (fun _ _ => ⟨rfl, e15, (by decide : 0 + 0 ≤ _), (by decide : 0 + 0 ≤ _)⟩)
    dsimp only [Pt.U, Pt.locs, Pt.cells, Pt.slots] at X20 l20 y20 z20 st20 hQ20
    subst l20 y20 z20
    obtain ⟨u21, rfl, Nq20, e20⟩ := hQ20
    have N20 := Fr.app N15 Nq20
    have s22 : Steps p.tables e below A₀ (T20.setTop (mkF m 18 #[.val (.ref p0)] [(.int u21)])) := by
      refine s0.trans ?_
      refine XS.aloadN X0.here hx rfl (hb hby d19_0) rfl rfl ?_
      refine st13 _ ?_
      refine XS.aloadN X13.here hx rfl (hb hby d19_4) rfl rfl ?_
      refine XS.dup X13.here hx rfl (hb hby d19_5) rfl rfl ?_
      refine st14 _ ?_
      refine XS.dupX1 X14.here hx rfl (hb hby d19_9) rfl rfl rfl ?_
      refine XS.iconst X14.here hx rfl (hb hby d19_10) ?_
      refine XS.iadd X14.here hx rfl (hb hby d19_11) rfl ?_
      show Steps p.tables e below (T14.setTop (mkF m 12 #[.val (.ref p0)] [(.int 1), (.ref p0), (.int 0), (.ref ut)])) _
      refine st15 _ ?_
      refine st20.trans ?_
      exact Steps.refl _
    subst hA₀
    have c23 : Exa Z h15 p0 "com/example/lintel/lintel/message/HeaderCursor" := (F0_.wr W15)
    have c24 : Fld Z h15 p0 "com/example/lintel/lintel/message/HeaderCursor" "text" "Ljava/lang/String;" (.ref ut) := (F5_.other W15 (Or.inr (slot_ne (Or.inr (wq hw 45 rfl)) (Or.inl (wq hw 54 rfl)) (by decide) (t := (.object "java/lang/String")) (t' := .int) (by decide) (by decide))))
    obtain ⟨fs, hr, hrun, hended, hW, hsame⟩ := X20.leave (v := some (.int (nar .char u21))) (fun h => by rw [Bd.returns] at h; cases h)
    refine ⟨_, _, s22.trans ?_, hrun, hended, _, _, rfl, ?_, ⟨_, rfl⟩, hW, hsame.mono (by decide) (by decide)⟩
    · show Steps p.tables e below (T20.setTop (mkF m 18 #[.val (.ref p0)] [(.int u21)])) _
      exact retN X20 hx (t := .char) Bd.returns (by simp) (hb hby d19_18) hr
    · show Qnxt1_0 Z p0 wc ut b kb (2 : Int32) (1 : Int32) xs rg h0 n0 _ T20.heap _
      rw [e20]
      exact ⟨(nar .char u21), rfl, N20, K15, c23, Fw15, c24⟩
theorem pd_rmate2_1_0 : parseMethodDescriptor "()I" = some ⟨[], some .int⟩ := by decide +kernel
theorem ef_rmate2_1 (m : MethodId) (p0 : Addr) : entryFrame m #[(.ref p0)] 1 = mkF m 0 #[.val (.ref p0)] [] := by first | (simp [entryFrame, mkF, argsToLocals, Value.category]; done) | rfl
def Qate2_1 (Z : State) (p0 : Addr) (wc : Int32) (ut : Addr) (b : Addr) (kb : ClassId) (ln : Int32) (cd : Int32) (xs : List Int32) (wa : Int32) (h0 : Heap) (n0 : Nat) (v : Option Value) (h : Heap) (L : List Loc) : Prop := v = some (.int 0) ∧ Fr n0 L ∧ h = h0
set_option maxRecDepth 65536 in
set_option maxHeartbeats 40000000 in
theorem rmate2_1 (l : Launch) (Z : State) (a0 : Array Value) (hw : ∀ d ∈ tables_1, d.before a0 Z = true) (ws : List Jvm.Cond) (p0 : Addr) (wc : Int32) (ut : Addr) (b : Addr) (kb : ClassId) (ln : Int32) (cd : Int32) (xs : List Int32) (wa : Int32) (h0 : Heap) (n0 : Nat) (O0 : Old Z n0 h0) (F0_ : Fld Z h0 p0 "com/example/lintel/lintel/message/HeaderCursor" "at" "I" (.int wa)) (F1_ : Fld Z h0 p0 "com/example/lintel/lintel/message/HeaderCursor" "text" "Ljava/lang/String;" (.ref ut)) (F2_ : Exa Z h0 ut "java/lang/String") (F3_ : Fld Z h0 ut "java/lang/String" "value" "[B" (.ref b)) (F4_ : Fld Z h0 ut "java/lang/String" "coder" "B" (.int cd)) (F5_ : Arv Z h0 b kb .byte ln (xs.map Value.int) (.int 0)) (F6_ : Sta Z Z.heap "java/lang/String" "COMPACT_STRINGS" "Z" (.int wc)) (hcs : ¬ (wc = (0 : Int32))) (hv : (ln = (2 : Int32) ∧ cd = (0 : Int32)) ∨ (ln = (4 : Int32) ∧ cd = (1 : Int32))) (hat : wa < (2 : Int32)) :
    MetFree l nm21 (head1 (Jvm.Cond.code nm21 prog_1_method_2_code 1 (some .boolean) :: ws) ({ frames := 2, cells := 0, slots := 0, locals := 26 } : Room)) (fun a U => a = #[(.ref p0)] ∧ Z.Warmed39 U.vm ∧ U.heap = h0) (fun _ _ _ _ _ => True) (fun _ U o U' => ∃ v L, o = .returned v ∧ Qate2_1 Z p0 wc ut b kb ln cd xs wa h0 n0 v U'.heap L ∧ FrameEnd U o U' L ({ frames := 2, cells := 0, slots := 0, locals := 26 } : Room).cells ({ frames := 2, cells := 0, slots := 0, locals := 26 } : Room).slots) := by
  refine MetFree.of_bodySF (plainFor_of_name pn_9) hisR ?_
  intro p e s m args below meth c s₁ Bd hml0 hP hK
  obtain ⟨rfl, hZ, hh⟩ := hP
  have hx := Bd.exec
  have hby := Bd.bytes
  have hml : c.maxLocals = 1 := hml0
  have hown : s.vm.findClass "com/example/lintel/lintel/message/HeaderCursor" = some m.cls := findClass_of_methodNamed Bd.named
  have X0 : Stand p l e ({ frames := 2, cells := 0, slots := 0, locals := 26 } : Room) s m #[(.ref p0)] below meth c s₁ [] 0 0 := Stand.of_body Bd
  have e0 : s₁.heap = h0 := by rw [← hh, Bd.state]; rfl
  have N0 := Fr.nil n0
  have s0 : Steps p.tables e below (s₁.setTop (entryFrame m #[(.ref p0)] 1)) (s₁.setTop (mkF m 0 #[.val (.ref p0)] [])) := castTop (ef_rmate2_1 m p0) (Steps.refl _)
  obtain ⟨A₀, hA₀⟩ : ∃ z, z = (s₁.setTop (entryFrame m #[(.ref p0)] 1)) := ⟨_, rfl⟩
  rw [← hA₀] at s0
  rcases hv with ⟨rfl, rfl⟩ | ⟨rfl, rfl⟩
  · obtain ⟨T1, X1, e1, st1⟩ := getF X0 hx hZ hown (host := "") (Or.inl (wq hw 53 rfl)) Via.refl e0 F0_ (g := (mkF m 1 #[.val (.ref p0)] [(.ref p0)])) rfl rfl (hb hby d9_1)
    obtain ⟨T2, X2, e2, st2⟩ := getF X1 hx hZ hown (host := "") (Or.inl (wq hw 44 rfl)) Via.refl e1 F1_ (g := (mkF m 5 #[.val (.ref p0)] [(.ref p0), (.int wa)])) rfl rfl (hb hby d9_5)
    obtain ⟨T3, L3, X3, e3, N3, st3⟩ := own_callVP X2 hx hZ hown (wk55 hw) (wk56 hw) (wk58 hw) (wk57 hw) (by decide) (wk6 hw) (wk59 hw) (rmll2_0 l Z a0 hw [] ut wc b kb xs h0 n0 O0 F2_ F3_ F4_ F5_ F6_ hcs) e2 N0 (W := 1) (by decide) (by decide) (by decide) (by decide) F2_ (g := (mkF m 8 #[.val (.ref p0)] [(.ref ut), (.int wa)])) rfl (by rw [hml]; rfl) (argsL := []) (rest := [(.int wa)]) (lenOf pd_rmate2_1_0 rfl) rfl (by exact Nat.le_refl _) (hb hby d9_8)
    have s4 : Steps p.tables e below A₀ (T3.setTop (mkF m 19 #[.val (.ref p0)] [(.int 0)])) := by
      refine s0.trans ?_
      refine XS.aloadN X0.here hx rfl (hb hby d9_0) rfl rfl ?_
      refine st1 _ ?_
      refine XS.aloadN X1.here hx rfl (hb hby d9_4) rfl rfl ?_
      refine st2 _ ?_
      refine st3 _ ?_
      refine XS.icmpYes X3.here hx rfl (pc0 := 11) (pc' := 18) rfl (hb hby d9_11) rfl (tlt hat).1 (by decide) (by decide) ?_
      refine XS.iconst X3.here hx rfl (hb hby d9_18) ?_
      exact Steps.refl _
    subst hA₀
    obtain ⟨fs, hr, hrun, hended, hW, hsame⟩ := X3.leave (v := some (.int 0)) (fun h => by rw [Bd.returns] at h; cases h)
    refine ⟨_, _, s4.trans ?_, hrun, hended, _, _, rfl, ?_, ⟨_, rfl⟩, hW, hsame.mono (by decide) (by decide)⟩
    · show Steps p.tables e below (T3.setTop (mkF m 19 #[.val (.ref p0)] [(.int 0)])) _
      exact retN X3 hx (t := .boolean) Bd.returns (by simp) (hb hby d9_19) hr
    · show Qate2_1 Z p0 wc ut b kb (2 : Int32) (0 : Int32) xs wa h0 n0 _ T3.heap _
      rw [e3]
      exact ⟨rfl, N3, rfl⟩
  · obtain ⟨T5, X5, e5, st5⟩ := getF X0 hx hZ hown (host := "") (Or.inl (wq hw 53 rfl)) Via.refl e0 F0_ (g := (mkF m 1 #[.val (.ref p0)] [(.ref p0)])) rfl rfl (hb hby d9_1)
    obtain ⟨T6, X6, e6, st6⟩ := getF X5 hx hZ hown (host := "") (Or.inl (wq hw 44 rfl)) Via.refl e5 F1_ (g := (mkF m 5 #[.val (.ref p0)] [(.ref p0), (.int wa)])) rfl rfl (hb hby d9_5)
    obtain ⟨T7, L7, X7, e7, N7, st7⟩ := own_callVP X6 hx hZ hown (wk55 hw) (wk56 hw) (wk58 hw) (wk57 hw) (by decide) (wk6 hw) (wk59 hw) (rmll2_1 l Z a0 hw [] ut wc b kb xs h0 n0 O0 F2_ F3_ F4_ F5_ F6_ hcs) e6 N0 (W := 1) (by decide) (by decide) (by decide) (by decide) F2_ (g := (mkF m 8 #[.val (.ref p0)] [(.ref ut), (.int wa)])) rfl (by rw [hml]; rfl) (argsL := []) (rest := [(.int wa)]) (lenOf pd_rmate2_1_0 rfl) rfl (by exact Nat.le_refl _) (hb hby d9_8)
    have s8 : Steps p.tables e below A₀ (T7.setTop (mkF m 19 #[.val (.ref p0)] [(.int 0)])) := by
      refine s0.trans ?_
      refine XS.aloadN X0.here hx rfl (hb hby d9_0) rfl rfl ?_
      refine st5 _ ?_
      refine XS.aloadN X5.here hx rfl (hb hby d9_4) rfl rfl ?_
      refine st6 _ ?_
      refine st7 _ ?_
      refine XS.icmpYes X7.here hx rfl (pc0 := 11) (pc' := 18) rfl (hb hby d9_11) rfl (tlt hat).1 (by decide) (by decide) ?_
      refine XS.iconst X7.here hx rfl (hb hby d9_18) ?_
      exact Steps.refl _
    subst hA₀
    obtain ⟨fs, hr, hrun, hended, hW, hsame⟩ := X7.leave (v := some (.int 0)) (fun h => by rw [Bd.returns] at h; cases h)
    refine ⟨_, _, s8.trans ?_, hrun, hended, _, _, rfl, ?_, ⟨_, rfl⟩, hW, hsame.mono (by decide) (by decide)⟩
    · show Steps p.tables e below (T7.setTop (mkF m 19 #[.val (.ref p0)] [(.int 0)])) _
      exact retN X7 hx (t := .boolean) Bd.returns (by simp) (hb hby d9_19) hr
    · show Qate2_1 Z p0 wc ut b kb (4 : Int32) (1 : Int32) xs wa h0 n0 _ T7.heap _
      rw [e7]
      exact ⟨rfl, N7, rfl⟩
theorem pd_rmate2_0_0 : parseMethodDescriptor "()I" = some ⟨[], some .int⟩ := by decide +kernel
theorem ef_rmate2_0 (m : MethodId) (p0 : Addr) : entryFrame m #[(.ref p0)] 1 = mkF m 0 #[.val (.ref p0)] [] := by first | (simp [entryFrame, mkF, argsToLocals, Value.category]; done) | rfl
def Qate2_0 (Z : State) (p0 : Addr) (wc : Int32) (ut : Addr) (b : Addr) (kb : ClassId) (ln : Int32) (cd : Int32) (xs : List Int32) (wa : Int32) (h0 : Heap) (n0 : Nat) (v : Option Value) (h : Heap) (L : List Loc) : Prop := v = some (.int 1) ∧ Fr n0 L ∧ h = h0
set_option maxRecDepth 65536 in
set_option maxHeartbeats 40000000 in
theorem rmate2_0 (l : Launch) (Z : State) (a0 : Array Value) (hw : ∀ d ∈ tables_1, d.before a0 Z = true) (ws : List Jvm.Cond) (p0 : Addr) (wc : Int32) (ut : Addr) (b : Addr) (kb : ClassId) (ln : Int32) (cd : Int32) (xs : List Int32) (wa : Int32) (h0 : Heap) (n0 : Nat) (O0 : Old Z n0 h0) (F0_ : Fld Z h0 p0 "com/example/lintel/lintel/message/HeaderCursor" "at" "I" (.int wa)) (F1_ : Fld Z h0 p0 "com/example/lintel/lintel/message/HeaderCursor" "text" "Ljava/lang/String;" (.ref ut)) (F2_ : Exa Z h0 ut "java/lang/String") (F3_ : Fld Z h0 ut "java/lang/String" "value" "[B" (.ref b)) (F4_ : Fld Z h0 ut "java/lang/String" "coder" "B" (.int cd)) (F5_ : Arv Z h0 b kb .byte ln (xs.map Value.int) (.int 0)) (F6_ : Sta Z Z.heap "java/lang/String" "COMPACT_STRINGS" "Z" (.int wc)) (hcs : ¬ (wc = (0 : Int32))) (hv : (ln = (2 : Int32) ∧ cd = (0 : Int32)) ∨ (ln = (4 : Int32) ∧ cd = (1 : Int32))) (hat : ¬ (wa < (2 : Int32))) :
    MetFree l nm21 (head1 (Jvm.Cond.code nm21 prog_1_method_2_code 1 (some .boolean) :: ws) ({ frames := 2, cells := 0, slots := 0, locals := 26 } : Room)) (fun a U => a = #[(.ref p0)] ∧ Z.Warmed39 U.vm ∧ U.heap = h0) (fun _ _ _ _ _ => True) (fun _ U o U' => ∃ v L, o = .returned v ∧ Qate2_0 Z p0 wc ut b kb ln cd xs wa h0 n0 v U'.heap L ∧ FrameEnd U o U' L ({ frames := 2, cells := 0, slots := 0, locals := 26 } : Room).cells ({ frames := 2, cells := 0, slots := 0, locals := 26 } : Room).slots) := by
  refine MetFree.of_bodySF (plainFor_of_name pn_9) hisR ?_
  intro p e s m args below meth c s₁ Bd hml0 hP hK
  obtain ⟨rfl, hZ, hh⟩ := hP
  have hx := Bd.exec
  have hby := Bd.bytes
  have hml : c.maxLocals = 1 := hml0
  have hown : s.vm.findClass "com/example/lintel/lintel/message/HeaderCursor" = some m.cls := findClass_of_methodNamed Bd.named
  have X0 : Stand p l e ({ frames := 2, cells := 0, slots := 0, locals := 26 } : Room) s m #[(.ref p0)] below meth c s₁ [] 0 0 := Stand.of_body Bd
  have e0 : s₁.heap = h0 := by rw [← hh, Bd.state]; rfl
  have N0 := Fr.nil n0
  have s0 : Steps p.tables e below (s₁.setTop (entryFrame m #[(.ref p0)] 1)) (s₁.setTop (mkF m 0 #[.val (.ref p0)] [])) := castTop (ef_rmate2_0 m p0) (Steps.refl _)
  obtain ⟨A₀, hA₀⟩ : ∃ z, z = (s₁.setTop (entryFrame m #[(.ref p0)] 1)) := ⟨_, rfl⟩
  rw [← hA₀] at s0
  rcases hv with ⟨rfl, rfl⟩ | ⟨rfl, rfl⟩
  · obtain ⟨T1, X1, e1, st1⟩ := getF X0 hx hZ hown (host := "") (Or.inl (wq hw 53 rfl)) Via.refl e0 F0_ (g := (mkF m 1 #[.val (.ref p0)] [(.ref p0)])) rfl rfl (hb hby d9_1)
    obtain ⟨T2, X2, e2, st2⟩ := getF X1 hx hZ hown (host := "") (Or.inl (wq hw 44 rfl)) Via.refl e1 F1_ (g := (mkF m 5 #[.val (.ref p0)] [(.ref p0), (.int wa)])) rfl rfl (hb hby d9_5)
    obtain ⟨T3, L3, X3, e3, N3, st3⟩ := own_callVP X2 hx hZ hown (wk55 hw) (wk56 hw) (wk58 hw) (wk57 hw) (by decide) (wk6 hw) (wk59 hw) (rmll2_0 l Z a0 hw [] ut wc b kb xs h0 n0 O0 F2_ F3_ F4_ F5_ F6_ hcs) e2 N0 (W := 1) (by decide) (by decide) (by decide) (by decide) F2_ (g := (mkF m 8 #[.val (.ref p0)] [(.ref ut), (.int wa)])) rfl (by rw [hml]; rfl) (argsL := []) (rest := [(.int wa)]) (lenOf pd_rmate2_0_0 rfl) rfl (by exact Nat.le_refl _) (hb hby d9_8)
    have s4 : Steps p.tables e below A₀ (T3.setTop (mkF m 19 #[.val (.ref p0)] [(.int 1)])) := by
      refine s0.trans ?_
      refine XS.aloadN X0.here hx rfl (hb hby d9_0) rfl rfl ?_
      refine st1 _ ?_
      refine XS.aloadN X1.here hx rfl (hb hby d9_4) rfl rfl ?_
      refine st2 _ ?_
      refine st3 _ ?_
      refine XS.icmpNo X3.here hx rfl (hb hby d9_11) rfl (flt hat).1 ?_
      refine XS.iconst X3.here hx rfl (hb hby d9_14) ?_
      refine XS.goto X3.here hx rfl (pc0 := 15) (pc' := 19) rfl (hb hby d9_15) (by decide) (by decide) ?_
      exact Steps.refl _
    subst hA₀
    obtain ⟨fs, hr, hrun, hended, hW, hsame⟩ := X3.leave (v := some (.int 1)) (fun h => by rw [Bd.returns] at h; cases h)
    refine ⟨_, _, s4.trans ?_, hrun, hended, _, _, rfl, ?_, ⟨_, rfl⟩, hW, hsame.mono (by decide) (by decide)⟩
    · show Steps p.tables e below (T3.setTop (mkF m 19 #[.val (.ref p0)] [(.int 1)])) _
      exact retN X3 hx (t := .boolean) Bd.returns (by simp) (hb hby d9_19) hr
    · show Qate2_0 Z p0 wc ut b kb (2 : Int32) (0 : Int32) xs wa h0 n0 _ T3.heap _
      rw [e3]
      exact ⟨rfl, N3, rfl⟩
  · obtain ⟨T5, X5, e5, st5⟩ := getF X0 hx hZ hown (host := "") (Or.inl (wq hw 53 rfl)) Via.refl e0 F0_ (g := (mkF m 1 #[.val (.ref p0)] [(.ref p0)])) rfl rfl (hb hby d9_1)
    obtain ⟨T6, X6, e6, st6⟩ := getF X5 hx hZ hown (host := "") (Or.inl (wq hw 44 rfl)) Via.refl e5 F1_ (g := (mkF m 5 #[.val (.ref p0)] [(.ref p0), (.int wa)])) rfl rfl (hb hby d9_5)
    obtain ⟨T7, L7, X7, e7, N7, st7⟩ := own_callVP X6 hx hZ hown (wk55 hw) (wk56 hw) (wk58 hw) (wk57 hw) (by decide) (wk6 hw) (wk59 hw) (rmll2_1 l Z a0 hw [] ut wc b kb xs h0 n0 O0 F2_ F3_ F4_ F5_ F6_ hcs) e6 N0 (W := 1) (by decide) (by decide) (by decide) (by decide) F2_ (g := (mkF m 8 #[.val (.ref p0)] [(.ref ut), (.int wa)])) rfl (by rw [hml]; rfl) (argsL := []) (rest := [(.int wa)]) (lenOf pd_rmate2_0_0 rfl) rfl (by exact Nat.le_refl _) (hb hby d9_8)
    have s8 : Steps p.tables e below A₀ (T7.setTop (mkF m 19 #[.val (.ref p0)] [(.int 1)])) := by
      refine s0.trans ?_
      refine XS.aloadN X0.here hx rfl (hb hby d9_0) rfl rfl ?_
      refine st5 _ ?_
      refine XS.aloadN X5.here hx rfl (hb hby d9_4) rfl rfl ?_
      refine st6 _ ?_
      refine st7 _ ?_
      refine XS.icmpNo X7.here hx rfl (hb hby d9_11) rfl (flt hat).1 ?_
      refine XS.iconst X7.here hx rfl (hb hby d9_14) ?_
      refine XS.goto X7.here hx rfl (pc0 := 15) (pc' := 19) rfl (hb hby d9_15) (by decide) (by decide) ?_
      exact Steps.refl _
    subst hA₀
    obtain ⟨fs, hr, hrun, hended, hW, hsame⟩ := X7.leave (v := some (.int 1)) (fun h => by rw [Bd.returns] at h; cases h)
    refine ⟨_, _, s8.trans ?_, hrun, hended, _, _, rfl, ?_, ⟨_, rfl⟩, hW, hsame.mono (by decide) (by decide)⟩
    · show Steps p.tables e below (T7.setTop (mkF m 19 #[.val (.ref p0)] [(.int 1)])) _
      exact retN X7 hx (t := .boolean) Bd.returns (by simp) (hb hby d9_19) hr
    · show Qate2_0 Z p0 wc ut b kb (4 : Int32) (1 : Int32) xs wa h0 n0 _ T7.heap _
      rw [e7]
      exact ⟨rfl, N7, rfl⟩
theorem pd_rmnxt2_0_0 : parseMethodDescriptor "(I)C" = some ⟨[.int], some .char⟩ := by decide +kernel
theorem ef_rmnxt2_0 (m : MethodId) (p0 : Addr) : entryFrame m #[(.ref p0)] 1 = mkF m 0 #[.val (.ref p0)] [] := by first | (simp [entryFrame, mkF, argsToLocals, Value.category]; done) | rfl
def Qnxt2_0 (Z : State) (p0 : Addr) (wc : Int32) (ut : Addr) (b : Addr) (kb : ClassId) (ln : Int32) (cd : Int32) (xs : List Int32) (rg : Value) (h0 : Heap) (n0 : Nat) (v : Option Value) (h : Heap) (L : List Loc) : Prop := ∃ r : Int32, v = some (.int r) ∧ Fr n0 L ∧ Keep h0 h [p0] ∧ (Exa Z h p0 "com/example/lintel/lintel/message/HeaderCursor") ∧ (Fld Z h p0 "com/example/lintel/lintel/message/HeaderCursor" "at" "I" (.int 1)) ∧ (Fld Z h p0 "com/example/lintel/lintel/message/HeaderCursor" "text" "Ljava/lang/String;" (.ref ut))
set_option maxRecDepth 65536 in
set_option maxHeartbeats 40000000 in
theorem rmnxt2_0 (l : Launch) (Z : State) (a0 : Array Value) (hw : ∀ d ∈ tables_1, d.before a0 Z = true) (ws : List Jvm.Cond) (p0 : Addr) (wc : Int32) (ut : Addr) (b : Addr) (kb : ClassId) (ln : Int32) (cd : Int32) (xs : List Int32) (rg : Value) (h0 : Heap) (n0 : Nat) (O0 : Old Z n0 h0) (F0_ : Exa Z h0 p0 "com/example/lintel/lintel/message/HeaderCursor") (F1_ : n0 ≤ p0) (F2_ : p0 ≠ ut) (F3_ : p0 ≠ b) (F4_ : Fld Z h0 p0 "com/example/lintel/lintel/message/HeaderCursor" "at" "I" (.int 0)) (F5_ : Fld Z h0 p0 "com/example/lintel/lintel/message/HeaderCursor" "text" "Ljava/lang/String;" (.ref ut)) (F6_ : Exa Z h0 ut "java/lang/String") (F7_ : Fld Z h0 ut "java/lang/String" "value" "[B" (.ref b)) (F8_ : Fld Z h0 ut "java/lang/String" "coder" "B" (.int cd)) (F9_ : Arv Z h0 b kb .byte ln (xs.map Value.int) (.int 0)) (F10_ : Sta Z Z.heap "java/lang/String" "COMPACT_STRINGS" "Z" (.int wc)) (F11_ : Sta Z Z.heap "jdk/internal/util/Preconditions" "SIOOBE_FORMATTER" "Ljava/util/function/BiFunction;" rg) (F12_ : rg.isRef = true) (F13_ : Sta Z Z.heap "java/lang/StringUTF16" "$assertionsDisabled" "Z" (.int 1)) (F14_ : Sta Z Z.heap "java/lang/StringUTF16" "HI_BYTE_SHIFT" "I" (.int 0)) (F15_ : Sta Z Z.heap "java/lang/StringUTF16" "LO_BYTE_SHIFT" "I" (.int 8)) (hcs : ¬ (wc = (0 : Int32))) (hv : (ln = (2 : Int32) ∧ cd = (0 : Int32)) ∨ (ln = (4 : Int32) ∧ cd = (1 : Int32))) :
    MetFree l nm22 (head1 (Jvm.Cond.code nm22 prog_1_method_4_code 1 (some .char) :: ws) ({ frames := 5, cells := 0, slots := 0, locals := 66 } : Room)) (fun a U => a = #[(.ref p0)] ∧ Z.Warmed39 U.vm ∧ U.heap = h0) (fun _ _ _ _ _ => True) (fun _ U o U' => ∃ v L, o = .returned v ∧ Qnxt2_0 Z p0 wc ut b kb ln cd xs rg h0 n0 v U'.heap L ∧ FrameEnd U o U' L ({ frames := 5, cells := 0, slots := 0, locals := 66 } : Room).cells ({ frames := 5, cells := 0, slots := 0, locals := 66 } : Room).slots) := by
  refine MetFree.of_bodySF (plainFor_of_name pn_9) hisR ?_
  intro p e s m args below meth c s₁ Bd hml0 hP hK
  obtain ⟨rfl, hZ, hh⟩ := hP
  have hx := Bd.exec
  have hby := Bd.bytes
  have hml : c.maxLocals = 1 := hml0
  have hown : s.vm.findClass "com/example/lintel/lintel/message/HeaderCursor" = some m.cls := findClass_of_methodNamed Bd.named
  have X0 : Stand p l e ({ frames := 5, cells := 0, slots := 0, locals := 66 } : Room) s m #[(.ref p0)] below meth c s₁ [] 0 0 := Stand.of_body Bd
  have e0 : s₁.heap = h0 := by rw [← hh, Bd.state]; rfl
  have N0 := Fr.nil n0
  have s0 : Steps p.tables e below (s₁.setTop (entryFrame m #[(.ref p0)] 1)) (s₁.setTop (mkF m 0 #[.val (.ref p0)] [])) := castTop (ef_rmnxt2_0 m p0) (Steps.refl _)
  obtain ⟨A₀, hA₀⟩ : ∃ z, z = (s₁.setTop (entryFrame m #[(.ref p0)] 1)) := ⟨_, rfl⟩
  rw [← hA₀] at s0
  rcases hv with ⟨rfl, rfl⟩ | ⟨rfl, rfl⟩
  · obtain ⟨T1, X1, e1, st1⟩ := getF X0 hx hZ hown (host := "") (Or.inl (wq hw 44 rfl)) Via.refl e0 F5_ (g := (mkF m 1 #[.val (.ref p0)] [(.ref p0)])) rfl rfl (hb hby d19_1)
    obtain ⟨T2, X2, e2, st2⟩ := getF X1 hx hZ hown (host := "") (Or.inl (wq hw 53 rfl)) Via.refl e1 F4_ (g := (mkF m 6 #[.val (.ref p0)] [(.ref p0), (.ref p0), (.ref ut)])) rfl rfl (hb hby d19_6)
    obtain ⟨T3, h3, X3, e3, W3, st3⟩ := putF X2 hx hZ hown (host := "") (Or.inl (wq hw 53 rfl)) Via.refl e2 F4_ F0_ (Or.inl (wq hw 54 rfl)) (wq hw 35 rfl) (ty := .int) (by decide) rfl rfl (g := (mkF m 12 #[.val (.ref p0)] [(.int 1), (.ref p0), (.int 0), (.ref ut)])) rfl rfl (hb hby d19_12)
    have Fw3 := F4_.same W3
    have O3 := O0.wr W3 F1_
    have K3 : Keep h0 h3 [p0] := (Keep.refl h0 [p0]).wr W3 (Or.inl (List.mem_of_getElem? (i := 0) rfl))
    have N3 := Fr.snoc X3 N0 F1_
    have c4 : Exa Z h3 ut "java/lang/String" := (F6_.wr W3)
    have c5 : Fld Z h3 ut "java/lang/String" "value" "[B" (.ref b) := (F7_.other W3 (Or.inl (Ne.symm F2_)))
    have c6 : Fld Z h3 ut "java/lang/String" "coder" "B" (.int 0) := (F8_.other W3 (Or.inl (Ne.symm F2_)))
    have c7 : Arv Z h3 b kb .byte 2 (xs.map Value.int) (.int 0) := (F9_.other W3 (Ne.symm F3_))
    obtain ⟨cq8, kq8, q8a, q8b, q8c⟩ := isOf hZ e3 c4
    obtain ⟨_, _, ⟨T8, L8, k8, n8⟩, -, X8, ⟨Lc8, hQ8, l8, y8, z8⟩, st8⟩ := X3.virtualBack hx (y := (⟨"java/lang/String", "charAt", "(I)C"⟩ : MethodName)) (z := (⟨"java/lang/String", "charAt", "(I)C"⟩ : MethodName)) hown (mvT hZ (wq hw 99 rfl)) (mvT hZ (wq hw 100 rfl)) (notFace_of_selects (args := #[]) (mvT hZ (wq hw 102 rfl))) (mvT hZ (wq hw 102 rfl)) (mvT hZ (wq hw 101 rfl)) (by decide) (backOf (W := 0) (rmcha0 l Z a0 hw [] ut (0 : Int32) wc b kb (2 : Int32) xs rg h3 n0 O3 c4 c5 c6 c7 F10_ F11_ F12_ F13_ F14_ F15_ hcs (by decide) (by decide)) hZ (wq hw 103 rfl) (wq hw 6 rfl) (by decide) (by decide)) q8a q8c (g := (mkF m 15 #[.val (.ref p0)] [(.int 0), (.ref ut)])) rfl (by rw [hml]; rfl) (Steps.refl _) (argsL := [(.int 0)]) (rest := []) (lenOf pd_rmnxt2_0_0 rfl) rfl (by exact Nat.le_refl _) (hb hby d19_15) (fun _ _ => ⟨rfl, e3, (by decide : 0 + 0 ≤ _), (by decide : 0 + 0 ≤ _)⟩)
    dsimp only [Pt.U, Pt.locs, Pt.cells, Pt.slots] at X8 l8 y8 z8 st8 hQ8
    subst l8 y8 z8
    obtain ⟨u9, rfl, Nq8, e8⟩ := hQ8
    have N8 := Fr.app N3 Nq8
    have s10 : Steps p.tables e below A₀ (T8.setTop (mkF m 18 #[.val (.ref p0)] [(.int u9)])) := by
      refine s0.trans ?_
      refine XS.aloadN X0.here hx rfl (hb hby d19_0) rfl rfl ?_
      refine st1 _ ?_
      refine XS.aloadN X1.here hx rfl (hb hby d19_4) rfl rfl ?_
      refine XS.dup X1.here hx rfl (hb hby d19_5) rfl rfl ?_
      refine st2 _ ?_
      refine XS.dupX1 X2.here hx rfl (hb hby d19_9) rfl rfl rfl ?_
      refine XS.iconst X2.here hx rfl (hb hby d19_10) ?_
      refine XS.iadd X2.here hx rfl (hb hby d19_11) rfl ?_
      show Steps p.tables e below (T2.setTop (mkF m 12 #[.val (.ref p0)] [(.int 1), (.ref p0), (.int 0), (.ref ut)])) _
      refine st3 _ ?_
      refine st8.trans ?_
      exact Steps.refl _
    subst hA₀
    have c11 : Exa Z h3 p0 "com/example/lintel/lintel/message/HeaderCursor" := (F0_.wr W3)
    have c12 : Fld Z h3 p0 "com/example/lintel/lintel/message/HeaderCursor" "text" "Ljava/lang/String;" (.ref ut) := (F5_.other W3 (Or.inr (slot_ne (Or.inr (wq hw 45 rfl)) (Or.inl (wq hw 54 rfl)) (by decide) (t := (.object "java/lang/String")) (t' := .int) (by decide) (by decide))))
    obtain ⟨fs, hr, hrun, hended, hW, hsame⟩ := X8.leave (v := some (.int (nar .char u9))) (fun h => by rw [Bd.returns] at h; cases h)
    refine ⟨_, _, s10.trans ?_, hrun, hended, _, _, rfl, ?_, ⟨_, rfl⟩, hW, hsame.mono (by decide) (by decide)⟩
    · show Steps p.tables e below (T8.setTop (mkF m 18 #[.val (.ref p0)] [(.int u9)])) _
      exact retN X8 hx (t := .char) Bd.returns (by simp) (hb hby d19_18) hr
    · show Qnxt2_0 Z p0 wc ut b kb (2 : Int32) (0 : Int32) xs rg h0 n0 _ T8.heap _
      rw [e8]
      exact ⟨(nar .char u9), rfl, N8, K3, c11, Fw3, c12⟩
  · obtain ⟨T13, X13, e13, st13⟩ := getF X0 hx hZ hown (host := "") (Or.inl (wq hw 44 rfl)) Via.refl e0 F5_ (g := (mkF m 1 #[.val (.ref p0)] [(.ref p0)])) rfl rfl (hb hby d19_1)
    obtain ⟨T14, X14, e14, st14⟩ := getF X13 hx hZ hown (host := "") (Or.inl (wq hw 53 rfl)) Via.refl e13 F4_ (g := (mkF m 6 #[.val (.ref p0)] [(.ref p0), (.ref p0), (.ref ut)])) rfl rfl (hb hby d19_6)
    obtain ⟨T15, h15, X15, e15, W15, st15⟩ := putF X14 hx hZ hown (host := "") (Or.inl (wq hw 53 rfl)) Via.refl e14 F4_ F0_ (Or.inl (wq hw 54 rfl)) (wq hw 35 rfl) (ty := .int) (by decide) rfl rfl (g := (mkF m 12 #[.val (.ref p0)] [(.int 1), (.ref p0), (.int 0), (.ref ut)])) rfl rfl (hb hby d19_12)
    have Fw15 := F4_.same W15
    have O15 := O0.wr W15 F1_
    have K15 : Keep h0 h15 [p0] := (Keep.refl h0 [p0]).wr W15 (Or.inl (List.mem_of_getElem? (i := 0) rfl))
    have N15 := Fr.snoc X15 N0 F1_
    have c16 : Exa Z h15 ut "java/lang/String" := (F6_.wr W15)
    have c17 : Fld Z h15 ut "java/lang/String" "value" "[B" (.ref b) := (F7_.other W15 (Or.inl (Ne.symm F2_)))
    have c18 : Fld Z h15 ut "java/lang/String" "coder" "B" (.int 1) := (F8_.other W15 (Or.inl (Ne.symm F2_)))
    have c19 : Arv Z h15 b kb .byte 4 (xs.map Value.int) (.int 0) := (F9_.other W15 (Ne.symm F3_))
    obtain ⟨cq20, kq20, q20a, q20b, q20c⟩ := isOf hZ e15 c16
    obtain ⟨_, _, ⟨T20, L20, k20, n20⟩, -, X20, ⟨Lc20, hQ20, l20, y20, z20⟩, st20⟩ := X15.virtualBack hx (y := (⟨"java/lang/String", "charAt", "(I)C"⟩ : MethodName)) (z := (⟨"java/lang/String", "charAt", "(I)C"⟩ : MethodName)) hown (mvT hZ (wq hw 99 rfl)) (mvT hZ (wq hw 100 rfl)) (notFace_of_selects (args := #[]) (mvT hZ (wq hw 102 rfl))) (mvT hZ (wq hw 102 rfl)) (mvT hZ (wq hw 101 rfl)) (by decide) (backOf (W := 0) (rmcha1 l Z a0 hw [] ut (0 : Int32) wc b kb (4 : Int32) xs rg h15 n0 O15 c16 c17 c18 c19 F10_ F11_ F12_ F13_ F14_ F15_ hcs (by decide) (by decide) ⟨by decide, by decide⟩ ⟨by decide, by decide⟩) hZ (wq hw 103 rfl) (wq hw 6 rfl) (by decide) (by decide)) q20a q20c (g := (mkF m 15 #[.val (.ref p0)] [(.int 0), (.ref ut)])) rfl (by rw [hml]; rfl) (Steps.refl _) (argsL := [(.int 0)]) (rest := []) (lenOf pd_rmnxt2_0_0 rfl) rfl (by exact Nat.le_refl _) (hb hby d19_15) (fun _ _ => ⟨rfl, e15, (by decide : 0 + 0 ≤ _), (by decide : 0 + 0 ≤ _)⟩)
    dsimp only [Pt.U, Pt.locs, Pt.cells, Pt.slots] at X20 l20 y20 z20 st20 hQ20
    subst l20 y20 z20
    obtain ⟨u21, rfl, Nq20, e20⟩ := hQ20
    have N20 := Fr.app N15 Nq20
    have s22 : Steps p.tables e below A₀ (T20.setTop (mkF m 18 #[.val (.ref p0)] [(.int u21)])) := by
      refine s0.trans ?_
      refine XS.aloadN X0.here hx rfl (hb hby d19_0) rfl rfl ?_
      refine st13 _ ?_
      refine XS.aloadN X13.here hx rfl (hb hby d19_4) rfl rfl ?_
      refine XS.dup X13.here hx rfl (hb hby d19_5) rfl rfl ?_
      refine st14 _ ?_
      refine XS.dupX1 X14.here hx rfl (hb hby d19_9) rfl rfl rfl ?_
      refine XS.iconst X14.here hx rfl (hb hby d19_10) ?_
      refine XS.iadd X14.here hx rfl (hb hby d19_11) rfl ?_
      show Steps p.tables e below (T14.setTop (mkF m 12 #[.val (.ref p0)] [(.int 1), (.ref p0), (.int 0), (.ref ut)])) _
      refine st15 _ ?_
      refine st20.trans ?_
      exact Steps.refl _
    subst hA₀
    have c23 : Exa Z h15 p0 "com/example/lintel/lintel/message/HeaderCursor" := (F0_.wr W15)
    have c24 : Fld Z h15 p0 "com/example/lintel/lintel/message/HeaderCursor" "text" "Ljava/lang/String;" (.ref ut) := (F5_.other W15 (Or.inr (slot_ne (Or.inr (wq hw 45 rfl)) (Or.inl (wq hw 54 rfl)) (by decide) (t := (.object "java/lang/String")) (t' := .int) (by decide) (by decide))))
    obtain ⟨fs, hr, hrun, hended, hW, hsame⟩ := X20.leave (v := some (.int (nar .char u21))) (fun h => by rw [Bd.returns] at h; cases h)
    refine ⟨_, _, s22.trans ?_, hrun, hended, _, _, rfl, ?_, ⟨_, rfl⟩, hW, hsame.mono (by decide) (by decide)⟩
    · show Steps p.tables e below (T20.setTop (mkF m 18 #[.val (.ref p0)] [(.int u21)])) _
      exact retN X20 hx (t := .char) Bd.returns (by simp) (hb hby d19_18) hr
    · show Qnxt2_0 Z p0 wc ut b kb (4 : Int32) (1 : Int32) xs rg h0 n0 _ T20.heap _
      rw [e20]
      exact ⟨(nar .char u21), rfl, N20, K15, c23, Fw15, c24⟩
theorem pd_rmnxt2_1_0 : parseMethodDescriptor "(I)C" = some ⟨[.int], some .char⟩ := by decide +kernel
theorem ef_rmnxt2_1 (m : MethodId) (p0 : Addr) : entryFrame m #[(.ref p0)] 1 = mkF m 0 #[.val (.ref p0)] [] := by first | (simp [entryFrame, mkF, argsToLocals, Value.category]; done) | rfl
def Qnxt2_1 (Z : State) (p0 : Addr) (wc : Int32) (ut : Addr) (b : Addr) (kb : ClassId) (ln : Int32) (cd : Int32) (xs : List Int32) (rg : Value) (h0 : Heap) (n0 : Nat) (v : Option Value) (h : Heap) (L : List Loc) : Prop := ∃ r : Int32, v = some (.int r) ∧ Fr n0 L ∧ Keep h0 h [p0] ∧ (Exa Z h p0 "com/example/lintel/lintel/message/HeaderCursor") ∧ (Fld Z h p0 "com/example/lintel/lintel/message/HeaderCursor" "at" "I" (.int 2)) ∧ (Fld Z h p0 "com/example/lintel/lintel/message/HeaderCursor" "text" "Ljava/lang/String;" (.ref ut))
set_option maxRecDepth 65536 in
set_option maxHeartbeats 40000000 in
theorem rmnxt2_1 (l : Launch) (Z : State) (a0 : Array Value) (hw : ∀ d ∈ tables_1, d.before a0 Z = true) (ws : List Jvm.Cond) (p0 : Addr) (wc : Int32) (ut : Addr) (b : Addr) (kb : ClassId) (ln : Int32) (cd : Int32) (xs : List Int32) (rg : Value) (h0 : Heap) (n0 : Nat) (O0 : Old Z n0 h0) (F0_ : Exa Z h0 p0 "com/example/lintel/lintel/message/HeaderCursor") (F1_ : n0 ≤ p0) (F2_ : p0 ≠ ut) (F3_ : p0 ≠ b) (F4_ : Fld Z h0 p0 "com/example/lintel/lintel/message/HeaderCursor" "at" "I" (.int 1)) (F5_ : Fld Z h0 p0 "com/example/lintel/lintel/message/HeaderCursor" "text" "Ljava/lang/String;" (.ref ut)) (F6_ : Exa Z h0 ut "java/lang/String") (F7_ : Fld Z h0 ut "java/lang/String" "value" "[B" (.ref b)) (F8_ : Fld Z h0 ut "java/lang/String" "coder" "B" (.int cd)) (F9_ : Arv Z h0 b kb .byte ln (xs.map Value.int) (.int 0)) (F10_ : Sta Z Z.heap "java/lang/String" "COMPACT_STRINGS" "Z" (.int wc)) (F11_ : Sta Z Z.heap "jdk/internal/util/Preconditions" "SIOOBE_FORMATTER" "Ljava/util/function/BiFunction;" rg) (F12_ : rg.isRef = true) (F13_ : Sta Z Z.heap "java/lang/StringUTF16" "$assertionsDisabled" "Z" (.int 1)) (F14_ : Sta Z Z.heap "java/lang/StringUTF16" "HI_BYTE_SHIFT" "I" (.int 0)) (F15_ : Sta Z Z.heap "java/lang/StringUTF16" "LO_BYTE_SHIFT" "I" (.int 8)) (hcs : ¬ (wc = (0 : Int32))) (hv : (ln = (2 : Int32) ∧ cd = (0 : Int32)) ∨ (ln = (4 : Int32) ∧ cd = (1 : Int32))) :
    MetFree l nm22 (head1 (Jvm.Cond.code nm22 prog_1_method_4_code 1 (some .char) :: ws) ({ frames := 5, cells := 0, slots := 0, locals := 66 } : Room)) (fun a U => a = #[(.ref p0)] ∧ Z.Warmed39 U.vm ∧ U.heap = h0) (fun _ _ _ _ _ => True) (fun _ U o U' => ∃ v L, o = .returned v ∧ Qnxt2_1 Z p0 wc ut b kb ln cd xs rg h0 n0 v U'.heap L ∧ FrameEnd U o U' L ({ frames := 5, cells := 0, slots := 0, locals := 66 } : Room).cells ({ frames := 5, cells := 0, slots := 0, locals := 66 } : Room).slots) := by
  refine MetFree.of_bodySF (plainFor_of_name pn_9) hisR ?_
  intro p e s m args below meth c s₁ Bd hml0 hP hK
  obtain ⟨rfl, hZ, hh⟩ := hP
  have hx := Bd.exec
  have hby := Bd.bytes
  have hml : c.maxLocals = 1 := hml0
  have hown : s.vm.findClass "com/example/lintel/lintel/message/HeaderCursor" = some m.cls := findClass_of_methodNamed Bd.named
  have X0 : Stand p l e ({ frames := 5, cells := 0, slots := 0, locals := 66 } : Room) s m #[(.ref p0)] below meth c s₁ [] 0 0 := Stand.of_body Bd
  have e0 : s₁.heap = h0 := by rw [← hh, Bd.state]; rfl
  have N0 := Fr.nil n0
  have s0 : Steps p.tables e below (s₁.setTop (entryFrame m #[(.ref p0)] 1)) (s₁.setTop (mkF m 0 #[.val (.ref p0)] [])) := castTop (ef_rmnxt2_1 m p0) (Steps.refl _)
  obtain ⟨A₀, hA₀⟩ : ∃ z, z = (s₁.setTop (entryFrame m #[(.ref p0)] 1)) := ⟨_, rfl⟩
  rw [← hA₀] at s0
  rcases hv with ⟨rfl, rfl⟩ | ⟨rfl, rfl⟩
  · obtain ⟨T1, X1, e1, st1⟩ := getF X0 hx hZ hown (host := "") (Or.inl (wq hw 44 rfl)) Via.refl e0 F5_ (g := (mkF m 1 #[.val (.ref p0)] [(.ref p0)])) rfl rfl (hb hby d19_1)
    obtain ⟨T2, X2, e2, st2⟩ := getF X1 hx hZ hown (host := "") (Or.inl (wq hw 53 rfl)) Via.refl e1 F4_ (g := (mkF m 6 #[.val (.ref p0)] [(.ref p0), (.ref p0), (.ref ut)])) rfl rfl (hb hby d19_6)
    obtain ⟨T3, h3, X3, e3, W3, st3⟩ := putF X2 hx hZ hown (host := "") (Or.inl (wq hw 53 rfl)) Via.refl e2 F4_ F0_ (Or.inl (wq hw 54 rfl)) (wq hw 35 rfl) (ty := .int) (by decide) rfl rfl (g := (mkF m 12 #[.val (.ref p0)] [(.int 2), (.ref p0), (.int 1), (.ref ut)])) rfl rfl (hb hby d19_12)
    have Fw3 := F4_.same W3
    have O3 := O0.wr W3 F1_
    have K3 : Keep h0 h3 [p0] := (Keep.refl h0 [p0]).wr W3 (Or.inl (List.mem_of_getElem? (i := 0) rfl))
    have N3 := Fr.snoc X3 N0 F1_
    have c4 : Exa Z h3 ut "java/lang/String" := (F6_.wr W3)
    have c5 : Fld Z h3 ut "java/lang/String" "value" "[B" (.ref b) := (F7_.other W3 (Or.inl (Ne.symm F2_)))
    have c6 : Fld Z h3 ut "java/lang/String" "coder" "B" (.int 0) := (F8_.other W3 (Or.inl (Ne.symm F2_)))
    have c7 : Arv Z h3 b kb .byte 2 (xs.map Value.int) (.int 0) := (F9_.other W3 (Ne.symm F3_))
    obtain ⟨cq8, kq8, q8a, q8b, q8c⟩ := isOf hZ e3 c4
    obtain ⟨_, _, ⟨T8, L8, k8, n8⟩, -, X8, ⟨Lc8, hQ8, l8, y8, z8⟩, st8⟩ := X3.virtualBack hx (y := (⟨"java/lang/String", "charAt", "(I)C"⟩ : MethodName)) (z := (⟨"java/lang/String", "charAt", "(I)C"⟩ : MethodName)) hown (mvT hZ (wq hw 99 rfl)) (mvT hZ (wq hw 100 rfl)) (notFace_of_selects (args := #[]) (mvT hZ (wq hw 102 rfl))) (mvT hZ (wq hw 102 rfl)) (mvT hZ (wq hw 101 rfl)) (by decide) (backOf (W := 0) (rmcha0 l Z a0 hw [] ut (1 : Int32) wc b kb (2 : Int32) xs rg h3 n0 O3 c4 c5 c6 c7 F10_ F11_ F12_ F13_ F14_ F15_ hcs (by decide) (by decide)) hZ (wq hw 103 rfl) (wq hw 6 rfl) (by decide) (by decide)) q8a q8c (g := (mkF m 15 #[.val (.ref p0)] [(.int 1), (.ref ut)])) rfl (by rw [hml]; rfl) (Steps.refl _) (argsL := [(.int 1)]) (rest := []) (lenOf pd_rmnxt2_1_0 rfl) rfl (by exact Nat.le_refl _) (hb hby d19_15) (fun _ _ => ⟨rfl, e3, (by decide : 0 + 0 ≤ _), (by decide : 0 + 0 ≤ _)⟩)
    dsimp only [Pt.U, Pt.locs, Pt.cells, Pt.slots] at X8 l8 y8 z8 st8 hQ8
    subst l8 y8 z8
    obtain ⟨u9, rfl, Nq8, e8⟩ := hQ8
    have N8 := Fr.app N3 Nq8
    have s10 : Steps p.tables e below A₀ (T8.setTop (mkF m 18 #[.val (.ref p0)] [(.int u9)])) := by
      refine s0.trans ?_
      refine XS.aloadN X0.here hx rfl (hb hby d19_0) rfl rfl ?_
      refine st1 _ ?_
      refine XS.aloadN X1.here hx rfl (hb hby d19_4) rfl rfl ?_
      refine XS.dup X1.here hx rfl (hb hby d19_5) rfl rfl ?_
      refine st2 _ ?_
      refine XS.dupX1 X2.here hx rfl (hb hby d19_9) rfl rfl rfl ?_
      refine XS.iconst X2.here hx rfl (hb hby d19_10) ?_
      refine XS.iadd X2.here hx rfl (hb hby d19_11) rfl ?_
      show Steps p.tables e below (T2.setTop (mkF m 12 #[.val (.ref p0)] [(.int 2), (.ref p0), (.int 1), (.ref ut)])) _
      refine st3 _ ?_
      refine st8.trans ?_
      exact Steps.refl _
    subst hA₀
    have c11 : Exa Z h3 p0 "com/example/lintel/lintel/message/HeaderCursor" := (F0_.wr W3)
    have c12 : Fld Z h3 p0 "com/example/lintel/lintel/message/HeaderCursor" "text" "Ljava/lang/String;" (.ref ut) := (F5_.other W3 (Or.inr (slot_ne (Or.inr (wq hw 45 rfl)) (Or.inl (wq hw 54 rfl)) (by decide) (t := (.object "java/lang/String")) (t' := .int) (by decide) (by decide))))
    obtain ⟨fs, hr, hrun, hended, hW, hsame⟩ := X8.leave (v := some (.int (nar .char u9))) (fun h => by rw [Bd.returns] at h; cases h)
    refine ⟨_, _, s10.trans ?_, hrun, hended, _, _, rfl, ?_, ⟨_, rfl⟩, hW, hsame.mono (by decide) (by decide)⟩
    · show Steps p.tables e below (T8.setTop (mkF m 18 #[.val (.ref p0)] [(.int u9)])) _
      exact retN X8 hx (t := .char) Bd.returns (by simp) (hb hby d19_18) hr
    · show Qnxt2_1 Z p0 wc ut b kb (2 : Int32) (0 : Int32) xs rg h0 n0 _ T8.heap _
      rw [e8]
      exact ⟨(nar .char u9), rfl, N8, K3, c11, Fw3, c12⟩
  · obtain ⟨T13, X13, e13, st13⟩ := getF X0 hx hZ hown (host := "") (Or.inl (wq hw 44 rfl)) Via.refl e0 F5_ (g := (mkF m 1 #[.val (.ref p0)] [(.ref p0)])) rfl rfl (hb hby d19_1)
    obtain ⟨T14, X14, e14, st14⟩ := getF X13 hx hZ hown (host := "") (Or.inl (wq hw 53 rfl)) Via.refl e13 F4_ (g := (mkF m 6 #[.val (.ref p0)] [(.ref p0), (.ref p0), (.ref ut)])) rfl rfl (hb hby d19_6)
    obtain ⟨T15, h15, X15, e15, W15, st15⟩ := putF X14 hx hZ hown (host := "") (Or.inl (wq hw 53 rfl)) Via.refl e14 F4_ F0_ (Or.inl (wq hw 54 rfl)) (wq hw 35 rfl) (ty := .int) (by decide) rfl rfl (g := (mkF m 12 #[.val (.ref p0)] [(.int 2), (.ref p0), (.int 1), (.ref ut)])) rfl rfl (hb hby d19_12)
    have Fw15 := F4_.same W15
    have O15 := O0.wr W15 F1_
    have K15 : Keep h0 h15 [p0] := (Keep.refl h0 [p0]).wr W15 (Or.inl (List.mem_of_getElem? (i := 0) rfl))
    have N15 := Fr.snoc X15 N0 F1_
    have c16 : Exa Z h15 ut "java/lang/String" := (F6_.wr W15)
    have c17 : Fld Z h15 ut "java/lang/String" "value" "[B" (.ref b) := (F7_.other W15 (Or.inl (Ne.symm F2_)))
    have c18 : Fld Z h15 ut "java/lang/String" "coder" "B" (.int 1) := (F8_.other W15 (Or.inl (Ne.symm F2_)))
    have c19 : Arv Z h15 b kb .byte 4 (xs.map Value.int) (.int 0) := (F9_.other W15 (Ne.symm F3_))
    obtain ⟨cq20, kq20, q20a, q20b, q20c⟩ := isOf hZ e15 c16
    obtain ⟨_, _, ⟨T20, L20, k20, n20⟩, -, X20, ⟨Lc20, hQ20, l20, y20, z20⟩, st20⟩ := X15.virtualBack hx (y := (⟨"java/lang/String", "charAt", "(I)C"⟩ : MethodName)) (z := (⟨"java/lang/String", "charAt", "(I)C"⟩ : MethodName)) hown (mvT hZ (wq hw 99 rfl)) (mvT hZ (wq hw 100 rfl)) (notFace_of_selects (args := #[]) (mvT hZ (wq hw 102 rfl))) (mvT hZ (wq hw 102 rfl)) (mvT hZ (wq hw 101 rfl)) (by decide) (backOf (W := 0) (rmcha1 l Z a0 hw [] ut (1 : Int32) wc b kb (4 : Int32) xs rg h15 n0 O15 c16 c17 c18 c19 F10_ F11_ F12_ F13_ F14_ F15_ hcs (by decide) (by decide) ⟨by decide, by decide⟩ ⟨by decide, by decide⟩) hZ (wq hw 103 rfl) (wq hw 6 rfl) (by decide) (by decide)) q20a q20c (g := (mkF m 15 #[.val (.ref p0)] [(.int 1), (.ref ut)])) rfl (by rw [hml]; rfl) (Steps.refl _) (argsL := [(.int 1)]) (rest := []) (lenOf pd_rmnxt2_1_0 rfl) rfl (by exact Nat.le_refl _) (hb hby d19_15) (fun _ _ => ⟨rfl, e15, (by decide : 0 + 0 ≤ _), (by decide : 0 + 0 ≤ _)⟩)
    dsimp only [Pt.U, Pt.locs, Pt.cells, Pt.slots] at X20 l20 y20 z20 st20 hQ20
    subst l20 y20 z20
    obtain ⟨u21, rfl, Nq20, e20⟩ := hQ20
    have N20 := Fr.app N15 Nq20
    have s22 : Steps p.tables e below A₀ (T20.setTop (mkF m 18 #[.val (.ref p0)] [(.int u21)])) := by
      refine s0.trans ?_
      refine XS.aloadN X0.here hx rfl (hb hby d19_0) rfl rfl ?_
      refine st13 _ ?_
      refine XS.aloadN X13.here hx rfl (hb hby d19_4) rfl rfl ?_
      refine XS.dup X13.here hx rfl (hb hby d19_5) rfl rfl ?_
      refine st14 _ ?_
      refine XS.dupX1 X14.here hx rfl (hb hby d19_9) rfl rfl rfl ?_
      refine XS.iconst X14.here hx rfl (hb hby d19_10) ?_
      refine XS.iadd X14.here hx rfl (hb hby d19_11) rfl ?_
      show Steps p.tables e below (T14.setTop (mkF m 12 #[.val (.ref p0)] [(.int 2), (.ref p0), (.int 1), (.ref ut)])) _
      refine st15 _ ?_
      refine st20.trans ?_
      exact Steps.refl _
    subst hA₀
    have c23 : Exa Z h15 p0 "com/example/lintel/lintel/message/HeaderCursor" := (F0_.wr W15)
    have c24 : Fld Z h15 p0 "com/example/lintel/lintel/message/HeaderCursor" "text" "Ljava/lang/String;" (.ref ut) := (F5_.other W15 (Or.inr (slot_ne (Or.inr (wq hw 45 rfl)) (Or.inl (wq hw 54 rfl)) (by decide) (t := (.object "java/lang/String")) (t' := .int) (by decide) (by decide))))
    obtain ⟨fs, hr, hrun, hended, hW, hsame⟩ := X20.leave (v := some (.int (nar .char u21))) (fun h => by rw [Bd.returns] at h; cases h)
    refine ⟨_, _, s22.trans ?_, hrun, hended, _, _, rfl, ?_, ⟨_, rfl⟩, hW, hsame.mono (by decide) (by decide)⟩
    · show Steps p.tables e below (T20.setTop (mkF m 18 #[.val (.ref p0)] [(.int u21)])) _
      exact retN X20 hx (t := .char) Bd.returns (by simp) (hb hby d19_18) hr
    · show Qnxt2_1 Z p0 wc ut b kb (4 : Int32) (1 : Int32) xs rg h0 n0 _ T20.heap _
      rw [e20]
      exact ⟨(nar .char u21), rfl, N20, K15, c23, Fw15, c24⟩
theorem pd_rmate3_1_0 : parseMethodDescriptor "()I" = some ⟨[], some .int⟩ := by decide +kernel
theorem ef_rmate3_1 (m : MethodId) (p0 : Addr) : entryFrame m #[(.ref p0)] 1 = mkF m 0 #[.val (.ref p0)] [] := by first | (simp [entryFrame, mkF, argsToLocals, Value.category]; done) | rfl
def Qate3_1 (Z : State) (p0 : Addr) (wc : Int32) (ut : Addr) (b : Addr) (kb : ClassId) (ln : Int32) (cd : Int32) (xs : List Int32) (wa : Int32) (h0 : Heap) (n0 : Nat) (v : Option Value) (h : Heap) (L : List Loc) : Prop := v = some (.int 0) ∧ Fr n0 L ∧ h = h0
set_option maxRecDepth 65536 in
set_option maxHeartbeats 40000000 in
theorem rmate3_1 (l : Launch) (Z : State) (a0 : Array Value) (hw : ∀ d ∈ tables_1, d.before a0 Z = true) (ws : List Jvm.Cond) (p0 : Addr) (wc : Int32) (ut : Addr) (b : Addr) (kb : ClassId) (ln : Int32) (cd : Int32) (xs : List Int32) (wa : Int32) (h0 : Heap) (n0 : Nat) (O0 : Old Z n0 h0) (F0_ : Fld Z h0 p0 "com/example/lintel/lintel/message/HeaderCursor" "at" "I" (.int wa)) (F1_ : Fld Z h0 p0 "com/example/lintel/lintel/message/HeaderCursor" "text" "Ljava/lang/String;" (.ref ut)) (F2_ : Exa Z h0 ut "java/lang/String") (F3_ : Fld Z h0 ut "java/lang/String" "value" "[B" (.ref b)) (F4_ : Fld Z h0 ut "java/lang/String" "coder" "B" (.int cd)) (F5_ : Arv Z h0 b kb .byte ln (xs.map Value.int) (.int 0)) (F6_ : Sta Z Z.heap "java/lang/String" "COMPACT_STRINGS" "Z" (.int wc)) (hcs : ¬ (wc = (0 : Int32))) (hv : (ln = (3 : Int32) ∧ cd = (0 : Int32)) ∨ (ln = (6 : Int32) ∧ cd = (1 : Int32))) (hat : wa < (3 : Int32)) :
    MetFree l nm21 (head1 (Jvm.Cond.code nm21 prog_1_method_2_code 1 (some .boolean) :: ws) ({ frames := 2, cells := 0, slots := 0, locals := 26 } : Room)) (fun a U => a = #[(.ref p0)] ∧ Z.Warmed39 U.vm ∧ U.heap = h0) (fun _ _ _ _ _ => True) (fun _ U o U' => ∃ v L, o = .returned v ∧ Qate3_1 Z p0 wc ut b kb ln cd xs wa h0 n0 v U'.heap L ∧ FrameEnd U o U' L ({ frames := 2, cells := 0, slots := 0, locals := 26 } : Room).cells ({ frames := 2, cells := 0, slots := 0, locals := 26 } : Room).slots) := by
  refine MetFree.of_bodySF (plainFor_of_name pn_9) hisR ?_
  intro p e s m args below meth c s₁ Bd hml0 hP hK
  obtain ⟨rfl, hZ, hh⟩ := hP
  have hx := Bd.exec
  have hby := Bd.bytes
  have hml : c.maxLocals = 1 := hml0
  have hown : s.vm.findClass "com/example/lintel/lintel/message/HeaderCursor" = some m.cls := findClass_of_methodNamed Bd.named
  have X0 : Stand p l e ({ frames := 2, cells := 0, slots := 0, locals := 26 } : Room) s m #[(.ref p0)] below meth c s₁ [] 0 0 := Stand.of_body Bd
  have e0 : s₁.heap = h0 := by rw [← hh, Bd.state]; rfl
  have N0 := Fr.nil n0
  have s0 : Steps p.tables e below (s₁.setTop (entryFrame m #[(.ref p0)] 1)) (s₁.setTop (mkF m 0 #[.val (.ref p0)] [])) := castTop (ef_rmate3_1 m p0) (Steps.refl _)
  obtain ⟨A₀, hA₀⟩ : ∃ z, z = (s₁.setTop (entryFrame m #[(.ref p0)] 1)) := ⟨_, rfl⟩
  rw [← hA₀] at s0
  rcases hv with ⟨rfl, rfl⟩ | ⟨rfl, rfl⟩
  · obtain ⟨T1, X1, e1, st1⟩ := getF X0 hx hZ hown (host := "") (Or.inl (wq hw 53 rfl)) Via.refl e0 F0_ (g := (mkF m 1 #[.val (.ref p0)] [(.ref p0)])) rfl rfl (hb hby d9_1)
    obtain ⟨T2, X2, e2, st2⟩ := getF X1 hx hZ hown (host := "") (Or.inl (wq hw 44 rfl)) Via.refl e1 F1_ (g := (mkF m 5 #[.val (.ref p0)] [(.ref p0), (.int wa)])) rfl rfl (hb hby d9_5)
    obtain ⟨T3, L3, X3, e3, N3, st3⟩ := own_callVP X2 hx hZ hown (wk55 hw) (wk56 hw) (wk58 hw) (wk57 hw) (by decide) (wk6 hw) (wk59 hw) (rmll3_0 l Z a0 hw [] ut wc b kb xs h0 n0 O0 F2_ F3_ F4_ F5_ F6_ hcs) e2 N0 (W := 1) (by decide) (by decide) (by decide) (by decide) F2_ (g := (mkF m 8 #[.val (.ref p0)] [(.ref ut), (.int wa)])) rfl (by rw [hml]; rfl) (argsL := []) (rest := [(.int wa)]) (lenOf pd_rmate3_1_0 rfl) rfl (by exact Nat.le_refl _) (hb hby d9_8)
    have s4 : Steps p.tables e below A₀ (T3.setTop (mkF m 19 #[.val (.ref p0)] [(.int 0)])) := by
      refine s0.trans ?_
      refine XS.aloadN X0.here hx rfl (hb hby d9_0) rfl rfl ?_
      refine st1 _ ?_
      refine XS.aloadN X1.here hx rfl (hb hby d9_4) rfl rfl ?_
      refine st2 _ ?_
      refine st3 _ ?_
      refine XS.icmpYes X3.here hx rfl (pc0 := 11) (pc' := 18) rfl (hb hby d9_11) rfl (tlt hat).1 (by decide) (by decide) ?_
      refine XS.iconst X3.here hx rfl (hb hby d9_18) ?_
      exact Steps.refl _
    subst hA₀
    obtain ⟨fs, hr, hrun, hended, hW, hsame⟩ := X3.leave (v := some (.int 0)) (fun h => by rw [Bd.returns] at h; cases h)
    refine ⟨_, _, s4.trans ?_, hrun, hended, _, _, rfl, ?_, ⟨_, rfl⟩, hW, hsame.mono (by decide) (by decide)⟩
    · show Steps p.tables e below (T3.setTop (mkF m 19 #[.val (.ref p0)] [(.int 0)])) _
      exact retN X3 hx (t := .boolean) Bd.returns (by simp) (hb hby d9_19) hr
    · show Qate3_1 Z p0 wc ut b kb (3 : Int32) (0 : Int32) xs wa h0 n0 _ T3.heap _
      rw [e3]
      exact ⟨rfl, N3, rfl⟩
  · obtain ⟨T5, X5, e5, st5⟩ := getF X0 hx hZ hown (host := "") (Or.inl (wq hw 53 rfl)) Via.refl e0 F0_ (g := (mkF m 1 #[.val (.ref p0)] [(.ref p0)])) rfl rfl (hb hby d9_1)
    obtain ⟨T6, X6, e6, st6⟩ := getF X5 hx hZ hown (host := "") (Or.inl (wq hw 44 rfl)) Via.refl e5 F1_ (g := (mkF m 5 #[.val (.ref p0)] [(.ref p0), (.int wa)])) rfl rfl (hb hby d9_5)
    obtain ⟨T7, L7, X7, e7, N7, st7⟩ := own_callVP X6 hx hZ hown (wk55 hw) (wk56 hw) (wk58 hw) (wk57 hw) (by decide) (wk6 hw) (wk59 hw) (rmll3_1 l Z a0 hw [] ut wc b kb xs h0 n0 O0 F2_ F3_ F4_ F5_ F6_ hcs) e6 N0 (W := 1) (by decide) (by decide) (by decide) (by decide) F2_ (g := (mkF m 8 #[.val (.ref p0)] [(.ref ut), (.int wa)])) rfl (by rw [hml]; rfl) (argsL := []) (rest := [(.int wa)]) (lenOf pd_rmate3_1_0 rfl) rfl (by exact Nat.le_refl _) (hb hby d9_8)
    have s8 : Steps p.tables e below A₀ (T7.setTop (mkF m 19 #[.val (.ref p0)] [(.int 0)])) := by
      refine s0.trans ?_
      refine XS.aloadN X0.here hx rfl (hb hby d9_0) rfl rfl ?_
      refine st5 _ ?_
      refine XS.aloadN X5.here hx rfl (hb hby d9_4) rfl rfl ?_
      refine st6 _ ?_
      refine st7 _ ?_
      refine XS.icmpYes X7.here hx rfl (pc0 := 11) (pc' := 18) rfl (hb hby d9_11) rfl (tlt hat).1 (by decide) (by decide) ?_
      refine XS.iconst X7.here hx rfl (hb hby d9_18) ?_
      exact Steps.refl _
    subst hA₀
    obtain ⟨fs, hr, hrun, hended, hW, hsame⟩ := X7.leave (v := some (.int 0)) (fun h => by rw [Bd.returns] at h; cases h)
    refine ⟨_, _, s8.trans ?_, hrun, hended, _, _, rfl, ?_, ⟨_, rfl⟩, hW, hsame.mono (by decide) (by decide)⟩
    · show Steps p.tables e below (T7.setTop (mkF m 19 #[.val (.ref p0)] [(.int 0)])) _
      exact retN X7 hx (t := .boolean) Bd.returns (by simp) (hb hby d9_19) hr
    · show Qate3_1 Z p0 wc ut b kb (6 : Int32) (1 : Int32) xs wa h0 n0 _ T7.heap _
      rw [e7]
      exact ⟨rfl, N7, rfl⟩
theorem pd_rmate3_0_0 : parseMethodDescriptor "()I" = some ⟨[], some .int⟩ := by decide +kernel
theorem ef_rmate3_0 (m : MethodId) (p0 : Addr) : entryFrame m #[(.ref p0)] 1 = mkF m 0 #[.val (.ref p0)] [] := by first | (simp [entryFrame, mkF, argsToLocals, Value.category]; done) | rfl
def Qate3_0 (Z : State) (p0 : Addr) (wc : Int32) (ut : Addr) (b : Addr) (kb : ClassId) (ln : Int32) (cd : Int32) (xs : List Int32) (wa : Int32) (h0 : Heap) (n0 : Nat) (v : Option Value) (h : Heap) (L : List Loc) : Prop := v = some (.int 1) ∧ Fr n0 L ∧ h = h0
set_option maxRecDepth 65536 in
set_option maxHeartbeats 40000000 in
theorem rmate3_0 (l : Launch) (Z : State) (a0 : Array Value) (hw : ∀ d ∈ tables_1, d.before a0 Z = true) (ws : List Jvm.Cond) (p0 : Addr) (wc : Int32) (ut : Addr) (b : Addr) (kb : ClassId) (ln : Int32) (cd : Int32) (xs : List Int32) (wa : Int32) (h0 : Heap) (n0 : Nat) (O0 : Old Z n0 h0) (F0_ : Fld Z h0 p0 "com/example/lintel/lintel/message/HeaderCursor" "at" "I" (.int wa)) (F1_ : Fld Z h0 p0 "com/example/lintel/lintel/message/HeaderCursor" "text" "Ljava/lang/String;" (.ref ut)) (F2_ : Exa Z h0 ut "java/lang/String") (F3_ : Fld Z h0 ut "java/lang/String" "value" "[B" (.ref b)) (F4_ : Fld Z h0 ut "java/lang/String" "coder" "B" (.int cd)) (F5_ : Arv Z h0 b kb .byte ln (xs.map Value.int) (.int 0)) (F6_ : Sta Z Z.heap "java/lang/String" "COMPACT_STRINGS" "Z" (.int wc)) (hcs : ¬ (wc = (0 : Int32))) (hv : (ln = (3 : Int32) ∧ cd = (0 : Int32)) ∨ (ln = (6 : Int32) ∧ cd = (1 : Int32))) (hat : ¬ (wa < (3 : Int32))) :
    MetFree l nm21 (head1 (Jvm.Cond.code nm21 prog_1_method_2_code 1 (some .boolean) :: ws) ({ frames := 2, cells := 0, slots := 0, locals := 26 } : Room)) (fun a U => a = #[(.ref p0)] ∧ Z.Warmed39 U.vm ∧ U.heap = h0) (fun _ _ _ _ _ => True) (fun _ U o U' => ∃ v L, o = .returned v ∧ Qate3_0 Z p0 wc ut b kb ln cd xs wa h0 n0 v U'.heap L ∧ FrameEnd U o U' L ({ frames := 2, cells := 0, slots := 0, locals := 26 } : Room).cells ({ frames := 2, cells := 0, slots := 0, locals := 26 } : Room).slots) := by
  refine MetFree.of_bodySF (plainFor_of_name pn_9) hisR ?_
  intro p e s m args below meth c s₁ Bd hml0 hP hK
  obtain ⟨rfl, hZ, hh⟩ := hP
  have hx := Bd.exec
  have hby := Bd.bytes
  have hml : c.maxLocals = 1 := hml0
  have hown : s.vm.findClass "com/example/lintel/lintel/message/HeaderCursor" = some m.cls := findClass_of_methodNamed Bd.named
  have X0 : Stand p l e ({ frames := 2, cells := 0, slots := 0, locals := 26 } : Room) s m #[(.ref p0)] below meth c s₁ [] 0 0 := Stand.of_body Bd
  have e0 : s₁.heap = h0 := by rw [← hh, Bd.state]; rfl
  have N0 := Fr.nil n0
  have s0 : Steps p.tables e below (s₁.setTop (entryFrame m #[(.ref p0)] 1)) (s₁.setTop (mkF m 0 #[.val (.ref p0)] [])) := castTop (ef_rmate3_0 m p0) (Steps.refl _)
  obtain ⟨A₀, hA₀⟩ : ∃ z, z = (s₁.setTop (entryFrame m #[(.ref p0)] 1)) := ⟨_, rfl⟩
  rw [← hA₀] at s0
  rcases hv with ⟨rfl, rfl⟩ | ⟨rfl, rfl⟩
  · obtain ⟨T1, X1, e1, st1⟩ := getF X0 hx hZ hown (host := "") (Or.inl (wq hw 53 rfl)) Via.refl e0 F0_ (g := (mkF m 1 #[.val (.ref p0)] [(.ref p0)])) rfl rfl (hb hby d9_1)
    obtain ⟨T2, X2, e2, st2⟩ := getF X1 hx hZ hown (host := "") (Or.inl (wq hw 44 rfl)) Via.refl e1 F1_ (g := (mkF m 5 #[.val (.ref p0)] [(.ref p0), (.int wa)])) rfl rfl (hb hby d9_5)
    obtain ⟨T3, L3, X3, e3, N3, st3⟩ := own_callVP X2 hx hZ hown (wk55 hw) (wk56 hw) (wk58 hw) (wk57 hw) (by decide) (wk6 hw) (wk59 hw) (rmll3_0 l Z a0 hw [] ut wc b kb xs h0 n0 O0 F2_ F3_ F4_ F5_ F6_ hcs) e2 N0 (W := 1) (by decide) (by decide) (by decide) (by decide) F2_ (g := (mkF m 8 #[.val (.ref p0)] [(.ref ut), (.int wa)])) rfl (by rw [hml]; rfl) (argsL := []) (rest := [(.int wa)]) (lenOf pd_rmate3_0_0 rfl) rfl (by exact Nat.le_refl _) (hb hby d9_8)
    have s4 : Steps p.tables e below A₀ (T3.setTop (mkF m 19 #[.val (.ref p0)] [(.int 1)])) := by
      refine s0.trans ?_
      refine XS.aloadN X0.here hx rfl (hb hby d9_0) rfl rfl ?_
      refine st1 _ ?_
      refine XS.aloadN X1.here hx rfl (hb hby d9_4) rfl rfl ?_
      refine st2 _ ?_
      refine st3 _ ?_
      refine XS.icmpNo X3.here hx rfl (hb hby d9_11) rfl (flt hat).1 ?_
      refine XS.iconst X3.here hx rfl (hb hby d9_14) ?_
      refine XS.goto X3.here hx rfl (pc0 := 15) (pc' := 19) rfl (hb hby d9_15) (by decide) (by decide) ?_
      exact Steps.refl _
    subst hA₀
    obtain ⟨fs, hr, hrun, hended, hW, hsame⟩ := X3.leave (v := some (.int 1)) (fun h => by rw [Bd.returns] at h; cases h)
    refine ⟨_, _, s4.trans ?_, hrun, hended, _, _, rfl, ?_, ⟨_, rfl⟩, hW, hsame.mono (by decide) (by decide)⟩
    · show Steps p.tables e below (T3.setTop (mkF m 19 #[.val (.ref p0)] [(.int 1)])) _
      exact retN X3 hx (t := .boolean) Bd.returns (by simp) (hb hby d9_19) hr
    · show Qate3_0 Z p0 wc ut b kb (3 : Int32) (0 : Int32) xs wa h0 n0 _ T3.heap _
      rw [e3]
      exact ⟨rfl, N3, rfl⟩
  · obtain ⟨T5, X5, e5, st5⟩ := getF X0 hx hZ hown (host := "") (Or.inl (wq hw 53 rfl)) Via.refl e0 F0_ (g := (mkF m 1 #[.val (.ref p0)] [(.ref p0)])) rfl rfl (hb hby d9_1)
    obtain ⟨T6, X6, e6, st6⟩ := getF X5 hx hZ hown (host := "") (Or.inl (wq hw 44 rfl)) Via.refl e5 F1_ (g := (mkF m 5 #[.val (.ref p0)] [(.ref p0), (.int wa)])) rfl rfl (hb hby d9_5)
    obtain ⟨T7, L7, X7, e7, N7, st7⟩ := own_callVP X6 hx hZ hown (wk55 hw) (wk56 hw) (wk58 hw) (wk57 hw) (by decide) (wk6 hw) (wk59 hw) (rmll3_1 l Z a0 hw [] ut wc b kb xs h0 n0 O0 F2_ F3_ F4_ F5_ F6_ hcs) e6 N0 (W := 1) (by decide) (by decide) (by decide) (by decide) F2_ (g := (mkF m 8 #[.val (.ref p0)] [(.ref ut), (.int wa)])) rfl (by rw [hml]; rfl) (argsL := []) (rest := [(.int wa)]) (lenOf pd_rmate3_0_0 rfl) rfl (by exact Nat.le_refl _) (hb hby d9_8)
    have s8 : Steps p.tables e below A₀ (T7.setTop (mkF m 19 #[.val (.ref p0)] [(.int 1)])) := by
      refine s0.trans ?_
      refine XS.aloadN X0.here hx rfl (hb hby d9_0) rfl rfl ?_
      refine st5 _ ?_
      refine XS.aloadN X5.here hx rfl (hb hby d9_4) rfl rfl ?_
      refine st6 _ ?_
      refine st7 _ ?_
      refine XS.icmpNo X7.here hx rfl (hb hby d9_11) rfl (flt hat).1 ?_
      refine XS.iconst X7.here hx rfl (hb hby d9_14) ?_
      refine XS.goto X7.here hx rfl (pc0 := 15) (pc' := 19) rfl (hb hby d9_15) (by decide) (by decide) ?_
      exact Steps.refl _
    subst hA₀
    obtain ⟨fs, hr, hrun, hended, hW, hsame⟩ := X7.leave (v := some (.int 1)) (fun h => by rw [Bd.returns] at h; cases h)
    refine ⟨_, _, s8.trans ?_, hrun, hended, _, _, rfl, ?_, ⟨_, rfl⟩, hW, hsame.mono (by decide) (by decide)⟩
    · show Steps p.tables e below (T7.setTop (mkF m 19 #[.val (.ref p0)] [(.int 1)])) _
      exact retN X7 hx (t := .boolean) Bd.returns (by simp) (hb hby d9_19) hr
    · show Qate3_0 Z p0 wc ut b kb (6 : Int32) (1 : Int32) xs wa h0 n0 _ T7.heap _
      rw [e7]
      exact ⟨rfl, N7, rfl⟩
theorem pd_rmnxt3_0_0 : parseMethodDescriptor "(I)C" = some ⟨[.int], some .char⟩ := by decide +kernel
theorem ef_rmnxt3_0 (m : MethodId) (p0 : Addr) : entryFrame m #[(.ref p0)] 1 = mkF m 0 #[.val (.ref p0)] [] := by first | (simp [entryFrame, mkF, argsToLocals, Value.category]; done) | rfl
def Qnxt3_0 (Z : State) (p0 : Addr) (wc : Int32) (ut : Addr) (b : Addr) (kb : ClassId) (ln : Int32) (cd : Int32) (xs : List Int32) (rg : Value) (h0 : Heap) (n0 : Nat) (v : Option Value) (h : Heap) (L : List Loc) : Prop := ∃ r : Int32, v = some (.int r) ∧ Fr n0 L ∧ Keep h0 h [p0] ∧ (Exa Z h p0 "com/example/lintel/lintel/message/HeaderCursor") ∧ (Fld Z h p0 "com/example/lintel/lintel/message/HeaderCursor" "at" "I" (.int 1)) ∧ (Fld Z h p0 "com/example/lintel/lintel/message/HeaderCursor" "text" "Ljava/lang/String;" (.ref ut))
set_option maxRecDepth 65536 in
set_option maxHeartbeats 40000000 in
theorem rmnxt3_0 (l : Launch) (Z : State) (a0 : Array Value) (hw : ∀ d ∈ tables_1, d.before a0 Z = true) (ws : List Jvm.Cond) (p0 : Addr) (wc : Int32) (ut : Addr) (b : Addr) (kb : ClassId) (ln : Int32) (cd : Int32) (xs : List Int32) (rg : Value) (h0 : Heap) (n0 : Nat) (O0 : Old Z n0 h0) (F0_ : Exa Z h0 p0 "com/example/lintel/lintel/message/HeaderCursor") (F1_ : n0 ≤ p0) (F2_ : p0 ≠ ut) (F3_ : p0 ≠ b) (F4_ : Fld Z h0 p0 "com/example/lintel/lintel/message/HeaderCursor" "at" "I" (.int 0)) (F5_ : Fld Z h0 p0 "com/example/lintel/lintel/message/HeaderCursor" "text" "Ljava/lang/String;" (.ref ut)) (F6_ : Exa Z h0 ut "java/lang/String") (F7_ : Fld Z h0 ut "java/lang/String" "value" "[B" (.ref b)) (F8_ : Fld Z h0 ut "java/lang/String" "coder" "B" (.int cd)) (F9_ : Arv Z h0 b kb .byte ln (xs.map Value.int) (.int 0)) (F10_ : Sta Z Z.heap "java/lang/String" "COMPACT_STRINGS" "Z" (.int wc)) (F11_ : Sta Z Z.heap "jdk/internal/util/Preconditions" "SIOOBE_FORMATTER" "Ljava/util/function/BiFunction;" rg) (F12_ : rg.isRef = true) (F13_ : Sta Z Z.heap "java/lang/StringUTF16" "$assertionsDisabled" "Z" (.int 1)) (F14_ : Sta Z Z.heap "java/lang/StringUTF16" "HI_BYTE_SHIFT" "I" (.int 0)) (F15_ : Sta Z Z.heap "java/lang/StringUTF16" "LO_BYTE_SHIFT" "I" (.int 8)) (hcs : ¬ (wc = (0 : Int32))) (hv : (ln = (3 : Int32) ∧ cd = (0 : Int32)) ∨ (ln = (6 : Int32) ∧ cd = (1 : Int32))) :
    MetFree l nm22 (head1 (Jvm.Cond.code nm22 prog_1_method_4_code 1 (some .char) :: ws) ({ frames := 5, cells := 0, slots := 0, locals := 66 } : Room)) (fun a U => a = #[(.ref p0)] ∧ Z.Warmed39 U.vm ∧ U.heap = h0) (fun _ _ _ _ _ => True) (fun _ U o U' => ∃ v L, o = .returned v ∧ Qnxt3_0 Z p0 wc ut b kb ln cd xs rg h0 n0 v U'.heap L ∧ FrameEnd U o U' L ({ frames := 5, cells := 0, slots := 0, locals := 66 } : Room).cells ({ frames := 5, cells := 0, slots := 0, locals := 66 } : Room).slots) := by
  refine MetFree.of_bodySF (plainFor_of_name pn_9) hisR ?_
  intro p e s m args below meth c s₁ Bd hml0 hP hK
  obtain ⟨rfl, hZ, hh⟩ := hP
  have hx := Bd.exec
  have hby := Bd.bytes
  have hml : c.maxLocals = 1 := hml0
  have hown : s.vm.findClass "com/example/lintel/lintel/message/HeaderCursor" = some m.cls := findClass_of_methodNamed Bd.named
  have X0 : Stand p l e ({ frames := 5, cells := 0, slots := 0, locals := 66 } : Room) s m #[(.ref p0)] below meth c s₁ [] 0 0 := Stand.of_body Bd
  have e0 : s₁.heap = h0 := by rw [← hh, Bd.state]; rfl
  have N0 := Fr.nil n0
  have s0 : Steps p.tables e below (s₁.setTop (entryFrame m #[(.ref p0)] 1)) (s₁.setTop (mkF m 0 #[.val (.ref p0)] [])) := castTop (ef_rmnxt3_0 m p0) (Steps.refl _)
  obtain ⟨A₀, hA₀⟩ : ∃ z, z = (s₁.setTop (entryFrame m #[(.ref p0)] 1)) := ⟨_, rfl⟩
  rw [← hA₀] at s0
  rcases hv with ⟨rfl, rfl⟩ | ⟨rfl, rfl⟩
  · obtain ⟨T1, X1, e1, st1⟩ := getF X0 hx hZ hown (host := "") (Or.inl (wq hw 44 rfl)) Via.refl e0 F5_ (g := (mkF m 1 #[.val (.ref p0)] [(.ref p0)])) rfl rfl (hb hby d19_1)
    obtain ⟨T2, X2, e2, st2⟩ := getF X1 hx hZ hown (host := "") (Or.inl (wq hw 53 rfl)) Via.refl e1 F4_ (g := (mkF m 6 #[.val (.ref p0)] [(.ref p0), (.ref p0), (.ref ut)])) rfl rfl (hb hby d19_6)
    obtain ⟨T3, h3, X3, e3, W3, st3⟩ := putF X2 hx hZ hown (host := "") (Or.inl (wq hw 53 rfl)) Via.refl e2 F4_ F0_ (Or.inl (wq hw 54 rfl)) (wq hw 35 rfl) (ty := .int) (by decide) rfl rfl (g := (mkF m 12 #[.val (.ref p0)] [(.int 1), (.ref p0), (.int 0), (.ref ut)])) rfl rfl (hb hby d19_12)
    have Fw3 := F4_.same W3
    have O3 := O0.wr W3 F1_
    have K3 : Keep h0 h3 [p0] := (Keep.refl h0 [p0]).wr W3 (Or.inl (List.mem_of_getElem? (i := 0) rfl))
    have N3 := Fr.snoc X3 N0 F1_
    have c4 : Exa Z h3 ut "java/lang/String" := (F6_.wr W3)
    have c5 : Fld Z h3 ut "java/lang/String" "value" "[B" (.ref b) := (F7_.other W3 (Or.inl (Ne.symm F2_)))
    have c6 : Fld Z h3 ut "java/lang/String" "coder" "B" (.int 0) := (F8_.other W3 (Or.inl (Ne.symm F2_)))
    have c7 : Arv Z h3 b kb .byte 3 (xs.map Value.int) (.int 0) := (F9_.other W3 (Ne.symm F3_))
    obtain ⟨cq8, kq8, q8a, q8b, q8c⟩ := isOf hZ e3 c4
    obtain ⟨_, _, ⟨T8, L8, k8, n8⟩, -, X8, ⟨Lc8, hQ8, l8, y8, z8⟩, st8⟩ := X3.virtualBack hx (y := (⟨"java/lang/String", "charAt", "(I)C"⟩ : MethodName)) (z := (⟨"java/lang/String", "charAt", "(I)C"⟩ : MethodName)) hown (mvT hZ (wq hw 99 rfl)) (mvT hZ (wq hw 100 rfl)) (notFace_of_selects (args := #[]) (mvT hZ (wq hw 102 rfl))) (mvT hZ (wq hw 102 rfl)) (mvT hZ (wq hw 101 rfl)) (by decide) (backOf (W := 0) (rmcha0 l Z a0 hw [] ut (0 : Int32) wc b kb (3 : Int32) xs rg h3 n0 O3 c4 c5 c6 c7 F10_ F11_ F12_ F13_ F14_ F15_ hcs (by decide) (by decide)) hZ (wq hw 103 rfl) (wq hw 6 rfl) (by decide) (by decide)) q8a q8c (g := (mkF m 15 #[.val (.ref p0)] [(.int 0), (.ref ut)])) rfl (by rw [hml]; rfl) (Steps.refl _) (argsL := [(.int 0)]) (rest := []) (lenOf pd_rmnxt3_0_0 rfl) rfl (by exact Nat.le_refl _) (hb hby d19_15) (fun _ _ => ⟨rfl, e3, (by decide : 0 + 0 ≤ _), (by decide : 0 + 0 ≤ _)⟩)
    dsimp only [Pt.U, Pt.locs, Pt.cells, Pt.slots] at X8 l8 y8 z8 st8 hQ8
    subst l8 y8 z8
    obtain ⟨u9, rfl, Nq8, e8⟩ := hQ8
    have N8 := Fr.app N3 Nq8
    have s10 : Steps p.tables e below A₀ (T8.setTop (mkF m 18 #[.val (.ref p0)] [(.int u9)])) := by
      refine s0.trans ?_
      refine XS.aloadN X0.here hx rfl (hb hby d19_0) rfl rfl ?_
      refine st1 _ ?_
      refine XS.aloadN X1.here hx rfl (hb hby d19_4) rfl rfl ?_
      refine XS.dup X1.here hx rfl (hb hby d19_5) rfl rfl ?_
      refine st2 _ ?_
      refine XS.dupX1 X2.here hx rfl (hb hby d19_9) rfl rfl rfl ?_
      refine XS.iconst X2.here hx rfl (hb hby d19_10) ?_
      refine XS.iadd X2.here hx rfl (hb hby d19_11) rfl ?_
      show Steps p.tables e below (T2.setTop (mkF m 12 #[.val (.ref p0)] [(.int 1), (.ref p0), (.int 0), (.ref ut)])) _
      refine st3 _ ?_
      refine st8.trans ?_
      exact Steps.refl _
    subst hA₀
    have c11 : Exa Z h3 p0 "com/example/lintel/lintel/message/HeaderCursor" := (F0_.wr W3)
    have c12 : Fld Z h3 p0 "com/example/lintel/lintel/message/HeaderCursor" "text" "Ljava/lang/String;" (.ref ut) := (F5_.other W3 (Or.inr (slot_ne (Or.inr (wq hw 45 rfl)) (Or.inl (wq hw 54 rfl)) (by decide) (t := (.object "java/lang/String")) (t' := .int) (by decide) (by decide))))
    obtain ⟨fs, hr, hrun, hended, hW, hsame⟩ := X8.leave (v := some (.int (nar .char u9))) (fun h => by rw [Bd.returns] at h; cases h)
    refine ⟨_, _, s10.trans ?_, hrun, hended, _, _, rfl, ?_, ⟨_, rfl⟩, hW, hsame.mono (by decide) (by decide)⟩
    · show Steps p.tables e below (T8.setTop (mkF m 18 #[.val (.ref p0)] [(.int u9)])) _
      exact retN X8 hx (t := .char) Bd.returns (by simp) (hb hby d19_18) hr
    · show Qnxt3_0 Z p0 wc ut b kb (3 : Int32) (0 : Int32) xs rg h0 n0 _ T8.heap _
      rw [e8]
      exact ⟨(nar .char u9), rfl, N8, K3, c11, Fw3, c12⟩
  · obtain ⟨T13, X13, e13, st13⟩ := getF X0 hx hZ hown (host := "") (Or.inl (wq hw 44 rfl)) Via.refl e0 F5_ (g := (mkF m 1 #[.val (.ref p0)] [(.ref p0)])) rfl rfl (hb hby d19_1)
    obtain ⟨T14, X14, e14, st14⟩ := getF X13 hx hZ hown (host := "") (Or.inl (wq hw 53 rfl)) Via.refl e13 F4_ (g := (mkF m 6 #[.val (.ref p0)] [(.ref p0), (.ref p0), (.ref ut)])) rfl rfl (hb hby d19_6)
    obtain ⟨T15, h15, X15, e15, W15, st15⟩ := putF X14 hx hZ hown (host := "") (Or.inl (wq hw 53 rfl)) Via.refl e14 F4_ F0_ (Or.inl (wq hw 54 rfl)) (wq hw 35 rfl) (ty := .int) (by decide) rfl rfl (g := (mkF m 12 #[.val (.ref p0)] [(.int 1), (.ref p0), (.int 0), (.ref ut)])) rfl rfl (hb hby d19_12)
    have Fw15 := F4_.same W15
    have O15 := O0.wr W15 F1_
    have K15 : Keep h0 h15 [p0] := (Keep.refl h0 [p0]).wr W15 (Or.inl (List.mem_of_getElem? (i := 0) rfl))
    have N15 := Fr.snoc X15 N0 F1_
    have c16 : Exa Z h15 ut "java/lang/String" := (F6_.wr W15)
    have c17 : Fld Z h15 ut "java/lang/String" "value" "[B" (.ref b) := (F7_.other W15 (Or.inl (Ne.symm F2_)))
    have c18 : Fld Z h15 ut "java/lang/String" "coder" "B" (.int 1) := (F8_.other W15 (Or.inl (Ne.symm F2_)))
    have c19 : Arv Z h15 b kb .byte 6 (xs.map Value.int) (.int 0) := (F9_.other W15 (Ne.symm F3_))
    obtain ⟨cq20, kq20, q20a, q20b, q20c⟩ := isOf hZ e15 c16
    obtain ⟨_, _, ⟨T20, L20, k20, n20⟩, -, X20, ⟨Lc20, hQ20, l20, y20, z20⟩, st20⟩ := X15.virtualBack hx (y := (⟨"java/lang/String", "charAt", "(I)C"⟩ : MethodName)) (z := (⟨"java/lang/String", "charAt", "(I)C"⟩ : MethodName)) hown (mvT hZ (wq hw 99 rfl)) (mvT hZ (wq hw 100 rfl)) (notFace_of_selects (args := #[]) (mvT hZ (wq hw 102 rfl))) (mvT hZ (wq hw 102 rfl)) (mvT hZ (wq hw 101 rfl)) (by decide) (backOf (W := 0) (rmcha1 l Z a0 hw [] ut (0 : Int32) wc b kb (6 : Int32) xs rg h15 n0 O15 c16 c17 c18 c19 F10_ F11_ F12_ F13_ F14_ F15_ hcs (by decide) (by decide) ⟨by decide, by decide⟩ ⟨by decide, by decide⟩) hZ (wq hw 103 rfl) (wq hw 6 rfl) (by decide) (by decide)) q20a q20c (g := (mkF m 15 #[.val (.ref p0)] [(.int 0), (.ref ut)])) rfl (by rw [hml]; rfl) (Steps.refl _) (argsL := [(.int 0)]) (rest := []) (lenOf pd_rmnxt3_0_0 rfl) rfl (by exact Nat.le_refl _) (hb hby d19_15) (fun _ _ => ⟨rfl, e15, (by decide : 0 + 0 ≤ _), (by decide : 0 + 0 ≤ _)⟩)
    dsimp only [Pt.U, Pt.locs, Pt.cells, Pt.slots] at X20 l20 y20 z20 st20 hQ20
    subst l20 y20 z20
    obtain ⟨u21, rfl, Nq20, e20⟩ := hQ20
    have N20 := Fr.app N15 Nq20
    have s22 : Steps p.tables e below A₀ (T20.setTop (mkF m 18 #[.val (.ref p0)] [(.int u21)])) := by
      refine s0.trans ?_
      refine XS.aloadN X0.here hx rfl (hb hby d19_0) rfl rfl ?_
      refine st13 _ ?_
      refine XS.aloadN X13.here hx rfl (hb hby d19_4) rfl rfl ?_
      refine XS.dup X13.here hx rfl (hb hby d19_5) rfl rfl ?_
      refine st14 _ ?_
      refine XS.dupX1 X14.here hx rfl (hb hby d19_9) rfl rfl rfl ?_
      refine XS.iconst X14.here hx rfl (hb hby d19_10) ?_
      refine XS.iadd X14.here hx rfl (hb hby d19_11) rfl ?_
      show Steps p.tables e below (T14.setTop (mkF m 12 #[.val (.ref p0)] [(.int 1), (.ref p0), (.int 0), (.ref ut)])) _
      refine st15 _ ?_
      refine st20.trans ?_
      exact Steps.refl _
    subst hA₀
    have c23 : Exa Z h15 p0 "com/example/lintel/lintel/message/HeaderCursor" := (F0_.wr W15)
    have c24 : Fld Z h15 p0 "com/example/lintel/lintel/message/HeaderCursor" "text" "Ljava/lang/String;" (.ref ut) := (F5_.other W15 (Or.inr (slot_ne (Or.inr (wq hw 45 rfl)) (Or.inl (wq hw 54 rfl)) (by decide) (t := (.object "java/lang/String")) (t' := .int) (by decide) (by decide))))
    obtain ⟨fs, hr, hrun, hended, hW, hsame⟩ := X20.leave (v := some (.int (nar .char u21))) (fun h => by rw [Bd.returns] at h; cases h)
    refine ⟨_, _, s22.trans ?_, hrun, hended, _, _, rfl, ?_, ⟨_, rfl⟩, hW, hsame.mono (by decide) (by decide)⟩
    · show Steps p.tables e below (T20.setTop (mkF m 18 #[.val (.ref p0)] [(.int u21)])) _
      exact retN X20 hx (t := .char) Bd.returns (by simp) (hb hby d19_18) hr
    · show Qnxt3_0 Z p0 wc ut b kb (6 : Int32) (1 : Int32) xs rg h0 n0 _ T20.heap _
      rw [e20]
      exact ⟨(nar .char u21), rfl, N20, K15, c23, Fw15, c24⟩
theorem pd_rmnxt3_1_0 : parseMethodDescriptor "(I)C" = some ⟨[.int], some .char⟩ := by decide +kernel
theorem ef_rmnxt3_1 (m : MethodId) (p0 : Addr) : entryFrame m #[(.ref p0)] 1 = mkF m 0 #[.val (.ref p0)] [] := by first | (simp [entryFrame, mkF, argsToLocals, Value.category]; done) | rfl
def Qnxt3_1 (Z : State) (p0 : Addr) (wc : Int32) (ut : Addr) (b : Addr) (kb : ClassId) (ln : Int32) (cd : Int32) (xs : List Int32) (rg : Value) (h0 : Heap) (n0 : Nat) (v : Option Value) (h : Heap) (L : List Loc) : Prop := ∃ r : Int32, v = some (.int r) ∧ Fr n0 L ∧ Keep h0 h [p0] ∧ (Exa Z h p0 "com/example/lintel/lintel/message/HeaderCursor") ∧ (Fld Z h p0 "com/example/lintel/lintel/message/HeaderCursor" "at" "I" (.int 2)) ∧ (Fld Z h p0 "com/example/lintel/lintel/message/HeaderCursor" "text" "Ljava/lang/String;" (.ref ut))
set_option maxRecDepth 65536 in
set_option maxHeartbeats 40000000 in
theorem rmnxt3_1 (l : Launch) (Z : State) (a0 : Array Value) (hw : ∀ d ∈ tables_1, d.before a0 Z = true) (ws : List Jvm.Cond) (p0 : Addr) (wc : Int32) (ut : Addr) (b : Addr) (kb : ClassId) (ln : Int32) (cd : Int32) (xs : List Int32) (rg : Value) (h0 : Heap) (n0 : Nat) (O0 : Old Z n0 h0) (F0_ : Exa Z h0 p0 "com/example/lintel/lintel/message/HeaderCursor") (F1_ : n0 ≤ p0) (F2_ : p0 ≠ ut) (F3_ : p0 ≠ b) (F4_ : Fld Z h0 p0 "com/example/lintel/lintel/message/HeaderCursor" "at" "I" (.int 1)) (F5_ : Fld Z h0 p0 "com/example/lintel/lintel/message/HeaderCursor" "text" "Ljava/lang/String;" (.ref ut)) (F6_ : Exa Z h0 ut "java/lang/String") (F7_ : Fld Z h0 ut "java/lang/String" "value" "[B" (.ref b)) (F8_ : Fld Z h0 ut "java/lang/String" "coder" "B" (.int cd)) (F9_ : Arv Z h0 b kb .byte ln (xs.map Value.int) (.int 0)) (F10_ : Sta Z Z.heap "java/lang/String" "COMPACT_STRINGS" "Z" (.int wc)) (F11_ : Sta Z Z.heap "jdk/internal/util/Preconditions" "SIOOBE_FORMATTER" "Ljava/util/function/BiFunction;" rg) (F12_ : rg.isRef = true) (F13_ : Sta Z Z.heap "java/lang/StringUTF16" "$assertionsDisabled" "Z" (.int 1)) (F14_ : Sta Z Z.heap "java/lang/StringUTF16" "HI_BYTE_SHIFT" "I" (.int 0)) (F15_ : Sta Z Z.heap "java/lang/StringUTF16" "LO_BYTE_SHIFT" "I" (.int 8)) (hcs : ¬ (wc = (0 : Int32))) (hv : (ln = (3 : Int32) ∧ cd = (0 : Int32)) ∨ (ln = (6 : Int32) ∧ cd = (1 : Int32))) :
    MetFree l nm22 (head1 (Jvm.Cond.code nm22 prog_1_method_4_code 1 (some .char) :: ws) ({ frames := 5, cells := 0, slots := 0, locals := 66 } : Room)) (fun a U => a = #[(.ref p0)] ∧ Z.Warmed39 U.vm ∧ U.heap = h0) (fun _ _ _ _ _ => True) (fun _ U o U' => ∃ v L, o = .returned v ∧ Qnxt3_1 Z p0 wc ut b kb ln cd xs rg h0 n0 v U'.heap L ∧ FrameEnd U o U' L ({ frames := 5, cells := 0, slots := 0, locals := 66 } : Room).cells ({ frames := 5, cells := 0, slots := 0, locals := 66 } : Room).slots) := by
  refine MetFree.of_bodySF (plainFor_of_name pn_9) hisR ?_
  intro p e s m args below meth c s₁ Bd hml0 hP hK
  obtain ⟨rfl, hZ, hh⟩ := hP
  have hx := Bd.exec
  have hby := Bd.bytes
  have hml : c.maxLocals = 1 := hml0
  have hown : s.vm.findClass "com/example/lintel/lintel/message/HeaderCursor" = some m.cls := findClass_of_methodNamed Bd.named
  have X0 : Stand p l e ({ frames := 5, cells := 0, slots := 0, locals := 66 } : Room) s m #[(.ref p0)] below meth c s₁ [] 0 0 := Stand.of_body Bd
  have e0 : s₁.heap = h0 := by rw [← hh, Bd.state]; rfl
  have N0 := Fr.nil n0
  have s0 : Steps p.tables e below (s₁.setTop (entryFrame m #[(.ref p0)] 1)) (s₁.setTop (mkF m 0 #[.val (.ref p0)] [])) := castTop (ef_rmnxt3_1 m p0) (Steps.refl _)
  obtain ⟨A₀, hA₀⟩ : ∃ z, z = (s₁.setTop (entryFrame m #[(.ref p0)] 1)) := ⟨_, rfl⟩
  rw [← hA₀] at s0
  rcases hv with ⟨rfl, rfl⟩ | ⟨rfl, rfl⟩
  · obtain ⟨T1, X1, e1, st1⟩ := getF X0 hx hZ hown (host := "") (Or.inl (wq hw 44 rfl)) Via.refl e0 F5_ (g := (mkF m 1 #[.val (.ref p0)] [(.ref p0)])) rfl rfl (hb hby d19_1)
    obtain ⟨T2, X2, e2, st2⟩ := getF X1 hx hZ hown (host := "") (Or.inl (wq hw 53 rfl)) Via.refl e1 F4_ (g := (mkF m 6 #[.val (.ref p0)] [(.ref p0), (.ref p0), (.ref ut)])) rfl rfl (hb hby d19_6)
    obtain ⟨T3, h3, X3, e3, W3, st3⟩ := putF X2 hx hZ hown (host := "") (Or.inl (wq hw 53 rfl)) Via.refl e2 F4_ F0_ (Or.inl (wq hw 54 rfl)) (wq hw 35 rfl) (ty := .int) (by decide) rfl rfl (g := (mkF m 12 #[.val (.ref p0)] [(.int 2), (.ref p0), (.int 1), (.ref ut)])) rfl rfl (hb hby d19_12)
    have Fw3 := F4_.same W3
    have O3 := O0.wr W3 F1_
    have K3 : Keep h0 h3 [p0] := (Keep.refl h0 [p0]).wr W3 (Or.inl (List.mem_of_getElem? (i := 0) rfl))
    have N3 := Fr.snoc X3 N0 F1_
    have c4 : Exa Z h3 ut "java/lang/String" := (F6_.wr W3)
    have c5 : Fld Z h3 ut "java/lang/String" "value" "[B" (.ref b) := (F7_.other W3 (Or.inl (Ne.symm F2_)))
    have c6 : Fld Z h3 ut "java/lang/String" "coder" "B" (.int 0) := (F8_.other W3 (Or.inl (Ne.symm F2_)))
    have c7 : Arv Z h3 b kb .byte 3 (xs.map Value.int) (.int 0) := (F9_.other W3 (Ne.symm F3_))
    obtain ⟨cq8, kq8, q8a, q8b, q8c⟩ := isOf hZ e3 c4
    obtain ⟨_, _, ⟨T8, L8, k8, n8⟩, -, X8, ⟨Lc8, hQ8, l8, y8, z8⟩, st8⟩ := X3.virtualBack hx (y := (⟨"java/lang/String", "charAt", "(I)C"⟩ : MethodName)) (z := (⟨"java/lang/String", "charAt", "(I)C"⟩ : MethodName)) hown (mvT hZ (wq hw 99 rfl)) (mvT hZ (wq hw 100 rfl)) (notFace_of_selects (args := #[]) (mvT hZ (wq hw 102 rfl))) (mvT hZ (wq hw 102 rfl)) (mvT hZ (wq hw 101 rfl)) (by decide) (backOf (W := 0) (rmcha0 l Z a0 hw [] ut (1 : Int32) wc b kb (3 : Int32) xs rg h3 n0 O3 c4 c5 c6 c7 F10_ F11_ F12_ F13_ F14_ F15_ hcs (by decide) (by decide)) hZ (wq hw 103 rfl) (wq hw 6 rfl) (by decide) (by decide)) q8a q8c (g := (mkF m 15 #[.val (.ref p0)] [(.int 1), (.ref ut)])) rfl (by rw [hml]; rfl) (Steps.refl _) (argsL := [(.int 1)]) (rest := []) (lenOf pd_rmnxt3_1_0 rfl) rfl (by exact Nat.le_refl _) (hb hby d19_15) (fun _ _ => ⟨rfl, e3, (by decide : 0 + 0 ≤ _), (by decide : 0 + 0 ≤ _)⟩)
    dsimp only [Pt.U, Pt.locs, Pt.cells, Pt.slots] at X8 l8 y8 z8 st8 hQ8
    subst l8 y8 z8
    obtain ⟨u9, rfl, Nq8, e8⟩ := hQ8
    have N8 := Fr.app N3 Nq8
    have s10 : Steps p.tables e below A₀ (T8.setTop (mkF m 18 #[.val (.ref p0)] [(.int u9)])) := by
      refine s0.trans ?_
      refine XS.aloadN X0.here hx rfl (hb hby d19_0) rfl rfl ?_
      refine st1 _ ?_
      refine XS.aloadN X1.here hx rfl (hb hby d19_4) rfl rfl ?_
      refine XS.dup X1.here hx rfl (hb hby d19_5) rfl rfl ?_
      refine st2 _ ?_
      refine XS.dupX1 X2.here hx rfl (hb hby d19_9) rfl rfl rfl ?_
      refine XS.iconst X2.here hx rfl (hb hby d19_10) ?_
      refine XS.iadd X2.here hx rfl (hb hby d19_11) rfl ?_
      show Steps p.tables e below (T2.setTop (mkF m 12 #[.val (.ref p0)] [(.int 2), (.ref p0), (.int 1), (.ref ut)])) _
      refine st3 _ ?_
      refine st8.trans ?_
      exact Steps.refl _
    subst hA₀
    have c11 : Exa Z h3 p0 "com/example/lintel/lintel/message/HeaderCursor" := (F0_.wr W3)
    have c12 : Fld Z h3 p0 "com/example/lintel/lintel/message/HeaderCursor" "text" "Ljava/lang/String;" (.ref ut) := (F5_.other W3 (Or.inr (slot_ne (Or.inr (wq hw 45 rfl)) (Or.inl (wq hw 54 rfl)) (by decide) (t := (.object "java/lang/String")) (t' := .int) (by decide) (by decide))))
    obtain ⟨fs, hr, hrun, hended, hW, hsame⟩ := X8.leave (v := some (.int (nar .char u9))) (fun h => by rw [Bd.returns] at h; cases h)
    refine ⟨_, _, s10.trans ?_, hrun, hended, _, _, rfl, ?_, ⟨_, rfl⟩, hW, hsame.mono (by decide) (by decide)⟩
    · show Steps p.tables e below (T8.setTop (mkF m 18 #[.val (.ref p0)] [(.int u9)])) _
      exact retN X8 hx (t := .char) Bd.returns (by simp) (hb hby d19_18) hr
    · show Qnxt3_1 Z p0 wc ut b kb (3 : Int32) (0 : Int32) xs rg h0 n0 _ T8.heap _
      rw [e8]
      exact ⟨(nar .char u9), rfl, N8, K3, c11, Fw3, c12⟩
  · obtain ⟨T13, X13, e13, st13⟩ := getF X0 hx hZ hown (host := "") (Or.inl (wq hw 44 rfl)) Via.refl e0 F5_ (g := (mkF m 1 #[.val (.ref p0)] [(.ref p0)])) rfl rfl (hb hby d19_1)
    obtain ⟨T14, X14, e14, st14⟩ := getF X13 hx hZ hown (host := "") (Or.inl (wq hw 53 rfl)) Via.refl e13 F4_ (g := (mkF m 6 #[.val (.ref p0)] [(.ref p0), (.ref p0), (.ref ut)])) rfl rfl (hb hby d19_6)
    obtain ⟨T15, h15, X15, e15, W15, st15⟩ := putF X14 hx hZ hown (host := "") (Or.inl (wq hw 53 rfl)) Via.refl e14 F4_ F0_ (Or.inl (wq hw 54 rfl)) (wq hw 35 rfl) (ty := .int) (by decide) rfl rfl (g := (mkF m 12 #[.val (.ref p0)] [(.int 2), (.ref p0), (.int 1), (.ref ut)])) rfl rfl (hb hby d19_12)
    have Fw15 := F4_.same W15
    have O15 := O0.wr W15 F1_
    have K15 : Keep h0 h15 [p0] := (Keep.refl h0 [p0]).wr W15 (Or.inl (List.mem_of_getElem? (i := 0) rfl))
    have N15 := Fr.snoc X15 N0 F1_
    have c16 : Exa Z h15 ut "java/lang/String" := (F6_.wr W15)
    have c17 : Fld Z h15 ut "java/lang/String" "value" "[B" (.ref b) := (F7_.other W15 (Or.inl (Ne.symm F2_)))
    have c18 : Fld Z h15 ut "java/lang/String" "coder" "B" (.int 1) := (F8_.other W15 (Or.inl (Ne.symm F2_)))
    have c19 : Arv Z h15 b kb .byte 6 (xs.map Value.int) (.int 0) := (F9_.other W15 (Ne.symm F3_))
    obtain ⟨cq20, kq20, q20a, q20b, q20c⟩ := isOf hZ e15 c16
    obtain ⟨_, _, ⟨T20, L20, k20, n20⟩, -, X20, ⟨Lc20, hQ20, l20, y20, z20⟩, st20⟩ := X15.virtualBack hx (y := (⟨"java/lang/String", "charAt", "(I)C"⟩ : MethodName)) (z := (⟨"java/lang/String", "charAt", "(I)C"⟩ : MethodName)) hown (mvT hZ (wq hw 99 rfl)) (mvT hZ (wq hw 100 rfl)) (notFace_of_selects (args := #[]) (mvT hZ (wq hw 102 rfl))) (mvT hZ (wq hw 102 rfl)) (mvT hZ (wq hw 101 rfl)) (by decide) (backOf (W := 0) (rmcha1 l Z a0 hw [] ut (1 : Int32) wc b kb (6 : Int32) xs rg h15 n0 O15 c16 c17 c18 c19 F10_ F11_ F12_ F13_ F14_ F15_ hcs (by decide) (by decide) ⟨by decide, by decide⟩ ⟨by decide, by decide⟩) hZ (wq hw 103 rfl) (wq hw 6 rfl) (by decide) (by decide)) q20a q20c (g := (mkF m 15 #[.val (.ref p0)] [(.int 1), (.ref ut)])) rfl (by rw [hml]; rfl) (Steps.refl _) (argsL := [(.int 1)]) (rest := []) (lenOf pd_rmnxt3_1_0 rfl) rfl (by exact Nat.le_refl _) (hb hby d19_15) (fun _ _ => ⟨rfl, e15, (by decide : 0 + 0 ≤ _), (by decide : 0 + 0 ≤ _)⟩)
    dsimp only [Pt.U, Pt.locs, Pt.cells, Pt.slots] at X20 l20 y20 z20 st20 hQ20
    subst l20 y20 z20
    obtain ⟨u21, rfl, Nq20, e20⟩ := hQ20
    have N20 := Fr.app N15 Nq20
    have s22 : Steps p.tables e below A₀ (T20.setTop (mkF m 18 #[.val (.ref p0)] [(.int u21)])) := by
      refine s0.trans ?_
      refine XS.aloadN X0.here hx rfl (hb hby d19_0) rfl rfl ?_
      refine st13 _ ?_
      refine XS.aloadN X13.here hx rfl (hb hby d19_4) rfl rfl ?_
      refine XS.dup X13.here hx rfl (hb hby d19_5) rfl rfl ?_
      refine st14 _ ?_
      refine XS.dupX1 X14.here hx rfl (hb hby d19_9) rfl rfl rfl ?_
      refine XS.iconst X14.here hx rfl (hb hby d19_10) ?_
      refine XS.iadd X14.here hx rfl (hb hby d19_11) rfl ?_
      show Steps p.tables e below (T14.setTop (mkF m 12 #[.val (.ref p0)] [(.int 2), (.ref p0), (.int 1), (.ref ut)])) _
      refine st15 _ ?_
      refine st20.trans ?_
      exact Steps.refl _
    subst hA₀
    have c23 : Exa Z h15 p0 "com/example/lintel/lintel/message/HeaderCursor" := (F0_.wr W15)
    have c24 : Fld Z h15 p0 "com/example/lintel/lintel/message/HeaderCursor" "text" "Ljava/lang/String;" (.ref ut) := (F5_.other W15 (Or.inr (slot_ne (Or.inr (wq hw 45 rfl)) (Or.inl (wq hw 54 rfl)) (by decide) (t := (.object "java/lang/String")) (t' := .int) (by decide) (by decide))))
    obtain ⟨fs, hr, hrun, hended, hW, hsame⟩ := X20.leave (v := some (.int (nar .char u21))) (fun h => by rw [Bd.returns] at h; cases h)
    refine ⟨_, _, s22.trans ?_, hrun, hended, _, _, rfl, ?_, ⟨_, rfl⟩, hW, hsame.mono (by decide) (by decide)⟩
    · show Steps p.tables e below (T20.setTop (mkF m 18 #[.val (.ref p0)] [(.int u21)])) _
      exact retN X20 hx (t := .char) Bd.returns (by simp) (hb hby d19_18) hr
    · show Qnxt3_1 Z p0 wc ut b kb (6 : Int32) (1 : Int32) xs rg h0 n0 _ T20.heap _
      rw [e20]
      exact ⟨(nar .char u21), rfl, N20, K15, c23, Fw15, c24⟩
theorem pd_rmnxt3_2_0 : parseMethodDescriptor "(I)C" = some ⟨[.int], some .char⟩ := by decide +kernel
theorem ef_rmnxt3_2 (m : MethodId) (p0 : Addr) : entryFrame m #[(.ref p0)] 1 = mkF m 0 #[.val (.ref p0)] [] := by first | (simp [entryFrame, mkF, argsToLocals, Value.category]; done) | rfl
def Qnxt3_2 (Z : State) (p0 : Addr) (wc : Int32) (ut : Addr) (b : Addr) (kb : ClassId) (ln : Int32) (cd : Int32) (xs : List Int32) (rg : Value) (h0 : Heap) (n0 : Nat) (v : Option Value) (h : Heap) (L : List Loc) : Prop := ∃ r : Int32, v = some (.int r) ∧ Fr n0 L ∧ Keep h0 h [p0] ∧ (Exa Z h p0 "com/example/lintel/lintel/message/HeaderCursor") ∧ (Fld Z h p0 "com/example/lintel/lintel/message/HeaderCursor" "at" "I" (.int 3)) ∧ (Fld Z h p0 "com/example/lintel/lintel/message/HeaderCursor" "text" "Ljava/lang/String;" (.ref ut))
set_option maxRecDepth 65536 in
set_option maxHeartbeats 40000000 in
theorem rmnxt3_2 (l : Launch) (Z : State) (a0 : Array Value) (hw : ∀ d ∈ tables_1, d.before a0 Z = true) (ws : List Jvm.Cond) (p0 : Addr) (wc : Int32) (ut : Addr) (b : Addr) (kb : ClassId) (ln : Int32) (cd : Int32) (xs : List Int32) (rg : Value) (h0 : Heap) (n0 : Nat) (O0 : Old Z n0 h0) (F0_ : Exa Z h0 p0 "com/example/lintel/lintel/message/HeaderCursor") (F1_ : n0 ≤ p0) (F2_ : p0 ≠ ut) (F3_ : p0 ≠ b) (F4_ : Fld Z h0 p0 "com/example/lintel/lintel/message/HeaderCursor" "at" "I" (.int 2)) (F5_ : Fld Z h0 p0 "com/example/lintel/lintel/message/HeaderCursor" "text" "Ljava/lang/String;" (.ref ut)) (F6_ : Exa Z h0 ut "java/lang/String") (F7_ : Fld Z h0 ut "java/lang/String" "value" "[B" (.ref b)) (F8_ : Fld Z h0 ut "java/lang/String" "coder" "B" (.int cd)) (F9_ : Arv Z h0 b kb .byte ln (xs.map Value.int) (.int 0)) (F10_ : Sta Z Z.heap "java/lang/String" "COMPACT_STRINGS" "Z" (.int wc)) (F11_ : Sta Z Z.heap "jdk/internal/util/Preconditions" "SIOOBE_FORMATTER" "Ljava/util/function/BiFunction;" rg) (F12_ : rg.isRef = true) (F13_ : Sta Z Z.heap "java/lang/StringUTF16" "$assertionsDisabled" "Z" (.int 1)) (F14_ : Sta Z Z.heap "java/lang/StringUTF16" "HI_BYTE_SHIFT" "I" (.int 0)) (F15_ : Sta Z Z.heap "java/lang/StringUTF16" "LO_BYTE_SHIFT" "I" (.int 8)) (hcs : ¬ (wc = (0 : Int32))) (hv : (ln = (3 : Int32) ∧ cd = (0 : Int32)) ∨ (ln = (6 : Int32) ∧ cd = (1 : Int32))) :
    MetFree l nm22 (head1 (Jvm.Cond.code nm22 prog_1_method_4_code 1 (some .char) :: ws) ({ frames := 5, cells := 0, slots := 0, locals := 66 } : Room)) (fun a U => a = #[(.ref p0)] ∧ Z.Warmed39 U.vm ∧ U.heap = h0) (fun _ _ _ _ _ => True) (fun _ U o U' => ∃ v L, o = .returned v ∧ Qnxt3_2 Z p0 wc ut b kb ln cd xs rg h0 n0 v U'.heap L ∧ FrameEnd U o U' L ({ frames := 5, cells := 0, slots := 0, locals := 66 } : Room).cells ({ frames := 5, cells := 0, slots := 0, locals := 66 } : Room).slots) := by
  refine MetFree.of_bodySF (plainFor_of_name pn_9) hisR ?_
  intro p e s m args below meth c s₁ Bd hml0 hP hK
  obtain ⟨rfl, hZ, hh⟩ := hP
  have hx := Bd.exec
  have hby := Bd.bytes
  have hml : c.maxLocals = 1 := hml0
  have hown : s.vm.findClass "com/example/lintel/lintel/message/HeaderCursor" = some m.cls := findClass_of_methodNamed Bd.named
  have X0 : Stand p l e ({ frames := 5, cells := 0, slots := 0, locals := 66 } : Room) s m #[(.ref p0)] below meth c s₁ [] 0 0 := Stand.of_body Bd
  have e0 : s₁.heap = h0 := by rw [← hh, Bd.state]; rfl
  have N0 := Fr.nil n0
  have s0 : Steps p.tables e below (s₁.setTop (entryFrame m #[(.ref p0)] 1)) (s₁.setTop (mkF m 0 #[.val (.ref p0)] [])) := castTop (ef_rmnxt3_2 m p0) (Steps.refl _)
  obtain ⟨A₀, hA₀⟩ : ∃ z, z = (s₁.setTop (entryFrame m #[(.ref p0)] 1)) := ⟨_, rfl⟩
  rw [← hA₀] at s0
  rcases hv with ⟨rfl, rfl⟩ | ⟨rfl, rfl⟩
  · obtain ⟨T1, X1, e1, st1⟩ := getF X0 hx hZ hown (host := "") (Or.inl (wq hw 44 rfl)) Via.refl e0 F5_ (g := (mkF m 1 #[.val (.ref p0)] [(.ref p0)])) rfl rfl (hb hby d19_1)
    obtain ⟨T2, X2, e2, st2⟩ := getF X1 hx hZ hown (host := "") (Or.inl (wq hw 53 rfl)) Via.refl e1 F4_ (g := (mkF m 6 #[.val (.ref p0)] [(.ref p0), (.ref p0), (.ref ut)])) rfl rfl (hb hby d19_6)
    obtain ⟨T3, h3, X3, e3, W3, st3⟩ := putF X2 hx hZ hown (host := "") (Or.inl (wq hw 53 rfl)) Via.refl e2 F4_ F0_ (Or.inl (wq hw 54 rfl)) (wq hw 35 rfl) (ty := .int) (by decide) rfl rfl (g := (mkF m 12 #[.val (.ref p0)] [(.int 3), (.ref p0), (.int 2), (.ref ut)])) rfl rfl (hb hby d19_12)
    have Fw3 := F4_.same W3
    have O3 := O0.wr W3 F1_
    have K3 : Keep h0 h3 [p0] := (Keep.refl h0 [p0]).wr W3 (Or.inl (List.mem_of_getElem? (i := 0) rfl))
    have N3 := Fr.snoc X3 N0 F1_
    have c4 : Exa Z h3 ut "java/lang/String" := (F6_.wr W3)
    have c5 : Fld Z h3 ut "java/lang/String" "value" "[B" (.ref b) := (F7_.other W3 (Or.inl (Ne.symm F2_)))
    have c6 : Fld Z h3 ut "java/lang/String" "coder" "B" (.int 0) := (F8_.other W3 (Or.inl (Ne.symm F2_)))
    have c7 : Arv Z h3 b kb .byte 3 (xs.map Value.int) (.int 0) := (F9_.other W3 (Ne.symm F3_))
    obtain ⟨cq8, kq8, q8a, q8b, q8c⟩ := isOf hZ e3 c4
    obtain ⟨_, _, ⟨T8, L8, k8, n8⟩, -, X8, ⟨Lc8, hQ8, l8, y8, z8⟩, st8⟩ := X3.virtualBack hx (y := (⟨"java/lang/String", "charAt", "(I)C"⟩ : MethodName)) (z := (⟨"java/lang/String", "charAt", "(I)C"⟩ : MethodName)) hown (mvT hZ (wq hw 99 rfl)) (mvT hZ (wq hw 100 rfl)) (notFace_of_selects (args := #[]) (mvT hZ (wq hw 102 rfl))) (mvT hZ (wq hw 102 rfl)) (mvT hZ (wq hw 101 rfl)) (by decide) (backOf (W := 0) (rmcha0 l Z a0 hw [] ut (2 : Int32) wc b kb (3 : Int32) xs rg h3 n0 O3 c4 c5 c6 c7 F10_ F11_ F12_ F13_ F14_ F15_ hcs (by decide) (by decide)) hZ (wq hw 103 rfl) (wq hw 6 rfl) (by decide) (by decide)) q8a q8c (g := (mkF m 15 #[.val (.ref p0)] [(.int 2), (.ref ut)])) rfl (by rw [hml]; rfl) (Steps.refl _) (argsL := [(.int 2)]) (rest := []) (lenOf pd_rmnxt3_2_0 rfl) rfl (by exact Nat.le_refl _) (hb hby d19_15) (fun _ _ => ⟨rfl, e3, (by decide : 0 + 0 ≤ _), (by decide : 0 + 0 ≤ _)⟩)
    dsimp only [Pt.U, Pt.locs, Pt.cells, Pt.slots] at X8 l8 y8 z8 st8 hQ8
    subst l8 y8 z8
    obtain ⟨u9, rfl, Nq8, e8⟩ := hQ8
    have N8 := Fr.app N3 Nq8
    have s10 : Steps p.tables e below A₀ (T8.setTop (mkF m 18 #[.val (.ref p0)] [(.int u9)])) := by
      refine s0.trans ?_
      refine XS.aloadN X0.here hx rfl (hb hby d19_0) rfl rfl ?_
      refine st1 _ ?_
      refine XS.aloadN X1.here hx rfl (hb hby d19_4) rfl rfl ?_
      refine XS.dup X1.here hx rfl (hb hby d19_5) rfl rfl ?_
      refine st2 _ ?_
      refine XS.dupX1 X2.here hx rfl (hb hby d19_9) rfl rfl rfl ?_
      refine XS.iconst X2.here hx rfl (hb hby d19_10) ?_
      refine XS.iadd X2.here hx rfl (hb hby d19_11) rfl ?_
      show Steps p.tables e below (T2.setTop (mkF m 12 #[.val (.ref p0)] [(.int 3), (.ref p0), (.int 2), (.ref ut)])) _
      refine st3 _ ?_
      refine st8.trans ?_
      exact Steps.refl _
    subst hA₀
    have c11 : Exa Z h3 p0 "com/example/lintel/lintel/message/HeaderCursor" := (F0_.wr W3)
    have c12 : Fld Z h3 p0 "com/example/lintel/lintel/message/HeaderCursor" "text" "Ljava/lang/String;" (.ref ut) := (F5_.other W3 (Or.inr (slot_ne (Or.inr (wq hw 45 rfl)) (Or.inl (wq hw 54 rfl)) (by decide) (t := (.object "java/lang/String")) (t' := .int) (by decide) (by decide))))
    obtain ⟨fs, hr, hrun, hended, hW, hsame⟩ := X8.leave (v := some (.int (nar .char u9))) (fun h => by rw [Bd.returns] at h; cases h)
    refine ⟨_, _, s10.trans ?_, hrun, hended, _, _, rfl, ?_, ⟨_, rfl⟩, hW, hsame.mono (by decide) (by decide)⟩
    · show Steps p.tables e below (T8.setTop (mkF m 18 #[.val (.ref p0)] [(.int u9)])) _
      exact retN X8 hx (t := .char) Bd.returns (by simp) (hb hby d19_18) hr
    · show Qnxt3_2 Z p0 wc ut b kb (3 : Int32) (0 : Int32) xs rg h0 n0 _ T8.heap _
      rw [e8]
      exact ⟨(nar .char u9), rfl, N8, K3, c11, Fw3, c12⟩
  · obtain ⟨T13, X13, e13, st13⟩ := getF X0 hx hZ hown (host := "") (Or.inl (wq hw 44 rfl)) Via.refl e0 F5_ (g := (mkF m 1 #[.val (.ref p0)] [(.ref p0)])) rfl rfl (hb hby d19_1)
    obtain ⟨T14, X14, e14, st14⟩ := getF X13 hx hZ hown (host := "") (Or.inl (wq hw 53 rfl)) Via.refl e13 F4_ (g := (mkF m 6 #[.val (.ref p0)] [(.ref p0), (.ref p0), (.ref ut)])) rfl rfl (hb hby d19_6)
    obtain ⟨T15, h15, X15, e15, W15, st15⟩ := putF X14 hx hZ hown (host := "") (Or.inl (wq hw 53 rfl)) Via.refl e14 F4_ F0_ (Or.inl (wq hw 54 rfl)) (wq hw 35 rfl) (ty := .int) (by decide) rfl rfl (g := (mkF m 12 #[.val (.ref p0)] [(.int 3), (.ref p0), (.int 2), (.ref ut)])) rfl rfl (hb hby d19_12)
    have Fw15 := F4_.same W15
    have O15 := O0.wr W15 F1_
    have K15 : Keep h0 h15 [p0] := (Keep.refl h0 [p0]).wr W15 (Or.inl (List.mem_of_getElem? (i := 0) rfl))
    have N15 := Fr.snoc X15 N0 F1_
    have c16 : Exa Z h15 ut "java/lang/String" := (F6_.wr W15)
    have c17 : Fld Z h15 ut "java/lang/String" "value" "[B" (.ref b) := (F7_.other W15 (Or.inl (Ne.symm F2_)))
    have c18 : Fld Z h15 ut "java/lang/String" "coder" "B" (.int 1) := (F8_.other W15 (Or.inl (Ne.symm F2_)))
    have c19 : Arv Z h15 b kb .byte 6 (xs.map Value.int) (.int 0) := (F9_.other W15 (Ne.symm F3_))
    obtain ⟨cq20, kq20, q20a, q20b, q20c⟩ := isOf hZ e15 c16
    obtain ⟨_, _, ⟨T20, L20, k20, n20⟩, -, X20, ⟨Lc20, hQ20, l20, y20, z20⟩, st20⟩ := X15.virtualBack hx (y := (⟨"java/lang/String", "charAt", "(I)C"⟩ : MethodName)) (z := (⟨"java/lang/String", "charAt", "(I)C"⟩ : MethodName)) hown (mvT hZ (wq hw 99 rfl)) (mvT hZ (wq hw 100 rfl)) (notFace_of_selects (args := #[]) (mvT hZ (wq hw 102 rfl))) (mvT hZ (wq hw 102 rfl)) (mvT hZ (wq hw 101 rfl)) (by decide) (backOf (W := 0) (rmcha1 l Z a0 hw [] ut (2 : Int32) wc b kb (6 : Int32) xs rg h15 n0 O15 c16 c17 c18 c19 F10_ F11_ F12_ F13_ F14_ F15_ hcs (by decide) (by decide) ⟨by decide, by decide⟩ ⟨by decide, by decide⟩) hZ (wq hw 103 rfl) (wq hw 6 rfl) (by decide) (by decide)) q20a q20c (g := (mkF m 15 #[.val (.ref p0)] [(.int 2), (.ref ut)])) rfl (by rw [hml]; rfl) (Steps.refl _) (argsL := [(.int 2)]) (rest := []) (lenOf pd_rmnxt3_2_0 rfl) rfl (by exact Nat.le_refl _) (hb hby d19_15) (fun _ _ => ⟨rfl, e15, (by decide : 0 + 0 ≤ _), (by decide : 0 + 0 ≤ _)⟩)
    dsimp only [Pt.U, Pt.locs, Pt.cells, Pt.slots] at X20 l20 y20 z20 st20 hQ20
    subst l20 y20 z20
    obtain ⟨u21, rfl, Nq20, e20⟩ := hQ20
    have N20 := Fr.app N15 Nq20
    have s22 : Steps p.tables e below A₀ (T20.setTop (mkF m 18 #[.val (.ref p0)] [(.int u21)])) := by
      refine s0.trans ?_
      refine XS.aloadN X0.here hx rfl (hb hby d19_0) rfl rfl ?_
      refine st13 _ ?_
      refine XS.aloadN X13.here hx rfl (hb hby d19_4) rfl rfl ?_
      refine XS.dup X13.here hx rfl (hb hby d19_5) rfl rfl ?_
      refine st14 _ ?_
      refine XS.dupX1 X14.here hx rfl (hb hby d19_9) rfl rfl rfl ?_
      refine XS.iconst X14.here hx rfl (hb hby d19_10) ?_
      refine XS.iadd X14.here hx rfl (hb hby d19_11) rfl ?_
      show Steps p.tables e below (T14.setTop (mkF m 12 #[.val (.ref p0)] [(.int 3), (.ref p0), (.int 2), (.ref ut)])) _
      refine st15 _ ?_
      refine st20.trans ?_
      exact Steps.refl _
    subst hA₀
    have c23 : Exa Z h15 p0 "com/example/lintel/lintel/message/HeaderCursor" := (F0_.wr W15)
    have c24 : Fld Z h15 p0 "com/example/lintel/lintel/message/HeaderCursor" "text" "Ljava/lang/String;" (.ref ut) := (F5_.other W15 (Or.inr (slot_ne (Or.inr (wq hw 45 rfl)) (Or.inl (wq hw 54 rfl)) (by decide) (t := (.object "java/lang/String")) (t' := .int) (by decide) (by decide))))
    obtain ⟨fs, hr, hrun, hended, hW, hsame⟩ := X20.leave (v := some (.int (nar .char u21))) (fun h => by rw [Bd.returns] at h; cases h)
    refine ⟨_, _, s22.trans ?_, hrun, hended, _, _, rfl, ?_, ⟨_, rfl⟩, hW, hsame.mono (by decide) (by decide)⟩
    · show Steps p.tables e below (T20.setTop (mkF m 18 #[.val (.ref p0)] [(.int u21)])) _
      exact retN X20 hx (t := .char) Bd.returns (by simp) (hb hby d19_18) hr
    · show Qnxt3_2 Z p0 wc ut b kb (6 : Int32) (1 : Int32) xs rg h0 n0 _ T20.heap _
      rw [e20]
      exact ⟨(nar .char u21), rfl, N20, K15, c23, Fw15, c24⟩
theorem d8_0 : decode prog_1_method_1_code 0 = .ok (.aload_n 0, 1) := by decide +kernel
theorem d8_1 : decode prog_1_method_1_code 1 = .ok (.invokespecial 1, 3) := by decide +kernel
theorem d8_4 : decode prog_1_method_1_code 4 = .ok (.aload_n 0, 1) := by decide +kernel
theorem d8_5 : decode prog_1_method_1_code 5 = .ok (.aload_n 1, 1) := by decide +kernel
theorem d8_6 : decode prog_1_method_1_code 6 = .ok (.putfield 7, 3) := by decide +kernel
theorem d8_9 : decode prog_1_method_1_code 9 = .ok (.aload_n 0, 1) := by decide +kernel
theorem d8_10 : decode prog_1_method_1_code 10 = .ok (.aload_n 2, 1) := by decide +kernel
theorem d8_11 : decode prog_1_method_1_code 11 = .ok (.putfield 13, 3) := by decide +kernel
theorem d8_14 : decode prog_1_method_1_code 14 = .ok (.return_, 1) := by decide +kernel
theorem ef_rm8 (m : MethodId) (p0 : Addr) (p1 : Addr) (p2 : Addr) : entryFrame m #[(.ref p0), (.ref p1), (.ref p2)] 3 = mkF m 0 #[.val (.ref p0), .val (.ref p1), .val (.ref p2)] [] := by first | (simp [entryFrame, mkF, argsToLocals, Value.category]; done) | rfl
def Q8 (Z : State) (p0 : Addr) (p1 : Addr) (p2 : Addr) (h0 : Heap) (n0 : Nat) (v : Option Value) (h : Heap) (L : List Loc) : Prop := v = none ∧ Fr n0 L ∧ Keep h0 h [p0] ∧ (Exa Z h p0 "com/example/lintel/lintel/message/HeaderCursor") ∧ (Fld Z h p0 "com/example/lintel/lintel/message/HeaderCursor" "text" "Ljava/lang/String;" (.ref p1)) ∧ (Fld Z h p0 "com/example/lintel/lintel/message/HeaderCursor" "at" "I" (.int 0))
set_option maxRecDepth 65536 in
set_option maxHeartbeats 40000000 in
theorem rm8 (l : Launch) (Z : State) (a0 : Array Value) (hw : ∀ d ∈ tables_1, d.before a0 Z = true) (ws : List Jvm.Cond) (p0 : Addr) (p1 : Addr) (p2 : Addr) (h0 : Heap) (n0 : Nat) (O0 : Old Z n0 h0) (F0_ : Exa Z h0 p0 "com/example/lintel/lintel/message/HeaderCursor") (F1_ : Fld Z h0 p0 "com/example/lintel/lintel/message/HeaderCursor" "text" "Ljava/lang/String;" .null) (F2_ : Fld Z h0 p0 "com/example/lintel/lintel/message/HeaderCursor" "what" "Ljava/lang/String;" .null) (F3_ : Fld Z h0 p0 "com/example/lintel/lintel/message/HeaderCursor" "at" "I" (.int 0)) (F4_ : n0 ≤ p0) :
    MetFree l nm23 (head1 (Jvm.Cond.code nm23 prog_1_method_1_code 3 none :: ws) ({ frames := 1, cells := 0, slots := 0, locals := 12 } : Room)) (fun a U => a = #[(.ref p0), (.ref p1), (.ref p2)] ∧ Z.Warmed39 U.vm ∧ U.heap = h0) (fun _ _ _ _ _ => True) (fun _ U o U' => ∃ v L, o = .returned v ∧ Q8 Z p0 p1 p2 h0 n0 v U'.heap L ∧ FrameEnd U o U' L ({ frames := 1, cells := 0, slots := 0, locals := 12 } : Room).cells ({ frames := 1, cells := 0, slots := 0, locals := 12 } : Room).slots) := by
  refine MetFree.of_bodySF (plainFor_of_name pn_9) hisR ?_
  intro p e s m args below meth c s₁ Bd hml0 hP hK
  obtain ⟨rfl, hZ, hh⟩ := hP
  have hx := Bd.exec
  have hby := Bd.bytes
  have hml : c.maxLocals = 3 := hml0
  have hown : s.vm.findClass "com/example/lintel/lintel/message/HeaderCursor" = some m.cls := findClass_of_methodNamed Bd.named
  have hnm := (name_of_methodNamed Bd.named Bd.method).1
  have X0 : Stand p l e ({ frames := 1, cells := 0, slots := 0, locals := 12 } : Room) s m #[(.ref p0), (.ref p1), (.ref p2)] below meth c s₁ [] 0 0 := Stand.of_body Bd
  have e0 : s₁.heap = h0 := by rw [← hh, Bd.state]; rfl
  have N0 := Fr.nil n0
  have s0 : Steps p.tables e below (s₁.setTop (entryFrame m #[(.ref p0), (.ref p1), (.ref p2)] 3)) (s₁.setTop (mkF m 0 #[.val (.ref p0), .val (.ref p1), .val (.ref p2)] [])) := castTop (ef_rm8 m p0 p1 p2) (Steps.refl _)
  obtain ⟨A₀, hA₀⟩ : ∃ z, z = (s₁.setTop (entryFrame m #[(.ref p0), (.ref p1), (.ref p2)] 3)) := ⟨_, rfl⟩
  rw [← hA₀] at s0
  obtain ⟨T1, X1, e1, st1⟩ := initO X0 hx hZ hown (wq hw 43 rfl) (wq hw 16 rfl) (wq hw 17 rfl) e0 (g := (mkF m 1 #[.val (.ref p0), .val (.ref p1), .val (.ref p2)] [(.ref p0)])) rfl (by rw [hml]; rfl) rfl (hb hby d8_1) (by decide) (W := 0) (by exact Nat.le_refl _) (by decide)
  obtain ⟨T2, h2, X2, e2, W2, st2⟩ := putF X1 hx hZ hown (host := "") (Or.inl (wq hw 44 rfl)) Via.refl e1 F1_ F0_ (Or.inr ⟨(wq hw 45 rfl), rfl, hnm⟩) (wq hw 35 rfl) (ty := (.object "java/lang/String")) (by decide) rfl rfl (g := (mkF m 6 #[.val (.ref p0), .val (.ref p1), .val (.ref p2)] [(.ref p1), (.ref p0)])) rfl rfl (hb hby d8_6)
  have Fw2 := F1_.same W2
  have O2 := O0.wr W2 F4_
  have K2 : Keep h0 h2 [p0] := (Keep.refl h0 [p0]).wr W2 (Or.inl (List.mem_of_getElem? (i := 0) rfl))
  have N2 := Fr.snoc X2 N0 F4_
  have c3 : Exa Z h2 p0 "com/example/lintel/lintel/message/HeaderCursor" := (F0_.wr W2)
  have c4 : Fld Z h2 p0 "com/example/lintel/lintel/message/HeaderCursor" "what" "Ljava/lang/String;" .null := (F2_.other W2 (Or.inr (slot_ne (Or.inr (wq hw 47 rfl)) (Or.inr (wq hw 45 rfl)) (by decide) (t := (.object "java/lang/String")) (t' := (.object "java/lang/String")) (by decide) (by decide))))
  obtain ⟨T5, h5, X5, e5, W5, st5⟩ := putF X2 hx hZ hown (host := "") (Or.inl (wq hw 46 rfl)) Via.refl e2 c4 c3 (Or.inr ⟨(wq hw 47 rfl), rfl, hnm⟩) (wq hw 35 rfl) (ty := (.object "java/lang/String")) (by decide) rfl rfl (g := (mkF m 11 #[.val (.ref p0), .val (.ref p1), .val (.ref p2)] [(.ref p2), (.ref p0)])) rfl rfl (hb hby d8_11)
  have Fw5 := c4.same W5
  have O5 := O2.wr W5 F4_
  have K5 : Keep h0 h5 [p0] := K2.wr W5 (Or.inl (List.mem_of_getElem? (i := 0) rfl))
  have N5 := Fr.snoc X5 N2 F4_
  have s6 : Steps p.tables e below A₀ (T5.setTop (mkF m 14 #[.val (.ref p0), .val (.ref p1), .val (.ref p2)] [])) := by
    refine s0.trans ?_
    refine XS.aloadN X0.here hx rfl (hb hby d8_0) rfl rfl ?_
    refine st1 _ ?_
    refine XS.aloadN X1.here hx rfl (hb hby d8_4) rfl rfl ?_
    refine XS.aloadN X1.here hx rfl (hb hby d8_5) rfl rfl ?_
    refine st2 _ ?_
    refine XS.aloadN X2.here hx rfl (hb hby d8_9) rfl rfl ?_
    refine XS.aloadN X2.here hx rfl (hb hby d8_10) rfl rfl ?_
    refine st5 _ ?_
    exact Steps.refl _
  subst hA₀
  have c7 : Exa Z h5 p0 "com/example/lintel/lintel/message/HeaderCursor" := (c3.wr W5)
  have c8 : Fld Z h5 p0 "com/example/lintel/lintel/message/HeaderCursor" "text" "Ljava/lang/String;" (.ref p1) := (Fw2.other W5 (Or.inr (slot_ne (Or.inr (wq hw 45 rfl)) (Or.inr (wq hw 47 rfl)) (by decide) (t := (.object "java/lang/String")) (t' := (.object "java/lang/String")) (by decide) (by decide))))
  have c9 : Fld Z h5 p0 "com/example/lintel/lintel/message/HeaderCursor" "at" "I" (.int 0) := ((F3_.other W2 (Or.inr (slot_ne (Or.inl (wq hw 54 rfl)) (Or.inr (wq hw 45 rfl)) (by decide) (t := .int) (t' := (.object "java/lang/String")) (by decide) (by decide)))).other W5 (Or.inr (slot_ne (Or.inl (wq hw 54 rfl)) (Or.inr (wq hw 47 rfl)) (by decide) (t := .int) (t' := (.object "java/lang/String")) (by decide) (by decide))))
  obtain ⟨fs, hr, hrun, hended, hW, hsame⟩ := X5.leave (v := none) (fun _ => rfl)
  refine ⟨_, _, s6.trans ?_, hrun, hended, _, _, rfl, ?_, ⟨_, rfl⟩, hW, hsame.mono (by decide) (by decide)⟩
  · show Steps p.tables e below (T5.setTop (mkF m 14 #[.val (.ref p0), .val (.ref p1), .val (.ref p2)] [])) _
    exact X5.returnOut hx Bd.returns (hb hby d8_14) hr
  · show Q8 Z p0 p1 p2 h0 n0 _ T5.heap _
    rw [e5]
    exact ⟨rfl, N5, K5, c7, c8, c9⟩
theorem d13_0 : decode prog_1_method_6_code 0 = .ok (.aload_n 0, 1) := by decide +kernel
theorem d13_1 : decode prog_1_method_6_code 1 = .ok (.iload_n 1, 1) := by decide +kernel
theorem d13_2 : decode prog_1_method_6_code 2 = .ok (.putfield 16, 3) := by decide +kernel
theorem d13_5 : decode prog_1_method_6_code 5 = .ok (.return_, 1) := by decide +kernel
theorem ef_rm13 (m : MethodId) (p0 : Addr) (p1 : Int32) : entryFrame m #[(.ref p0), (.int p1)] 2 = mkF m 0 #[.val (.ref p0), .val (.int p1)] [] := by first | (simp [entryFrame, mkF, argsToLocals, Value.category]; done) | rfl
def Q13 (Z : State) (p0 : Addr) (p1 : Int32) (wa : Int32) (ut : Addr) (h0 : Heap) (n0 : Nat) (v : Option Value) (h : Heap) (L : List Loc) : Prop := v = none ∧ Fr n0 L ∧ Keep h0 h [p0] ∧ (Exa Z h p0 "com/example/lintel/lintel/message/HeaderCursor") ∧ (Fld Z h p0 "com/example/lintel/lintel/message/HeaderCursor" "at" "I" (.int p1)) ∧ (Fld Z h p0 "com/example/lintel/lintel/message/HeaderCursor" "text" "Ljava/lang/String;" (.ref ut))
set_option maxRecDepth 65536 in
set_option maxHeartbeats 40000000 in
theorem rm13 (l : Launch) (Z : State) (a0 : Array Value) (hw : ∀ d ∈ tables_1, d.before a0 Z = true) (ws : List Jvm.Cond) (p0 : Addr) (p1 : Int32) (wa : Int32) (ut : Addr) (h0 : Heap) (n0 : Nat) (O0 : Old Z n0 h0) (F0_ : Exa Z h0 p0 "com/example/lintel/lintel/message/HeaderCursor") (F1_ : Fld Z h0 p0 "com/example/lintel/lintel/message/HeaderCursor" "at" "I" (.int wa)) (F2_ : Fld Z h0 p0 "com/example/lintel/lintel/message/HeaderCursor" "text" "Ljava/lang/String;" (.ref ut)) (F3_ : n0 ≤ p0) :
    MetFree l nm24 (head1 (Jvm.Cond.code nm24 prog_1_method_6_code 2 none :: ws) ({ frames := 0, cells := 0, slots := 0, locals := 0 } : Room)) (fun a U => a = #[(.ref p0), (.int p1)] ∧ Z.Warmed39 U.vm ∧ U.heap = h0) (fun _ _ _ _ _ => True) (fun _ U o U' => ∃ v L, o = .returned v ∧ Q13 Z p0 p1 wa ut h0 n0 v U'.heap L ∧ FrameEnd U o U' L ({ frames := 0, cells := 0, slots := 0, locals := 0 } : Room).cells ({ frames := 0, cells := 0, slots := 0, locals := 0 } : Room).slots) := by
  refine MetFree.of_bodySF (plainFor_of_name pn_9) hisR ?_
  intro p e s m args below meth c s₁ Bd hml0 hP hK
  obtain ⟨rfl, hZ, hh⟩ := hP
  have hx := Bd.exec
  have hby := Bd.bytes
  have hml : c.maxLocals = 2 := hml0
  have hown : s.vm.findClass "com/example/lintel/lintel/message/HeaderCursor" = some m.cls := findClass_of_methodNamed Bd.named
  have X0 : Stand p l e ({ frames := 0, cells := 0, slots := 0, locals := 0 } : Room) s m #[(.ref p0), (.int p1)] below meth c s₁ [] 0 0 := Stand.of_body Bd
  have e0 : s₁.heap = h0 := by rw [← hh, Bd.state]; rfl
  have N0 := Fr.nil n0
  have s0 : Steps p.tables e below (s₁.setTop (entryFrame m #[(.ref p0), (.int p1)] 2)) (s₁.setTop (mkF m 0 #[.val (.ref p0), .val (.int p1)] [])) := castTop (ef_rm13 m p0 p1) (Steps.refl _)
  obtain ⟨A₀, hA₀⟩ : ∃ z, z = (s₁.setTop (entryFrame m #[(.ref p0), (.int p1)] 2)) := ⟨_, rfl⟩
  rw [← hA₀] at s0
  obtain ⟨T1, h1, X1, e1, W1, st1⟩ := putF X0 hx hZ hown (host := "") (Or.inl (wq hw 53 rfl)) Via.refl e0 F1_ F0_ (Or.inl (wq hw 54 rfl)) (wq hw 35 rfl) (ty := .int) (by decide) rfl rfl (g := (mkF m 2 #[.val (.ref p0), .val (.int p1)] [(.int p1), (.ref p0)])) rfl rfl (hb hby d13_2)
  have Fw1 := F1_.same W1
  have O1 := O0.wr W1 F3_
  have K1 : Keep h0 h1 [p0] := (Keep.refl h0 [p0]).wr W1 (Or.inl (List.mem_of_getElem? (i := 0) rfl))
  have N1 := Fr.snoc X1 N0 F3_
  have s2 : Steps p.tables e below A₀ (T1.setTop (mkF m 5 #[.val (.ref p0), .val (.int p1)] [])) := by
    refine s0.trans ?_
    refine XS.aloadN X0.here hx rfl (hb hby d13_0) rfl rfl ?_
    refine XS.iloadN X0.here hx rfl (hb hby d13_1) rfl ?_
    refine st1 _ ?_
    exact Steps.refl _
  subst hA₀
  have c3 : Exa Z h1 p0 "com/example/lintel/lintel/message/HeaderCursor" := (F0_.wr W1)
  have c4 : Fld Z h1 p0 "com/example/lintel/lintel/message/HeaderCursor" "text" "Ljava/lang/String;" (.ref ut) := (F2_.other W1 (Or.inr (slot_ne (Or.inr (wq hw 45 rfl)) (Or.inl (wq hw 54 rfl)) (by decide) (t := (.object "java/lang/String")) (t' := .int) (by decide) (by decide))))
  obtain ⟨fs, hr, hrun, hended, hW, hsame⟩ := X1.leave (v := none) (fun _ => rfl)
  refine ⟨_, _, s2.trans ?_, hrun, hended, _, _, rfl, ?_, ⟨_, rfl⟩, hW, hsame.mono (by decide) (by decide)⟩
  · show Steps p.tables e below (T1.setTop (mkF m 5 #[.val (.ref p0), .val (.int p1)] [])) _
    exact X1.returnOut hx Bd.returns (hb hby d13_5) hr
  · show Q13 Z p0 p1 wa ut h0 n0 _ T1.heap _
    rw [e1]
    exact ⟨rfl, N1, K1, c3, Fw1, c4⟩
theorem d12_0 : decode jdk_29_method_69_code 0 = .ok (.iload_n 0, 1) := by decide +kernel
theorem d12_1 : decode jdk_29_method_69_code 1 = .ok (.iload_n 1, 1) := by decide +kernel
theorem d12_2 : decode jdk_29_method_69_code 2 = .ok (.if_icmp .gt 7, 3) := by decide +kernel
theorem d12_5 : decode jdk_29_method_69_code 5 = .ok (.iload_n 0, 1) := by decide +kernel
theorem d12_6 : decode jdk_29_method_69_code 6 = .ok (.goto 4, 3) := by decide +kernel
theorem d12_9 : decode jdk_29_method_69_code 9 = .ok (.iload_n 1, 1) := by decide +kernel
theorem d12_10 : decode jdk_29_method_69_code 10 = .ok (.ireturn, 1) := by decide +kernel
theorem ef_rm12 (m : MethodId) (p0 : Int32) (p1 : Int32) : entryFrame m #[(.int p0), (.int p1)] 2 = mkF m 0 #[.val (.int p0), .val (.int p1)] [] := by first | (simp [entryFrame, mkF, argsToLocals, Value.category]; done) | rfl
def Q12 (Z : State) (p0 : Int32) (p1 : Int32) (h0 : Heap) (n0 : Nat) (v : Option Value) (h : Heap) (L : List Loc) : Prop := v = some (.int (own_min p0 p1)) ∧ Fr n0 L ∧ h = h0
set_option maxRecDepth 65536 in
set_option maxHeartbeats 40000000 in
theorem rm12 (l : Launch) (Z : State) (a0 : Array Value) (hw : ∀ d ∈ tables_1, d.before a0 Z = true) (ws : List Jvm.Cond) (p0 : Int32) (p1 : Int32) (h0 : Heap) (n0 : Nat) (O0 : Old Z n0 h0) :
    MetFree l nm25 (head1 (Jvm.Cond.code nm25 jdk_29_method_69_code 2 (some .int) :: ws) ({ frames := 0, cells := 0, slots := 0, locals := 0 } : Room)) (fun a U => a = #[(.int p0), (.int p1)] ∧ Z.Warmed39 U.vm ∧ U.heap = h0) (fun _ _ _ _ _ => True) (fun _ U o U' => ∃ v L, o = .returned v ∧ Q12 Z p0 p1 h0 n0 v U'.heap L ∧ FrameEnd U o U' L ({ frames := 0, cells := 0, slots := 0, locals := 0 } : Room).cells ({ frames := 0, cells := 0, slots := 0, locals := 0 } : Room).slots) := by
  refine MetFree.of_bodySF (Jvm.Free.JP.mathPlain rfl (by decide +kernel)) hisR ?_
  intro p e s m args below meth c s₁ Bd hml0 hP hK
  obtain ⟨rfl, hZ, hh⟩ := hP
  have hx := Bd.exec
  have hby := Bd.bytes
  have hml : c.maxLocals = 2 := hml0
  have hown : s.vm.findClass "java/lang/Math" = some m.cls := findClass_of_methodNamed Bd.named
  have X0 : Stand p l e ({ frames := 0, cells := 0, slots := 0, locals := 0 } : Room) s m #[(.int p0), (.int p1)] below meth c s₁ [] 0 0 := Stand.of_body Bd
  have e0 : s₁.heap = h0 := by rw [← hh, Bd.state]; rfl
  have N0 := Fr.nil n0
  have s0 : Steps p.tables e below (s₁.setTop (entryFrame m #[(.int p0), (.int p1)] 2)) (s₁.setTop (mkF m 0 #[.val (.int p0), .val (.int p1)] [])) := castTop (ef_rm12 m p0 p1) (Steps.refl _)
  obtain ⟨A₀, hA₀⟩ : ∃ z, z = (s₁.setTop (entryFrame m #[(.int p0), (.int p1)] 2)) := ⟨_, rfl⟩
  rw [← hA₀] at s0
  have s1 : Steps p.tables e below A₀ (s₁.setTop (mkF m 2 #[.val (.int p0), .val (.int p1)] [(.int p1), (.int p0)])) := by
    refine s0.trans ?_
    refine XS.iloadN X0.here hx rfl (hb hby d12_0) rfl ?_
    refine XS.iloadN X0.here hx rfl (hb hby d12_1) rfl ?_
    exact Steps.refl _
  have s3 : Steps p.tables e below A₀ (s₁.setTop (mkF m 10 #[.val (.int p0), .val (.int p1)] [(.int (if p1 < p0 then p1 else p0))])) := by
    by_cases hm2 : p1 < p0
    · simp only [if_pos hm2]
      refine s1.trans ?_
      refine XS.icmpYes X0.here hx rfl (pc0 := 2) (pc' := 9) rfl (hb hby d12_2) rfl (tlt hm2).2.2.1 (by decide) (by decide) ?_
      refine XS.iloadN X0.here hx rfl (hb hby d12_9) rfl ?_
      exact Steps.refl _
    · simp only [if_neg hm2]
      refine s1.trans ?_
      refine XS.icmpNo X0.here hx rfl (hb hby d12_2) rfl (flt hm2).2.2.1 ?_
      refine XS.iloadN X0.here hx rfl (hb hby d12_5) rfl ?_
      refine XS.goto X0.here hx rfl (pc0 := 6) (pc' := 10) rfl (hb hby d12_6) (by decide) (by decide) ?_
      exact Steps.refl _
  obtain ⟨zz, hzz⟩ : ∃ z, z = (if p1 < p0 then p1 else p0) := ⟨_, rfl⟩
  rw [← hzz] at s3
  subst hA₀
  obtain ⟨fs, hr, hrun, hended, hW, hsame⟩ := X0.leave (v := some (.int zz)) (fun h => by rw [Bd.returns] at h; cases h)
  refine ⟨_, _, s3.trans ?_, hrun, hended, _, _, rfl, ?_, ⟨_, rfl⟩, hW, hsame.mono (by decide) (by decide)⟩
  · show Steps p.tables e below (s₁.setTop (mkF m 10 #[.val (.int p0), .val (.int p1)] [(.int zz)])) _
    exact retI X0 hx Bd.returns (hb hby d12_10) hr
  · show Q12 Z p0 p1 h0 n0 _ s₁.heap _
    rw [e0]
    exact ⟨(by rw [hzz]; rfl), N0, rfl⟩
theorem pd_rm0_0 : parseMethodDescriptor "(ICCC)Ljava/lang/String;" = some ⟨[.int, .char, .char, .char], some (.object "java/lang/String")⟩ := by decide +kernel
theorem pd_rm0_1 : parseMethodDescriptor "(Ljava/lang/String;Ljava/lang/String;)V" = some ⟨[(.object "java/lang/String"), (.object "java/lang/String")], none⟩ := by decide +kernel
theorem pd_rm0_2 : parseMethodDescriptor "()Z" = some ⟨[], some .boolean⟩ := by decide +kernel
theorem pd_rm0_3 : parseMethodDescriptor "(II)I" = some ⟨[.int, .int], some .int⟩ := by decide +kernel
theorem pd_rm0_4 : parseMethodDescriptor "(I)V" = some ⟨[.int], none⟩ := by decide +kernel
theorem pd_rm0_5 : parseMethodDescriptor "()C" = some ⟨[], some .char⟩ := by decide +kernel
theorem ef_rm0 (m : MethodId) (p0 : Int32) (p1 : Int32) (p2 : Int32) (p3 : Int32) (p4 : Int32) (p5 : Int32) : entryFrame m #[(.int p0), (.int p1), (.int p2), (.int p3), (.int p4), (.int p5)] maxLocals = mkF m 0 #[.val (.int p0), .val (.int p1), .val (.int p2), .val (.int p3), .val (.int p4), .val (.int p5), .unset, .unset, .unset, .unset, .unset, .unset, .unset] [] := by first | (simp [entryFrame, mkF, argsToLocals, Value.category, maxLocals]; done) | rfl
def Q0 (Z : State) (p0 : Int32) (p1 : Int32) (p2 : Int32) (p3 : Int32) (p4 : Int32) (p5 : Int32) (wc : Int32) (rg : Value) (h0 : Heap) (n0 : Nat) (v : Option Value) (h : Heap) (L : List Loc) : Prop := v = some (.int 1) ∧ Fr n0 L
set_option maxRecDepth 65536 in
set_option maxHeartbeats 40000000 in
theorem rm0 (l : Launch) (Z : State) (a0 : Array Value) (hw : ∀ d ∈ tables_1, d.before a0 Z = true) (ws : List Jvm.Cond) (p0 : Int32) (p1 : Int32) (p2 : Int32) (p3 : Int32) (p4 : Int32) (p5 : Int32) (wc : Int32) (rg : Value) (h0 : Heap) (n0 : Nat) (O0 : Old Z n0 h0) (F0_ : Sta Z Z.heap "java/lang/String" "COMPACT_STRINGS" "Z" (.int wc)) (F1_ : Sta Z Z.heap "jdk/internal/util/Preconditions" "SIOOBE_FORMATTER" "Ljava/util/function/BiFunction;" rg) (F2_ : rg.isRef = true) (F3_ : Sta Z Z.heap "java/lang/StringUTF16" "$assertionsDisabled" "Z" (.int 1)) (F4_ : Sta Z Z.heap "java/lang/StringUTF16" "HI_BYTE_SHIFT" "I" (.int 0)) (F5_ : Sta Z Z.heap "java/lang/StringUTF16" "LO_BYTE_SHIFT" "I" (.int 8)) (hcs : ¬ (wc = (0 : Int32))) (hheld : Jvm.Lit.constHeld Z "java/lang/String" 7) (hcw : Jvm.Lit.compactW.before a0 Z = true) :
    MetFree l x (head1 (Jvm.Cond.code x code maxLocals ret :: ws) room_1) (fun a U => a = #[(.int p0), (.int p1), (.int p2), (.int p3), (.int p4), (.int p5)] ∧ Z.Warmed39 U.vm ∧ U.heap = h0 ∧ own_R Z h0 U.vm) (fun _ _ _ _ _ => True) (fun _ U o U' => ∃ v L, o = .returned v ∧ Q0 Z p0 p1 p2 p3 p4 p5 wc rg h0 n0 v U'.heap L ∧ ReturnedEndW U o U' L room_1.cells room_1.slots) := by
  refine MetFree.of_bodySF (plainFor_of_name pn_1) hisR ?_
  intro p e s m args below meth c s₁ Bd hml0 hP hK
  obtain ⟨rfl, hZ, hh, hR⟩ := hP
  have hx := Bd.exec
  have hby := Bd.bytes
  have hml : c.maxLocals = 13 := hml0
  have hown : s.vm.findClass "com/example/lintel/lintel/message/HeaderCursorAtEndPinLaw" = some m.cls := findClass_of_methodNamed Bd.named
  have X0 : Stand p l e room_1 (s.setVm s.vm) m #[(.int p0), (.int p1), (.int p2), (.int p3), (.int p4), (.int p5)] below meth c s₁ [] 0 0 := Stand.of_body Bd
  have e0 : s₁.heap = h0 := by rw [← hh, Bd.state]; rfl
  have N0 := Fr.nil n0
  have hS0 : s.Since s.vm s.heap.size := (State.WarmedH.refl s).since _
  have hk0 : s.heap.size ≤ h0.size := Nat.le_of_eq (congrArg Array.size hh)
  have s0 : Steps p.tables e below (s₁.setTop (entryFrame m #[(.int p0), (.int p1), (.int p2), (.int p3), (.int p4), (.int p5)] maxLocals)) (s₁.setTop (mkF m 0 #[.val (.int p0), .val (.int p1), .val (.int p2), .val (.int p3), .val (.int p4), .val (.int p5), .unset, .unset, .unset, .unset, .unset, .unset, .unset] [])) := castTop (ef_rm0 m p0 p1 p2 p3 p4 p5) (Steps.refl _)
  obtain ⟨A₀, hA₀⟩ : ∃ z, z = (s₁.setTop (entryFrame m #[(.int p0), (.int p1), (.int p2), (.int p3), (.int p4), (.int p5)] maxLocals)) := ⟨_, rfl⟩
  rw [← hA₀] at s0
  have s1 : Steps p.tables e below A₀ (s₁.setTop (mkF m 5 #[.val (.int p0), .val (.int p1), .val (.int p2), .val (.int p3), .val (.int p4), .val (.int p5), .val (.int (p3 &&& (3 : Int32))), .unset, .unset, .unset, .unset, .unset, .unset] [])) := by
    refine s0.trans ?_
    refine XS.iloadN X0.here hx rfl (hb hby at_0) rfl ?_
    refine XS.iconst X0.here hx rfl (hb hby at_1) ?_
    refine XS.iand X0.here hx rfl (hb hby at_2) rfl ?_
    refine XS.istore X0.here hx rfl (hb hby at_3) rfl (l' := #[.val (.int p0), .val (.int p1), .val (.int p2), .val (.int p3), .val (.int p4), .val (.int p5), .val (.int (p3 &&& (3 : Int32))), .unset, .unset, .unset, .unset, .unset, .unset]) rfl ?_
    exact Steps.refl _
  rcases own_and3 p3 with hk2 | hk2 | hk2 | hk2
  · have s3 := s1
    rw [hk2] at s3
    have s4 : Steps p.tables e below A₀ (s₁.setTop (mkF m 13 #[.val (.int p0), .val (.int p1), .val (.int p2), .val (.int p3), .val (.int p4), .val (.int p5), .val (.int 0), .unset, .unset, .unset, .unset, .unset, .unset] [(.int (p2.toUInt32.toUInt16.toUInt32.toInt32)), (.int (p1.toUInt32.toUInt16.toUInt32.toInt32)), (.int (p0.toUInt32.toUInt16.toUInt32.toInt32)), (.int 0)])) := by
      refine s3.trans ?_
      refine XS.iload X0.here hx rfl (hb hby at_5) rfl ?_
      refine XS.iloadN X0.here hx rfl (hb hby at_7) rfl ?_
      refine XS.i2c X0.here hx rfl (hb hby at_8) rfl ?_
      refine XS.iloadN X0.here hx rfl (hb hby at_9) rfl ?_
      refine XS.i2c X0.here hx rfl (hb hby at_10) rfl ?_
      refine XS.iloadN X0.here hx rfl (hb hby at_11) rfl ?_
      refine XS.i2c X0.here hx rfl (hb hby at_12) rfl ?_
      exact Steps.refl _
    obtain ⟨_, _, ⟨T5, L5, k5, n5⟩, -, Xa5, hSa5, hga5, ⟨Lc5, hQ5, hR5, l5, y5, z5⟩, st5⟩ := callSS X0 hx (y := (⟨"com/example/lintel/lintel/message/HeaderCursorAtEndPinLaw", "make", "(ICCC)Ljava/lang/String;"⟩ : MethodName)) hown (mvT hZ (wq hw 0 rfl)) (mvT hZ (wq hw 1 rfl)) (mvT hZ (wq hw 2 rfl)) (mvT hZ (wq hw 3 rfl)) (by decide) (own_backW (W := 0) (rmmk_0 l Z a0 hw [] (p0.toUInt32.toUInt16.toUInt32.toInt32) (p1.toUInt32.toUInt16.toUInt32.toInt32) (p2.toUInt32.toUInt16.toUInt32.toInt32) h0 n0 O0 hheld hcw) hZ (wq hw 3 rfl) (wq hw 2 rfl) (by decide) (by decide)) (g := (mkF m 13 #[.val (.int p0), .val (.int p1), .val (.int p2), .val (.int p3), .val (.int p4), .val (.int p5), .val (.int 0), .unset, .unset, .unset, .unset, .unset, .unset] [(.int (p2.toUInt32.toUInt16.toUInt32.toInt32)), (.int (p1.toUInt32.toUInt16.toUInt32.toInt32)), (.int (p0.toUInt32.toUInt16.toUInt32.toInt32)), (.int 0)])) rfl (by rw [hml]; rfl) (argsL := [(.int 0), (.int (p0.toUInt32.toUInt16.toUInt32.toInt32)), (.int (p1.toUInt32.toUInt16.toUInt32.toInt32)), (.int (p2.toUInt32.toUInt16.toUInt32.toInt32))]) (rest := []) (lenOf pd_rm0_0 rfl) rfl (by exact Nat.le_refl _) (hb hby at_13) (fun vm₁ hv => ⟨rfl, e0, own_R_warm hv hR, (by decide : 0 + 4 ≤ _), (by decide : 0 + 8 ≤ _)⟩)
    dsimp only [Pt.U, Pt.locs, Pt.cells, Pt.slots] at Xa5 hSa5 hga5 l5 y5 z5 st5 hQ5 hR5
    subst l5 y5 z5
    obtain ⟨X5, hS5, hZ5, hown5⟩ := rebS hS0 (by rw [e0]; exact hk0) Xa5 hSa5 hga5 hZ hown
    obtain ⟨u6, u7, u8, rfl, Nq5, Kc5, f5_0, f5_1, f5_2, f5_3, f5_4, f5_5⟩ := hQ5
    have N5 := Fr.app N0 Nq5
    have g_u6 : n0 ≤ u6 := Nat.le_trans (Nat.le_of_eq O0.1.symm) (Nat.le_trans O0.2.1 f5_4)
    have O5 := O0.keep Kc5 all0
    obtain ⟨T9, h9, X9, e9, E9, A9, D9, -, st9⟩ := newO X5 hx hZ5 hown5 (wq hw 34 rfl) (wq hw 35 rfl) (wq hw 36 rfl) (rfl : T5.heap = T5.heap) (g := (mkF m 18 #[.val (.int p0), .val (.int p1), .val (.int p2), .val (.int p3), .val (.int p4), .val (.int p5), .val (.int 0), .val (.ref u6), .unset, .unset, .unset, .unset, .unset] [])) rfl (hb hby at_18) (by decide) (by decide)
    obtain ⟨b9, g9⟩ : ∃ z, z = T5.heap.size := ⟨_, rfl⟩
    rw [← g9] at A9 D9 st9
    have ne_u6_b9 : u6 ≠ b9 := Nat.ne_of_lt (Nat.lt_of_lt_of_le f5_0.lt (Nat.le_of_eq g9.symm))
    have ne_u7_b9 : u7 ≠ b9 := Nat.ne_of_lt (Nat.lt_of_lt_of_le f5_3.lt (Nat.le_of_eq g9.symm))
    have g_b9 : n0 ≤ b9 := Nat.le_trans (Nat.le_of_eq O5.1.symm) (Nat.le_trans O5.2.1 (Nat.le_of_eq g9.symm))
    have O9 := O5.ext E9
    have hkk9 := Nat.le_trans (Nat.le_refl T5.heap.size) E9.1
    have F9_text : Fld Z h9 b9 "com/example/lintel/lintel/message/HeaderCursor" "text" "Ljava/lang/String;" .null := D9 (Or.inr (wq hw 45 rfl)) (ty := (.object "java/lang/String")) (by decide)
    have F9_what : Fld Z h9 b9 "com/example/lintel/lintel/message/HeaderCursor" "what" "Ljava/lang/String;" .null := D9 (Or.inr (wq hw 47 rfl)) (ty := (.object "java/lang/String")) (by decide)
    have F9_at : Fld Z h9 b9 "com/example/lintel/lintel/message/HeaderCursor" "at" "I" (.int 0) := D9 (Or.inl (wq hw 54 rfl)) (ty := .int) (by decide)
    have s10 : Steps p.tables e below A₀ (T9.setTop (mkF m 24 #[.val (.int p0), .val (.int p1), .val (.int p2), .val (.int p3), .val (.int p4), .val (.int p5), .val (.int 0), .val (.ref u6), .unset, .unset, .unset, .unset, .unset] [(.ref u6), (.ref b9), (.ref b9)])) := by
      refine s4.trans ?_
      show Steps p.tables e below (s₁.setTop (mkF m 13 #[.val (.int p0), .val (.int p1), .val (.int p2), .val (.int p3), .val (.int p4), .val (.int p5), .val (.int 0), .unset, .unset, .unset, .unset, .unset, .unset] [(.int (p2.toUInt32.toUInt16.toUInt32.toInt32)), (.int (p1.toUInt32.toUInt16.toUInt32.toInt32)), (.int (p0.toUInt32.toUInt16.toUInt32.toInt32)), (.int 0)])) _
      refine st5.trans ?_
      refine XS.astore X5.here hx rfl (hb hby at_16) rfl rfl (l' := #[.val (.int p0), .val (.int p1), .val (.int p2), .val (.int p3), .val (.int p4), .val (.int p5), .val (.int 0), .val (.ref u6), .unset, .unset, .unset, .unset, .unset]) rfl ?_
      refine st9 _ ?_
      refine XS.dup X9.here hx rfl (hb hby at_21) rfl rfl ?_
      refine XS.aload X9.here hx rfl (hb hby at_22) rfl rfl ?_
      exact Steps.refl _
    obtain ⟨a11, T11, h11, k11, X11, e11, E11, hS11, hk11, hZ11, hown11, st11⟩ := ldcS X9 hx hZ5 hown5 (wq hw 37 rfl) (own_wS hw) e9 hS5 hkk9 (g := (mkF m 24 #[.val (.int p0), .val (.int p1), .val (.int p2), .val (.int p3), .val (.int p4), .val (.int p5), .val (.int 0), .val (.ref u6), .unset, .unset, .unset, .unset, .unset] [(.ref u6), (.ref b9), (.ref b9)])) rfl (hb hby at_24) (n := 20) (by decide) (by decide) (by decide) (by decide)
    have O11 := O9.ext E11
    have hkk11 := Nat.le_trans hkk9 E11.1
    have s12 : Steps p.tables e below A₀ (T11.setTop (mkF m 26 #[.val (.int p0), .val (.int p1), .val (.int p2), .val (.int p3), .val (.int p4), .val (.int p5), .val (.int 0), .val (.ref u6), .unset, .unset, .unset, .unset, .unset] [(.ref a11), (.ref u6), (.ref b9), (.ref b9)])) := by
      refine s10.trans ?_
      show Steps p.tables e below (T9.setTop (mkF m 24 #[.val (.int p0), .val (.int p1), .val (.int p2), .val (.int p3), .val (.int p4), .val (.int p5), .val (.int 0), .val (.ref u6), .unset, .unset, .unset, .unset, .unset] [(.ref u6), (.ref b9), (.ref b9)])) _
      refine st11 _ ?_
      exact Steps.refl _
    have c13 : Exa Z h11 b9 "com/example/lintel/lintel/message/HeaderCursor" := (A9.ext E11)
    have c14 : Fld Z h11 b9 "com/example/lintel/lintel/message/HeaderCursor" "text" "Ljava/lang/String;" .null := (F9_text.ext E11)
    have c15 : Fld Z h11 b9 "com/example/lintel/lintel/message/HeaderCursor" "what" "Ljava/lang/String;" .null := (F9_what.ext E11)
    have c16 : Fld Z h11 b9 "com/example/lintel/lintel/message/HeaderCursor" "at" "I" (.int 0) := (F9_at.ext E11)
    obtain ⟨_, _, ⟨T17, L17, k17, n17⟩, -, X17, ⟨Lc17, hQ17, l17, y17, z17⟩, st17⟩ := X11.specialBack hx (y := (⟨"com/example/lintel/lintel/message/HeaderCursor", "<init>", "(Ljava/lang/String;Ljava/lang/String;)V"⟩ : MethodName)) rfl hown11 (mvT hZ11 (wq hw 40 rfl)) (mvT hZ11 (wq hw 41 rfl)) (mvT hZ11 (wq hw 42 rfl)) (by decide) (backOf (W := 1) (rm8 l Z a0 hw [] b9 u6 a11 h11 n0 O11 c13 c14 c15 c16 g_b9) hZ11 (wq hw 42 rfl) (wq hw 36 rfl) (by decide) (by decide)) (g := (mkF m 26 #[.val (.int p0), .val (.int p1), .val (.int p2), .val (.int p3), .val (.int p4), .val (.int p5), .val (.int 0), .val (.ref u6), .unset, .unset, .unset, .unset, .unset] [(.ref a11), (.ref u6), (.ref b9), (.ref b9)])) rfl (by rw [hml]; rfl) (Steps.refl _) (a := b9) (argsL := [(.ref u6), (.ref a11)]) (rest := [(.ref b9)]) (lenOf pd_rm0_1 rfl) rfl (by exact Nat.le_refl _) (hb hby at_26) (fun _ _ => ⟨rfl, e11, (by decide : 7 + 0 ≤ _), (by decide : 35 + 0 ≤ _)⟩)
    dsimp only [Pt.U, Pt.locs, Pt.cells, Pt.slots] at X17 l17 y17 z17 st17 hQ17
    subst l17 y17 z17
    obtain ⟨rfl, Nq17, Kc17, f17_0, f17_1, f17_2⟩ := hQ17
    have N17 := Fr.app N5 Nq17
    have O17 := O11.keep Kc17 (allS g_b9 all0)
    have hkk17 := Nat.le_trans hk11 Kc17.1
    have s18 : Steps p.tables e below A₀ (T17.setTop (mkF m 33 #[.val (.int p0), .val (.int p1), .val (.int p2), .val (.int p3), .val (.int p4), .val (.int p5), .val (.int 0), .val (.ref u6), .val (.ref b9), .unset, .unset, .unset, .unset] [(.ref b9)])) := by
      refine s12.trans ?_
      show Steps p.tables e below (T11.setTop (mkF m 26 #[.val (.int p0), .val (.int p1), .val (.int p2), .val (.int p3), .val (.int p4), .val (.int p5), .val (.int 0), .val (.ref u6), .unset, .unset, .unset, .unset, .unset] [(.ref a11), (.ref u6), (.ref b9), (.ref b9)])) _
      refine st17.trans ?_
      refine XS.astore X17.here hx rfl (hb hby at_29) rfl rfl (l' := #[.val (.int p0), .val (.int p1), .val (.int p2), .val (.int p3), .val (.int p4), .val (.int p5), .val (.int 0), .val (.ref u6), .val (.ref b9), .unset, .unset, .unset, .unset]) rfl ?_
      refine XS.aload X17.here hx rfl (hb hby at_31) rfl rfl ?_
      exact Steps.refl _
    have c19 : Exa Z T17.heap u6 "java/lang/String" := (((f5_0.ext E9).ext E11).keep Kc17)
    have c20 : Fld Z T17.heap u6 "java/lang/String" "value" "[B" (.ref u7) := (((f5_1.ext E9).ext E11).keep Kc17 (ninS ne_u6_b9 nin0))
    have c21 : Fld Z T17.heap u6 "java/lang/String" "coder" "B" (.int 0) := (((f5_2.ext E9).ext E11).keep Kc17 (ninS ne_u6_b9 nin0))
    have c22 : Arv Z T17.heap u7 u8 .byte 0 [] (.int 0) := (((f5_3.ext E9).ext E11).keep Kc17 (ninS ne_u7_b9 nin0))
    obtain ⟨T23, L23, X23, e23, N23, st23⟩ := own_callVP X17 hx hZ11 hown11 (wk48 hw) (wk49 hw) (wk51 hw) (wk50 hw) (by decide) (wk36 hw) (wk52 hw) (rmate0_0 l Z a0 hw [] b9 wc u6 u7 u8 [] (0 : Int32) T17.heap n0 O17 f17_2 f17_1 c19 c20 c21 c22 F0_ hcs (by decide)) (rfl : T17.heap = T17.heap) N17 (W := 0) (by decide) (by decide) (by decide) (by decide) f17_0 (g := (mkF m 33 #[.val (.int p0), .val (.int p1), .val (.int p2), .val (.int p3), .val (.int p4), .val (.int p5), .val (.int 0), .val (.ref u6), .val (.ref b9), .unset, .unset, .unset, .unset] [(.ref b9)])) rfl (by rw [hml]; rfl) (argsL := []) (rest := []) (lenOf pd_rm0_2 rfl) rfl (by exact Nat.le_refl _) (hb hby at_33)
    have s24 : Steps p.tables e below A₀ (T23.setTop (mkF m 62 #[.val (.int p0), .val (.int p1), .val (.int p2), .val (.int p3), .val (.int p4), .val (.int p5), .val (.int 0), .val (.ref u6), .val (.ref b9), .val (.int 1), .unset, .unset, .unset] [(.int 0), (.int (p4 &&& (3 : Int32)))])) := by
      refine s18.trans ?_
      show Steps p.tables e below (T17.setTop (mkF m 33 #[.val (.int p0), .val (.int p1), .val (.int p2), .val (.int p3), .val (.int p4), .val (.int p5), .val (.int 0), .val (.ref u6), .val (.ref b9), .unset, .unset, .unset, .unset] [(.ref b9)])) _
      refine st23 _ ?_
      refine XS.iload X23.here hx rfl (hb hby at_36) rfl ?_
      refine XS.ifNo X23.here hx rfl (hb hby at_38) rfl ((if0 _ _).trans (teq (by decide)).2) ?_
      refine XS.iconst X23.here hx rfl (hb hby at_41) ?_
      refine XS.goto X23.here hx rfl (pc0 := 42) (pc' := 46) rfl (hb hby at_42) (by decide) (by decide) ?_
      refine XS.icmpNo X23.here hx rfl (hb hby at_46) rfl (teq (by decide)).2 ?_
      refine XS.iconst X23.here hx rfl (hb hby at_49) ?_
      refine XS.goto X23.here hx rfl (pc0 := 50) (pc' := 54) rfl (hb hby at_50) (by decide) (by decide) ?_
      refine XS.istore X23.here hx rfl (hb hby at_54) rfl (l' := #[.val (.int p0), .val (.int p1), .val (.int p2), .val (.int p3), .val (.int p4), .val (.int p5), .val (.int 0), .val (.ref u6), .val (.ref b9), .val (.int 1), .unset, .unset, .unset]) rfl ?_
      refine XS.iload X23.here hx rfl (hb hby at_56) rfl ?_
      show Steps p.tables e below (T23.setTop (mkF m 58 #[.val (.int p0), .val (.int p1), .val (.int p2), .val (.int p3), .val (.int p4), .val (.int p5), .val (.int 0), .val (.ref u6), .val (.ref b9), .val (.int 1), .unset, .unset, .unset] [(.int p4)])) _
      refine XS.iconst X23.here hx rfl (hb hby at_58) ?_
      refine XS.iand X23.here hx rfl (hb hby at_59) rfl ?_
      refine XS.iload X23.here hx rfl (hb hby at_60) rfl ?_
      exact Steps.refl _
    obtain ⟨T25, L25, X25, e25, N25, st25⟩ := own_callP X23 hx hZ11 hown11 (wk65 hw) (wk66 hw) (wk67 hw) (wk68 hw) (by decide) (rm12 l Z a0 hw [] (p4 &&& (3 : Int32)) (0 : Int32) T17.heap n0 O17 ) e23 N23 (W := 0) (by decide) (by decide) (by decide) (by decide) (g := (mkF m 62 #[.val (.int p0), .val (.int p1), .val (.int p2), .val (.int p3), .val (.int p4), .val (.int p5), .val (.int 0), .val (.ref u6), .val (.ref b9), .val (.int 1), .unset, .unset, .unset] [(.int 0), (.int (p4 &&& (3 : Int32)))])) rfl (by rw [hml]; rfl) (argsL := [(.int (p4 &&& (3 : Int32))), (.int 0)]) (rest := []) (lenOf pd_rm0_3 rfl) rfl (by exact Nat.le_refl _) (hb hby at_62)
    have s26 : Steps p.tables e below A₀ (T25.setTop (mkF m 65 #[.val (.int p0), .val (.int p1), .val (.int p2), .val (.int p3), .val (.int p4), .val (.int p5), .val (.int 0), .val (.ref u6), .val (.ref b9), .val (.int 1), .unset, .unset, .unset] [(.int (own_min (p4 &&& (3 : Int32)) (0 : Int32)))])) := by
      refine s24.trans ?_
      show Steps p.tables e below (T23.setTop (mkF m 62 #[.val (.int p0), .val (.int p1), .val (.int p2), .val (.int p3), .val (.int p4), .val (.int p5), .val (.int 0), .val (.ref u6), .val (.ref b9), .val (.int 1), .unset, .unset, .unset] [(.int 0), (.int (p4 &&& (3 : Int32)))])) _
      refine st25 _ ?_
      exact Steps.refl _
    rcases own_min0 p4 with hk27
    · have s28 := s26
      rw [hk27] at s28
      have s29 : Steps p.tables e below A₀ (T25.setTop (mkF m 105 #[.val (.int p0), .val (.int p1), .val (.int p2), .val (.int p3), .val (.int p4), .val (.int p5), .val (.int 0), .val (.ref u6), .val (.ref b9), .val (.int 1), .val (.int 0), .unset, .unset] [(.ref b9)])) := by
        refine s28.trans ?_
        refine XS.istore X25.here hx rfl (hb hby at_65) rfl (l' := #[.val (.int p0), .val (.int p1), .val (.int p2), .val (.int p3), .val (.int p4), .val (.int p5), .val (.int 0), .val (.ref u6), .val (.ref b9), .val (.int 1), .val (.int 0), .unset, .unset]) rfl ?_
        refine XS.iload X25.here hx rfl (hb hby at_67) rfl ?_
        refine XS.iconst X25.here hx rfl (hb hby at_69) ?_
        refine XS.icmpYes X25.here hx rfl (pc0 := 70) (pc' := 79) rfl (hb hby at_70) rfl (tlt (by decide)).1 (by decide) (by decide) ?_
        refine XS.iload X25.here hx rfl (hb hby at_79) rfl ?_
        refine XS.iconst X25.here hx rfl (hb hby at_81) ?_
        refine XS.icmpYes X25.here hx rfl (pc0 := 82) (pc' := 91) rfl (hb hby at_82) rfl (tlt (by decide)).1 (by decide) (by decide) ?_
        refine XS.iload X25.here hx rfl (hb hby at_91) rfl ?_
        show Steps p.tables e below (T25.setTop (mkF m 93 #[.val (.int p0), .val (.int p1), .val (.int p2), .val (.int p3), .val (.int p4), .val (.int p5), .val (.int 0), .val (.ref u6), .val (.ref b9), .val (.int 1), .val (.int 0), .unset, .unset] [(.int 0)])) _
        refine XS.iconst X25.here hx rfl (hb hby at_93) ?_
        refine XS.icmpYes X25.here hx rfl (pc0 := 94) (pc' := 103) rfl (hb hby at_94) rfl (tlt (by decide)).1 (by decide) (by decide) ?_
        refine XS.aload X25.here hx rfl (hb hby at_103) rfl rfl ?_
        exact Steps.refl _
      obtain ⟨T30, L30, X30, e30, N30, st30⟩ := own_callVP X25 hx hZ11 hown11 (wk48 hw) (wk49 hw) (wk51 hw) (wk50 hw) (by decide) (wk36 hw) (wk52 hw) (rmate0_0 l Z a0 hw [] b9 wc u6 u7 u8 [] (0 : Int32) T17.heap n0 O17 f17_2 f17_1 c19 c20 c21 c22 F0_ hcs (by decide)) e25 N25 (W := 0) (by decide) (by decide) (by decide) (by decide) f17_0 (g := (mkF m 105 #[.val (.int p0), .val (.int p1), .val (.int p2), .val (.int p3), .val (.int p4), .val (.int p5), .val (.int 0), .val (.ref u6), .val (.ref b9), .val (.int 1), .val (.int 0), .unset, .unset] [(.ref b9)])) rfl (by rw [hml]; rfl) (argsL := []) (rest := []) (lenOf pd_rm0_2 rfl) rfl (by exact Nat.le_refl _) (hb hby at_105)
      have s31 : Steps p.tables e below A₀ (T30.setTop (mkF m 143 #[.val (.int p0), .val (.int p1), .val (.int p2), .val (.int p3), .val (.int p4), .val (.int p5), .val (.int 0), .val (.ref u6), .val (.ref b9), .val (.int 1), .val (.int 0), .val (.int 1), .unset] [(.int p5), (.ref b9)])) := by
        refine s29.trans ?_
        show Steps p.tables e below (T25.setTop (mkF m 105 #[.val (.int p0), .val (.int p1), .val (.int p2), .val (.int p3), .val (.int p4), .val (.int p5), .val (.int 0), .val (.ref u6), .val (.ref b9), .val (.int 1), .val (.int 0), .unset, .unset] [(.ref b9)])) _
        refine st30 _ ?_
        refine XS.istore X30.here hx rfl (hb hby at_108) rfl (l' := #[.val (.int p0), .val (.int p1), .val (.int p2), .val (.int p3), .val (.int p4), .val (.int p5), .val (.int 0), .val (.ref u6), .val (.ref b9), .val (.int 1), .val (.int 0), .val (.int 1), .unset]) rfl ?_
        refine XS.iload X30.here hx rfl (hb hby at_110) rfl ?_
        refine XS.ifNo X30.here hx rfl (hb hby at_112) rfl ((if0 _ _).trans (feq (by decide)).1) ?_
        refine XS.iload X30.here hx rfl (hb hby at_115) rfl ?_
        refine XS.iload X30.here hx rfl (hb hby at_117) rfl ?_
        refine XS.iload X30.here hx rfl (hb hby at_119) rfl ?_
        refine XS.icmpNo X30.here hx rfl (hb hby at_121) rfl (teq (by decide)).2 ?_
        refine XS.iconst X30.here hx rfl (hb hby at_124) ?_
        refine XS.goto X30.here hx rfl (pc0 := 125) (pc' := 129) rfl (hb hby at_125) (by decide) (by decide) ?_
        show Steps p.tables e below (T30.setTop (mkF m 129 #[.val (.int p0), .val (.int p1), .val (.int p2), .val (.int p3), .val (.int p4), .val (.int p5), .val (.int 0), .val (.ref u6), .val (.ref b9), .val (.int 1), .val (.int 0), .val (.int 1), .unset] [(.int 1), (.int 1)])) _
        refine XS.icmpNo X30.here hx rfl (hb hby at_129) rfl (teq (by decide)).2 ?_
        refine XS.iconst X30.here hx rfl (hb hby at_132) ?_
        refine XS.goto X30.here hx rfl (pc0 := 133) (pc' := 137) rfl (hb hby at_133) (by decide) (by decide) ?_
        refine XS.istore X30.here hx rfl (hb hby at_137) rfl (l' := #[.val (.int p0), .val (.int p1), .val (.int p2), .val (.int p3), .val (.int p4), .val (.int p5), .val (.int 0), .val (.ref u6), .val (.ref b9), .val (.int 1), .val (.int 0), .val (.int 1), .unset]) rfl ?_
        refine XS.aload X30.here hx rfl (hb hby at_139) rfl rfl ?_
        refine XS.iload X30.here hx rfl (hb hby at_141) rfl ?_
        exact Steps.refl _
      obtain ⟨cq32, kq32, q32a, q32b, q32c⟩ := isOf hZ11 e30 f17_0
      obtain ⟨_, _, ⟨T32, L32, k32, n32⟩, -, X32, ⟨Lc32, hQ32, l32, y32, z32⟩, st32⟩ := X30.virtualBack hx (y := (⟨"com/example/lintel/lintel/message/HeaderCursor", "reset", "(I)V"⟩ : MethodName)) (z := (⟨"com/example/lintel/lintel/message/HeaderCursor", "reset", "(I)V"⟩ : MethodName)) hown11 (mvT hZ11 (wq hw 69 rfl)) (mvT hZ11 (wq hw 70 rfl)) (notFace_of_selects (args := #[]) (mvT hZ11 (wq hw 72 rfl))) (mvT hZ11 (wq hw 72 rfl)) (mvT hZ11 (wq hw 71 rfl)) (by decide) (backOf (W := 0) (rm13 l Z a0 hw [] b9 p5 (0 : Int32) u6 T17.heap n0 O17 f17_0 f17_2 f17_1 g_b9) hZ11 (wq hw 73 rfl) (wq hw 36 rfl) (by decide) (by decide)) q32a q32c (g := (mkF m 143 #[.val (.int p0), .val (.int p1), .val (.int p2), .val (.int p3), .val (.int p4), .val (.int p5), .val (.int 0), .val (.ref u6), .val (.ref b9), .val (.int 1), .val (.int 0), .val (.int 1), .unset] [(.int p5), (.ref b9)])) rfl (by rw [hml]; rfl) (Steps.refl _) (argsL := [(.int p5)]) (rest := []) (lenOf pd_rm0_4 rfl) rfl (by exact Nat.le_refl _) (hb hby at_143) (fun _ _ => ⟨rfl, e30, (by decide : 7 + 0 ≤ _), (by decide : 35 + 0 ≤ _)⟩)
      dsimp only [Pt.U, Pt.locs, Pt.cells, Pt.slots] at X32 l32 y32 z32 st32 hQ32
      subst l32 y32 z32
      obtain ⟨rfl, Nq32, Kc32, f32_0, f32_1, f32_2⟩ := hQ32
      have N32 := Fr.app N30 Nq32
      have O32 := O17.keep Kc32 (allS g_b9 all0)
      have hkk32 := Nat.le_trans hkk17 Kc32.1
      have s33 : Steps p.tables e below A₀ (T32.setTop (mkF m 148 #[.val (.int p0), .val (.int p1), .val (.int p2), .val (.int p3), .val (.int p4), .val (.int p5), .val (.int 0), .val (.ref u6), .val (.ref b9), .val (.int 1), .val (.int 0), .val (.int 1), .unset] [(.ref b9)])) := by
        refine s31.trans ?_
        show Steps p.tables e below (T30.setTop (mkF m 143 #[.val (.int p0), .val (.int p1), .val (.int p2), .val (.int p3), .val (.int p4), .val (.int p5), .val (.int 0), .val (.ref u6), .val (.ref b9), .val (.int 1), .val (.int 0), .val (.int 1), .unset] [(.int p5), (.ref b9)])) _
        refine st32.trans ?_
        refine XS.aload X32.here hx rfl (hb hby at_146) rfl rfl ?_
        exact Steps.refl _
      by_cases hy34 : p5 < (0 : Int32)
      · have c35 : Exa Z T32.heap u6 "java/lang/String" := (c19.keep Kc32)
        have c36 : Fld Z T32.heap u6 "java/lang/String" "value" "[B" (.ref u7) := (c20.keep Kc32 (ninS ne_u6_b9 nin0))
        have c37 : Fld Z T32.heap u6 "java/lang/String" "coder" "B" (.int 0) := (c21.keep Kc32 (ninS ne_u6_b9 nin0))
        have c38 : Arv Z T32.heap u7 u8 .byte 0 [] (.int 0) := (c22.keep Kc32 (ninS ne_u7_b9 nin0))
        obtain ⟨T39, L39, X39, e39, N39, st39⟩ := own_callVP X32 hx hZ11 hown11 (wk48 hw) (wk49 hw) (wk51 hw) (wk50 hw) (by decide) (wk36 hw) (wk52 hw) (rmate0_1 l Z a0 hw [] b9 wc u6 u7 u8 [] p5 T32.heap n0 O32 f32_1 f32_2 c35 c36 c37 c38 F0_ hcs hy34) (rfl : T32.heap = T32.heap) N32 (W := 0) (by decide) (by decide) (by decide) (by decide) f32_0 (g := (mkF m 148 #[.val (.int p0), .val (.int p1), .val (.int p2), .val (.int p3), .val (.int p4), .val (.int p5), .val (.int 0), .val (.ref u6), .val (.ref b9), .val (.int 1), .val (.int 0), .val (.int 1), .unset] [(.ref b9)])) rfl (by rw [hml]; rfl) (argsL := []) (rest := []) (lenOf pd_rm0_2 rfl) rfl (by exact Nat.le_refl _) (hb hby at_148)
        have s40 : Steps p.tables e below A₀ (T39.setTop (mkF m 184 #[.val (.int p0), .val (.int p1), .val (.int p2), .val (.int p3), .val (.int p4), .val (.int p5), .val (.int 0), .val (.ref u6), .val (.ref b9), .val (.int 1), .val (.int 0), .val (.int 1), .val (.int 0)] [(.int 1)])) := by
          refine s33.trans ?_
          show Steps p.tables e below (T32.setTop (mkF m 148 #[.val (.int p0), .val (.int p1), .val (.int p2), .val (.int p3), .val (.int p4), .val (.int p5), .val (.int 0), .val (.ref u6), .val (.ref b9), .val (.int 1), .val (.int 0), .val (.int 1), .unset] [(.ref b9)])) _
          refine st39 _ ?_
          refine XS.istore X39.here hx rfl (hb hby at_151) rfl (l' := #[.val (.int p0), .val (.int p1), .val (.int p2), .val (.int p3), .val (.int p4), .val (.int p5), .val (.int 0), .val (.ref u6), .val (.ref b9), .val (.int 1), .val (.int 0), .val (.int 1), .val (.int 0)]) rfl ?_
          refine XS.iload X39.here hx rfl (hb hby at_153) rfl ?_
          refine XS.ifNo X39.here hx rfl (hb hby at_155) rfl ((if0 _ _).trans (feq (by decide)).1) ?_
          refine XS.iload X39.here hx rfl (hb hby at_158) rfl ?_
          refine XS.iload X39.here hx rfl (hb hby at_160) rfl ?_
          refine XS.iload X39.here hx rfl (hb hby at_162) rfl ?_
          refine XS.icmpYes X39.here hx rfl (pc0 := 164) (pc' := 171) rfl (hb hby at_164) rfl (tlt hy34).1 (by decide) (by decide) ?_
          refine XS.iconst X39.here hx rfl (hb hby at_171) ?_
          refine XS.icmpNo X39.here hx rfl (hb hby at_172) rfl (teq (by decide)).2 ?_
          show Steps p.tables e below (T39.setTop (mkF m 175 #[.val (.int p0), .val (.int p1), .val (.int p2), .val (.int p3), .val (.int p4), .val (.int p5), .val (.int 0), .val (.ref u6), .val (.ref b9), .val (.int 1), .val (.int 0), .val (.int 1), .val (.int 0)] [])) _
          refine XS.iconst X39.here hx rfl (hb hby at_175) ?_
          refine XS.goto X39.here hx rfl (pc0 := 176) (pc' := 180) rfl (hb hby at_176) (by decide) (by decide) ?_
          refine XS.istore X39.here hx rfl (hb hby at_180) rfl (l' := #[.val (.int p0), .val (.int p1), .val (.int p2), .val (.int p3), .val (.int p4), .val (.int p5), .val (.int 0), .val (.ref u6), .val (.ref b9), .val (.int 1), .val (.int 0), .val (.int 1), .val (.int 0)]) rfl ?_
          refine XS.iload X39.here hx rfl (hb hby at_182) rfl ?_
          exact Steps.refl _
        subst hA₀
        obtain ⟨fs, hr, hrun, hended, -, hW, hIn, hsame⟩ := X39.leaveW hS11 (by rw [e39]; exact hkk32) (v := some (.int 1)) (fun h => by rw [Bd.returns] at h; cases h)
        refine ⟨_, _, s40.trans ?_, hrun, hended, _, _, rfl, ?_, ⟨_, rfl⟩, hW, hIn, hsame.mono (by decide) (by decide)⟩
        · show Steps p.tables e below (T39.setTop (mkF m 184 #[.val (.int p0), .val (.int p1), .val (.int p2), .val (.int p3), .val (.int p4), .val (.int p5), .val (.int 0), .val (.ref u6), .val (.ref b9), .val (.int 1), .val (.int 0), .val (.int 1), .val (.int 0)] [(.int 1)])) _
          exact retN X39 hx (t := .boolean) Bd.returns (by simp) (hb hby at_184) hr
        · show Q0 Z p0 p1 p2 p3 p4 p5 wc rg h0 n0 _ T39.heap _
          rw [e39]
          exact ⟨rfl, N39⟩
      · have c41 : Exa Z T32.heap u6 "java/lang/String" := (c19.keep Kc32)
        have c42 : Fld Z T32.heap u6 "java/lang/String" "value" "[B" (.ref u7) := (c20.keep Kc32 (ninS ne_u6_b9 nin0))
        have c43 : Fld Z T32.heap u6 "java/lang/String" "coder" "B" (.int 0) := (c21.keep Kc32 (ninS ne_u6_b9 nin0))
        have c44 : Arv Z T32.heap u7 u8 .byte 0 [] (.int 0) := (c22.keep Kc32 (ninS ne_u7_b9 nin0))
        obtain ⟨T45, L45, X45, e45, N45, st45⟩ := own_callVP X32 hx hZ11 hown11 (wk48 hw) (wk49 hw) (wk51 hw) (wk50 hw) (by decide) (wk36 hw) (wk52 hw) (rmate0_0 l Z a0 hw [] b9 wc u6 u7 u8 [] p5 T32.heap n0 O32 f32_1 f32_2 c41 c42 c43 c44 F0_ hcs hy34) (rfl : T32.heap = T32.heap) N32 (W := 0) (by decide) (by decide) (by decide) (by decide) f32_0 (g := (mkF m 148 #[.val (.int p0), .val (.int p1), .val (.int p2), .val (.int p3), .val (.int p4), .val (.int p5), .val (.int 0), .val (.ref u6), .val (.ref b9), .val (.int 1), .val (.int 0), .val (.int 1), .unset] [(.ref b9)])) rfl (by rw [hml]; rfl) (argsL := []) (rest := []) (lenOf pd_rm0_2 rfl) rfl (by exact Nat.le_refl _) (hb hby at_148)
        have s46 : Steps p.tables e below A₀ (T45.setTop (mkF m 184 #[.val (.int p0), .val (.int p1), .val (.int p2), .val (.int p3), .val (.int p4), .val (.int p5), .val (.int 0), .val (.ref u6), .val (.ref b9), .val (.int 1), .val (.int 0), .val (.int 1), .val (.int 1)] [(.int 1)])) := by
          refine s33.trans ?_
          show Steps p.tables e below (T32.setTop (mkF m 148 #[.val (.int p0), .val (.int p1), .val (.int p2), .val (.int p3), .val (.int p4), .val (.int p5), .val (.int 0), .val (.ref u6), .val (.ref b9), .val (.int 1), .val (.int 0), .val (.int 1), .unset] [(.ref b9)])) _
          refine st45 _ ?_
          refine XS.istore X45.here hx rfl (hb hby at_151) rfl (l' := #[.val (.int p0), .val (.int p1), .val (.int p2), .val (.int p3), .val (.int p4), .val (.int p5), .val (.int 0), .val (.ref u6), .val (.ref b9), .val (.int 1), .val (.int 0), .val (.int 1), .val (.int 1)]) rfl ?_
          refine XS.iload X45.here hx rfl (hb hby at_153) rfl ?_
          refine XS.ifNo X45.here hx rfl (hb hby at_155) rfl ((if0 _ _).trans (feq (by decide)).1) ?_
          refine XS.iload X45.here hx rfl (hb hby at_158) rfl ?_
          refine XS.iload X45.here hx rfl (hb hby at_160) rfl ?_
          refine XS.iload X45.here hx rfl (hb hby at_162) rfl ?_
          refine XS.icmpNo X45.here hx rfl (hb hby at_164) rfl (flt hy34).1 ?_
          refine XS.iconst X45.here hx rfl (hb hby at_167) ?_
          refine XS.goto X45.here hx rfl (pc0 := 168) (pc' := 172) rfl (hb hby at_168) (by decide) (by decide) ?_
          show Steps p.tables e below (T45.setTop (mkF m 172 #[.val (.int p0), .val (.int p1), .val (.int p2), .val (.int p3), .val (.int p4), .val (.int p5), .val (.int 0), .val (.ref u6), .val (.ref b9), .val (.int 1), .val (.int 0), .val (.int 1), .val (.int 1)] [(.int 1), (.int 1)])) _
          refine XS.icmpNo X45.here hx rfl (hb hby at_172) rfl (teq (by decide)).2 ?_
          refine XS.iconst X45.here hx rfl (hb hby at_175) ?_
          refine XS.goto X45.here hx rfl (pc0 := 176) (pc' := 180) rfl (hb hby at_176) (by decide) (by decide) ?_
          refine XS.istore X45.here hx rfl (hb hby at_180) rfl (l' := #[.val (.int p0), .val (.int p1), .val (.int p2), .val (.int p3), .val (.int p4), .val (.int p5), .val (.int 0), .val (.ref u6), .val (.ref b9), .val (.int 1), .val (.int 0), .val (.int 1), .val (.int 1)]) rfl ?_
          refine XS.iload X45.here hx rfl (hb hby at_182) rfl ?_
          exact Steps.refl _
        subst hA₀
        obtain ⟨fs, hr, hrun, hended, -, hW, hIn, hsame⟩ := X45.leaveW hS11 (by rw [e45]; exact hkk32) (v := some (.int 1)) (fun h => by rw [Bd.returns] at h; cases h)
        refine ⟨_, _, s46.trans ?_, hrun, hended, _, _, rfl, ?_, ⟨_, rfl⟩, hW, hIn, hsame.mono (by decide) (by decide)⟩
        · show Steps p.tables e below (T45.setTop (mkF m 184 #[.val (.int p0), .val (.int p1), .val (.int p2), .val (.int p3), .val (.int p4), .val (.int p5), .val (.int 0), .val (.ref u6), .val (.ref b9), .val (.int 1), .val (.int 0), .val (.int 1), .val (.int 1)] [(.int 1)])) _
          exact retN X45 hx (t := .boolean) Bd.returns (by simp) (hb hby at_184) hr
        · show Q0 Z p0 p1 p2 p3 p4 p5 wc rg h0 n0 _ T45.heap _
          rw [e45]
          exact ⟨rfl, N45⟩
  · have s47 := s1
    rw [hk2] at s47
    have s48 : Steps p.tables e below A₀ (s₁.setTop (mkF m 13 #[.val (.int p0), .val (.int p1), .val (.int p2), .val (.int p3), .val (.int p4), .val (.int p5), .val (.int 1), .unset, .unset, .unset, .unset, .unset, .unset] [(.int (p2.toUInt32.toUInt16.toUInt32.toInt32)), (.int (p1.toUInt32.toUInt16.toUInt32.toInt32)), (.int (p0.toUInt32.toUInt16.toUInt32.toInt32)), (.int 1)])) := by
      refine s47.trans ?_
      refine XS.iload X0.here hx rfl (hb hby at_5) rfl ?_
      refine XS.iloadN X0.here hx rfl (hb hby at_7) rfl ?_
      refine XS.i2c X0.here hx rfl (hb hby at_8) rfl ?_
      refine XS.iloadN X0.here hx rfl (hb hby at_9) rfl ?_
      refine XS.i2c X0.here hx rfl (hb hby at_10) rfl ?_
      refine XS.iloadN X0.here hx rfl (hb hby at_11) rfl ?_
      refine XS.i2c X0.here hx rfl (hb hby at_12) rfl ?_
      exact Steps.refl _
    obtain ⟨_, _, ⟨T49, L49, k49, n49⟩, -, X49, ⟨Lc49, hQ49, l49, y49, z49⟩, st49⟩ := Jvm.LawKit.callS X0 hx (y := (⟨"com/example/lintel/lintel/message/HeaderCursorAtEndPinLaw", "make", "(ICCC)Ljava/lang/String;"⟩ : MethodName)) hown (mvT hZ (wq hw 0 rfl)) (mvT hZ (wq hw 1 rfl)) (mvT hZ (wq hw 2 rfl)) (mvT hZ (wq hw 3 rfl)) (by decide) (backOf (W := 0) (rmmk_1 l Z a0 hw [] (p0.toUInt32.toUInt16.toUInt32.toInt32) (p1.toUInt32.toUInt16.toUInt32.toInt32) (p2.toUInt32.toUInt16.toUInt32.toInt32) wc h0 n0 O0 F0_ F3_ F4_ F5_ hcs) hZ (wq hw 3 rfl) (wq hw 2 rfl) (by decide) (by decide)) (g := (mkF m 13 #[.val (.int p0), .val (.int p1), .val (.int p2), .val (.int p3), .val (.int p4), .val (.int p5), .val (.int 1), .unset, .unset, .unset, .unset, .unset, .unset] [(.int (p2.toUInt32.toUInt16.toUInt32.toInt32)), (.int (p1.toUInt32.toUInt16.toUInt32.toInt32)), (.int (p0.toUInt32.toUInt16.toUInt32.toInt32)), (.int 1)])) rfl (by rw [hml]; rfl) (argsL := [(.int 1), (.int (p0.toUInt32.toUInt16.toUInt32.toInt32)), (.int (p1.toUInt32.toUInt16.toUInt32.toInt32)), (.int (p2.toUInt32.toUInt16.toUInt32.toInt32))]) (rest := []) (lenOf pd_rm0_0 rfl) rfl (by exact Nat.le_refl _) (hb hby at_13) (fun _ _ => ⟨rfl, e0, (by decide : 0 + 4 ≤ _), (by decide : 0 + 8 ≤ _)⟩)
    dsimp only [Pt.U, Pt.locs, Pt.cells, Pt.slots] at X49 l49 y49 z49 st49 hQ49
    subst l49 y49 z49
    obtain ⟨u50, u51, u52, u53, u54, u55, rfl, Nq49, Kc49, f49_0, f49_1, f49_2, f49_3, f49_4, f49_5, f49_6, f49_7⟩ := hQ49
    have N49 := Fr.app N0 Nq49
    have g_u51 : n0 ≤ u51 := Nat.le_trans (Nat.le_of_eq O0.1.symm) (Nat.le_trans O0.2.1 f49_4)
    have g_u50 : n0 ≤ u50 := Nat.le_trans (Nat.le_of_eq O0.1.symm) (Nat.le_trans O0.2.1 f49_6)
    have O49 := O0.keep Kc49 all0
    have hkk49 := Nat.le_trans hk0 Kc49.1
    obtain ⟨T56, h56, X56, e56, E56, A56, D56, -, st56⟩ := newO X49 hx hZ hown (wq hw 34 rfl) (wq hw 35 rfl) (wq hw 36 rfl) (rfl : T49.heap = T49.heap) (g := (mkF m 18 #[.val (.int p0), .val (.int p1), .val (.int p2), .val (.int p3), .val (.int p4), .val (.int p5), .val (.int 1), .val (.ref u50), .unset, .unset, .unset, .unset, .unset] [])) rfl (hb hby at_18) (by decide) (by decide)
    obtain ⟨b56, g56⟩ : ∃ z, z = T49.heap.size := ⟨_, rfl⟩
    rw [← g56] at A56 D56 st56
    have ne_u50_b56 : u50 ≠ b56 := Nat.ne_of_lt (Nat.lt_of_lt_of_le f49_0.lt (Nat.le_of_eq g56.symm))
    have ne_u51_b56 : u51 ≠ b56 := Nat.ne_of_lt (Nat.lt_of_lt_of_le f49_3.lt (Nat.le_of_eq g56.symm))
    have g_b56 : n0 ≤ b56 := Nat.le_trans (Nat.le_of_eq O49.1.symm) (Nat.le_trans O49.2.1 (Nat.le_of_eq g56.symm))
    have O56 := O49.ext E56
    have hkk56 := Nat.le_trans hkk49 E56.1
    have F56_text : Fld Z h56 b56 "com/example/lintel/lintel/message/HeaderCursor" "text" "Ljava/lang/String;" .null := D56 (Or.inr (wq hw 45 rfl)) (ty := (.object "java/lang/String")) (by decide)
    have F56_what : Fld Z h56 b56 "com/example/lintel/lintel/message/HeaderCursor" "what" "Ljava/lang/String;" .null := D56 (Or.inr (wq hw 47 rfl)) (ty := (.object "java/lang/String")) (by decide)
    have F56_at : Fld Z h56 b56 "com/example/lintel/lintel/message/HeaderCursor" "at" "I" (.int 0) := D56 (Or.inl (wq hw 54 rfl)) (ty := .int) (by decide)
    have s57 : Steps p.tables e below A₀ (T56.setTop (mkF m 24 #[.val (.int p0), .val (.int p1), .val (.int p2), .val (.int p3), .val (.int p4), .val (.int p5), .val (.int 1), .val (.ref u50), .unset, .unset, .unset, .unset, .unset] [(.ref u50), (.ref b56), (.ref b56)])) := by
      refine s48.trans ?_
      show Steps p.tables e below (s₁.setTop (mkF m 13 #[.val (.int p0), .val (.int p1), .val (.int p2), .val (.int p3), .val (.int p4), .val (.int p5), .val (.int 1), .unset, .unset, .unset, .unset, .unset, .unset] [(.int (p2.toUInt32.toUInt16.toUInt32.toInt32)), (.int (p1.toUInt32.toUInt16.toUInt32.toInt32)), (.int (p0.toUInt32.toUInt16.toUInt32.toInt32)), (.int 1)])) _
      refine st49 _ ?_
      refine XS.astore X49.here hx rfl (hb hby at_16) rfl rfl (l' := #[.val (.int p0), .val (.int p1), .val (.int p2), .val (.int p3), .val (.int p4), .val (.int p5), .val (.int 1), .val (.ref u50), .unset, .unset, .unset, .unset, .unset]) rfl ?_
      refine st56 _ ?_
      refine XS.dup X56.here hx rfl (hb hby at_21) rfl rfl ?_
      refine XS.aload X56.here hx rfl (hb hby at_22) rfl rfl ?_
      exact Steps.refl _
    obtain ⟨a58, T58, h58, k58, X58, e58, E58, hS58, hk58, hZ58, hown58, st58⟩ := ldcS X56 hx hZ hown (wq hw 37 rfl) (own_wS hw) e56 hS0 hkk56 (g := (mkF m 24 #[.val (.int p0), .val (.int p1), .val (.int p2), .val (.int p3), .val (.int p4), .val (.int p5), .val (.int 1), .val (.ref u50), .unset, .unset, .unset, .unset, .unset] [(.ref u50), (.ref b56), (.ref b56)])) rfl (hb hby at_24) (n := 20) (by decide) (by decide) (by decide) (by decide)
    have O58 := O56.ext E58
    have hkk58 := Nat.le_trans hkk56 E58.1
    have s59 : Steps p.tables e below A₀ (T58.setTop (mkF m 26 #[.val (.int p0), .val (.int p1), .val (.int p2), .val (.int p3), .val (.int p4), .val (.int p5), .val (.int 1), .val (.ref u50), .unset, .unset, .unset, .unset, .unset] [(.ref a58), (.ref u50), (.ref b56), (.ref b56)])) := by
      refine s57.trans ?_
      show Steps p.tables e below (T56.setTop (mkF m 24 #[.val (.int p0), .val (.int p1), .val (.int p2), .val (.int p3), .val (.int p4), .val (.int p5), .val (.int 1), .val (.ref u50), .unset, .unset, .unset, .unset, .unset] [(.ref u50), (.ref b56), (.ref b56)])) _
      refine st58 _ ?_
      exact Steps.refl _
    have c60 : Exa Z h58 b56 "com/example/lintel/lintel/message/HeaderCursor" := (A56.ext E58)
    have c61 : Fld Z h58 b56 "com/example/lintel/lintel/message/HeaderCursor" "text" "Ljava/lang/String;" .null := (F56_text.ext E58)
    have c62 : Fld Z h58 b56 "com/example/lintel/lintel/message/HeaderCursor" "what" "Ljava/lang/String;" .null := (F56_what.ext E58)
    have c63 : Fld Z h58 b56 "com/example/lintel/lintel/message/HeaderCursor" "at" "I" (.int 0) := (F56_at.ext E58)
    obtain ⟨_, _, ⟨T64, L64, k64, n64⟩, -, X64, ⟨Lc64, hQ64, l64, y64, z64⟩, st64⟩ := X58.specialBack hx (y := (⟨"com/example/lintel/lintel/message/HeaderCursor", "<init>", "(Ljava/lang/String;Ljava/lang/String;)V"⟩ : MethodName)) rfl hown58 (mvT hZ58 (wq hw 40 rfl)) (mvT hZ58 (wq hw 41 rfl)) (mvT hZ58 (wq hw 42 rfl)) (by decide) (backOf (W := 1) (rm8 l Z a0 hw [] b56 u50 a58 h58 n0 O58 c60 c61 c62 c63 g_b56) hZ58 (wq hw 42 rfl) (wq hw 36 rfl) (by decide) (by decide)) (g := (mkF m 26 #[.val (.int p0), .val (.int p1), .val (.int p2), .val (.int p3), .val (.int p4), .val (.int p5), .val (.int 1), .val (.ref u50), .unset, .unset, .unset, .unset, .unset] [(.ref a58), (.ref u50), (.ref b56), (.ref b56)])) rfl (by rw [hml]; rfl) (Steps.refl _) (a := b56) (argsL := [(.ref u50), (.ref a58)]) (rest := [(.ref b56)]) (lenOf pd_rm0_1 rfl) rfl (by exact Nat.le_refl _) (hb hby at_26) (fun _ _ => ⟨rfl, e58, (by decide : 7 + 0 ≤ _), (by decide : 35 + 0 ≤ _)⟩)
    dsimp only [Pt.U, Pt.locs, Pt.cells, Pt.slots] at X64 l64 y64 z64 st64 hQ64
    subst l64 y64 z64
    obtain ⟨rfl, Nq64, Kc64, f64_0, f64_1, f64_2⟩ := hQ64
    have N64 := Fr.app N49 Nq64
    have O64 := O58.keep Kc64 (allS g_b56 all0)
    have hkk64 := Nat.le_trans hk58 Kc64.1
    have s65 : Steps p.tables e below A₀ (T64.setTop (mkF m 33 #[.val (.int p0), .val (.int p1), .val (.int p2), .val (.int p3), .val (.int p4), .val (.int p5), .val (.int 1), .val (.ref u50), .val (.ref b56), .unset, .unset, .unset, .unset] [(.ref b56)])) := by
      refine s59.trans ?_
      show Steps p.tables e below (T58.setTop (mkF m 26 #[.val (.int p0), .val (.int p1), .val (.int p2), .val (.int p3), .val (.int p4), .val (.int p5), .val (.int 1), .val (.ref u50), .unset, .unset, .unset, .unset, .unset] [(.ref a58), (.ref u50), (.ref b56), (.ref b56)])) _
      refine st64.trans ?_
      refine XS.astore X64.here hx rfl (hb hby at_29) rfl rfl (l' := #[.val (.int p0), .val (.int p1), .val (.int p2), .val (.int p3), .val (.int p4), .val (.int p5), .val (.int 1), .val (.ref u50), .val (.ref b56), .unset, .unset, .unset, .unset]) rfl ?_
      refine XS.aload X64.here hx rfl (hb hby at_31) rfl rfl ?_
      exact Steps.refl _
    have c66 : Exa Z T64.heap u50 "java/lang/String" := (((f49_0.ext E56).ext E58).keep Kc64)
    have c67 : Fld Z T64.heap u50 "java/lang/String" "value" "[B" (.ref u51) := (((f49_1.ext E56).ext E58).keep Kc64 (ninS ne_u50_b56 nin0))
    have c68 : Fld Z T64.heap u50 "java/lang/String" "coder" "B" (.int u54) := (((f49_2.ext E56).ext E58).keep Kc64 (ninS ne_u50_b56 nin0))
    have c69 : Arv Z T64.heap u51 u52 .byte u53 (u55.map Value.int) (.int 0) := (((f49_3.ext E56).ext E58).keep Kc64 (ninS ne_u51_b56 nin0))
    obtain ⟨T70, L70, X70, e70, N70, st70⟩ := own_callVP X64 hx hZ58 hown58 (wk48 hw) (wk49 hw) (wk51 hw) (wk50 hw) (by decide) (wk36 hw) (wk52 hw) (rmate1_1 l Z a0 hw [] b56 wc u50 u51 u52 u53 u54 u55 (0 : Int32) T64.heap n0 O64 f64_2 f64_1 c66 c67 c68 c69 F0_ hcs f49_5 (by decide)) (rfl : T64.heap = T64.heap) N64 (W := 0) (by decide) (by decide) (by decide) (by decide) f64_0 (g := (mkF m 33 #[.val (.int p0), .val (.int p1), .val (.int p2), .val (.int p3), .val (.int p4), .val (.int p5), .val (.int 1), .val (.ref u50), .val (.ref b56), .unset, .unset, .unset, .unset] [(.ref b56)])) rfl (by rw [hml]; rfl) (argsL := []) (rest := []) (lenOf pd_rm0_2 rfl) rfl (by exact Nat.le_refl _) (hb hby at_33)
    have s71 : Steps p.tables e below A₀ (T70.setTop (mkF m 62 #[.val (.int p0), .val (.int p1), .val (.int p2), .val (.int p3), .val (.int p4), .val (.int p5), .val (.int 1), .val (.ref u50), .val (.ref b56), .val (.int 1), .unset, .unset, .unset] [(.int 1), (.int (p4 &&& (3 : Int32)))])) := by
      refine s65.trans ?_
      show Steps p.tables e below (T64.setTop (mkF m 33 #[.val (.int p0), .val (.int p1), .val (.int p2), .val (.int p3), .val (.int p4), .val (.int p5), .val (.int 1), .val (.ref u50), .val (.ref b56), .unset, .unset, .unset, .unset] [(.ref b56)])) _
      refine st70 _ ?_
      refine XS.iload X70.here hx rfl (hb hby at_36) rfl ?_
      refine XS.ifYes X70.here hx rfl (pc0 := 38) (pc' := 45) rfl (hb hby at_38) rfl ((if0 _ _).trans (feq (by decide)).2) (by decide) (by decide) ?_
      refine XS.iconst X70.here hx rfl (hb hby at_45) ?_
      refine XS.icmpNo X70.here hx rfl (hb hby at_46) rfl (teq (by decide)).2 ?_
      refine XS.iconst X70.here hx rfl (hb hby at_49) ?_
      refine XS.goto X70.here hx rfl (pc0 := 50) (pc' := 54) rfl (hb hby at_50) (by decide) (by decide) ?_
      refine XS.istore X70.here hx rfl (hb hby at_54) rfl (l' := #[.val (.int p0), .val (.int p1), .val (.int p2), .val (.int p3), .val (.int p4), .val (.int p5), .val (.int 1), .val (.ref u50), .val (.ref b56), .val (.int 1), .unset, .unset, .unset]) rfl ?_
      refine XS.iload X70.here hx rfl (hb hby at_56) rfl ?_
      refine XS.iconst X70.here hx rfl (hb hby at_58) ?_
      show Steps p.tables e below (T70.setTop (mkF m 59 #[.val (.int p0), .val (.int p1), .val (.int p2), .val (.int p3), .val (.int p4), .val (.int p5), .val (.int 1), .val (.ref u50), .val (.ref b56), .val (.int 1), .unset, .unset, .unset] [(.int 3), (.int p4)])) _
      refine XS.iand X70.here hx rfl (hb hby at_59) rfl ?_
      refine XS.iload X70.here hx rfl (hb hby at_60) rfl ?_
      exact Steps.refl _
    obtain ⟨T72, L72, X72, e72, N72, st72⟩ := own_callP X70 hx hZ58 hown58 (wk65 hw) (wk66 hw) (wk67 hw) (wk68 hw) (by decide) (rm12 l Z a0 hw [] (p4 &&& (3 : Int32)) (1 : Int32) T64.heap n0 O64 ) e70 N70 (W := 0) (by decide) (by decide) (by decide) (by decide) (g := (mkF m 62 #[.val (.int p0), .val (.int p1), .val (.int p2), .val (.int p3), .val (.int p4), .val (.int p5), .val (.int 1), .val (.ref u50), .val (.ref b56), .val (.int 1), .unset, .unset, .unset] [(.int 1), (.int (p4 &&& (3 : Int32)))])) rfl (by rw [hml]; rfl) (argsL := [(.int (p4 &&& (3 : Int32))), (.int 1)]) (rest := []) (lenOf pd_rm0_3 rfl) rfl (by exact Nat.le_refl _) (hb hby at_62)
    have s73 : Steps p.tables e below A₀ (T72.setTop (mkF m 65 #[.val (.int p0), .val (.int p1), .val (.int p2), .val (.int p3), .val (.int p4), .val (.int p5), .val (.int 1), .val (.ref u50), .val (.ref b56), .val (.int 1), .unset, .unset, .unset] [(.int (own_min (p4 &&& (3 : Int32)) (1 : Int32)))])) := by
      refine s71.trans ?_
      show Steps p.tables e below (T70.setTop (mkF m 62 #[.val (.int p0), .val (.int p1), .val (.int p2), .val (.int p3), .val (.int p4), .val (.int p5), .val (.int 1), .val (.ref u50), .val (.ref b56), .val (.int 1), .unset, .unset, .unset] [(.int 1), (.int (p4 &&& (3 : Int32)))])) _
      refine st72 _ ?_
      exact Steps.refl _
    rcases own_min1 p4 with hk74 | hk74
    · have s75 := s73
      rw [hk74] at s75
      have s76 : Steps p.tables e below A₀ (T72.setTop (mkF m 105 #[.val (.int p0), .val (.int p1), .val (.int p2), .val (.int p3), .val (.int p4), .val (.int p5), .val (.int 1), .val (.ref u50), .val (.ref b56), .val (.int 1), .val (.int 0), .unset, .unset] [(.ref b56)])) := by
        refine s75.trans ?_
        refine XS.istore X72.here hx rfl (hb hby at_65) rfl (l' := #[.val (.int p0), .val (.int p1), .val (.int p2), .val (.int p3), .val (.int p4), .val (.int p5), .val (.int 1), .val (.ref u50), .val (.ref b56), .val (.int 1), .val (.int 0), .unset, .unset]) rfl ?_
        refine XS.iload X72.here hx rfl (hb hby at_67) rfl ?_
        refine XS.iconst X72.here hx rfl (hb hby at_69) ?_
        refine XS.icmpYes X72.here hx rfl (pc0 := 70) (pc' := 79) rfl (hb hby at_70) rfl (tlt (by decide)).1 (by decide) (by decide) ?_
        refine XS.iload X72.here hx rfl (hb hby at_79) rfl ?_
        refine XS.iconst X72.here hx rfl (hb hby at_81) ?_
        refine XS.icmpYes X72.here hx rfl (pc0 := 82) (pc' := 91) rfl (hb hby at_82) rfl (tlt (by decide)).1 (by decide) (by decide) ?_
        refine XS.iload X72.here hx rfl (hb hby at_91) rfl ?_
        show Steps p.tables e below (T72.setTop (mkF m 93 #[.val (.int p0), .val (.int p1), .val (.int p2), .val (.int p3), .val (.int p4), .val (.int p5), .val (.int 1), .val (.ref u50), .val (.ref b56), .val (.int 1), .val (.int 0), .unset, .unset] [(.int 0)])) _
        refine XS.iconst X72.here hx rfl (hb hby at_93) ?_
        refine XS.icmpYes X72.here hx rfl (pc0 := 94) (pc' := 103) rfl (hb hby at_94) rfl (tlt (by decide)).1 (by decide) (by decide) ?_
        refine XS.aload X72.here hx rfl (hb hby at_103) rfl rfl ?_
        exact Steps.refl _
      obtain ⟨T77, L77, X77, e77, N77, st77⟩ := own_callVP X72 hx hZ58 hown58 (wk48 hw) (wk49 hw) (wk51 hw) (wk50 hw) (by decide) (wk36 hw) (wk52 hw) (rmate1_1 l Z a0 hw [] b56 wc u50 u51 u52 u53 u54 u55 (0 : Int32) T64.heap n0 O64 f64_2 f64_1 c66 c67 c68 c69 F0_ hcs f49_5 (by decide)) e72 N72 (W := 0) (by decide) (by decide) (by decide) (by decide) f64_0 (g := (mkF m 105 #[.val (.int p0), .val (.int p1), .val (.int p2), .val (.int p3), .val (.int p4), .val (.int p5), .val (.int 1), .val (.ref u50), .val (.ref b56), .val (.int 1), .val (.int 0), .unset, .unset] [(.ref b56)])) rfl (by rw [hml]; rfl) (argsL := []) (rest := []) (lenOf pd_rm0_2 rfl) rfl (by exact Nat.le_refl _) (hb hby at_105)
      have s78 : Steps p.tables e below A₀ (T77.setTop (mkF m 143 #[.val (.int p0), .val (.int p1), .val (.int p2), .val (.int p3), .val (.int p4), .val (.int p5), .val (.int 1), .val (.ref u50), .val (.ref b56), .val (.int 1), .val (.int 0), .val (.int 0), .unset] [(.int p5), (.ref b56)])) := by
        refine s76.trans ?_
        show Steps p.tables e below (T72.setTop (mkF m 105 #[.val (.int p0), .val (.int p1), .val (.int p2), .val (.int p3), .val (.int p4), .val (.int p5), .val (.int 1), .val (.ref u50), .val (.ref b56), .val (.int 1), .val (.int 0), .unset, .unset] [(.ref b56)])) _
        refine st77 _ ?_
        refine XS.istore X77.here hx rfl (hb hby at_108) rfl (l' := #[.val (.int p0), .val (.int p1), .val (.int p2), .val (.int p3), .val (.int p4), .val (.int p5), .val (.int 1), .val (.ref u50), .val (.ref b56), .val (.int 1), .val (.int 0), .val (.int 0), .unset]) rfl ?_
        refine XS.iload X77.here hx rfl (hb hby at_110) rfl ?_
        refine XS.ifNo X77.here hx rfl (hb hby at_112) rfl ((if0 _ _).trans (feq (by decide)).1) ?_
        refine XS.iload X77.here hx rfl (hb hby at_115) rfl ?_
        refine XS.iload X77.here hx rfl (hb hby at_117) rfl ?_
        refine XS.iload X77.here hx rfl (hb hby at_119) rfl ?_
        refine XS.icmpYes X77.here hx rfl (pc0 := 121) (pc' := 128) rfl (hb hby at_121) rfl (feq (by decide)).2 (by decide) (by decide) ?_
        refine XS.iconst X77.here hx rfl (hb hby at_128) ?_
        refine XS.icmpNo X77.here hx rfl (hb hby at_129) rfl (teq (by decide)).2 ?_
        show Steps p.tables e below (T77.setTop (mkF m 132 #[.val (.int p0), .val (.int p1), .val (.int p2), .val (.int p3), .val (.int p4), .val (.int p5), .val (.int 1), .val (.ref u50), .val (.ref b56), .val (.int 1), .val (.int 0), .val (.int 0), .unset] [])) _
        refine XS.iconst X77.here hx rfl (hb hby at_132) ?_
        refine XS.goto X77.here hx rfl (pc0 := 133) (pc' := 137) rfl (hb hby at_133) (by decide) (by decide) ?_
        refine XS.istore X77.here hx rfl (hb hby at_137) rfl (l' := #[.val (.int p0), .val (.int p1), .val (.int p2), .val (.int p3), .val (.int p4), .val (.int p5), .val (.int 1), .val (.ref u50), .val (.ref b56), .val (.int 1), .val (.int 0), .val (.int 0), .unset]) rfl ?_
        refine XS.aload X77.here hx rfl (hb hby at_139) rfl rfl ?_
        refine XS.iload X77.here hx rfl (hb hby at_141) rfl ?_
        exact Steps.refl _
      obtain ⟨cq79, kq79, q79a, q79b, q79c⟩ := isOf hZ58 e77 f64_0
      obtain ⟨_, _, ⟨T79, L79, k79, n79⟩, -, X79, ⟨Lc79, hQ79, l79, y79, z79⟩, st79⟩ := X77.virtualBack hx (y := (⟨"com/example/lintel/lintel/message/HeaderCursor", "reset", "(I)V"⟩ : MethodName)) (z := (⟨"com/example/lintel/lintel/message/HeaderCursor", "reset", "(I)V"⟩ : MethodName)) hown58 (mvT hZ58 (wq hw 69 rfl)) (mvT hZ58 (wq hw 70 rfl)) (notFace_of_selects (args := #[]) (mvT hZ58 (wq hw 72 rfl))) (mvT hZ58 (wq hw 72 rfl)) (mvT hZ58 (wq hw 71 rfl)) (by decide) (backOf (W := 0) (rm13 l Z a0 hw [] b56 p5 (0 : Int32) u50 T64.heap n0 O64 f64_0 f64_2 f64_1 g_b56) hZ58 (wq hw 73 rfl) (wq hw 36 rfl) (by decide) (by decide)) q79a q79c (g := (mkF m 143 #[.val (.int p0), .val (.int p1), .val (.int p2), .val (.int p3), .val (.int p4), .val (.int p5), .val (.int 1), .val (.ref u50), .val (.ref b56), .val (.int 1), .val (.int 0), .val (.int 0), .unset] [(.int p5), (.ref b56)])) rfl (by rw [hml]; rfl) (Steps.refl _) (argsL := [(.int p5)]) (rest := []) (lenOf pd_rm0_4 rfl) rfl (by exact Nat.le_refl _) (hb hby at_143) (fun _ _ => ⟨rfl, e77, (by decide : 7 + 0 ≤ _), (by decide : 35 + 0 ≤ _)⟩)
      dsimp only [Pt.U, Pt.locs, Pt.cells, Pt.slots] at X79 l79 y79 z79 st79 hQ79
      subst l79 y79 z79
      obtain ⟨rfl, Nq79, Kc79, f79_0, f79_1, f79_2⟩ := hQ79
      have N79 := Fr.app N77 Nq79
      have O79 := O64.keep Kc79 (allS g_b56 all0)
      have hkk79 := Nat.le_trans hkk64 Kc79.1
      have s80 : Steps p.tables e below A₀ (T79.setTop (mkF m 148 #[.val (.int p0), .val (.int p1), .val (.int p2), .val (.int p3), .val (.int p4), .val (.int p5), .val (.int 1), .val (.ref u50), .val (.ref b56), .val (.int 1), .val (.int 0), .val (.int 0), .unset] [(.ref b56)])) := by
        refine s78.trans ?_
        show Steps p.tables e below (T77.setTop (mkF m 143 #[.val (.int p0), .val (.int p1), .val (.int p2), .val (.int p3), .val (.int p4), .val (.int p5), .val (.int 1), .val (.ref u50), .val (.ref b56), .val (.int 1), .val (.int 0), .val (.int 0), .unset] [(.int p5), (.ref b56)])) _
        refine st79.trans ?_
        refine XS.aload X79.here hx rfl (hb hby at_146) rfl rfl ?_
        exact Steps.refl _
      by_cases hy81 : p5 < (1 : Int32)
      · have c82 : Exa Z T79.heap u50 "java/lang/String" := (c66.keep Kc79)
        have c83 : Fld Z T79.heap u50 "java/lang/String" "value" "[B" (.ref u51) := (c67.keep Kc79 (ninS ne_u50_b56 nin0))
        have c84 : Fld Z T79.heap u50 "java/lang/String" "coder" "B" (.int u54) := (c68.keep Kc79 (ninS ne_u50_b56 nin0))
        have c85 : Arv Z T79.heap u51 u52 .byte u53 (u55.map Value.int) (.int 0) := (c69.keep Kc79 (ninS ne_u51_b56 nin0))
        obtain ⟨T86, L86, X86, e86, N86, st86⟩ := own_callVP X79 hx hZ58 hown58 (wk48 hw) (wk49 hw) (wk51 hw) (wk50 hw) (by decide) (wk36 hw) (wk52 hw) (rmate1_1 l Z a0 hw [] b56 wc u50 u51 u52 u53 u54 u55 p5 T79.heap n0 O79 f79_1 f79_2 c82 c83 c84 c85 F0_ hcs f49_5 hy81) (rfl : T79.heap = T79.heap) N79 (W := 0) (by decide) (by decide) (by decide) (by decide) f79_0 (g := (mkF m 148 #[.val (.int p0), .val (.int p1), .val (.int p2), .val (.int p3), .val (.int p4), .val (.int p5), .val (.int 1), .val (.ref u50), .val (.ref b56), .val (.int 1), .val (.int 0), .val (.int 0), .unset] [(.ref b56)])) rfl (by rw [hml]; rfl) (argsL := []) (rest := []) (lenOf pd_rm0_2 rfl) rfl (by exact Nat.le_refl _) (hb hby at_148)
        have s87 : Steps p.tables e below A₀ (T86.setTop (mkF m 184 #[.val (.int p0), .val (.int p1), .val (.int p2), .val (.int p3), .val (.int p4), .val (.int p5), .val (.int 1), .val (.ref u50), .val (.ref b56), .val (.int 1), .val (.int 0), .val (.int 0), .val (.int 0)] [(.int 1)])) := by
          refine s80.trans ?_
          show Steps p.tables e below (T79.setTop (mkF m 148 #[.val (.int p0), .val (.int p1), .val (.int p2), .val (.int p3), .val (.int p4), .val (.int p5), .val (.int 1), .val (.ref u50), .val (.ref b56), .val (.int 1), .val (.int 0), .val (.int 0), .unset] [(.ref b56)])) _
          refine st86 _ ?_
          refine XS.istore X86.here hx rfl (hb hby at_151) rfl (l' := #[.val (.int p0), .val (.int p1), .val (.int p2), .val (.int p3), .val (.int p4), .val (.int p5), .val (.int 1), .val (.ref u50), .val (.ref b56), .val (.int 1), .val (.int 0), .val (.int 0), .val (.int 0)]) rfl ?_
          refine XS.iload X86.here hx rfl (hb hby at_153) rfl ?_
          refine XS.ifNo X86.here hx rfl (hb hby at_155) rfl ((if0 _ _).trans (feq (by decide)).1) ?_
          refine XS.iload X86.here hx rfl (hb hby at_158) rfl ?_
          refine XS.iload X86.here hx rfl (hb hby at_160) rfl ?_
          refine XS.iload X86.here hx rfl (hb hby at_162) rfl ?_
          refine XS.icmpYes X86.here hx rfl (pc0 := 164) (pc' := 171) rfl (hb hby at_164) rfl (tlt hy81).1 (by decide) (by decide) ?_
          refine XS.iconst X86.here hx rfl (hb hby at_171) ?_
          refine XS.icmpNo X86.here hx rfl (hb hby at_172) rfl (teq (by decide)).2 ?_
          show Steps p.tables e below (T86.setTop (mkF m 175 #[.val (.int p0), .val (.int p1), .val (.int p2), .val (.int p3), .val (.int p4), .val (.int p5), .val (.int 1), .val (.ref u50), .val (.ref b56), .val (.int 1), .val (.int 0), .val (.int 0), .val (.int 0)] [])) _
          refine XS.iconst X86.here hx rfl (hb hby at_175) ?_
          refine XS.goto X86.here hx rfl (pc0 := 176) (pc' := 180) rfl (hb hby at_176) (by decide) (by decide) ?_
          refine XS.istore X86.here hx rfl (hb hby at_180) rfl (l' := #[.val (.int p0), .val (.int p1), .val (.int p2), .val (.int p3), .val (.int p4), .val (.int p5), .val (.int 1), .val (.ref u50), .val (.ref b56), .val (.int 1), .val (.int 0), .val (.int 0), .val (.int 0)]) rfl ?_
          refine XS.iload X86.here hx rfl (hb hby at_182) rfl ?_
          exact Steps.refl _
        subst hA₀
        obtain ⟨fs, hr, hrun, hended, -, hW, hIn, hsame⟩ := X86.leaveW hS58 (by rw [e86]; exact hkk79) (v := some (.int 1)) (fun h => by rw [Bd.returns] at h; cases h)
        refine ⟨_, _, s87.trans ?_, hrun, hended, _, _, rfl, ?_, ⟨_, rfl⟩, hW, hIn, hsame.mono (by decide) (by decide)⟩
        · show Steps p.tables e below (T86.setTop (mkF m 184 #[.val (.int p0), .val (.int p1), .val (.int p2), .val (.int p3), .val (.int p4), .val (.int p5), .val (.int 1), .val (.ref u50), .val (.ref b56), .val (.int 1), .val (.int 0), .val (.int 0), .val (.int 0)] [(.int 1)])) _
          exact retN X86 hx (t := .boolean) Bd.returns (by simp) (hb hby at_184) hr
        · show Q0 Z p0 p1 p2 p3 p4 p5 wc rg h0 n0 _ T86.heap _
          rw [e86]
          exact ⟨rfl, N86⟩
      · have c88 : Exa Z T79.heap u50 "java/lang/String" := (c66.keep Kc79)
        have c89 : Fld Z T79.heap u50 "java/lang/String" "value" "[B" (.ref u51) := (c67.keep Kc79 (ninS ne_u50_b56 nin0))
        have c90 : Fld Z T79.heap u50 "java/lang/String" "coder" "B" (.int u54) := (c68.keep Kc79 (ninS ne_u50_b56 nin0))
        have c91 : Arv Z T79.heap u51 u52 .byte u53 (u55.map Value.int) (.int 0) := (c69.keep Kc79 (ninS ne_u51_b56 nin0))
        obtain ⟨T92, L92, X92, e92, N92, st92⟩ := own_callVP X79 hx hZ58 hown58 (wk48 hw) (wk49 hw) (wk51 hw) (wk50 hw) (by decide) (wk36 hw) (wk52 hw) (rmate1_0 l Z a0 hw [] b56 wc u50 u51 u52 u53 u54 u55 p5 T79.heap n0 O79 f79_1 f79_2 c88 c89 c90 c91 F0_ hcs f49_5 hy81) (rfl : T79.heap = T79.heap) N79 (W := 0) (by decide) (by decide) (by decide) (by decide) f79_0 (g := (mkF m 148 #[.val (.int p0), .val (.int p1), .val (.int p2), .val (.int p3), .val (.int p4), .val (.int p5), .val (.int 1), .val (.ref u50), .val (.ref b56), .val (.int 1), .val (.int 0), .val (.int 0), .unset] [(.ref b56)])) rfl (by rw [hml]; rfl) (argsL := []) (rest := []) (lenOf pd_rm0_2 rfl) rfl (by exact Nat.le_refl _) (hb hby at_148)
        have s93 : Steps p.tables e below A₀ (T92.setTop (mkF m 184 #[.val (.int p0), .val (.int p1), .val (.int p2), .val (.int p3), .val (.int p4), .val (.int p5), .val (.int 1), .val (.ref u50), .val (.ref b56), .val (.int 1), .val (.int 0), .val (.int 0), .val (.int 1)] [(.int 1)])) := by
          refine s80.trans ?_
          show Steps p.tables e below (T79.setTop (mkF m 148 #[.val (.int p0), .val (.int p1), .val (.int p2), .val (.int p3), .val (.int p4), .val (.int p5), .val (.int 1), .val (.ref u50), .val (.ref b56), .val (.int 1), .val (.int 0), .val (.int 0), .unset] [(.ref b56)])) _
          refine st92 _ ?_
          refine XS.istore X92.here hx rfl (hb hby at_151) rfl (l' := #[.val (.int p0), .val (.int p1), .val (.int p2), .val (.int p3), .val (.int p4), .val (.int p5), .val (.int 1), .val (.ref u50), .val (.ref b56), .val (.int 1), .val (.int 0), .val (.int 0), .val (.int 1)]) rfl ?_
          refine XS.iload X92.here hx rfl (hb hby at_153) rfl ?_
          refine XS.ifNo X92.here hx rfl (hb hby at_155) rfl ((if0 _ _).trans (feq (by decide)).1) ?_
          refine XS.iload X92.here hx rfl (hb hby at_158) rfl ?_
          refine XS.iload X92.here hx rfl (hb hby at_160) rfl ?_
          refine XS.iload X92.here hx rfl (hb hby at_162) rfl ?_
          refine XS.icmpNo X92.here hx rfl (hb hby at_164) rfl (flt hy81).1 ?_
          refine XS.iconst X92.here hx rfl (hb hby at_167) ?_
          refine XS.goto X92.here hx rfl (pc0 := 168) (pc' := 172) rfl (hb hby at_168) (by decide) (by decide) ?_
          show Steps p.tables e below (T92.setTop (mkF m 172 #[.val (.int p0), .val (.int p1), .val (.int p2), .val (.int p3), .val (.int p4), .val (.int p5), .val (.int 1), .val (.ref u50), .val (.ref b56), .val (.int 1), .val (.int 0), .val (.int 0), .val (.int 1)] [(.int 1), (.int 1)])) _
          refine XS.icmpNo X92.here hx rfl (hb hby at_172) rfl (teq (by decide)).2 ?_
          refine XS.iconst X92.here hx rfl (hb hby at_175) ?_
          refine XS.goto X92.here hx rfl (pc0 := 176) (pc' := 180) rfl (hb hby at_176) (by decide) (by decide) ?_
          refine XS.istore X92.here hx rfl (hb hby at_180) rfl (l' := #[.val (.int p0), .val (.int p1), .val (.int p2), .val (.int p3), .val (.int p4), .val (.int p5), .val (.int 1), .val (.ref u50), .val (.ref b56), .val (.int 1), .val (.int 0), .val (.int 0), .val (.int 1)]) rfl ?_
          refine XS.iload X92.here hx rfl (hb hby at_182) rfl ?_
          exact Steps.refl _
        subst hA₀
        obtain ⟨fs, hr, hrun, hended, -, hW, hIn, hsame⟩ := X92.leaveW hS58 (by rw [e92]; exact hkk79) (v := some (.int 1)) (fun h => by rw [Bd.returns] at h; cases h)
        refine ⟨_, _, s93.trans ?_, hrun, hended, _, _, rfl, ?_, ⟨_, rfl⟩, hW, hIn, hsame.mono (by decide) (by decide)⟩
        · show Steps p.tables e below (T92.setTop (mkF m 184 #[.val (.int p0), .val (.int p1), .val (.int p2), .val (.int p3), .val (.int p4), .val (.int p5), .val (.int 1), .val (.ref u50), .val (.ref b56), .val (.int 1), .val (.int 0), .val (.int 0), .val (.int 1)] [(.int 1)])) _
          exact retN X92 hx (t := .boolean) Bd.returns (by simp) (hb hby at_184) hr
        · show Q0 Z p0 p1 p2 p3 p4 p5 wc rg h0 n0 _ T92.heap _
          rw [e92]
          exact ⟨rfl, N92⟩
    · have s94 := s73
      rw [hk74] at s94
      have s95 : Steps p.tables e below A₀ (T72.setTop (mkF m 75 #[.val (.int p0), .val (.int p1), .val (.int p2), .val (.int p3), .val (.int p4), .val (.int p5), .val (.int 1), .val (.ref u50), .val (.ref b56), .val (.int 1), .val (.int 1), .unset, .unset] [(.ref b56)])) := by
        refine s94.trans ?_
        refine XS.istore X72.here hx rfl (hb hby at_65) rfl (l' := #[.val (.int p0), .val (.int p1), .val (.int p2), .val (.int p3), .val (.int p4), .val (.int p5), .val (.int 1), .val (.ref u50), .val (.ref b56), .val (.int 1), .val (.int 1), .unset, .unset]) rfl ?_
        refine XS.iload X72.here hx rfl (hb hby at_67) rfl ?_
        refine XS.iconst X72.here hx rfl (hb hby at_69) ?_
        refine XS.icmpNo X72.here hx rfl (hb hby at_70) rfl (flt (by decide)).1 ?_
        refine XS.aload X72.here hx rfl (hb hby at_73) rfl rfl ?_
        exact Steps.refl _
      obtain ⟨cq96, kq96, q96a, q96b, q96c⟩ := isOf hZ58 e72 f64_0
      obtain ⟨_, _, ⟨T96, L96, k96, n96⟩, -, X96, ⟨Lc96, hQ96, l96, y96, z96⟩, st96⟩ := X72.virtualBack hx (y := (⟨"com/example/lintel/lintel/message/HeaderCursor", "next", "()C"⟩ : MethodName)) (z := (⟨"com/example/lintel/lintel/message/HeaderCursor", "next", "()C"⟩ : MethodName)) hown58 (mvT hZ58 (wq hw 94 rfl)) (mvT hZ58 (wq hw 95 rfl)) (notFace_of_selects (args := #[]) (mvT hZ58 (wq hw 97 rfl))) (mvT hZ58 (wq hw 97 rfl)) (mvT hZ58 (wq hw 96 rfl)) (by decide) (backOf (W := 0) (rmnxt1_0 l Z a0 hw [] b56 wc u50 u51 u52 u53 u54 u55 rg T64.heap n0 O64 f64_0 g_b56 (Ne.symm ne_u50_b56) (Ne.symm ne_u51_b56) f64_2 f64_1 c66 c67 c68 c69 F0_ F1_ F2_ F3_ F4_ F5_ hcs f49_5) hZ58 (wq hw 98 rfl) (wq hw 36 rfl) (by decide) (by decide)) q96a q96c (g := (mkF m 75 #[.val (.int p0), .val (.int p1), .val (.int p2), .val (.int p3), .val (.int p4), .val (.int p5), .val (.int 1), .val (.ref u50), .val (.ref b56), .val (.int 1), .val (.int 1), .unset, .unset] [(.ref b56)])) rfl (by rw [hml]; rfl) (Steps.refl _) (argsL := []) (rest := []) (lenOf pd_rm0_5 rfl) rfl (by exact Nat.le_refl _) (hb hby at_75) (fun _ _ => ⟨rfl, e72, (by decide : 7 + 0 ≤ _), (by decide : 35 + 0 ≤ _)⟩)
      dsimp only [Pt.U, Pt.locs, Pt.cells, Pt.slots] at X96 l96 y96 z96 st96 hQ96
      subst l96 y96 z96
      obtain ⟨u97, rfl, Nq96, Kc96, f96_0, f96_1, f96_2⟩ := hQ96
      have N96 := Fr.app N72 Nq96
      have O96 := O64.keep Kc96 (allS g_b56 all0)
      have hkk96 := Nat.le_trans hkk64 Kc96.1
      have s98 : Steps p.tables e below A₀ (T96.setTop (mkF m 105 #[.val (.int p0), .val (.int p1), .val (.int p2), .val (.int p3), .val (.int p4), .val (.int p5), .val (.int 1), .val (.ref u50), .val (.ref b56), .val (.int 1), .val (.int 1), .unset, .unset] [(.ref b56)])) := by
        refine s95.trans ?_
        show Steps p.tables e below (T72.setTop (mkF m 75 #[.val (.int p0), .val (.int p1), .val (.int p2), .val (.int p3), .val (.int p4), .val (.int p5), .val (.int 1), .val (.ref u50), .val (.ref b56), .val (.int 1), .val (.int 1), .unset, .unset] [(.ref b56)])) _
        refine st96.trans ?_
        refine XS.pop X96.here hx rfl (hb hby at_78) rfl rfl ?_
        refine XS.iload X96.here hx rfl (hb hby at_79) rfl ?_
        refine XS.iconst X96.here hx rfl (hb hby at_81) ?_
        refine XS.icmpYes X96.here hx rfl (pc0 := 82) (pc' := 91) rfl (hb hby at_82) rfl (tlt (by decide)).1 (by decide) (by decide) ?_
        refine XS.iload X96.here hx rfl (hb hby at_91) rfl ?_
        refine XS.iconst X96.here hx rfl (hb hby at_93) ?_
        refine XS.icmpYes X96.here hx rfl (pc0 := 94) (pc' := 103) rfl (hb hby at_94) rfl (tlt (by decide)).1 (by decide) (by decide) ?_
        refine XS.aload X96.here hx rfl (hb hby at_103) rfl rfl ?_
        exact Steps.refl _
      have c99 : Exa Z T96.heap u50 "java/lang/String" := (c66.keep Kc96)
      have c100 : Fld Z T96.heap u50 "java/lang/String" "value" "[B" (.ref u51) := (c67.keep Kc96 (ninS ne_u50_b56 nin0))
      have c101 : Fld Z T96.heap u50 "java/lang/String" "coder" "B" (.int u54) := (c68.keep Kc96 (ninS ne_u50_b56 nin0))
      have c102 : Arv Z T96.heap u51 u52 .byte u53 (u55.map Value.int) (.int 0) := (c69.keep Kc96 (ninS ne_u51_b56 nin0))
      obtain ⟨T103, L103, X103, e103, N103, st103⟩ := own_callVP X96 hx hZ58 hown58 (wk48 hw) (wk49 hw) (wk51 hw) (wk50 hw) (by decide) (wk36 hw) (wk52 hw) (rmate1_0 l Z a0 hw [] b56 wc u50 u51 u52 u53 u54 u55 (1 : Int32) T96.heap n0 O96 f96_1 f96_2 c99 c100 c101 c102 F0_ hcs f49_5 (by decide)) (rfl : T96.heap = T96.heap) N96 (W := 0) (by decide) (by decide) (by decide) (by decide) f96_0 (g := (mkF m 105 #[.val (.int p0), .val (.int p1), .val (.int p2), .val (.int p3), .val (.int p4), .val (.int p5), .val (.int 1), .val (.ref u50), .val (.ref b56), .val (.int 1), .val (.int 1), .unset, .unset] [(.ref b56)])) rfl (by rw [hml]; rfl) (argsL := []) (rest := []) (lenOf pd_rm0_2 rfl) rfl (by exact Nat.le_refl _) (hb hby at_105)
      have s104 : Steps p.tables e below A₀ (T103.setTop (mkF m 143 #[.val (.int p0), .val (.int p1), .val (.int p2), .val (.int p3), .val (.int p4), .val (.int p5), .val (.int 1), .val (.ref u50), .val (.ref b56), .val (.int 1), .val (.int 1), .val (.int 1), .unset] [(.int p5), (.ref b56)])) := by
        refine s98.trans ?_
        show Steps p.tables e below (T96.setTop (mkF m 105 #[.val (.int p0), .val (.int p1), .val (.int p2), .val (.int p3), .val (.int p4), .val (.int p5), .val (.int 1), .val (.ref u50), .val (.ref b56), .val (.int 1), .val (.int 1), .unset, .unset] [(.ref b56)])) _
        refine st103 _ ?_
        refine XS.istore X103.here hx rfl (hb hby at_108) rfl (l' := #[.val (.int p0), .val (.int p1), .val (.int p2), .val (.int p3), .val (.int p4), .val (.int p5), .val (.int 1), .val (.ref u50), .val (.ref b56), .val (.int 1), .val (.int 1), .val (.int 1), .unset]) rfl ?_
        refine XS.iload X103.here hx rfl (hb hby at_110) rfl ?_
        refine XS.ifNo X103.here hx rfl (hb hby at_112) rfl ((if0 _ _).trans (feq (by decide)).1) ?_
        refine XS.iload X103.here hx rfl (hb hby at_115) rfl ?_
        refine XS.iload X103.here hx rfl (hb hby at_117) rfl ?_
        refine XS.iload X103.here hx rfl (hb hby at_119) rfl ?_
        refine XS.icmpNo X103.here hx rfl (hb hby at_121) rfl (teq (by decide)).2 ?_
        refine XS.iconst X103.here hx rfl (hb hby at_124) ?_
        refine XS.goto X103.here hx rfl (pc0 := 125) (pc' := 129) rfl (hb hby at_125) (by decide) (by decide) ?_
        show Steps p.tables e below (T103.setTop (mkF m 129 #[.val (.int p0), .val (.int p1), .val (.int p2), .val (.int p3), .val (.int p4), .val (.int p5), .val (.int 1), .val (.ref u50), .val (.ref b56), .val (.int 1), .val (.int 1), .val (.int 1), .unset] [(.int 1), (.int 1)])) _
        refine XS.icmpNo X103.here hx rfl (hb hby at_129) rfl (teq (by decide)).2 ?_
        refine XS.iconst X103.here hx rfl (hb hby at_132) ?_
        refine XS.goto X103.here hx rfl (pc0 := 133) (pc' := 137) rfl (hb hby at_133) (by decide) (by decide) ?_
        refine XS.istore X103.here hx rfl (hb hby at_137) rfl (l' := #[.val (.int p0), .val (.int p1), .val (.int p2), .val (.int p3), .val (.int p4), .val (.int p5), .val (.int 1), .val (.ref u50), .val (.ref b56), .val (.int 1), .val (.int 1), .val (.int 1), .unset]) rfl ?_
        refine XS.aload X103.here hx rfl (hb hby at_139) rfl rfl ?_
        refine XS.iload X103.here hx rfl (hb hby at_141) rfl ?_
        exact Steps.refl _
      obtain ⟨cq105, kq105, q105a, q105b, q105c⟩ := isOf hZ58 e103 f96_0
      obtain ⟨_, _, ⟨T105, L105, k105, n105⟩, -, X105, ⟨Lc105, hQ105, l105, y105, z105⟩, st105⟩ := X103.virtualBack hx (y := (⟨"com/example/lintel/lintel/message/HeaderCursor", "reset", "(I)V"⟩ : MethodName)) (z := (⟨"com/example/lintel/lintel/message/HeaderCursor", "reset", "(I)V"⟩ : MethodName)) hown58 (mvT hZ58 (wq hw 69 rfl)) (mvT hZ58 (wq hw 70 rfl)) (notFace_of_selects (args := #[]) (mvT hZ58 (wq hw 72 rfl))) (mvT hZ58 (wq hw 72 rfl)) (mvT hZ58 (wq hw 71 rfl)) (by decide) (backOf (W := 0) (rm13 l Z a0 hw [] b56 p5 (1 : Int32) u50 T96.heap n0 O96 f96_0 f96_1 f96_2 g_b56) hZ58 (wq hw 73 rfl) (wq hw 36 rfl) (by decide) (by decide)) q105a q105c (g := (mkF m 143 #[.val (.int p0), .val (.int p1), .val (.int p2), .val (.int p3), .val (.int p4), .val (.int p5), .val (.int 1), .val (.ref u50), .val (.ref b56), .val (.int 1), .val (.int 1), .val (.int 1), .unset] [(.int p5), (.ref b56)])) rfl (by rw [hml]; rfl) (Steps.refl _) (argsL := [(.int p5)]) (rest := []) (lenOf pd_rm0_4 rfl) rfl (by exact Nat.le_refl _) (hb hby at_143) (fun _ _ => ⟨rfl, e103, (by decide : 7 + 0 ≤ _), (by decide : 35 + 0 ≤ _)⟩)
      dsimp only [Pt.U, Pt.locs, Pt.cells, Pt.slots] at X105 l105 y105 z105 st105 hQ105
      subst l105 y105 z105
      obtain ⟨rfl, Nq105, Kc105, f105_0, f105_1, f105_2⟩ := hQ105
      have N105 := Fr.app N103 Nq105
      have O105 := O96.keep Kc105 (allS g_b56 all0)
      have hkk105 := Nat.le_trans hkk96 Kc105.1
      have s106 : Steps p.tables e below A₀ (T105.setTop (mkF m 148 #[.val (.int p0), .val (.int p1), .val (.int p2), .val (.int p3), .val (.int p4), .val (.int p5), .val (.int 1), .val (.ref u50), .val (.ref b56), .val (.int 1), .val (.int 1), .val (.int 1), .unset] [(.ref b56)])) := by
        refine s104.trans ?_
        show Steps p.tables e below (T103.setTop (mkF m 143 #[.val (.int p0), .val (.int p1), .val (.int p2), .val (.int p3), .val (.int p4), .val (.int p5), .val (.int 1), .val (.ref u50), .val (.ref b56), .val (.int 1), .val (.int 1), .val (.int 1), .unset] [(.int p5), (.ref b56)])) _
        refine st105.trans ?_
        refine XS.aload X105.here hx rfl (hb hby at_146) rfl rfl ?_
        exact Steps.refl _
      by_cases hy107 : p5 < (1 : Int32)
      · have c108 : Exa Z T105.heap u50 "java/lang/String" := (c99.keep Kc105)
        have c109 : Fld Z T105.heap u50 "java/lang/String" "value" "[B" (.ref u51) := (c100.keep Kc105 (ninS ne_u50_b56 nin0))
        have c110 : Fld Z T105.heap u50 "java/lang/String" "coder" "B" (.int u54) := (c101.keep Kc105 (ninS ne_u50_b56 nin0))
        have c111 : Arv Z T105.heap u51 u52 .byte u53 (u55.map Value.int) (.int 0) := (c102.keep Kc105 (ninS ne_u51_b56 nin0))
        obtain ⟨T112, L112, X112, e112, N112, st112⟩ := own_callVP X105 hx hZ58 hown58 (wk48 hw) (wk49 hw) (wk51 hw) (wk50 hw) (by decide) (wk36 hw) (wk52 hw) (rmate1_1 l Z a0 hw [] b56 wc u50 u51 u52 u53 u54 u55 p5 T105.heap n0 O105 f105_1 f105_2 c108 c109 c110 c111 F0_ hcs f49_5 hy107) (rfl : T105.heap = T105.heap) N105 (W := 0) (by decide) (by decide) (by decide) (by decide) f105_0 (g := (mkF m 148 #[.val (.int p0), .val (.int p1), .val (.int p2), .val (.int p3), .val (.int p4), .val (.int p5), .val (.int 1), .val (.ref u50), .val (.ref b56), .val (.int 1), .val (.int 1), .val (.int 1), .unset] [(.ref b56)])) rfl (by rw [hml]; rfl) (argsL := []) (rest := []) (lenOf pd_rm0_2 rfl) rfl (by exact Nat.le_refl _) (hb hby at_148)
        have s113 : Steps p.tables e below A₀ (T112.setTop (mkF m 184 #[.val (.int p0), .val (.int p1), .val (.int p2), .val (.int p3), .val (.int p4), .val (.int p5), .val (.int 1), .val (.ref u50), .val (.ref b56), .val (.int 1), .val (.int 1), .val (.int 1), .val (.int 0)] [(.int 1)])) := by
          refine s106.trans ?_
          show Steps p.tables e below (T105.setTop (mkF m 148 #[.val (.int p0), .val (.int p1), .val (.int p2), .val (.int p3), .val (.int p4), .val (.int p5), .val (.int 1), .val (.ref u50), .val (.ref b56), .val (.int 1), .val (.int 1), .val (.int 1), .unset] [(.ref b56)])) _
          refine st112 _ ?_
          refine XS.istore X112.here hx rfl (hb hby at_151) rfl (l' := #[.val (.int p0), .val (.int p1), .val (.int p2), .val (.int p3), .val (.int p4), .val (.int p5), .val (.int 1), .val (.ref u50), .val (.ref b56), .val (.int 1), .val (.int 1), .val (.int 1), .val (.int 0)]) rfl ?_
          refine XS.iload X112.here hx rfl (hb hby at_153) rfl ?_
          refine XS.ifNo X112.here hx rfl (hb hby at_155) rfl ((if0 _ _).trans (feq (by decide)).1) ?_
          refine XS.iload X112.here hx rfl (hb hby at_158) rfl ?_
          refine XS.iload X112.here hx rfl (hb hby at_160) rfl ?_
          refine XS.iload X112.here hx rfl (hb hby at_162) rfl ?_
          refine XS.icmpYes X112.here hx rfl (pc0 := 164) (pc' := 171) rfl (hb hby at_164) rfl (tlt hy107).1 (by decide) (by decide) ?_
          refine XS.iconst X112.here hx rfl (hb hby at_171) ?_
          refine XS.icmpNo X112.here hx rfl (hb hby at_172) rfl (teq (by decide)).2 ?_
          show Steps p.tables e below (T112.setTop (mkF m 175 #[.val (.int p0), .val (.int p1), .val (.int p2), .val (.int p3), .val (.int p4), .val (.int p5), .val (.int 1), .val (.ref u50), .val (.ref b56), .val (.int 1), .val (.int 1), .val (.int 1), .val (.int 0)] [])) _
          refine XS.iconst X112.here hx rfl (hb hby at_175) ?_
          refine XS.goto X112.here hx rfl (pc0 := 176) (pc' := 180) rfl (hb hby at_176) (by decide) (by decide) ?_
          refine XS.istore X112.here hx rfl (hb hby at_180) rfl (l' := #[.val (.int p0), .val (.int p1), .val (.int p2), .val (.int p3), .val (.int p4), .val (.int p5), .val (.int 1), .val (.ref u50), .val (.ref b56), .val (.int 1), .val (.int 1), .val (.int 1), .val (.int 0)]) rfl ?_
          refine XS.iload X112.here hx rfl (hb hby at_182) rfl ?_
          exact Steps.refl _
        subst hA₀
        obtain ⟨fs, hr, hrun, hended, -, hW, hIn, hsame⟩ := X112.leaveW hS58 (by rw [e112]; exact hkk105) (v := some (.int 1)) (fun h => by rw [Bd.returns] at h; cases h)
        refine ⟨_, _, s113.trans ?_, hrun, hended, _, _, rfl, ?_, ⟨_, rfl⟩, hW, hIn, hsame.mono (by decide) (by decide)⟩
        · show Steps p.tables e below (T112.setTop (mkF m 184 #[.val (.int p0), .val (.int p1), .val (.int p2), .val (.int p3), .val (.int p4), .val (.int p5), .val (.int 1), .val (.ref u50), .val (.ref b56), .val (.int 1), .val (.int 1), .val (.int 1), .val (.int 0)] [(.int 1)])) _
          exact retN X112 hx (t := .boolean) Bd.returns (by simp) (hb hby at_184) hr
        · show Q0 Z p0 p1 p2 p3 p4 p5 wc rg h0 n0 _ T112.heap _
          rw [e112]
          exact ⟨rfl, N112⟩
      · have c114 : Exa Z T105.heap u50 "java/lang/String" := (c99.keep Kc105)
        have c115 : Fld Z T105.heap u50 "java/lang/String" "value" "[B" (.ref u51) := (c100.keep Kc105 (ninS ne_u50_b56 nin0))
        have c116 : Fld Z T105.heap u50 "java/lang/String" "coder" "B" (.int u54) := (c101.keep Kc105 (ninS ne_u50_b56 nin0))
        have c117 : Arv Z T105.heap u51 u52 .byte u53 (u55.map Value.int) (.int 0) := (c102.keep Kc105 (ninS ne_u51_b56 nin0))
        obtain ⟨T118, L118, X118, e118, N118, st118⟩ := own_callVP X105 hx hZ58 hown58 (wk48 hw) (wk49 hw) (wk51 hw) (wk50 hw) (by decide) (wk36 hw) (wk52 hw) (rmate1_0 l Z a0 hw [] b56 wc u50 u51 u52 u53 u54 u55 p5 T105.heap n0 O105 f105_1 f105_2 c114 c115 c116 c117 F0_ hcs f49_5 hy107) (rfl : T105.heap = T105.heap) N105 (W := 0) (by decide) (by decide) (by decide) (by decide) f105_0 (g := (mkF m 148 #[.val (.int p0), .val (.int p1), .val (.int p2), .val (.int p3), .val (.int p4), .val (.int p5), .val (.int 1), .val (.ref u50), .val (.ref b56), .val (.int 1), .val (.int 1), .val (.int 1), .unset] [(.ref b56)])) rfl (by rw [hml]; rfl) (argsL := []) (rest := []) (lenOf pd_rm0_2 rfl) rfl (by exact Nat.le_refl _) (hb hby at_148)
        have s119 : Steps p.tables e below A₀ (T118.setTop (mkF m 184 #[.val (.int p0), .val (.int p1), .val (.int p2), .val (.int p3), .val (.int p4), .val (.int p5), .val (.int 1), .val (.ref u50), .val (.ref b56), .val (.int 1), .val (.int 1), .val (.int 1), .val (.int 1)] [(.int 1)])) := by
          refine s106.trans ?_
          show Steps p.tables e below (T105.setTop (mkF m 148 #[.val (.int p0), .val (.int p1), .val (.int p2), .val (.int p3), .val (.int p4), .val (.int p5), .val (.int 1), .val (.ref u50), .val (.ref b56), .val (.int 1), .val (.int 1), .val (.int 1), .unset] [(.ref b56)])) _
          refine st118 _ ?_
          refine XS.istore X118.here hx rfl (hb hby at_151) rfl (l' := #[.val (.int p0), .val (.int p1), .val (.int p2), .val (.int p3), .val (.int p4), .val (.int p5), .val (.int 1), .val (.ref u50), .val (.ref b56), .val (.int 1), .val (.int 1), .val (.int 1), .val (.int 1)]) rfl ?_
          refine XS.iload X118.here hx rfl (hb hby at_153) rfl ?_
          refine XS.ifNo X118.here hx rfl (hb hby at_155) rfl ((if0 _ _).trans (feq (by decide)).1) ?_
          refine XS.iload X118.here hx rfl (hb hby at_158) rfl ?_
          refine XS.iload X118.here hx rfl (hb hby at_160) rfl ?_
          refine XS.iload X118.here hx rfl (hb hby at_162) rfl ?_
          refine XS.icmpNo X118.here hx rfl (hb hby at_164) rfl (flt hy107).1 ?_
          refine XS.iconst X118.here hx rfl (hb hby at_167) ?_
          refine XS.goto X118.here hx rfl (pc0 := 168) (pc' := 172) rfl (hb hby at_168) (by decide) (by decide) ?_
          show Steps p.tables e below (T118.setTop (mkF m 172 #[.val (.int p0), .val (.int p1), .val (.int p2), .val (.int p3), .val (.int p4), .val (.int p5), .val (.int 1), .val (.ref u50), .val (.ref b56), .val (.int 1), .val (.int 1), .val (.int 1), .val (.int 1)] [(.int 1), (.int 1)])) _
          refine XS.icmpNo X118.here hx rfl (hb hby at_172) rfl (teq (by decide)).2 ?_
          refine XS.iconst X118.here hx rfl (hb hby at_175) ?_
          refine XS.goto X118.here hx rfl (pc0 := 176) (pc' := 180) rfl (hb hby at_176) (by decide) (by decide) ?_
          refine XS.istore X118.here hx rfl (hb hby at_180) rfl (l' := #[.val (.int p0), .val (.int p1), .val (.int p2), .val (.int p3), .val (.int p4), .val (.int p5), .val (.int 1), .val (.ref u50), .val (.ref b56), .val (.int 1), .val (.int 1), .val (.int 1), .val (.int 1)]) rfl ?_
          refine XS.iload X118.here hx rfl (hb hby at_182) rfl ?_
          exact Steps.refl _
        subst hA₀
        obtain ⟨fs, hr, hrun, hended, -, hW, hIn, hsame⟩ := X118.leaveW hS58 (by rw [e118]; exact hkk105) (v := some (.int 1)) (fun h => by rw [Bd.returns] at h; cases h)
        refine ⟨_, _, s119.trans ?_, hrun, hended, _, _, rfl, ?_, ⟨_, rfl⟩, hW, hIn, hsame.mono (by decide) (by decide)⟩
        · show Steps p.tables e below (T118.setTop (mkF m 184 #[.val (.int p0), .val (.int p1), .val (.int p2), .val (.int p3), .val (.int p4), .val (.int p5), .val (.int 1), .val (.ref u50), .val (.ref b56), .val (.int 1), .val (.int 1), .val (.int 1), .val (.int 1)] [(.int 1)])) _
          exact retN X118 hx (t := .boolean) Bd.returns (by simp) (hb hby at_184) hr
        · show Q0 Z p0 p1 p2 p3 p4 p5 wc rg h0 n0 _ T118.heap _
          rw [e118]
          exact ⟨rfl, N118⟩
  · have s120 := s1
    rw [hk2] at s120
    have s121 : Steps p.tables e below A₀ (s₁.setTop (mkF m 13 #[.val (.int p0), .val (.int p1), .val (.int p2), .val (.int p3), .val (.int p4), .val (.int p5), .val (.int 2), .unset, .unset, .unset, .unset, .unset, .unset] [(.int (p2.toUInt32.toUInt16.toUInt32.toInt32)), (.int (p1.toUInt32.toUInt16.toUInt32.toInt32)), (.int (p0.toUInt32.toUInt16.toUInt32.toInt32)), (.int 2)])) := by
      refine s120.trans ?_
      refine XS.iload X0.here hx rfl (hb hby at_5) rfl ?_
      refine XS.iloadN X0.here hx rfl (hb hby at_7) rfl ?_
      refine XS.i2c X0.here hx rfl (hb hby at_8) rfl ?_
      refine XS.iloadN X0.here hx rfl (hb hby at_9) rfl ?_
      refine XS.i2c X0.here hx rfl (hb hby at_10) rfl ?_
      refine XS.iloadN X0.here hx rfl (hb hby at_11) rfl ?_
      refine XS.i2c X0.here hx rfl (hb hby at_12) rfl ?_
      exact Steps.refl _
    obtain ⟨_, _, ⟨T122, L122, k122, n122⟩, -, X122, ⟨Lc122, hQ122, l122, y122, z122⟩, st122⟩ := Jvm.LawKit.callS X0 hx (y := (⟨"com/example/lintel/lintel/message/HeaderCursorAtEndPinLaw", "make", "(ICCC)Ljava/lang/String;"⟩ : MethodName)) hown (mvT hZ (wq hw 0 rfl)) (mvT hZ (wq hw 1 rfl)) (mvT hZ (wq hw 2 rfl)) (mvT hZ (wq hw 3 rfl)) (by decide) (backOf (W := 0) (rmmk_2 l Z a0 hw [] (p0.toUInt32.toUInt16.toUInt32.toInt32) (p1.toUInt32.toUInt16.toUInt32.toInt32) (p2.toUInt32.toUInt16.toUInt32.toInt32) wc h0 n0 O0 F0_ F3_ F4_ F5_ hcs) hZ (wq hw 3 rfl) (wq hw 2 rfl) (by decide) (by decide)) (g := (mkF m 13 #[.val (.int p0), .val (.int p1), .val (.int p2), .val (.int p3), .val (.int p4), .val (.int p5), .val (.int 2), .unset, .unset, .unset, .unset, .unset, .unset] [(.int (p2.toUInt32.toUInt16.toUInt32.toInt32)), (.int (p1.toUInt32.toUInt16.toUInt32.toInt32)), (.int (p0.toUInt32.toUInt16.toUInt32.toInt32)), (.int 2)])) rfl (by rw [hml]; rfl) (argsL := [(.int 2), (.int (p0.toUInt32.toUInt16.toUInt32.toInt32)), (.int (p1.toUInt32.toUInt16.toUInt32.toInt32)), (.int (p2.toUInt32.toUInt16.toUInt32.toInt32))]) (rest := []) (lenOf pd_rm0_0 rfl) rfl (by exact Nat.le_refl _) (hb hby at_13) (fun _ _ => ⟨rfl, e0, (by decide : 0 + 4 ≤ _), (by decide : 0 + 12 ≤ _)⟩)
    dsimp only [Pt.U, Pt.locs, Pt.cells, Pt.slots] at X122 l122 y122 z122 st122 hQ122
    subst l122 y122 z122
    obtain ⟨u123, u124, u125, u126, u127, u128, rfl, Nq122, Kc122, f122_0, f122_1, f122_2, f122_3, f122_4, f122_5, f122_6, f122_7⟩ := hQ122
    have N122 := Fr.app N0 Nq122
    have g_u124 : n0 ≤ u124 := Nat.le_trans (Nat.le_of_eq O0.1.symm) (Nat.le_trans O0.2.1 f122_4)
    have g_u123 : n0 ≤ u123 := Nat.le_trans (Nat.le_of_eq O0.1.symm) (Nat.le_trans O0.2.1 f122_6)
    have O122 := O0.keep Kc122 all0
    have hkk122 := Nat.le_trans hk0 Kc122.1
    obtain ⟨T129, h129, X129, e129, E129, A129, D129, -, st129⟩ := newO X122 hx hZ hown (wq hw 34 rfl) (wq hw 35 rfl) (wq hw 36 rfl) (rfl : T122.heap = T122.heap) (g := (mkF m 18 #[.val (.int p0), .val (.int p1), .val (.int p2), .val (.int p3), .val (.int p4), .val (.int p5), .val (.int 2), .val (.ref u123), .unset, .unset, .unset, .unset, .unset] [])) rfl (hb hby at_18) (by decide) (by decide)
    obtain ⟨b129, g129⟩ : ∃ z, z = T122.heap.size := ⟨_, rfl⟩
    rw [← g129] at A129 D129 st129
    have ne_u123_b129 : u123 ≠ b129 := Nat.ne_of_lt (Nat.lt_of_lt_of_le f122_0.lt (Nat.le_of_eq g129.symm))
    have ne_u124_b129 : u124 ≠ b129 := Nat.ne_of_lt (Nat.lt_of_lt_of_le f122_3.lt (Nat.le_of_eq g129.symm))
    have g_b129 : n0 ≤ b129 := Nat.le_trans (Nat.le_of_eq O122.1.symm) (Nat.le_trans O122.2.1 (Nat.le_of_eq g129.symm))
    have O129 := O122.ext E129
    have hkk129 := Nat.le_trans hkk122 E129.1
    have F129_text : Fld Z h129 b129 "com/example/lintel/lintel/message/HeaderCursor" "text" "Ljava/lang/String;" .null := D129 (Or.inr (wq hw 45 rfl)) (ty := (.object "java/lang/String")) (by decide)
    have F129_what : Fld Z h129 b129 "com/example/lintel/lintel/message/HeaderCursor" "what" "Ljava/lang/String;" .null := D129 (Or.inr (wq hw 47 rfl)) (ty := (.object "java/lang/String")) (by decide)
    have F129_at : Fld Z h129 b129 "com/example/lintel/lintel/message/HeaderCursor" "at" "I" (.int 0) := D129 (Or.inl (wq hw 54 rfl)) (ty := .int) (by decide)
    have s130 : Steps p.tables e below A₀ (T129.setTop (mkF m 24 #[.val (.int p0), .val (.int p1), .val (.int p2), .val (.int p3), .val (.int p4), .val (.int p5), .val (.int 2), .val (.ref u123), .unset, .unset, .unset, .unset, .unset] [(.ref u123), (.ref b129), (.ref b129)])) := by
      refine s121.trans ?_
      show Steps p.tables e below (s₁.setTop (mkF m 13 #[.val (.int p0), .val (.int p1), .val (.int p2), .val (.int p3), .val (.int p4), .val (.int p5), .val (.int 2), .unset, .unset, .unset, .unset, .unset, .unset] [(.int (p2.toUInt32.toUInt16.toUInt32.toInt32)), (.int (p1.toUInt32.toUInt16.toUInt32.toInt32)), (.int (p0.toUInt32.toUInt16.toUInt32.toInt32)), (.int 2)])) _
      refine st122 _ ?_
      refine XS.astore X122.here hx rfl (hb hby at_16) rfl rfl (l' := #[.val (.int p0), .val (.int p1), .val (.int p2), .val (.int p3), .val (.int p4), .val (.int p5), .val (.int 2), .val (.ref u123), .unset, .unset, .unset, .unset, .unset]) rfl ?_
      refine st129 _ ?_
      refine XS.dup X129.here hx rfl (hb hby at_21) rfl rfl ?_
      refine XS.aload X129.here hx rfl (hb hby at_22) rfl rfl ?_
      exact Steps.refl _
    obtain ⟨a131, T131, h131, k131, X131, e131, E131, hS131, hk131, hZ131, hown131, st131⟩ := ldcS X129 hx hZ hown (wq hw 37 rfl) (own_wS hw) e129 hS0 hkk129 (g := (mkF m 24 #[.val (.int p0), .val (.int p1), .val (.int p2), .val (.int p3), .val (.int p4), .val (.int p5), .val (.int 2), .val (.ref u123), .unset, .unset, .unset, .unset, .unset] [(.ref u123), (.ref b129), (.ref b129)])) rfl (hb hby at_24) (n := 20) (by decide) (by decide) (by decide) (by decide)
    have O131 := O129.ext E131
    have hkk131 := Nat.le_trans hkk129 E131.1
    have s132 : Steps p.tables e below A₀ (T131.setTop (mkF m 26 #[.val (.int p0), .val (.int p1), .val (.int p2), .val (.int p3), .val (.int p4), .val (.int p5), .val (.int 2), .val (.ref u123), .unset, .unset, .unset, .unset, .unset] [(.ref a131), (.ref u123), (.ref b129), (.ref b129)])) := by
      refine s130.trans ?_
      show Steps p.tables e below (T129.setTop (mkF m 24 #[.val (.int p0), .val (.int p1), .val (.int p2), .val (.int p3), .val (.int p4), .val (.int p5), .val (.int 2), .val (.ref u123), .unset, .unset, .unset, .unset, .unset] [(.ref u123), (.ref b129), (.ref b129)])) _
      refine st131 _ ?_
      exact Steps.refl _
    have c133 : Exa Z h131 b129 "com/example/lintel/lintel/message/HeaderCursor" := (A129.ext E131)
    have c134 : Fld Z h131 b129 "com/example/lintel/lintel/message/HeaderCursor" "text" "Ljava/lang/String;" .null := (F129_text.ext E131)
    have c135 : Fld Z h131 b129 "com/example/lintel/lintel/message/HeaderCursor" "what" "Ljava/lang/String;" .null := (F129_what.ext E131)
    have c136 : Fld Z h131 b129 "com/example/lintel/lintel/message/HeaderCursor" "at" "I" (.int 0) := (F129_at.ext E131)
    obtain ⟨_, _, ⟨T137, L137, k137, n137⟩, -, X137, ⟨Lc137, hQ137, l137, y137, z137⟩, st137⟩ := X131.specialBack hx (y := (⟨"com/example/lintel/lintel/message/HeaderCursor", "<init>", "(Ljava/lang/String;Ljava/lang/String;)V"⟩ : MethodName)) rfl hown131 (mvT hZ131 (wq hw 40 rfl)) (mvT hZ131 (wq hw 41 rfl)) (mvT hZ131 (wq hw 42 rfl)) (by decide) (backOf (W := 1) (rm8 l Z a0 hw [] b129 u123 a131 h131 n0 O131 c133 c134 c135 c136 g_b129) hZ131 (wq hw 42 rfl) (wq hw 36 rfl) (by decide) (by decide)) (g := (mkF m 26 #[.val (.int p0), .val (.int p1), .val (.int p2), .val (.int p3), .val (.int p4), .val (.int p5), .val (.int 2), .val (.ref u123), .unset, .unset, .unset, .unset, .unset] [(.ref a131), (.ref u123), (.ref b129), (.ref b129)])) rfl (by rw [hml]; rfl) (Steps.refl _) (a := b129) (argsL := [(.ref u123), (.ref a131)]) (rest := [(.ref b129)]) (lenOf pd_rm0_1 rfl) rfl (by exact Nat.le_refl _) (hb hby at_26) (fun _ _ => ⟨rfl, e131, (by decide : 7 + 0 ≤ _), (by decide : 39 + 0 ≤ _)⟩)
    dsimp only [Pt.U, Pt.locs, Pt.cells, Pt.slots] at X137 l137 y137 z137 st137 hQ137
    subst l137 y137 z137
    obtain ⟨rfl, Nq137, Kc137, f137_0, f137_1, f137_2⟩ := hQ137
    have N137 := Fr.app N122 Nq137
    have O137 := O131.keep Kc137 (allS g_b129 all0)
    have hkk137 := Nat.le_trans hk131 Kc137.1
    have s138 : Steps p.tables e below A₀ (T137.setTop (mkF m 33 #[.val (.int p0), .val (.int p1), .val (.int p2), .val (.int p3), .val (.int p4), .val (.int p5), .val (.int 2), .val (.ref u123), .val (.ref b129), .unset, .unset, .unset, .unset] [(.ref b129)])) := by
      refine s132.trans ?_
      show Steps p.tables e below (T131.setTop (mkF m 26 #[.val (.int p0), .val (.int p1), .val (.int p2), .val (.int p3), .val (.int p4), .val (.int p5), .val (.int 2), .val (.ref u123), .unset, .unset, .unset, .unset, .unset] [(.ref a131), (.ref u123), (.ref b129), (.ref b129)])) _
      refine st137.trans ?_
      refine XS.astore X137.here hx rfl (hb hby at_29) rfl rfl (l' := #[.val (.int p0), .val (.int p1), .val (.int p2), .val (.int p3), .val (.int p4), .val (.int p5), .val (.int 2), .val (.ref u123), .val (.ref b129), .unset, .unset, .unset, .unset]) rfl ?_
      refine XS.aload X137.here hx rfl (hb hby at_31) rfl rfl ?_
      exact Steps.refl _
    have c139 : Exa Z T137.heap u123 "java/lang/String" := (((f122_0.ext E129).ext E131).keep Kc137)
    have c140 : Fld Z T137.heap u123 "java/lang/String" "value" "[B" (.ref u124) := (((f122_1.ext E129).ext E131).keep Kc137 (ninS ne_u123_b129 nin0))
    have c141 : Fld Z T137.heap u123 "java/lang/String" "coder" "B" (.int u127) := (((f122_2.ext E129).ext E131).keep Kc137 (ninS ne_u123_b129 nin0))
    have c142 : Arv Z T137.heap u124 u125 .byte u126 (u128.map Value.int) (.int 0) := (((f122_3.ext E129).ext E131).keep Kc137 (ninS ne_u124_b129 nin0))
    obtain ⟨T143, L143, X143, e143, N143, st143⟩ := own_callVP X137 hx hZ131 hown131 (wk48 hw) (wk49 hw) (wk51 hw) (wk50 hw) (by decide) (wk36 hw) (wk52 hw) (rmate2_1 l Z a0 hw [] b129 wc u123 u124 u125 u126 u127 u128 (0 : Int32) T137.heap n0 O137 f137_2 f137_1 c139 c140 c141 c142 F0_ hcs f122_5 (by decide)) (rfl : T137.heap = T137.heap) N137 (W := 0) (by decide) (by decide) (by decide) (by decide) f137_0 (g := (mkF m 33 #[.val (.int p0), .val (.int p1), .val (.int p2), .val (.int p3), .val (.int p4), .val (.int p5), .val (.int 2), .val (.ref u123), .val (.ref b129), .unset, .unset, .unset, .unset] [(.ref b129)])) rfl (by rw [hml]; rfl) (argsL := []) (rest := []) (lenOf pd_rm0_2 rfl) rfl (by exact Nat.le_refl _) (hb hby at_33)
    have s144 : Steps p.tables e below A₀ (T143.setTop (mkF m 62 #[.val (.int p0), .val (.int p1), .val (.int p2), .val (.int p3), .val (.int p4), .val (.int p5), .val (.int 2), .val (.ref u123), .val (.ref b129), .val (.int 1), .unset, .unset, .unset] [(.int 2), (.int (p4 &&& (3 : Int32)))])) := by
      refine s138.trans ?_
      show Steps p.tables e below (T137.setTop (mkF m 33 #[.val (.int p0), .val (.int p1), .val (.int p2), .val (.int p3), .val (.int p4), .val (.int p5), .val (.int 2), .val (.ref u123), .val (.ref b129), .unset, .unset, .unset, .unset] [(.ref b129)])) _
      refine st143 _ ?_
      refine XS.iload X143.here hx rfl (hb hby at_36) rfl ?_
      refine XS.ifYes X143.here hx rfl (pc0 := 38) (pc' := 45) rfl (hb hby at_38) rfl ((if0 _ _).trans (feq (by decide)).2) (by decide) (by decide) ?_
      refine XS.iconst X143.here hx rfl (hb hby at_45) ?_
      refine XS.icmpNo X143.here hx rfl (hb hby at_46) rfl (teq (by decide)).2 ?_
      refine XS.iconst X143.here hx rfl (hb hby at_49) ?_
      refine XS.goto X143.here hx rfl (pc0 := 50) (pc' := 54) rfl (hb hby at_50) (by decide) (by decide) ?_
      refine XS.istore X143.here hx rfl (hb hby at_54) rfl (l' := #[.val (.int p0), .val (.int p1), .val (.int p2), .val (.int p3), .val (.int p4), .val (.int p5), .val (.int 2), .val (.ref u123), .val (.ref b129), .val (.int 1), .unset, .unset, .unset]) rfl ?_
      refine XS.iload X143.here hx rfl (hb hby at_56) rfl ?_
      refine XS.iconst X143.here hx rfl (hb hby at_58) ?_
      show Steps p.tables e below (T143.setTop (mkF m 59 #[.val (.int p0), .val (.int p1), .val (.int p2), .val (.int p3), .val (.int p4), .val (.int p5), .val (.int 2), .val (.ref u123), .val (.ref b129), .val (.int 1), .unset, .unset, .unset] [(.int 3), (.int p4)])) _
      refine XS.iand X143.here hx rfl (hb hby at_59) rfl ?_
      refine XS.iload X143.here hx rfl (hb hby at_60) rfl ?_
      exact Steps.refl _
    obtain ⟨T145, L145, X145, e145, N145, st145⟩ := own_callP X143 hx hZ131 hown131 (wk65 hw) (wk66 hw) (wk67 hw) (wk68 hw) (by decide) (rm12 l Z a0 hw [] (p4 &&& (3 : Int32)) (2 : Int32) T137.heap n0 O137 ) e143 N143 (W := 0) (by decide) (by decide) (by decide) (by decide) (g := (mkF m 62 #[.val (.int p0), .val (.int p1), .val (.int p2), .val (.int p3), .val (.int p4), .val (.int p5), .val (.int 2), .val (.ref u123), .val (.ref b129), .val (.int 1), .unset, .unset, .unset] [(.int 2), (.int (p4 &&& (3 : Int32)))])) rfl (by rw [hml]; rfl) (argsL := [(.int (p4 &&& (3 : Int32))), (.int 2)]) (rest := []) (lenOf pd_rm0_3 rfl) rfl (by exact Nat.le_refl _) (hb hby at_62)
    have s146 : Steps p.tables e below A₀ (T145.setTop (mkF m 65 #[.val (.int p0), .val (.int p1), .val (.int p2), .val (.int p3), .val (.int p4), .val (.int p5), .val (.int 2), .val (.ref u123), .val (.ref b129), .val (.int 1), .unset, .unset, .unset] [(.int (own_min (p4 &&& (3 : Int32)) (2 : Int32)))])) := by
      refine s144.trans ?_
      show Steps p.tables e below (T143.setTop (mkF m 62 #[.val (.int p0), .val (.int p1), .val (.int p2), .val (.int p3), .val (.int p4), .val (.int p5), .val (.int 2), .val (.ref u123), .val (.ref b129), .val (.int 1), .unset, .unset, .unset] [(.int 2), (.int (p4 &&& (3 : Int32)))])) _
      refine st145 _ ?_
      exact Steps.refl _
    rcases own_min2 p4 with hk147 | hk147 | hk147
    · have s148 := s146
      rw [hk147] at s148
      have s149 : Steps p.tables e below A₀ (T145.setTop (mkF m 105 #[.val (.int p0), .val (.int p1), .val (.int p2), .val (.int p3), .val (.int p4), .val (.int p5), .val (.int 2), .val (.ref u123), .val (.ref b129), .val (.int 1), .val (.int 0), .unset, .unset] [(.ref b129)])) := by
        refine s148.trans ?_
        refine XS.istore X145.here hx rfl (hb hby at_65) rfl (l' := #[.val (.int p0), .val (.int p1), .val (.int p2), .val (.int p3), .val (.int p4), .val (.int p5), .val (.int 2), .val (.ref u123), .val (.ref b129), .val (.int 1), .val (.int 0), .unset, .unset]) rfl ?_
        refine XS.iload X145.here hx rfl (hb hby at_67) rfl ?_
        refine XS.iconst X145.here hx rfl (hb hby at_69) ?_
        refine XS.icmpYes X145.here hx rfl (pc0 := 70) (pc' := 79) rfl (hb hby at_70) rfl (tlt (by decide)).1 (by decide) (by decide) ?_
        refine XS.iload X145.here hx rfl (hb hby at_79) rfl ?_
        refine XS.iconst X145.here hx rfl (hb hby at_81) ?_
        refine XS.icmpYes X145.here hx rfl (pc0 := 82) (pc' := 91) rfl (hb hby at_82) rfl (tlt (by decide)).1 (by decide) (by decide) ?_
        refine XS.iload X145.here hx rfl (hb hby at_91) rfl ?_
        show Steps p.tables e below (T145.setTop (mkF m 93 #[.val (.int p0), .val (.int p1), .val (.int p2), .val (.int p3), .val (.int p4), .val (.int p5), .val (.int 2), .val (.ref u123), .val (.ref b129), .val (.int 1), .val (.int 0), .unset, .unset] [(.int 0)])) _
        refine XS.iconst X145.here hx rfl (hb hby at_93) ?_
        refine XS.icmpYes X145.here hx rfl (pc0 := 94) (pc' := 103) rfl (hb hby at_94) rfl (tlt (by decide)).1 (by decide) (by decide) ?_
        refine XS.aload X145.here hx rfl (hb hby at_103) rfl rfl ?_
        exact Steps.refl _
      obtain ⟨T150, L150, X150, e150, N150, st150⟩ := own_callVP X145 hx hZ131 hown131 (wk48 hw) (wk49 hw) (wk51 hw) (wk50 hw) (by decide) (wk36 hw) (wk52 hw) (rmate2_1 l Z a0 hw [] b129 wc u123 u124 u125 u126 u127 u128 (0 : Int32) T137.heap n0 O137 f137_2 f137_1 c139 c140 c141 c142 F0_ hcs f122_5 (by decide)) e145 N145 (W := 0) (by decide) (by decide) (by decide) (by decide) f137_0 (g := (mkF m 105 #[.val (.int p0), .val (.int p1), .val (.int p2), .val (.int p3), .val (.int p4), .val (.int p5), .val (.int 2), .val (.ref u123), .val (.ref b129), .val (.int 1), .val (.int 0), .unset, .unset] [(.ref b129)])) rfl (by rw [hml]; rfl) (argsL := []) (rest := []) (lenOf pd_rm0_2 rfl) rfl (by exact Nat.le_refl _) (hb hby at_105)
      have s151 : Steps p.tables e below A₀ (T150.setTop (mkF m 143 #[.val (.int p0), .val (.int p1), .val (.int p2), .val (.int p3), .val (.int p4), .val (.int p5), .val (.int 2), .val (.ref u123), .val (.ref b129), .val (.int 1), .val (.int 0), .val (.int 0), .unset] [(.int p5), (.ref b129)])) := by
        refine s149.trans ?_
        show Steps p.tables e below (T145.setTop (mkF m 105 #[.val (.int p0), .val (.int p1), .val (.int p2), .val (.int p3), .val (.int p4), .val (.int p5), .val (.int 2), .val (.ref u123), .val (.ref b129), .val (.int 1), .val (.int 0), .unset, .unset] [(.ref b129)])) _
        refine st150 _ ?_
        refine XS.istore X150.here hx rfl (hb hby at_108) rfl (l' := #[.val (.int p0), .val (.int p1), .val (.int p2), .val (.int p3), .val (.int p4), .val (.int p5), .val (.int 2), .val (.ref u123), .val (.ref b129), .val (.int 1), .val (.int 0), .val (.int 0), .unset]) rfl ?_
        refine XS.iload X150.here hx rfl (hb hby at_110) rfl ?_
        refine XS.ifNo X150.here hx rfl (hb hby at_112) rfl ((if0 _ _).trans (feq (by decide)).1) ?_
        refine XS.iload X150.here hx rfl (hb hby at_115) rfl ?_
        refine XS.iload X150.here hx rfl (hb hby at_117) rfl ?_
        refine XS.iload X150.here hx rfl (hb hby at_119) rfl ?_
        refine XS.icmpYes X150.here hx rfl (pc0 := 121) (pc' := 128) rfl (hb hby at_121) rfl (feq (by decide)).2 (by decide) (by decide) ?_
        refine XS.iconst X150.here hx rfl (hb hby at_128) ?_
        refine XS.icmpNo X150.here hx rfl (hb hby at_129) rfl (teq (by decide)).2 ?_
        show Steps p.tables e below (T150.setTop (mkF m 132 #[.val (.int p0), .val (.int p1), .val (.int p2), .val (.int p3), .val (.int p4), .val (.int p5), .val (.int 2), .val (.ref u123), .val (.ref b129), .val (.int 1), .val (.int 0), .val (.int 0), .unset] [])) _
        refine XS.iconst X150.here hx rfl (hb hby at_132) ?_
        refine XS.goto X150.here hx rfl (pc0 := 133) (pc' := 137) rfl (hb hby at_133) (by decide) (by decide) ?_
        refine XS.istore X150.here hx rfl (hb hby at_137) rfl (l' := #[.val (.int p0), .val (.int p1), .val (.int p2), .val (.int p3), .val (.int p4), .val (.int p5), .val (.int 2), .val (.ref u123), .val (.ref b129), .val (.int 1), .val (.int 0), .val (.int 0), .unset]) rfl ?_
        refine XS.aload X150.here hx rfl (hb hby at_139) rfl rfl ?_
        refine XS.iload X150.here hx rfl (hb hby at_141) rfl ?_
        exact Steps.refl _
      obtain ⟨cq152, kq152, q152a, q152b, q152c⟩ := isOf hZ131 e150 f137_0
      obtain ⟨_, _, ⟨T152, L152, k152, n152⟩, -, X152, ⟨Lc152, hQ152, l152, y152, z152⟩, st152⟩ := X150.virtualBack hx (y := (⟨"com/example/lintel/lintel/message/HeaderCursor", "reset", "(I)V"⟩ : MethodName)) (z := (⟨"com/example/lintel/lintel/message/HeaderCursor", "reset", "(I)V"⟩ : MethodName)) hown131 (mvT hZ131 (wq hw 69 rfl)) (mvT hZ131 (wq hw 70 rfl)) (notFace_of_selects (args := #[]) (mvT hZ131 (wq hw 72 rfl))) (mvT hZ131 (wq hw 72 rfl)) (mvT hZ131 (wq hw 71 rfl)) (by decide) (backOf (W := 0) (rm13 l Z a0 hw [] b129 p5 (0 : Int32) u123 T137.heap n0 O137 f137_0 f137_2 f137_1 g_b129) hZ131 (wq hw 73 rfl) (wq hw 36 rfl) (by decide) (by decide)) q152a q152c (g := (mkF m 143 #[.val (.int p0), .val (.int p1), .val (.int p2), .val (.int p3), .val (.int p4), .val (.int p5), .val (.int 2), .val (.ref u123), .val (.ref b129), .val (.int 1), .val (.int 0), .val (.int 0), .unset] [(.int p5), (.ref b129)])) rfl (by rw [hml]; rfl) (Steps.refl _) (argsL := [(.int p5)]) (rest := []) (lenOf pd_rm0_4 rfl) rfl (by exact Nat.le_refl _) (hb hby at_143) (fun _ _ => ⟨rfl, e150, (by decide : 7 + 0 ≤ _), (by decide : 39 + 0 ≤ _)⟩)
      dsimp only [Pt.U, Pt.locs, Pt.cells, Pt.slots] at X152 l152 y152 z152 st152 hQ152
      subst l152 y152 z152
      obtain ⟨rfl, Nq152, Kc152, f152_0, f152_1, f152_2⟩ := hQ152
      have N152 := Fr.app N150 Nq152
      have O152 := O137.keep Kc152 (allS g_b129 all0)
      have hkk152 := Nat.le_trans hkk137 Kc152.1
      have s153 : Steps p.tables e below A₀ (T152.setTop (mkF m 148 #[.val (.int p0), .val (.int p1), .val (.int p2), .val (.int p3), .val (.int p4), .val (.int p5), .val (.int 2), .val (.ref u123), .val (.ref b129), .val (.int 1), .val (.int 0), .val (.int 0), .unset] [(.ref b129)])) := by
        refine s151.trans ?_
        show Steps p.tables e below (T150.setTop (mkF m 143 #[.val (.int p0), .val (.int p1), .val (.int p2), .val (.int p3), .val (.int p4), .val (.int p5), .val (.int 2), .val (.ref u123), .val (.ref b129), .val (.int 1), .val (.int 0), .val (.int 0), .unset] [(.int p5), (.ref b129)])) _
        refine st152.trans ?_
        refine XS.aload X152.here hx rfl (hb hby at_146) rfl rfl ?_
        exact Steps.refl _
      by_cases hy154 : p5 < (2 : Int32)
      · have c155 : Exa Z T152.heap u123 "java/lang/String" := (c139.keep Kc152)
        have c156 : Fld Z T152.heap u123 "java/lang/String" "value" "[B" (.ref u124) := (c140.keep Kc152 (ninS ne_u123_b129 nin0))
        have c157 : Fld Z T152.heap u123 "java/lang/String" "coder" "B" (.int u127) := (c141.keep Kc152 (ninS ne_u123_b129 nin0))
        have c158 : Arv Z T152.heap u124 u125 .byte u126 (u128.map Value.int) (.int 0) := (c142.keep Kc152 (ninS ne_u124_b129 nin0))
        obtain ⟨T159, L159, X159, e159, N159, st159⟩ := own_callVP X152 hx hZ131 hown131 (wk48 hw) (wk49 hw) (wk51 hw) (wk50 hw) (by decide) (wk36 hw) (wk52 hw) (rmate2_1 l Z a0 hw [] b129 wc u123 u124 u125 u126 u127 u128 p5 T152.heap n0 O152 f152_1 f152_2 c155 c156 c157 c158 F0_ hcs f122_5 hy154) (rfl : T152.heap = T152.heap) N152 (W := 0) (by decide) (by decide) (by decide) (by decide) f152_0 (g := (mkF m 148 #[.val (.int p0), .val (.int p1), .val (.int p2), .val (.int p3), .val (.int p4), .val (.int p5), .val (.int 2), .val (.ref u123), .val (.ref b129), .val (.int 1), .val (.int 0), .val (.int 0), .unset] [(.ref b129)])) rfl (by rw [hml]; rfl) (argsL := []) (rest := []) (lenOf pd_rm0_2 rfl) rfl (by exact Nat.le_refl _) (hb hby at_148)
        have s160 : Steps p.tables e below A₀ (T159.setTop (mkF m 184 #[.val (.int p0), .val (.int p1), .val (.int p2), .val (.int p3), .val (.int p4), .val (.int p5), .val (.int 2), .val (.ref u123), .val (.ref b129), .val (.int 1), .val (.int 0), .val (.int 0), .val (.int 0)] [(.int 1)])) := by
          refine s153.trans ?_
          show Steps p.tables e below (T152.setTop (mkF m 148 #[.val (.int p0), .val (.int p1), .val (.int p2), .val (.int p3), .val (.int p4), .val (.int p5), .val (.int 2), .val (.ref u123), .val (.ref b129), .val (.int 1), .val (.int 0), .val (.int 0), .unset] [(.ref b129)])) _
          refine st159 _ ?_
          refine XS.istore X159.here hx rfl (hb hby at_151) rfl (l' := #[.val (.int p0), .val (.int p1), .val (.int p2), .val (.int p3), .val (.int p4), .val (.int p5), .val (.int 2), .val (.ref u123), .val (.ref b129), .val (.int 1), .val (.int 0), .val (.int 0), .val (.int 0)]) rfl ?_
          refine XS.iload X159.here hx rfl (hb hby at_153) rfl ?_
          refine XS.ifNo X159.here hx rfl (hb hby at_155) rfl ((if0 _ _).trans (feq (by decide)).1) ?_
          refine XS.iload X159.here hx rfl (hb hby at_158) rfl ?_
          refine XS.iload X159.here hx rfl (hb hby at_160) rfl ?_
          refine XS.iload X159.here hx rfl (hb hby at_162) rfl ?_
          refine XS.icmpYes X159.here hx rfl (pc0 := 164) (pc' := 171) rfl (hb hby at_164) rfl (tlt hy154).1 (by decide) (by decide) ?_
          refine XS.iconst X159.here hx rfl (hb hby at_171) ?_
          refine XS.icmpNo X159.here hx rfl (hb hby at_172) rfl (teq (by decide)).2 ?_
          show Steps p.tables e below (T159.setTop (mkF m 175 #[.val (.int p0), .val (.int p1), .val (.int p2), .val (.int p3), .val (.int p4), .val (.int p5), .val (.int 2), .val (.ref u123), .val (.ref b129), .val (.int 1), .val (.int 0), .val (.int 0), .val (.int 0)] [])) _
          refine XS.iconst X159.here hx rfl (hb hby at_175) ?_
          refine XS.goto X159.here hx rfl (pc0 := 176) (pc' := 180) rfl (hb hby at_176) (by decide) (by decide) ?_
          refine XS.istore X159.here hx rfl (hb hby at_180) rfl (l' := #[.val (.int p0), .val (.int p1), .val (.int p2), .val (.int p3), .val (.int p4), .val (.int p5), .val (.int 2), .val (.ref u123), .val (.ref b129), .val (.int 1), .val (.int 0), .val (.int 0), .val (.int 0)]) rfl ?_
          refine XS.iload X159.here hx rfl (hb hby at_182) rfl ?_
          exact Steps.refl _
        subst hA₀
        obtain ⟨fs, hr, hrun, hended, -, hW, hIn, hsame⟩ := X159.leaveW hS131 (by rw [e159]; exact hkk152) (v := some (.int 1)) (fun h => by rw [Bd.returns] at h; cases h)
        refine ⟨_, _, s160.trans ?_, hrun, hended, _, _, rfl, ?_, ⟨_, rfl⟩, hW, hIn, hsame.mono (by decide) (by decide)⟩
        · show Steps p.tables e below (T159.setTop (mkF m 184 #[.val (.int p0), .val (.int p1), .val (.int p2), .val (.int p3), .val (.int p4), .val (.int p5), .val (.int 2), .val (.ref u123), .val (.ref b129), .val (.int 1), .val (.int 0), .val (.int 0), .val (.int 0)] [(.int 1)])) _
          exact retN X159 hx (t := .boolean) Bd.returns (by simp) (hb hby at_184) hr
        · show Q0 Z p0 p1 p2 p3 p4 p5 wc rg h0 n0 _ T159.heap _
          rw [e159]
          exact ⟨rfl, N159⟩
      · have c161 : Exa Z T152.heap u123 "java/lang/String" := (c139.keep Kc152)
        have c162 : Fld Z T152.heap u123 "java/lang/String" "value" "[B" (.ref u124) := (c140.keep Kc152 (ninS ne_u123_b129 nin0))
        have c163 : Fld Z T152.heap u123 "java/lang/String" "coder" "B" (.int u127) := (c141.keep Kc152 (ninS ne_u123_b129 nin0))
        have c164 : Arv Z T152.heap u124 u125 .byte u126 (u128.map Value.int) (.int 0) := (c142.keep Kc152 (ninS ne_u124_b129 nin0))
        obtain ⟨T165, L165, X165, e165, N165, st165⟩ := own_callVP X152 hx hZ131 hown131 (wk48 hw) (wk49 hw) (wk51 hw) (wk50 hw) (by decide) (wk36 hw) (wk52 hw) (rmate2_0 l Z a0 hw [] b129 wc u123 u124 u125 u126 u127 u128 p5 T152.heap n0 O152 f152_1 f152_2 c161 c162 c163 c164 F0_ hcs f122_5 hy154) (rfl : T152.heap = T152.heap) N152 (W := 0) (by decide) (by decide) (by decide) (by decide) f152_0 (g := (mkF m 148 #[.val (.int p0), .val (.int p1), .val (.int p2), .val (.int p3), .val (.int p4), .val (.int p5), .val (.int 2), .val (.ref u123), .val (.ref b129), .val (.int 1), .val (.int 0), .val (.int 0), .unset] [(.ref b129)])) rfl (by rw [hml]; rfl) (argsL := []) (rest := []) (lenOf pd_rm0_2 rfl) rfl (by exact Nat.le_refl _) (hb hby at_148)
        have s166 : Steps p.tables e below A₀ (T165.setTop (mkF m 184 #[.val (.int p0), .val (.int p1), .val (.int p2), .val (.int p3), .val (.int p4), .val (.int p5), .val (.int 2), .val (.ref u123), .val (.ref b129), .val (.int 1), .val (.int 0), .val (.int 0), .val (.int 1)] [(.int 1)])) := by
          refine s153.trans ?_
          show Steps p.tables e below (T152.setTop (mkF m 148 #[.val (.int p0), .val (.int p1), .val (.int p2), .val (.int p3), .val (.int p4), .val (.int p5), .val (.int 2), .val (.ref u123), .val (.ref b129), .val (.int 1), .val (.int 0), .val (.int 0), .unset] [(.ref b129)])) _
          refine st165 _ ?_
          refine XS.istore X165.here hx rfl (hb hby at_151) rfl (l' := #[.val (.int p0), .val (.int p1), .val (.int p2), .val (.int p3), .val (.int p4), .val (.int p5), .val (.int 2), .val (.ref u123), .val (.ref b129), .val (.int 1), .val (.int 0), .val (.int 0), .val (.int 1)]) rfl ?_
          refine XS.iload X165.here hx rfl (hb hby at_153) rfl ?_
          refine XS.ifNo X165.here hx rfl (hb hby at_155) rfl ((if0 _ _).trans (feq (by decide)).1) ?_
          refine XS.iload X165.here hx rfl (hb hby at_158) rfl ?_
          refine XS.iload X165.here hx rfl (hb hby at_160) rfl ?_
          refine XS.iload X165.here hx rfl (hb hby at_162) rfl ?_
          refine XS.icmpNo X165.here hx rfl (hb hby at_164) rfl (flt hy154).1 ?_
          refine XS.iconst X165.here hx rfl (hb hby at_167) ?_
          refine XS.goto X165.here hx rfl (pc0 := 168) (pc' := 172) rfl (hb hby at_168) (by decide) (by decide) ?_
          show Steps p.tables e below (T165.setTop (mkF m 172 #[.val (.int p0), .val (.int p1), .val (.int p2), .val (.int p3), .val (.int p4), .val (.int p5), .val (.int 2), .val (.ref u123), .val (.ref b129), .val (.int 1), .val (.int 0), .val (.int 0), .val (.int 1)] [(.int 1), (.int 1)])) _
          refine XS.icmpNo X165.here hx rfl (hb hby at_172) rfl (teq (by decide)).2 ?_
          refine XS.iconst X165.here hx rfl (hb hby at_175) ?_
          refine XS.goto X165.here hx rfl (pc0 := 176) (pc' := 180) rfl (hb hby at_176) (by decide) (by decide) ?_
          refine XS.istore X165.here hx rfl (hb hby at_180) rfl (l' := #[.val (.int p0), .val (.int p1), .val (.int p2), .val (.int p3), .val (.int p4), .val (.int p5), .val (.int 2), .val (.ref u123), .val (.ref b129), .val (.int 1), .val (.int 0), .val (.int 0), .val (.int 1)]) rfl ?_
          refine XS.iload X165.here hx rfl (hb hby at_182) rfl ?_
          exact Steps.refl _
        subst hA₀
        obtain ⟨fs, hr, hrun, hended, -, hW, hIn, hsame⟩ := X165.leaveW hS131 (by rw [e165]; exact hkk152) (v := some (.int 1)) (fun h => by rw [Bd.returns] at h; cases h)
        refine ⟨_, _, s166.trans ?_, hrun, hended, _, _, rfl, ?_, ⟨_, rfl⟩, hW, hIn, hsame.mono (by decide) (by decide)⟩
        · show Steps p.tables e below (T165.setTop (mkF m 184 #[.val (.int p0), .val (.int p1), .val (.int p2), .val (.int p3), .val (.int p4), .val (.int p5), .val (.int 2), .val (.ref u123), .val (.ref b129), .val (.int 1), .val (.int 0), .val (.int 0), .val (.int 1)] [(.int 1)])) _
          exact retN X165 hx (t := .boolean) Bd.returns (by simp) (hb hby at_184) hr
        · show Q0 Z p0 p1 p2 p3 p4 p5 wc rg h0 n0 _ T165.heap _
          rw [e165]
          exact ⟨rfl, N165⟩
    · have s167 := s146
      rw [hk147] at s167
      have s168 : Steps p.tables e below A₀ (T145.setTop (mkF m 75 #[.val (.int p0), .val (.int p1), .val (.int p2), .val (.int p3), .val (.int p4), .val (.int p5), .val (.int 2), .val (.ref u123), .val (.ref b129), .val (.int 1), .val (.int 1), .unset, .unset] [(.ref b129)])) := by
        refine s167.trans ?_
        refine XS.istore X145.here hx rfl (hb hby at_65) rfl (l' := #[.val (.int p0), .val (.int p1), .val (.int p2), .val (.int p3), .val (.int p4), .val (.int p5), .val (.int 2), .val (.ref u123), .val (.ref b129), .val (.int 1), .val (.int 1), .unset, .unset]) rfl ?_
        refine XS.iload X145.here hx rfl (hb hby at_67) rfl ?_
        refine XS.iconst X145.here hx rfl (hb hby at_69) ?_
        refine XS.icmpNo X145.here hx rfl (hb hby at_70) rfl (flt (by decide)).1 ?_
        refine XS.aload X145.here hx rfl (hb hby at_73) rfl rfl ?_
        exact Steps.refl _
      obtain ⟨cq169, kq169, q169a, q169b, q169c⟩ := isOf hZ131 e145 f137_0
      obtain ⟨_, _, ⟨T169, L169, k169, n169⟩, -, X169, ⟨Lc169, hQ169, l169, y169, z169⟩, st169⟩ := X145.virtualBack hx (y := (⟨"com/example/lintel/lintel/message/HeaderCursor", "next", "()C"⟩ : MethodName)) (z := (⟨"com/example/lintel/lintel/message/HeaderCursor", "next", "()C"⟩ : MethodName)) hown131 (mvT hZ131 (wq hw 94 rfl)) (mvT hZ131 (wq hw 95 rfl)) (notFace_of_selects (args := #[]) (mvT hZ131 (wq hw 97 rfl))) (mvT hZ131 (wq hw 97 rfl)) (mvT hZ131 (wq hw 96 rfl)) (by decide) (backOf (W := 0) (rmnxt2_0 l Z a0 hw [] b129 wc u123 u124 u125 u126 u127 u128 rg T137.heap n0 O137 f137_0 g_b129 (Ne.symm ne_u123_b129) (Ne.symm ne_u124_b129) f137_2 f137_1 c139 c140 c141 c142 F0_ F1_ F2_ F3_ F4_ F5_ hcs f122_5) hZ131 (wq hw 98 rfl) (wq hw 36 rfl) (by decide) (by decide)) q169a q169c (g := (mkF m 75 #[.val (.int p0), .val (.int p1), .val (.int p2), .val (.int p3), .val (.int p4), .val (.int p5), .val (.int 2), .val (.ref u123), .val (.ref b129), .val (.int 1), .val (.int 1), .unset, .unset] [(.ref b129)])) rfl (by rw [hml]; rfl) (Steps.refl _) (argsL := []) (rest := []) (lenOf pd_rm0_5 rfl) rfl (by exact Nat.le_refl _) (hb hby at_75) (fun _ _ => ⟨rfl, e145, (by decide : 7 + 0 ≤ _), (by decide : 39 + 0 ≤ _)⟩)
      dsimp only [Pt.U, Pt.locs, Pt.cells, Pt.slots] at X169 l169 y169 z169 st169 hQ169
      subst l169 y169 z169
      obtain ⟨u170, rfl, Nq169, Kc169, f169_0, f169_1, f169_2⟩ := hQ169
      have N169 := Fr.app N145 Nq169
      have O169 := O137.keep Kc169 (allS g_b129 all0)
      have hkk169 := Nat.le_trans hkk137 Kc169.1
      have s171 : Steps p.tables e below A₀ (T169.setTop (mkF m 105 #[.val (.int p0), .val (.int p1), .val (.int p2), .val (.int p3), .val (.int p4), .val (.int p5), .val (.int 2), .val (.ref u123), .val (.ref b129), .val (.int 1), .val (.int 1), .unset, .unset] [(.ref b129)])) := by
        refine s168.trans ?_
        show Steps p.tables e below (T145.setTop (mkF m 75 #[.val (.int p0), .val (.int p1), .val (.int p2), .val (.int p3), .val (.int p4), .val (.int p5), .val (.int 2), .val (.ref u123), .val (.ref b129), .val (.int 1), .val (.int 1), .unset, .unset] [(.ref b129)])) _
        refine st169.trans ?_
        refine XS.pop X169.here hx rfl (hb hby at_78) rfl rfl ?_
        refine XS.iload X169.here hx rfl (hb hby at_79) rfl ?_
        refine XS.iconst X169.here hx rfl (hb hby at_81) ?_
        refine XS.icmpYes X169.here hx rfl (pc0 := 82) (pc' := 91) rfl (hb hby at_82) rfl (tlt (by decide)).1 (by decide) (by decide) ?_
        refine XS.iload X169.here hx rfl (hb hby at_91) rfl ?_
        refine XS.iconst X169.here hx rfl (hb hby at_93) ?_
        refine XS.icmpYes X169.here hx rfl (pc0 := 94) (pc' := 103) rfl (hb hby at_94) rfl (tlt (by decide)).1 (by decide) (by decide) ?_
        refine XS.aload X169.here hx rfl (hb hby at_103) rfl rfl ?_
        exact Steps.refl _
      have c172 : Exa Z T169.heap u123 "java/lang/String" := (c139.keep Kc169)
      have c173 : Fld Z T169.heap u123 "java/lang/String" "value" "[B" (.ref u124) := (c140.keep Kc169 (ninS ne_u123_b129 nin0))
      have c174 : Fld Z T169.heap u123 "java/lang/String" "coder" "B" (.int u127) := (c141.keep Kc169 (ninS ne_u123_b129 nin0))
      have c175 : Arv Z T169.heap u124 u125 .byte u126 (u128.map Value.int) (.int 0) := (c142.keep Kc169 (ninS ne_u124_b129 nin0))
      obtain ⟨T176, L176, X176, e176, N176, st176⟩ := own_callVP X169 hx hZ131 hown131 (wk48 hw) (wk49 hw) (wk51 hw) (wk50 hw) (by decide) (wk36 hw) (wk52 hw) (rmate2_1 l Z a0 hw [] b129 wc u123 u124 u125 u126 u127 u128 (1 : Int32) T169.heap n0 O169 f169_1 f169_2 c172 c173 c174 c175 F0_ hcs f122_5 (by decide)) (rfl : T169.heap = T169.heap) N169 (W := 0) (by decide) (by decide) (by decide) (by decide) f169_0 (g := (mkF m 105 #[.val (.int p0), .val (.int p1), .val (.int p2), .val (.int p3), .val (.int p4), .val (.int p5), .val (.int 2), .val (.ref u123), .val (.ref b129), .val (.int 1), .val (.int 1), .unset, .unset] [(.ref b129)])) rfl (by rw [hml]; rfl) (argsL := []) (rest := []) (lenOf pd_rm0_2 rfl) rfl (by exact Nat.le_refl _) (hb hby at_105)
      have s177 : Steps p.tables e below A₀ (T176.setTop (mkF m 143 #[.val (.int p0), .val (.int p1), .val (.int p2), .val (.int p3), .val (.int p4), .val (.int p5), .val (.int 2), .val (.ref u123), .val (.ref b129), .val (.int 1), .val (.int 1), .val (.int 0), .unset] [(.int p5), (.ref b129)])) := by
        refine s171.trans ?_
        show Steps p.tables e below (T169.setTop (mkF m 105 #[.val (.int p0), .val (.int p1), .val (.int p2), .val (.int p3), .val (.int p4), .val (.int p5), .val (.int 2), .val (.ref u123), .val (.ref b129), .val (.int 1), .val (.int 1), .unset, .unset] [(.ref b129)])) _
        refine st176 _ ?_
        refine XS.istore X176.here hx rfl (hb hby at_108) rfl (l' := #[.val (.int p0), .val (.int p1), .val (.int p2), .val (.int p3), .val (.int p4), .val (.int p5), .val (.int 2), .val (.ref u123), .val (.ref b129), .val (.int 1), .val (.int 1), .val (.int 0), .unset]) rfl ?_
        refine XS.iload X176.here hx rfl (hb hby at_110) rfl ?_
        refine XS.ifNo X176.here hx rfl (hb hby at_112) rfl ((if0 _ _).trans (feq (by decide)).1) ?_
        refine XS.iload X176.here hx rfl (hb hby at_115) rfl ?_
        refine XS.iload X176.here hx rfl (hb hby at_117) rfl ?_
        refine XS.iload X176.here hx rfl (hb hby at_119) rfl ?_
        refine XS.icmpYes X176.here hx rfl (pc0 := 121) (pc' := 128) rfl (hb hby at_121) rfl (feq (by decide)).2 (by decide) (by decide) ?_
        refine XS.iconst X176.here hx rfl (hb hby at_128) ?_
        refine XS.icmpNo X176.here hx rfl (hb hby at_129) rfl (teq (by decide)).2 ?_
        show Steps p.tables e below (T176.setTop (mkF m 132 #[.val (.int p0), .val (.int p1), .val (.int p2), .val (.int p3), .val (.int p4), .val (.int p5), .val (.int 2), .val (.ref u123), .val (.ref b129), .val (.int 1), .val (.int 1), .val (.int 0), .unset] [])) _
        refine XS.iconst X176.here hx rfl (hb hby at_132) ?_
        refine XS.goto X176.here hx rfl (pc0 := 133) (pc' := 137) rfl (hb hby at_133) (by decide) (by decide) ?_
        refine XS.istore X176.here hx rfl (hb hby at_137) rfl (l' := #[.val (.int p0), .val (.int p1), .val (.int p2), .val (.int p3), .val (.int p4), .val (.int p5), .val (.int 2), .val (.ref u123), .val (.ref b129), .val (.int 1), .val (.int 1), .val (.int 0), .unset]) rfl ?_
        refine XS.aload X176.here hx rfl (hb hby at_139) rfl rfl ?_
        refine XS.iload X176.here hx rfl (hb hby at_141) rfl ?_
        exact Steps.refl _
      obtain ⟨cq178, kq178, q178a, q178b, q178c⟩ := isOf hZ131 e176 f169_0
      obtain ⟨_, _, ⟨T178, L178, k178, n178⟩, -, X178, ⟨Lc178, hQ178, l178, y178, z178⟩, st178⟩ := X176.virtualBack hx (y := (⟨"com/example/lintel/lintel/message/HeaderCursor", "reset", "(I)V"⟩ : MethodName)) (z := (⟨"com/example/lintel/lintel/message/HeaderCursor", "reset", "(I)V"⟩ : MethodName)) hown131 (mvT hZ131 (wq hw 69 rfl)) (mvT hZ131 (wq hw 70 rfl)) (notFace_of_selects (args := #[]) (mvT hZ131 (wq hw 72 rfl))) (mvT hZ131 (wq hw 72 rfl)) (mvT hZ131 (wq hw 71 rfl)) (by decide) (backOf (W := 0) (rm13 l Z a0 hw [] b129 p5 (1 : Int32) u123 T169.heap n0 O169 f169_0 f169_1 f169_2 g_b129) hZ131 (wq hw 73 rfl) (wq hw 36 rfl) (by decide) (by decide)) q178a q178c (g := (mkF m 143 #[.val (.int p0), .val (.int p1), .val (.int p2), .val (.int p3), .val (.int p4), .val (.int p5), .val (.int 2), .val (.ref u123), .val (.ref b129), .val (.int 1), .val (.int 1), .val (.int 0), .unset] [(.int p5), (.ref b129)])) rfl (by rw [hml]; rfl) (Steps.refl _) (argsL := [(.int p5)]) (rest := []) (lenOf pd_rm0_4 rfl) rfl (by exact Nat.le_refl _) (hb hby at_143) (fun _ _ => ⟨rfl, e176, (by decide : 7 + 0 ≤ _), (by decide : 39 + 0 ≤ _)⟩)
      dsimp only [Pt.U, Pt.locs, Pt.cells, Pt.slots] at X178 l178 y178 z178 st178 hQ178
      subst l178 y178 z178
      obtain ⟨rfl, Nq178, Kc178, f178_0, f178_1, f178_2⟩ := hQ178
      have N178 := Fr.app N176 Nq178
      have O178 := O169.keep Kc178 (allS g_b129 all0)
      have hkk178 := Nat.le_trans hkk169 Kc178.1
      have s179 : Steps p.tables e below A₀ (T178.setTop (mkF m 148 #[.val (.int p0), .val (.int p1), .val (.int p2), .val (.int p3), .val (.int p4), .val (.int p5), .val (.int 2), .val (.ref u123), .val (.ref b129), .val (.int 1), .val (.int 1), .val (.int 0), .unset] [(.ref b129)])) := by
        refine s177.trans ?_
        show Steps p.tables e below (T176.setTop (mkF m 143 #[.val (.int p0), .val (.int p1), .val (.int p2), .val (.int p3), .val (.int p4), .val (.int p5), .val (.int 2), .val (.ref u123), .val (.ref b129), .val (.int 1), .val (.int 1), .val (.int 0), .unset] [(.int p5), (.ref b129)])) _
        refine st178.trans ?_
        refine XS.aload X178.here hx rfl (hb hby at_146) rfl rfl ?_
        exact Steps.refl _
      by_cases hy180 : p5 < (2 : Int32)
      · have c181 : Exa Z T178.heap u123 "java/lang/String" := (c172.keep Kc178)
        have c182 : Fld Z T178.heap u123 "java/lang/String" "value" "[B" (.ref u124) := (c173.keep Kc178 (ninS ne_u123_b129 nin0))
        have c183 : Fld Z T178.heap u123 "java/lang/String" "coder" "B" (.int u127) := (c174.keep Kc178 (ninS ne_u123_b129 nin0))
        have c184 : Arv Z T178.heap u124 u125 .byte u126 (u128.map Value.int) (.int 0) := (c175.keep Kc178 (ninS ne_u124_b129 nin0))
        obtain ⟨T185, L185, X185, e185, N185, st185⟩ := own_callVP X178 hx hZ131 hown131 (wk48 hw) (wk49 hw) (wk51 hw) (wk50 hw) (by decide) (wk36 hw) (wk52 hw) (rmate2_1 l Z a0 hw [] b129 wc u123 u124 u125 u126 u127 u128 p5 T178.heap n0 O178 f178_1 f178_2 c181 c182 c183 c184 F0_ hcs f122_5 hy180) (rfl : T178.heap = T178.heap) N178 (W := 0) (by decide) (by decide) (by decide) (by decide) f178_0 (g := (mkF m 148 #[.val (.int p0), .val (.int p1), .val (.int p2), .val (.int p3), .val (.int p4), .val (.int p5), .val (.int 2), .val (.ref u123), .val (.ref b129), .val (.int 1), .val (.int 1), .val (.int 0), .unset] [(.ref b129)])) rfl (by rw [hml]; rfl) (argsL := []) (rest := []) (lenOf pd_rm0_2 rfl) rfl (by exact Nat.le_refl _) (hb hby at_148)
        have s186 : Steps p.tables e below A₀ (T185.setTop (mkF m 184 #[.val (.int p0), .val (.int p1), .val (.int p2), .val (.int p3), .val (.int p4), .val (.int p5), .val (.int 2), .val (.ref u123), .val (.ref b129), .val (.int 1), .val (.int 1), .val (.int 0), .val (.int 0)] [(.int 1)])) := by
          refine s179.trans ?_
          show Steps p.tables e below (T178.setTop (mkF m 148 #[.val (.int p0), .val (.int p1), .val (.int p2), .val (.int p3), .val (.int p4), .val (.int p5), .val (.int 2), .val (.ref u123), .val (.ref b129), .val (.int 1), .val (.int 1), .val (.int 0), .unset] [(.ref b129)])) _
          refine st185 _ ?_
          refine XS.istore X185.here hx rfl (hb hby at_151) rfl (l' := #[.val (.int p0), .val (.int p1), .val (.int p2), .val (.int p3), .val (.int p4), .val (.int p5), .val (.int 2), .val (.ref u123), .val (.ref b129), .val (.int 1), .val (.int 1), .val (.int 0), .val (.int 0)]) rfl ?_
          refine XS.iload X185.here hx rfl (hb hby at_153) rfl ?_
          refine XS.ifNo X185.here hx rfl (hb hby at_155) rfl ((if0 _ _).trans (feq (by decide)).1) ?_
          refine XS.iload X185.here hx rfl (hb hby at_158) rfl ?_
          refine XS.iload X185.here hx rfl (hb hby at_160) rfl ?_
          refine XS.iload X185.here hx rfl (hb hby at_162) rfl ?_
          refine XS.icmpYes X185.here hx rfl (pc0 := 164) (pc' := 171) rfl (hb hby at_164) rfl (tlt hy180).1 (by decide) (by decide) ?_
          refine XS.iconst X185.here hx rfl (hb hby at_171) ?_
          refine XS.icmpNo X185.here hx rfl (hb hby at_172) rfl (teq (by decide)).2 ?_
          show Steps p.tables e below (T185.setTop (mkF m 175 #[.val (.int p0), .val (.int p1), .val (.int p2), .val (.int p3), .val (.int p4), .val (.int p5), .val (.int 2), .val (.ref u123), .val (.ref b129), .val (.int 1), .val (.int 1), .val (.int 0), .val (.int 0)] [])) _
          refine XS.iconst X185.here hx rfl (hb hby at_175) ?_
          refine XS.goto X185.here hx rfl (pc0 := 176) (pc' := 180) rfl (hb hby at_176) (by decide) (by decide) ?_
          refine XS.istore X185.here hx rfl (hb hby at_180) rfl (l' := #[.val (.int p0), .val (.int p1), .val (.int p2), .val (.int p3), .val (.int p4), .val (.int p5), .val (.int 2), .val (.ref u123), .val (.ref b129), .val (.int 1), .val (.int 1), .val (.int 0), .val (.int 0)]) rfl ?_
          refine XS.iload X185.here hx rfl (hb hby at_182) rfl ?_
          exact Steps.refl _
        subst hA₀
        obtain ⟨fs, hr, hrun, hended, -, hW, hIn, hsame⟩ := X185.leaveW hS131 (by rw [e185]; exact hkk178) (v := some (.int 1)) (fun h => by rw [Bd.returns] at h; cases h)
        refine ⟨_, _, s186.trans ?_, hrun, hended, _, _, rfl, ?_, ⟨_, rfl⟩, hW, hIn, hsame.mono (by decide) (by decide)⟩
        · show Steps p.tables e below (T185.setTop (mkF m 184 #[.val (.int p0), .val (.int p1), .val (.int p2), .val (.int p3), .val (.int p4), .val (.int p5), .val (.int 2), .val (.ref u123), .val (.ref b129), .val (.int 1), .val (.int 1), .val (.int 0), .val (.int 0)] [(.int 1)])) _
          exact retN X185 hx (t := .boolean) Bd.returns (by simp) (hb hby at_184) hr
        · show Q0 Z p0 p1 p2 p3 p4 p5 wc rg h0 n0 _ T185.heap _
          rw [e185]
          exact ⟨rfl, N185⟩
      · have c187 : Exa Z T178.heap u123 "java/lang/String" := (c172.keep Kc178)
        have c188 : Fld Z T178.heap u123 "java/lang/String" "value" "[B" (.ref u124) := (c173.keep Kc178 (ninS ne_u123_b129 nin0))
        have c189 : Fld Z T178.heap u123 "java/lang/String" "coder" "B" (.int u127) := (c174.keep Kc178 (ninS ne_u123_b129 nin0))
        have c190 : Arv Z T178.heap u124 u125 .byte u126 (u128.map Value.int) (.int 0) := (c175.keep Kc178 (ninS ne_u124_b129 nin0))
        obtain ⟨T191, L191, X191, e191, N191, st191⟩ := own_callVP X178 hx hZ131 hown131 (wk48 hw) (wk49 hw) (wk51 hw) (wk50 hw) (by decide) (wk36 hw) (wk52 hw) (rmate2_0 l Z a0 hw [] b129 wc u123 u124 u125 u126 u127 u128 p5 T178.heap n0 O178 f178_1 f178_2 c187 c188 c189 c190 F0_ hcs f122_5 hy180) (rfl : T178.heap = T178.heap) N178 (W := 0) (by decide) (by decide) (by decide) (by decide) f178_0 (g := (mkF m 148 #[.val (.int p0), .val (.int p1), .val (.int p2), .val (.int p3), .val (.int p4), .val (.int p5), .val (.int 2), .val (.ref u123), .val (.ref b129), .val (.int 1), .val (.int 1), .val (.int 0), .unset] [(.ref b129)])) rfl (by rw [hml]; rfl) (argsL := []) (rest := []) (lenOf pd_rm0_2 rfl) rfl (by exact Nat.le_refl _) (hb hby at_148)
        have s192 : Steps p.tables e below A₀ (T191.setTop (mkF m 184 #[.val (.int p0), .val (.int p1), .val (.int p2), .val (.int p3), .val (.int p4), .val (.int p5), .val (.int 2), .val (.ref u123), .val (.ref b129), .val (.int 1), .val (.int 1), .val (.int 0), .val (.int 1)] [(.int 1)])) := by
          refine s179.trans ?_
          show Steps p.tables e below (T178.setTop (mkF m 148 #[.val (.int p0), .val (.int p1), .val (.int p2), .val (.int p3), .val (.int p4), .val (.int p5), .val (.int 2), .val (.ref u123), .val (.ref b129), .val (.int 1), .val (.int 1), .val (.int 0), .unset] [(.ref b129)])) _
          refine st191 _ ?_
          refine XS.istore X191.here hx rfl (hb hby at_151) rfl (l' := #[.val (.int p0), .val (.int p1), .val (.int p2), .val (.int p3), .val (.int p4), .val (.int p5), .val (.int 2), .val (.ref u123), .val (.ref b129), .val (.int 1), .val (.int 1), .val (.int 0), .val (.int 1)]) rfl ?_
          refine XS.iload X191.here hx rfl (hb hby at_153) rfl ?_
          refine XS.ifNo X191.here hx rfl (hb hby at_155) rfl ((if0 _ _).trans (feq (by decide)).1) ?_
          refine XS.iload X191.here hx rfl (hb hby at_158) rfl ?_
          refine XS.iload X191.here hx rfl (hb hby at_160) rfl ?_
          refine XS.iload X191.here hx rfl (hb hby at_162) rfl ?_
          refine XS.icmpNo X191.here hx rfl (hb hby at_164) rfl (flt hy180).1 ?_
          refine XS.iconst X191.here hx rfl (hb hby at_167) ?_
          refine XS.goto X191.here hx rfl (pc0 := 168) (pc' := 172) rfl (hb hby at_168) (by decide) (by decide) ?_
          show Steps p.tables e below (T191.setTop (mkF m 172 #[.val (.int p0), .val (.int p1), .val (.int p2), .val (.int p3), .val (.int p4), .val (.int p5), .val (.int 2), .val (.ref u123), .val (.ref b129), .val (.int 1), .val (.int 1), .val (.int 0), .val (.int 1)] [(.int 1), (.int 1)])) _
          refine XS.icmpNo X191.here hx rfl (hb hby at_172) rfl (teq (by decide)).2 ?_
          refine XS.iconst X191.here hx rfl (hb hby at_175) ?_
          refine XS.goto X191.here hx rfl (pc0 := 176) (pc' := 180) rfl (hb hby at_176) (by decide) (by decide) ?_
          refine XS.istore X191.here hx rfl (hb hby at_180) rfl (l' := #[.val (.int p0), .val (.int p1), .val (.int p2), .val (.int p3), .val (.int p4), .val (.int p5), .val (.int 2), .val (.ref u123), .val (.ref b129), .val (.int 1), .val (.int 1), .val (.int 0), .val (.int 1)]) rfl ?_
          refine XS.iload X191.here hx rfl (hb hby at_182) rfl ?_
          exact Steps.refl _
        subst hA₀
        obtain ⟨fs, hr, hrun, hended, -, hW, hIn, hsame⟩ := X191.leaveW hS131 (by rw [e191]; exact hkk178) (v := some (.int 1)) (fun h => by rw [Bd.returns] at h; cases h)
        refine ⟨_, _, s192.trans ?_, hrun, hended, _, _, rfl, ?_, ⟨_, rfl⟩, hW, hIn, hsame.mono (by decide) (by decide)⟩
        · show Steps p.tables e below (T191.setTop (mkF m 184 #[.val (.int p0), .val (.int p1), .val (.int p2), .val (.int p3), .val (.int p4), .val (.int p5), .val (.int 2), .val (.ref u123), .val (.ref b129), .val (.int 1), .val (.int 1), .val (.int 0), .val (.int 1)] [(.int 1)])) _
          exact retN X191 hx (t := .boolean) Bd.returns (by simp) (hb hby at_184) hr
        · show Q0 Z p0 p1 p2 p3 p4 p5 wc rg h0 n0 _ T191.heap _
          rw [e191]
          exact ⟨rfl, N191⟩
    · have s193 := s146
      rw [hk147] at s193
      have s194 : Steps p.tables e below A₀ (T145.setTop (mkF m 75 #[.val (.int p0), .val (.int p1), .val (.int p2), .val (.int p3), .val (.int p4), .val (.int p5), .val (.int 2), .val (.ref u123), .val (.ref b129), .val (.int 1), .val (.int 2), .unset, .unset] [(.ref b129)])) := by
        refine s193.trans ?_
        refine XS.istore X145.here hx rfl (hb hby at_65) rfl (l' := #[.val (.int p0), .val (.int p1), .val (.int p2), .val (.int p3), .val (.int p4), .val (.int p5), .val (.int 2), .val (.ref u123), .val (.ref b129), .val (.int 1), .val (.int 2), .unset, .unset]) rfl ?_
        refine XS.iload X145.here hx rfl (hb hby at_67) rfl ?_
        refine XS.iconst X145.here hx rfl (hb hby at_69) ?_
        refine XS.icmpNo X145.here hx rfl (hb hby at_70) rfl (flt (by decide)).1 ?_
        refine XS.aload X145.here hx rfl (hb hby at_73) rfl rfl ?_
        exact Steps.refl _
      obtain ⟨cq195, kq195, q195a, q195b, q195c⟩ := isOf hZ131 e145 f137_0
      obtain ⟨_, _, ⟨T195, L195, k195, n195⟩, -, X195, ⟨Lc195, hQ195, l195, y195, z195⟩, st195⟩ := X145.virtualBack hx (y := (⟨"com/example/lintel/lintel/message/HeaderCursor", "next", "()C"⟩ : MethodName)) (z := (⟨"com/example/lintel/lintel/message/HeaderCursor", "next", "()C"⟩ : MethodName)) hown131 (mvT hZ131 (wq hw 94 rfl)) (mvT hZ131 (wq hw 95 rfl)) (notFace_of_selects (args := #[]) (mvT hZ131 (wq hw 97 rfl))) (mvT hZ131 (wq hw 97 rfl)) (mvT hZ131 (wq hw 96 rfl)) (by decide) (backOf (W := 0) (rmnxt2_0 l Z a0 hw [] b129 wc u123 u124 u125 u126 u127 u128 rg T137.heap n0 O137 f137_0 g_b129 (Ne.symm ne_u123_b129) (Ne.symm ne_u124_b129) f137_2 f137_1 c139 c140 c141 c142 F0_ F1_ F2_ F3_ F4_ F5_ hcs f122_5) hZ131 (wq hw 98 rfl) (wq hw 36 rfl) (by decide) (by decide)) q195a q195c (g := (mkF m 75 #[.val (.int p0), .val (.int p1), .val (.int p2), .val (.int p3), .val (.int p4), .val (.int p5), .val (.int 2), .val (.ref u123), .val (.ref b129), .val (.int 1), .val (.int 2), .unset, .unset] [(.ref b129)])) rfl (by rw [hml]; rfl) (Steps.refl _) (argsL := []) (rest := []) (lenOf pd_rm0_5 rfl) rfl (by exact Nat.le_refl _) (hb hby at_75) (fun _ _ => ⟨rfl, e145, (by decide : 7 + 0 ≤ _), (by decide : 39 + 0 ≤ _)⟩)
      dsimp only [Pt.U, Pt.locs, Pt.cells, Pt.slots] at X195 l195 y195 z195 st195 hQ195
      subst l195 y195 z195
      obtain ⟨u196, rfl, Nq195, Kc195, f195_0, f195_1, f195_2⟩ := hQ195
      have N195 := Fr.app N145 Nq195
      have O195 := O137.keep Kc195 (allS g_b129 all0)
      have hkk195 := Nat.le_trans hkk137 Kc195.1
      have s197 : Steps p.tables e below A₀ (T195.setTop (mkF m 87 #[.val (.int p0), .val (.int p1), .val (.int p2), .val (.int p3), .val (.int p4), .val (.int p5), .val (.int 2), .val (.ref u123), .val (.ref b129), .val (.int 1), .val (.int 2), .unset, .unset] [(.ref b129)])) := by
        refine s194.trans ?_
        show Steps p.tables e below (T145.setTop (mkF m 75 #[.val (.int p0), .val (.int p1), .val (.int p2), .val (.int p3), .val (.int p4), .val (.int p5), .val (.int 2), .val (.ref u123), .val (.ref b129), .val (.int 1), .val (.int 2), .unset, .unset] [(.ref b129)])) _
        refine st195.trans ?_
        refine XS.pop X195.here hx rfl (hb hby at_78) rfl rfl ?_
        refine XS.iload X195.here hx rfl (hb hby at_79) rfl ?_
        refine XS.iconst X195.here hx rfl (hb hby at_81) ?_
        refine XS.icmpNo X195.here hx rfl (hb hby at_82) rfl (flt (by decide)).1 ?_
        refine XS.aload X195.here hx rfl (hb hby at_85) rfl rfl ?_
        exact Steps.refl _
      have c198 : Exa Z T195.heap u123 "java/lang/String" := (c139.keep Kc195)
      have c199 : Fld Z T195.heap u123 "java/lang/String" "value" "[B" (.ref u124) := (c140.keep Kc195 (ninS ne_u123_b129 nin0))
      have c200 : Fld Z T195.heap u123 "java/lang/String" "coder" "B" (.int u127) := (c141.keep Kc195 (ninS ne_u123_b129 nin0))
      have c201 : Arv Z T195.heap u124 u125 .byte u126 (u128.map Value.int) (.int 0) := (c142.keep Kc195 (ninS ne_u124_b129 nin0))
      obtain ⟨cq202, kq202, q202a, q202b, q202c⟩ := isOf hZ131 (rfl : T195.heap = T195.heap) f195_0
      obtain ⟨_, _, ⟨T202, L202, k202, n202⟩, -, X202, ⟨Lc202, hQ202, l202, y202, z202⟩, st202⟩ := X195.virtualBack hx (y := (⟨"com/example/lintel/lintel/message/HeaderCursor", "next", "()C"⟩ : MethodName)) (z := (⟨"com/example/lintel/lintel/message/HeaderCursor", "next", "()C"⟩ : MethodName)) hown131 (mvT hZ131 (wq hw 94 rfl)) (mvT hZ131 (wq hw 95 rfl)) (notFace_of_selects (args := #[]) (mvT hZ131 (wq hw 97 rfl))) (mvT hZ131 (wq hw 97 rfl)) (mvT hZ131 (wq hw 96 rfl)) (by decide) (backOf (W := 0) (rmnxt2_1 l Z a0 hw [] b129 wc u123 u124 u125 u126 u127 u128 rg T195.heap n0 O195 f195_0 g_b129 (Ne.symm ne_u123_b129) (Ne.symm ne_u124_b129) f195_1 f195_2 c198 c199 c200 c201 F0_ F1_ F2_ F3_ F4_ F5_ hcs f122_5) hZ131 (wq hw 98 rfl) (wq hw 36 rfl) (by decide) (by decide)) q202a q202c (g := (mkF m 87 #[.val (.int p0), .val (.int p1), .val (.int p2), .val (.int p3), .val (.int p4), .val (.int p5), .val (.int 2), .val (.ref u123), .val (.ref b129), .val (.int 1), .val (.int 2), .unset, .unset] [(.ref b129)])) rfl (by rw [hml]; rfl) (Steps.refl _) (argsL := []) (rest := []) (lenOf pd_rm0_5 rfl) rfl (by exact Nat.le_refl _) (hb hby at_87) (fun _ _ => ⟨rfl, (rfl : T195.heap = T195.heap), (by decide : 7 + 0 ≤ _), (by decide : 39 + 0 ≤ _)⟩)
      dsimp only [Pt.U, Pt.locs, Pt.cells, Pt.slots] at X202 l202 y202 z202 st202 hQ202
      subst l202 y202 z202
      obtain ⟨u203, rfl, Nq202, Kc202, f202_0, f202_1, f202_2⟩ := hQ202
      have N202 := Fr.app N195 Nq202
      have O202 := O195.keep Kc202 (allS g_b129 all0)
      have hkk202 := Nat.le_trans hkk195 Kc202.1
      have s204 : Steps p.tables e below A₀ (T202.setTop (mkF m 105 #[.val (.int p0), .val (.int p1), .val (.int p2), .val (.int p3), .val (.int p4), .val (.int p5), .val (.int 2), .val (.ref u123), .val (.ref b129), .val (.int 1), .val (.int 2), .unset, .unset] [(.ref b129)])) := by
        refine s197.trans ?_
        show Steps p.tables e below (T195.setTop (mkF m 87 #[.val (.int p0), .val (.int p1), .val (.int p2), .val (.int p3), .val (.int p4), .val (.int p5), .val (.int 2), .val (.ref u123), .val (.ref b129), .val (.int 1), .val (.int 2), .unset, .unset] [(.ref b129)])) _
        refine st202.trans ?_
        refine XS.pop X202.here hx rfl (hb hby at_90) rfl rfl ?_
        refine XS.iload X202.here hx rfl (hb hby at_91) rfl ?_
        refine XS.iconst X202.here hx rfl (hb hby at_93) ?_
        refine XS.icmpYes X202.here hx rfl (pc0 := 94) (pc' := 103) rfl (hb hby at_94) rfl (tlt (by decide)).1 (by decide) (by decide) ?_
        refine XS.aload X202.here hx rfl (hb hby at_103) rfl rfl ?_
        exact Steps.refl _
      have c205 : Exa Z T202.heap u123 "java/lang/String" := (c198.keep Kc202)
      have c206 : Fld Z T202.heap u123 "java/lang/String" "value" "[B" (.ref u124) := (c199.keep Kc202 (ninS ne_u123_b129 nin0))
      have c207 : Fld Z T202.heap u123 "java/lang/String" "coder" "B" (.int u127) := (c200.keep Kc202 (ninS ne_u123_b129 nin0))
      have c208 : Arv Z T202.heap u124 u125 .byte u126 (u128.map Value.int) (.int 0) := (c201.keep Kc202 (ninS ne_u124_b129 nin0))
      obtain ⟨T209, L209, X209, e209, N209, st209⟩ := own_callVP X202 hx hZ131 hown131 (wk48 hw) (wk49 hw) (wk51 hw) (wk50 hw) (by decide) (wk36 hw) (wk52 hw) (rmate2_0 l Z a0 hw [] b129 wc u123 u124 u125 u126 u127 u128 (2 : Int32) T202.heap n0 O202 f202_1 f202_2 c205 c206 c207 c208 F0_ hcs f122_5 (by decide)) (rfl : T202.heap = T202.heap) N202 (W := 0) (by decide) (by decide) (by decide) (by decide) f202_0 (g := (mkF m 105 #[.val (.int p0), .val (.int p1), .val (.int p2), .val (.int p3), .val (.int p4), .val (.int p5), .val (.int 2), .val (.ref u123), .val (.ref b129), .val (.int 1), .val (.int 2), .unset, .unset] [(.ref b129)])) rfl (by rw [hml]; rfl) (argsL := []) (rest := []) (lenOf pd_rm0_2 rfl) rfl (by exact Nat.le_refl _) (hb hby at_105)
      have s210 : Steps p.tables e below A₀ (T209.setTop (mkF m 143 #[.val (.int p0), .val (.int p1), .val (.int p2), .val (.int p3), .val (.int p4), .val (.int p5), .val (.int 2), .val (.ref u123), .val (.ref b129), .val (.int 1), .val (.int 2), .val (.int 1), .unset] [(.int p5), (.ref b129)])) := by
        refine s204.trans ?_
        show Steps p.tables e below (T202.setTop (mkF m 105 #[.val (.int p0), .val (.int p1), .val (.int p2), .val (.int p3), .val (.int p4), .val (.int p5), .val (.int 2), .val (.ref u123), .val (.ref b129), .val (.int 1), .val (.int 2), .unset, .unset] [(.ref b129)])) _
        refine st209 _ ?_
        refine XS.istore X209.here hx rfl (hb hby at_108) rfl (l' := #[.val (.int p0), .val (.int p1), .val (.int p2), .val (.int p3), .val (.int p4), .val (.int p5), .val (.int 2), .val (.ref u123), .val (.ref b129), .val (.int 1), .val (.int 2), .val (.int 1), .unset]) rfl ?_
        refine XS.iload X209.here hx rfl (hb hby at_110) rfl ?_
        refine XS.ifNo X209.here hx rfl (hb hby at_112) rfl ((if0 _ _).trans (feq (by decide)).1) ?_
        refine XS.iload X209.here hx rfl (hb hby at_115) rfl ?_
        refine XS.iload X209.here hx rfl (hb hby at_117) rfl ?_
        refine XS.iload X209.here hx rfl (hb hby at_119) rfl ?_
        refine XS.icmpNo X209.here hx rfl (hb hby at_121) rfl (teq (by decide)).2 ?_
        refine XS.iconst X209.here hx rfl (hb hby at_124) ?_
        refine XS.goto X209.here hx rfl (pc0 := 125) (pc' := 129) rfl (hb hby at_125) (by decide) (by decide) ?_
        show Steps p.tables e below (T209.setTop (mkF m 129 #[.val (.int p0), .val (.int p1), .val (.int p2), .val (.int p3), .val (.int p4), .val (.int p5), .val (.int 2), .val (.ref u123), .val (.ref b129), .val (.int 1), .val (.int 2), .val (.int 1), .unset] [(.int 1), (.int 1)])) _
        refine XS.icmpNo X209.here hx rfl (hb hby at_129) rfl (teq (by decide)).2 ?_
        refine XS.iconst X209.here hx rfl (hb hby at_132) ?_
        refine XS.goto X209.here hx rfl (pc0 := 133) (pc' := 137) rfl (hb hby at_133) (by decide) (by decide) ?_
        refine XS.istore X209.here hx rfl (hb hby at_137) rfl (l' := #[.val (.int p0), .val (.int p1), .val (.int p2), .val (.int p3), .val (.int p4), .val (.int p5), .val (.int 2), .val (.ref u123), .val (.ref b129), .val (.int 1), .val (.int 2), .val (.int 1), .unset]) rfl ?_
        refine XS.aload X209.here hx rfl (hb hby at_139) rfl rfl ?_
        refine XS.iload X209.here hx rfl (hb hby at_141) rfl ?_
        exact Steps.refl _
      obtain ⟨cq211, kq211, q211a, q211b, q211c⟩ := isOf hZ131 e209 f202_0
      obtain ⟨_, _, ⟨T211, L211, k211, n211⟩, -, X211, ⟨Lc211, hQ211, l211, y211, z211⟩, st211⟩ := X209.virtualBack hx (y := (⟨"com/example/lintel/lintel/message/HeaderCursor", "reset", "(I)V"⟩ : MethodName)) (z := (⟨"com/example/lintel/lintel/message/HeaderCursor", "reset", "(I)V"⟩ : MethodName)) hown131 (mvT hZ131 (wq hw 69 rfl)) (mvT hZ131 (wq hw 70 rfl)) (notFace_of_selects (args := #[]) (mvT hZ131 (wq hw 72 rfl))) (mvT hZ131 (wq hw 72 rfl)) (mvT hZ131 (wq hw 71 rfl)) (by decide) (backOf (W := 0) (rm13 l Z a0 hw [] b129 p5 (2 : Int32) u123 T202.heap n0 O202 f202_0 f202_1 f202_2 g_b129) hZ131 (wq hw 73 rfl) (wq hw 36 rfl) (by decide) (by decide)) q211a q211c (g := (mkF m 143 #[.val (.int p0), .val (.int p1), .val (.int p2), .val (.int p3), .val (.int p4), .val (.int p5), .val (.int 2), .val (.ref u123), .val (.ref b129), .val (.int 1), .val (.int 2), .val (.int 1), .unset] [(.int p5), (.ref b129)])) rfl (by rw [hml]; rfl) (Steps.refl _) (argsL := [(.int p5)]) (rest := []) (lenOf pd_rm0_4 rfl) rfl (by exact Nat.le_refl _) (hb hby at_143) (fun _ _ => ⟨rfl, e209, (by decide : 7 + 0 ≤ _), (by decide : 39 + 0 ≤ _)⟩)
      dsimp only [Pt.U, Pt.locs, Pt.cells, Pt.slots] at X211 l211 y211 z211 st211 hQ211
      subst l211 y211 z211
      obtain ⟨rfl, Nq211, Kc211, f211_0, f211_1, f211_2⟩ := hQ211
      have N211 := Fr.app N209 Nq211
      have O211 := O202.keep Kc211 (allS g_b129 all0)
      have hkk211 := Nat.le_trans hkk202 Kc211.1
      have s212 : Steps p.tables e below A₀ (T211.setTop (mkF m 148 #[.val (.int p0), .val (.int p1), .val (.int p2), .val (.int p3), .val (.int p4), .val (.int p5), .val (.int 2), .val (.ref u123), .val (.ref b129), .val (.int 1), .val (.int 2), .val (.int 1), .unset] [(.ref b129)])) := by
        refine s210.trans ?_
        show Steps p.tables e below (T209.setTop (mkF m 143 #[.val (.int p0), .val (.int p1), .val (.int p2), .val (.int p3), .val (.int p4), .val (.int p5), .val (.int 2), .val (.ref u123), .val (.ref b129), .val (.int 1), .val (.int 2), .val (.int 1), .unset] [(.int p5), (.ref b129)])) _
        refine st211.trans ?_
        refine XS.aload X211.here hx rfl (hb hby at_146) rfl rfl ?_
        exact Steps.refl _
      by_cases hy213 : p5 < (2 : Int32)
      · have c214 : Exa Z T211.heap u123 "java/lang/String" := (c205.keep Kc211)
        have c215 : Fld Z T211.heap u123 "java/lang/String" "value" "[B" (.ref u124) := (c206.keep Kc211 (ninS ne_u123_b129 nin0))
        have c216 : Fld Z T211.heap u123 "java/lang/String" "coder" "B" (.int u127) := (c207.keep Kc211 (ninS ne_u123_b129 nin0))
        have c217 : Arv Z T211.heap u124 u125 .byte u126 (u128.map Value.int) (.int 0) := (c208.keep Kc211 (ninS ne_u124_b129 nin0))
        obtain ⟨T218, L218, X218, e218, N218, st218⟩ := own_callVP X211 hx hZ131 hown131 (wk48 hw) (wk49 hw) (wk51 hw) (wk50 hw) (by decide) (wk36 hw) (wk52 hw) (rmate2_1 l Z a0 hw [] b129 wc u123 u124 u125 u126 u127 u128 p5 T211.heap n0 O211 f211_1 f211_2 c214 c215 c216 c217 F0_ hcs f122_5 hy213) (rfl : T211.heap = T211.heap) N211 (W := 0) (by decide) (by decide) (by decide) (by decide) f211_0 (g := (mkF m 148 #[.val (.int p0), .val (.int p1), .val (.int p2), .val (.int p3), .val (.int p4), .val (.int p5), .val (.int 2), .val (.ref u123), .val (.ref b129), .val (.int 1), .val (.int 2), .val (.int 1), .unset] [(.ref b129)])) rfl (by rw [hml]; rfl) (argsL := []) (rest := []) (lenOf pd_rm0_2 rfl) rfl (by exact Nat.le_refl _) (hb hby at_148)
        have s219 : Steps p.tables e below A₀ (T218.setTop (mkF m 184 #[.val (.int p0), .val (.int p1), .val (.int p2), .val (.int p3), .val (.int p4), .val (.int p5), .val (.int 2), .val (.ref u123), .val (.ref b129), .val (.int 1), .val (.int 2), .val (.int 1), .val (.int 0)] [(.int 1)])) := by
          refine s212.trans ?_
          show Steps p.tables e below (T211.setTop (mkF m 148 #[.val (.int p0), .val (.int p1), .val (.int p2), .val (.int p3), .val (.int p4), .val (.int p5), .val (.int 2), .val (.ref u123), .val (.ref b129), .val (.int 1), .val (.int 2), .val (.int 1), .unset] [(.ref b129)])) _
          refine st218 _ ?_
          refine XS.istore X218.here hx rfl (hb hby at_151) rfl (l' := #[.val (.int p0), .val (.int p1), .val (.int p2), .val (.int p3), .val (.int p4), .val (.int p5), .val (.int 2), .val (.ref u123), .val (.ref b129), .val (.int 1), .val (.int 2), .val (.int 1), .val (.int 0)]) rfl ?_
          refine XS.iload X218.here hx rfl (hb hby at_153) rfl ?_
          refine XS.ifNo X218.here hx rfl (hb hby at_155) rfl ((if0 _ _).trans (feq (by decide)).1) ?_
          refine XS.iload X218.here hx rfl (hb hby at_158) rfl ?_
          refine XS.iload X218.here hx rfl (hb hby at_160) rfl ?_
          refine XS.iload X218.here hx rfl (hb hby at_162) rfl ?_
          refine XS.icmpYes X218.here hx rfl (pc0 := 164) (pc' := 171) rfl (hb hby at_164) rfl (tlt hy213).1 (by decide) (by decide) ?_
          refine XS.iconst X218.here hx rfl (hb hby at_171) ?_
          refine XS.icmpNo X218.here hx rfl (hb hby at_172) rfl (teq (by decide)).2 ?_
          show Steps p.tables e below (T218.setTop (mkF m 175 #[.val (.int p0), .val (.int p1), .val (.int p2), .val (.int p3), .val (.int p4), .val (.int p5), .val (.int 2), .val (.ref u123), .val (.ref b129), .val (.int 1), .val (.int 2), .val (.int 1), .val (.int 0)] [])) _
          refine XS.iconst X218.here hx rfl (hb hby at_175) ?_
          refine XS.goto X218.here hx rfl (pc0 := 176) (pc' := 180) rfl (hb hby at_176) (by decide) (by decide) ?_
          refine XS.istore X218.here hx rfl (hb hby at_180) rfl (l' := #[.val (.int p0), .val (.int p1), .val (.int p2), .val (.int p3), .val (.int p4), .val (.int p5), .val (.int 2), .val (.ref u123), .val (.ref b129), .val (.int 1), .val (.int 2), .val (.int 1), .val (.int 0)]) rfl ?_
          refine XS.iload X218.here hx rfl (hb hby at_182) rfl ?_
          exact Steps.refl _
        subst hA₀
        obtain ⟨fs, hr, hrun, hended, -, hW, hIn, hsame⟩ := X218.leaveW hS131 (by rw [e218]; exact hkk211) (v := some (.int 1)) (fun h => by rw [Bd.returns] at h; cases h)
        refine ⟨_, _, s219.trans ?_, hrun, hended, _, _, rfl, ?_, ⟨_, rfl⟩, hW, hIn, hsame.mono (by decide) (by decide)⟩
        · show Steps p.tables e below (T218.setTop (mkF m 184 #[.val (.int p0), .val (.int p1), .val (.int p2), .val (.int p3), .val (.int p4), .val (.int p5), .val (.int 2), .val (.ref u123), .val (.ref b129), .val (.int 1), .val (.int 2), .val (.int 1), .val (.int 0)] [(.int 1)])) _
          exact retN X218 hx (t := .boolean) Bd.returns (by simp) (hb hby at_184) hr
        · show Q0 Z p0 p1 p2 p3 p4 p5 wc rg h0 n0 _ T218.heap _
          rw [e218]
          exact ⟨rfl, N218⟩
      · have c220 : Exa Z T211.heap u123 "java/lang/String" := (c205.keep Kc211)
        have c221 : Fld Z T211.heap u123 "java/lang/String" "value" "[B" (.ref u124) := (c206.keep Kc211 (ninS ne_u123_b129 nin0))
        have c222 : Fld Z T211.heap u123 "java/lang/String" "coder" "B" (.int u127) := (c207.keep Kc211 (ninS ne_u123_b129 nin0))
        have c223 : Arv Z T211.heap u124 u125 .byte u126 (u128.map Value.int) (.int 0) := (c208.keep Kc211 (ninS ne_u124_b129 nin0))
        obtain ⟨T224, L224, X224, e224, N224, st224⟩ := own_callVP X211 hx hZ131 hown131 (wk48 hw) (wk49 hw) (wk51 hw) (wk50 hw) (by decide) (wk36 hw) (wk52 hw) (rmate2_0 l Z a0 hw [] b129 wc u123 u124 u125 u126 u127 u128 p5 T211.heap n0 O211 f211_1 f211_2 c220 c221 c222 c223 F0_ hcs f122_5 hy213) (rfl : T211.heap = T211.heap) N211 (W := 0) (by decide) (by decide) (by decide) (by decide) f211_0 (g := (mkF m 148 #[.val (.int p0), .val (.int p1), .val (.int p2), .val (.int p3), .val (.int p4), .val (.int p5), .val (.int 2), .val (.ref u123), .val (.ref b129), .val (.int 1), .val (.int 2), .val (.int 1), .unset] [(.ref b129)])) rfl (by rw [hml]; rfl) (argsL := []) (rest := []) (lenOf pd_rm0_2 rfl) rfl (by exact Nat.le_refl _) (hb hby at_148)
        have s225 : Steps p.tables e below A₀ (T224.setTop (mkF m 184 #[.val (.int p0), .val (.int p1), .val (.int p2), .val (.int p3), .val (.int p4), .val (.int p5), .val (.int 2), .val (.ref u123), .val (.ref b129), .val (.int 1), .val (.int 2), .val (.int 1), .val (.int 1)] [(.int 1)])) := by
          refine s212.trans ?_
          show Steps p.tables e below (T211.setTop (mkF m 148 #[.val (.int p0), .val (.int p1), .val (.int p2), .val (.int p3), .val (.int p4), .val (.int p5), .val (.int 2), .val (.ref u123), .val (.ref b129), .val (.int 1), .val (.int 2), .val (.int 1), .unset] [(.ref b129)])) _
          refine st224 _ ?_
          refine XS.istore X224.here hx rfl (hb hby at_151) rfl (l' := #[.val (.int p0), .val (.int p1), .val (.int p2), .val (.int p3), .val (.int p4), .val (.int p5), .val (.int 2), .val (.ref u123), .val (.ref b129), .val (.int 1), .val (.int 2), .val (.int 1), .val (.int 1)]) rfl ?_
          refine XS.iload X224.here hx rfl (hb hby at_153) rfl ?_
          refine XS.ifNo X224.here hx rfl (hb hby at_155) rfl ((if0 _ _).trans (feq (by decide)).1) ?_
          refine XS.iload X224.here hx rfl (hb hby at_158) rfl ?_
          refine XS.iload X224.here hx rfl (hb hby at_160) rfl ?_
          refine XS.iload X224.here hx rfl (hb hby at_162) rfl ?_
          refine XS.icmpNo X224.here hx rfl (hb hby at_164) rfl (flt hy213).1 ?_
          refine XS.iconst X224.here hx rfl (hb hby at_167) ?_
          refine XS.goto X224.here hx rfl (pc0 := 168) (pc' := 172) rfl (hb hby at_168) (by decide) (by decide) ?_
          show Steps p.tables e below (T224.setTop (mkF m 172 #[.val (.int p0), .val (.int p1), .val (.int p2), .val (.int p3), .val (.int p4), .val (.int p5), .val (.int 2), .val (.ref u123), .val (.ref b129), .val (.int 1), .val (.int 2), .val (.int 1), .val (.int 1)] [(.int 1), (.int 1)])) _
          refine XS.icmpNo X224.here hx rfl (hb hby at_172) rfl (teq (by decide)).2 ?_
          refine XS.iconst X224.here hx rfl (hb hby at_175) ?_
          refine XS.goto X224.here hx rfl (pc0 := 176) (pc' := 180) rfl (hb hby at_176) (by decide) (by decide) ?_
          refine XS.istore X224.here hx rfl (hb hby at_180) rfl (l' := #[.val (.int p0), .val (.int p1), .val (.int p2), .val (.int p3), .val (.int p4), .val (.int p5), .val (.int 2), .val (.ref u123), .val (.ref b129), .val (.int 1), .val (.int 2), .val (.int 1), .val (.int 1)]) rfl ?_
          refine XS.iload X224.here hx rfl (hb hby at_182) rfl ?_
          exact Steps.refl _
        subst hA₀
        obtain ⟨fs, hr, hrun, hended, -, hW, hIn, hsame⟩ := X224.leaveW hS131 (by rw [e224]; exact hkk211) (v := some (.int 1)) (fun h => by rw [Bd.returns] at h; cases h)
        refine ⟨_, _, s225.trans ?_, hrun, hended, _, _, rfl, ?_, ⟨_, rfl⟩, hW, hIn, hsame.mono (by decide) (by decide)⟩
        · show Steps p.tables e below (T224.setTop (mkF m 184 #[.val (.int p0), .val (.int p1), .val (.int p2), .val (.int p3), .val (.int p4), .val (.int p5), .val (.int 2), .val (.ref u123), .val (.ref b129), .val (.int 1), .val (.int 2), .val (.int 1), .val (.int 1)] [(.int 1)])) _
          exact retN X224 hx (t := .boolean) Bd.returns (by simp) (hb hby at_184) hr
        · show Q0 Z p0 p1 p2 p3 p4 p5 wc rg h0 n0 _ T224.heap _
          rw [e224]
          exact ⟨rfl, N224⟩
  · have s226 := s1
    rw [hk2] at s226
    have s227 : Steps p.tables e below A₀ (s₁.setTop (mkF m 13 #[.val (.int p0), .val (.int p1), .val (.int p2), .val (.int p3), .val (.int p4), .val (.int p5), .val (.int 3), .unset, .unset, .unset, .unset, .unset, .unset] [(.int (p2.toUInt32.toUInt16.toUInt32.toInt32)), (.int (p1.toUInt32.toUInt16.toUInt32.toInt32)), (.int (p0.toUInt32.toUInt16.toUInt32.toInt32)), (.int 3)])) := by
      refine s226.trans ?_
      refine XS.iload X0.here hx rfl (hb hby at_5) rfl ?_
      refine XS.iloadN X0.here hx rfl (hb hby at_7) rfl ?_
      refine XS.i2c X0.here hx rfl (hb hby at_8) rfl ?_
      refine XS.iloadN X0.here hx rfl (hb hby at_9) rfl ?_
      refine XS.i2c X0.here hx rfl (hb hby at_10) rfl ?_
      refine XS.iloadN X0.here hx rfl (hb hby at_11) rfl ?_
      refine XS.i2c X0.here hx rfl (hb hby at_12) rfl ?_
      exact Steps.refl _
    obtain ⟨_, _, ⟨T228, L228, k228, n228⟩, -, X228, ⟨Lc228, hQ228, l228, y228, z228⟩, st228⟩ := Jvm.LawKit.callS X0 hx (y := (⟨"com/example/lintel/lintel/message/HeaderCursorAtEndPinLaw", "make", "(ICCC)Ljava/lang/String;"⟩ : MethodName)) hown (mvT hZ (wq hw 0 rfl)) (mvT hZ (wq hw 1 rfl)) (mvT hZ (wq hw 2 rfl)) (mvT hZ (wq hw 3 rfl)) (by decide) (backOf (W := 0) (rmmk_3 l Z a0 hw [] (p0.toUInt32.toUInt16.toUInt32.toInt32) (p1.toUInt32.toUInt16.toUInt32.toInt32) (p2.toUInt32.toUInt16.toUInt32.toInt32) wc h0 n0 O0 F0_ F3_ F4_ F5_ hcs) hZ (wq hw 3 rfl) (wq hw 2 rfl) (by decide) (by decide)) (g := (mkF m 13 #[.val (.int p0), .val (.int p1), .val (.int p2), .val (.int p3), .val (.int p4), .val (.int p5), .val (.int 3), .unset, .unset, .unset, .unset, .unset, .unset] [(.int (p2.toUInt32.toUInt16.toUInt32.toInt32)), (.int (p1.toUInt32.toUInt16.toUInt32.toInt32)), (.int (p0.toUInt32.toUInt16.toUInt32.toInt32)), (.int 3)])) rfl (by rw [hml]; rfl) (argsL := [(.int 3), (.int (p0.toUInt32.toUInt16.toUInt32.toInt32)), (.int (p1.toUInt32.toUInt16.toUInt32.toInt32)), (.int (p2.toUInt32.toUInt16.toUInt32.toInt32))]) (rest := []) (lenOf pd_rm0_0 rfl) rfl (by exact Nat.le_refl _) (hb hby at_13) (fun _ _ => ⟨rfl, e0, (by decide : 0 + 4 ≤ _), (by decide : 0 + 16 ≤ _)⟩)
    dsimp only [Pt.U, Pt.locs, Pt.cells, Pt.slots] at X228 l228 y228 z228 st228 hQ228
    subst l228 y228 z228
    obtain ⟨u229, u230, u231, u232, u233, u234, rfl, Nq228, Kc228, f228_0, f228_1, f228_2, f228_3, f228_4, f228_5, f228_6, f228_7⟩ := hQ228
    have N228 := Fr.app N0 Nq228
    have g_u230 : n0 ≤ u230 := Nat.le_trans (Nat.le_of_eq O0.1.symm) (Nat.le_trans O0.2.1 f228_4)
    have g_u229 : n0 ≤ u229 := Nat.le_trans (Nat.le_of_eq O0.1.symm) (Nat.le_trans O0.2.1 f228_6)
    have O228 := O0.keep Kc228 all0
    have hkk228 := Nat.le_trans hk0 Kc228.1
    obtain ⟨T235, h235, X235, e235, E235, A235, D235, -, st235⟩ := newO X228 hx hZ hown (wq hw 34 rfl) (wq hw 35 rfl) (wq hw 36 rfl) (rfl : T228.heap = T228.heap) (g := (mkF m 18 #[.val (.int p0), .val (.int p1), .val (.int p2), .val (.int p3), .val (.int p4), .val (.int p5), .val (.int 3), .val (.ref u229), .unset, .unset, .unset, .unset, .unset] [])) rfl (hb hby at_18) (by decide) (by decide)
    obtain ⟨b235, g235⟩ : ∃ z, z = T228.heap.size := ⟨_, rfl⟩
    rw [← g235] at A235 D235 st235
    have ne_u229_b235 : u229 ≠ b235 := Nat.ne_of_lt (Nat.lt_of_lt_of_le f228_0.lt (Nat.le_of_eq g235.symm))
    have ne_u230_b235 : u230 ≠ b235 := Nat.ne_of_lt (Nat.lt_of_lt_of_le f228_3.lt (Nat.le_of_eq g235.symm))
    have g_b235 : n0 ≤ b235 := Nat.le_trans (Nat.le_of_eq O228.1.symm) (Nat.le_trans O228.2.1 (Nat.le_of_eq g235.symm))
    have O235 := O228.ext E235
    have hkk235 := Nat.le_trans hkk228 E235.1
    have F235_text : Fld Z h235 b235 "com/example/lintel/lintel/message/HeaderCursor" "text" "Ljava/lang/String;" .null := D235 (Or.inr (wq hw 45 rfl)) (ty := (.object "java/lang/String")) (by decide)
    have F235_what : Fld Z h235 b235 "com/example/lintel/lintel/message/HeaderCursor" "what" "Ljava/lang/String;" .null := D235 (Or.inr (wq hw 47 rfl)) (ty := (.object "java/lang/String")) (by decide)
    have F235_at : Fld Z h235 b235 "com/example/lintel/lintel/message/HeaderCursor" "at" "I" (.int 0) := D235 (Or.inl (wq hw 54 rfl)) (ty := .int) (by decide)
    have s236 : Steps p.tables e below A₀ (T235.setTop (mkF m 24 #[.val (.int p0), .val (.int p1), .val (.int p2), .val (.int p3), .val (.int p4), .val (.int p5), .val (.int 3), .val (.ref u229), .unset, .unset, .unset, .unset, .unset] [(.ref u229), (.ref b235), (.ref b235)])) := by
      refine s227.trans ?_
      show Steps p.tables e below (s₁.setTop (mkF m 13 #[.val (.int p0), .val (.int p1), .val (.int p2), .val (.int p3), .val (.int p4), .val (.int p5), .val (.int 3), .unset, .unset, .unset, .unset, .unset, .unset] [(.int (p2.toUInt32.toUInt16.toUInt32.toInt32)), (.int (p1.toUInt32.toUInt16.toUInt32.toInt32)), (.int (p0.toUInt32.toUInt16.toUInt32.toInt32)), (.int 3)])) _
      refine st228 _ ?_
      refine XS.astore X228.here hx rfl (hb hby at_16) rfl rfl (l' := #[.val (.int p0), .val (.int p1), .val (.int p2), .val (.int p3), .val (.int p4), .val (.int p5), .val (.int 3), .val (.ref u229), .unset, .unset, .unset, .unset, .unset]) rfl ?_
      refine st235 _ ?_
      refine XS.dup X235.here hx rfl (hb hby at_21) rfl rfl ?_
      refine XS.aload X235.here hx rfl (hb hby at_22) rfl rfl ?_
      exact Steps.refl _
    obtain ⟨a237, T237, h237, k237, X237, e237, E237, hS237, hk237, hZ237, hown237, st237⟩ := ldcS X235 hx hZ hown (wq hw 37 rfl) (own_wS hw) e235 hS0 hkk235 (g := (mkF m 24 #[.val (.int p0), .val (.int p1), .val (.int p2), .val (.int p3), .val (.int p4), .val (.int p5), .val (.int 3), .val (.ref u229), .unset, .unset, .unset, .unset, .unset] [(.ref u229), (.ref b235), (.ref b235)])) rfl (hb hby at_24) (n := 20) (by decide) (by decide) (by decide) (by decide)
    have O237 := O235.ext E237
    have hkk237 := Nat.le_trans hkk235 E237.1
    have s238 : Steps p.tables e below A₀ (T237.setTop (mkF m 26 #[.val (.int p0), .val (.int p1), .val (.int p2), .val (.int p3), .val (.int p4), .val (.int p5), .val (.int 3), .val (.ref u229), .unset, .unset, .unset, .unset, .unset] [(.ref a237), (.ref u229), (.ref b235), (.ref b235)])) := by
      refine s236.trans ?_
      show Steps p.tables e below (T235.setTop (mkF m 24 #[.val (.int p0), .val (.int p1), .val (.int p2), .val (.int p3), .val (.int p4), .val (.int p5), .val (.int 3), .val (.ref u229), .unset, .unset, .unset, .unset, .unset] [(.ref u229), (.ref b235), (.ref b235)])) _
      refine st237 _ ?_
      exact Steps.refl _
    have c239 : Exa Z h237 b235 "com/example/lintel/lintel/message/HeaderCursor" := (A235.ext E237)
    have c240 : Fld Z h237 b235 "com/example/lintel/lintel/message/HeaderCursor" "text" "Ljava/lang/String;" .null := (F235_text.ext E237)
    have c241 : Fld Z h237 b235 "com/example/lintel/lintel/message/HeaderCursor" "what" "Ljava/lang/String;" .null := (F235_what.ext E237)
    have c242 : Fld Z h237 b235 "com/example/lintel/lintel/message/HeaderCursor" "at" "I" (.int 0) := (F235_at.ext E237)
    obtain ⟨_, _, ⟨T243, L243, k243, n243⟩, -, X243, ⟨Lc243, hQ243, l243, y243, z243⟩, st243⟩ := X237.specialBack hx (y := (⟨"com/example/lintel/lintel/message/HeaderCursor", "<init>", "(Ljava/lang/String;Ljava/lang/String;)V"⟩ : MethodName)) rfl hown237 (mvT hZ237 (wq hw 40 rfl)) (mvT hZ237 (wq hw 41 rfl)) (mvT hZ237 (wq hw 42 rfl)) (by decide) (backOf (W := 1) (rm8 l Z a0 hw [] b235 u229 a237 h237 n0 O237 c239 c240 c241 c242 g_b235) hZ237 (wq hw 42 rfl) (wq hw 36 rfl) (by decide) (by decide)) (g := (mkF m 26 #[.val (.int p0), .val (.int p1), .val (.int p2), .val (.int p3), .val (.int p4), .val (.int p5), .val (.int 3), .val (.ref u229), .unset, .unset, .unset, .unset, .unset] [(.ref a237), (.ref u229), (.ref b235), (.ref b235)])) rfl (by rw [hml]; rfl) (Steps.refl _) (a := b235) (argsL := [(.ref u229), (.ref a237)]) (rest := [(.ref b235)]) (lenOf pd_rm0_1 rfl) rfl (by exact Nat.le_refl _) (hb hby at_26) (fun _ _ => ⟨rfl, e237, (by decide : 7 + 0 ≤ _), (by decide : 43 + 0 ≤ _)⟩)
    dsimp only [Pt.U, Pt.locs, Pt.cells, Pt.slots] at X243 l243 y243 z243 st243 hQ243
    subst l243 y243 z243
    obtain ⟨rfl, Nq243, Kc243, f243_0, f243_1, f243_2⟩ := hQ243
    have N243 := Fr.app N228 Nq243
    have O243 := O237.keep Kc243 (allS g_b235 all0)
    have hkk243 := Nat.le_trans hk237 Kc243.1
    have s244 : Steps p.tables e below A₀ (T243.setTop (mkF m 33 #[.val (.int p0), .val (.int p1), .val (.int p2), .val (.int p3), .val (.int p4), .val (.int p5), .val (.int 3), .val (.ref u229), .val (.ref b235), .unset, .unset, .unset, .unset] [(.ref b235)])) := by
      refine s238.trans ?_
      show Steps p.tables e below (T237.setTop (mkF m 26 #[.val (.int p0), .val (.int p1), .val (.int p2), .val (.int p3), .val (.int p4), .val (.int p5), .val (.int 3), .val (.ref u229), .unset, .unset, .unset, .unset, .unset] [(.ref a237), (.ref u229), (.ref b235), (.ref b235)])) _
      refine st243.trans ?_
      refine XS.astore X243.here hx rfl (hb hby at_29) rfl rfl (l' := #[.val (.int p0), .val (.int p1), .val (.int p2), .val (.int p3), .val (.int p4), .val (.int p5), .val (.int 3), .val (.ref u229), .val (.ref b235), .unset, .unset, .unset, .unset]) rfl ?_
      refine XS.aload X243.here hx rfl (hb hby at_31) rfl rfl ?_
      exact Steps.refl _
    have c245 : Exa Z T243.heap u229 "java/lang/String" := (((f228_0.ext E235).ext E237).keep Kc243)
    have c246 : Fld Z T243.heap u229 "java/lang/String" "value" "[B" (.ref u230) := (((f228_1.ext E235).ext E237).keep Kc243 (ninS ne_u229_b235 nin0))
    have c247 : Fld Z T243.heap u229 "java/lang/String" "coder" "B" (.int u233) := (((f228_2.ext E235).ext E237).keep Kc243 (ninS ne_u229_b235 nin0))
    have c248 : Arv Z T243.heap u230 u231 .byte u232 (u234.map Value.int) (.int 0) := (((f228_3.ext E235).ext E237).keep Kc243 (ninS ne_u230_b235 nin0))
    obtain ⟨T249, L249, X249, e249, N249, st249⟩ := own_callVP X243 hx hZ237 hown237 (wk48 hw) (wk49 hw) (wk51 hw) (wk50 hw) (by decide) (wk36 hw) (wk52 hw) (rmate3_1 l Z a0 hw [] b235 wc u229 u230 u231 u232 u233 u234 (0 : Int32) T243.heap n0 O243 f243_2 f243_1 c245 c246 c247 c248 F0_ hcs f228_5 (by decide)) (rfl : T243.heap = T243.heap) N243 (W := 0) (by decide) (by decide) (by decide) (by decide) f243_0 (g := (mkF m 33 #[.val (.int p0), .val (.int p1), .val (.int p2), .val (.int p3), .val (.int p4), .val (.int p5), .val (.int 3), .val (.ref u229), .val (.ref b235), .unset, .unset, .unset, .unset] [(.ref b235)])) rfl (by rw [hml]; rfl) (argsL := []) (rest := []) (lenOf pd_rm0_2 rfl) rfl (by exact Nat.le_refl _) (hb hby at_33)
    have s250 : Steps p.tables e below A₀ (T249.setTop (mkF m 62 #[.val (.int p0), .val (.int p1), .val (.int p2), .val (.int p3), .val (.int p4), .val (.int p5), .val (.int 3), .val (.ref u229), .val (.ref b235), .val (.int 1), .unset, .unset, .unset] [(.int 3), (.int (p4 &&& (3 : Int32)))])) := by
      refine s244.trans ?_
      show Steps p.tables e below (T243.setTop (mkF m 33 #[.val (.int p0), .val (.int p1), .val (.int p2), .val (.int p3), .val (.int p4), .val (.int p5), .val (.int 3), .val (.ref u229), .val (.ref b235), .unset, .unset, .unset, .unset] [(.ref b235)])) _
      refine st249 _ ?_
      refine XS.iload X249.here hx rfl (hb hby at_36) rfl ?_
      refine XS.ifYes X249.here hx rfl (pc0 := 38) (pc' := 45) rfl (hb hby at_38) rfl ((if0 _ _).trans (feq (by decide)).2) (by decide) (by decide) ?_
      refine XS.iconst X249.here hx rfl (hb hby at_45) ?_
      refine XS.icmpNo X249.here hx rfl (hb hby at_46) rfl (teq (by decide)).2 ?_
      refine XS.iconst X249.here hx rfl (hb hby at_49) ?_
      refine XS.goto X249.here hx rfl (pc0 := 50) (pc' := 54) rfl (hb hby at_50) (by decide) (by decide) ?_
      refine XS.istore X249.here hx rfl (hb hby at_54) rfl (l' := #[.val (.int p0), .val (.int p1), .val (.int p2), .val (.int p3), .val (.int p4), .val (.int p5), .val (.int 3), .val (.ref u229), .val (.ref b235), .val (.int 1), .unset, .unset, .unset]) rfl ?_
      refine XS.iload X249.here hx rfl (hb hby at_56) rfl ?_
      refine XS.iconst X249.here hx rfl (hb hby at_58) ?_
      show Steps p.tables e below (T249.setTop (mkF m 59 #[.val (.int p0), .val (.int p1), .val (.int p2), .val (.int p3), .val (.int p4), .val (.int p5), .val (.int 3), .val (.ref u229), .val (.ref b235), .val (.int 1), .unset, .unset, .unset] [(.int 3), (.int p4)])) _
      refine XS.iand X249.here hx rfl (hb hby at_59) rfl ?_
      refine XS.iload X249.here hx rfl (hb hby at_60) rfl ?_
      exact Steps.refl _
    obtain ⟨T251, L251, X251, e251, N251, st251⟩ := own_callP X249 hx hZ237 hown237 (wk65 hw) (wk66 hw) (wk67 hw) (wk68 hw) (by decide) (rm12 l Z a0 hw [] (p4 &&& (3 : Int32)) (3 : Int32) T243.heap n0 O243 ) e249 N249 (W := 0) (by decide) (by decide) (by decide) (by decide) (g := (mkF m 62 #[.val (.int p0), .val (.int p1), .val (.int p2), .val (.int p3), .val (.int p4), .val (.int p5), .val (.int 3), .val (.ref u229), .val (.ref b235), .val (.int 1), .unset, .unset, .unset] [(.int 3), (.int (p4 &&& (3 : Int32)))])) rfl (by rw [hml]; rfl) (argsL := [(.int (p4 &&& (3 : Int32))), (.int 3)]) (rest := []) (lenOf pd_rm0_3 rfl) rfl (by exact Nat.le_refl _) (hb hby at_62)
    have s252 : Steps p.tables e below A₀ (T251.setTop (mkF m 65 #[.val (.int p0), .val (.int p1), .val (.int p2), .val (.int p3), .val (.int p4), .val (.int p5), .val (.int 3), .val (.ref u229), .val (.ref b235), .val (.int 1), .unset, .unset, .unset] [(.int (own_min (p4 &&& (3 : Int32)) (3 : Int32)))])) := by
      refine s250.trans ?_
      show Steps p.tables e below (T249.setTop (mkF m 62 #[.val (.int p0), .val (.int p1), .val (.int p2), .val (.int p3), .val (.int p4), .val (.int p5), .val (.int 3), .val (.ref u229), .val (.ref b235), .val (.int 1), .unset, .unset, .unset] [(.int 3), (.int (p4 &&& (3 : Int32)))])) _
      refine st251 _ ?_
      exact Steps.refl _
    rcases own_min3 p4 with hk253 | hk253 | hk253 | hk253
    · have s254 := s252
      rw [hk253] at s254
      have s255 : Steps p.tables e below A₀ (T251.setTop (mkF m 105 #[.val (.int p0), .val (.int p1), .val (.int p2), .val (.int p3), .val (.int p4), .val (.int p5), .val (.int 3), .val (.ref u229), .val (.ref b235), .val (.int 1), .val (.int 0), .unset, .unset] [(.ref b235)])) := by
        refine s254.trans ?_
        refine XS.istore X251.here hx rfl (hb hby at_65) rfl (l' := #[.val (.int p0), .val (.int p1), .val (.int p2), .val (.int p3), .val (.int p4), .val (.int p5), .val (.int 3), .val (.ref u229), .val (.ref b235), .val (.int 1), .val (.int 0), .unset, .unset]) rfl ?_
        refine XS.iload X251.here hx rfl (hb hby at_67) rfl ?_
        refine XS.iconst X251.here hx rfl (hb hby at_69) ?_
        refine XS.icmpYes X251.here hx rfl (pc0 := 70) (pc' := 79) rfl (hb hby at_70) rfl (tlt (by decide)).1 (by decide) (by decide) ?_
        refine XS.iload X251.here hx rfl (hb hby at_79) rfl ?_
        refine XS.iconst X251.here hx rfl (hb hby at_81) ?_
        refine XS.icmpYes X251.here hx rfl (pc0 := 82) (pc' := 91) rfl (hb hby at_82) rfl (tlt (by decide)).1 (by decide) (by decide) ?_
        refine XS.iload X251.here hx rfl (hb hby at_91) rfl ?_
        show Steps p.tables e below (T251.setTop (mkF m 93 #[.val (.int p0), .val (.int p1), .val (.int p2), .val (.int p3), .val (.int p4), .val (.int p5), .val (.int 3), .val (.ref u229), .val (.ref b235), .val (.int 1), .val (.int 0), .unset, .unset] [(.int 0)])) _
        refine XS.iconst X251.here hx rfl (hb hby at_93) ?_
        refine XS.icmpYes X251.here hx rfl (pc0 := 94) (pc' := 103) rfl (hb hby at_94) rfl (tlt (by decide)).1 (by decide) (by decide) ?_
        refine XS.aload X251.here hx rfl (hb hby at_103) rfl rfl ?_
        exact Steps.refl _
      obtain ⟨T256, L256, X256, e256, N256, st256⟩ := own_callVP X251 hx hZ237 hown237 (wk48 hw) (wk49 hw) (wk51 hw) (wk50 hw) (by decide) (wk36 hw) (wk52 hw) (rmate3_1 l Z a0 hw [] b235 wc u229 u230 u231 u232 u233 u234 (0 : Int32) T243.heap n0 O243 f243_2 f243_1 c245 c246 c247 c248 F0_ hcs f228_5 (by decide)) e251 N251 (W := 0) (by decide) (by decide) (by decide) (by decide) f243_0 (g := (mkF m 105 #[.val (.int p0), .val (.int p1), .val (.int p2), .val (.int p3), .val (.int p4), .val (.int p5), .val (.int 3), .val (.ref u229), .val (.ref b235), .val (.int 1), .val (.int 0), .unset, .unset] [(.ref b235)])) rfl (by rw [hml]; rfl) (argsL := []) (rest := []) (lenOf pd_rm0_2 rfl) rfl (by exact Nat.le_refl _) (hb hby at_105)
      have s257 : Steps p.tables e below A₀ (T256.setTop (mkF m 143 #[.val (.int p0), .val (.int p1), .val (.int p2), .val (.int p3), .val (.int p4), .val (.int p5), .val (.int 3), .val (.ref u229), .val (.ref b235), .val (.int 1), .val (.int 0), .val (.int 0), .unset] [(.int p5), (.ref b235)])) := by
        refine s255.trans ?_
        show Steps p.tables e below (T251.setTop (mkF m 105 #[.val (.int p0), .val (.int p1), .val (.int p2), .val (.int p3), .val (.int p4), .val (.int p5), .val (.int 3), .val (.ref u229), .val (.ref b235), .val (.int 1), .val (.int 0), .unset, .unset] [(.ref b235)])) _
        refine st256 _ ?_
        refine XS.istore X256.here hx rfl (hb hby at_108) rfl (l' := #[.val (.int p0), .val (.int p1), .val (.int p2), .val (.int p3), .val (.int p4), .val (.int p5), .val (.int 3), .val (.ref u229), .val (.ref b235), .val (.int 1), .val (.int 0), .val (.int 0), .unset]) rfl ?_
        refine XS.iload X256.here hx rfl (hb hby at_110) rfl ?_
        refine XS.ifNo X256.here hx rfl (hb hby at_112) rfl ((if0 _ _).trans (feq (by decide)).1) ?_
        refine XS.iload X256.here hx rfl (hb hby at_115) rfl ?_
        refine XS.iload X256.here hx rfl (hb hby at_117) rfl ?_
        refine XS.iload X256.here hx rfl (hb hby at_119) rfl ?_
        refine XS.icmpYes X256.here hx rfl (pc0 := 121) (pc' := 128) rfl (hb hby at_121) rfl (feq (by decide)).2 (by decide) (by decide) ?_
        refine XS.iconst X256.here hx rfl (hb hby at_128) ?_
        refine XS.icmpNo X256.here hx rfl (hb hby at_129) rfl (teq (by decide)).2 ?_
        show Steps p.tables e below (T256.setTop (mkF m 132 #[.val (.int p0), .val (.int p1), .val (.int p2), .val (.int p3), .val (.int p4), .val (.int p5), .val (.int 3), .val (.ref u229), .val (.ref b235), .val (.int 1), .val (.int 0), .val (.int 0), .unset] [])) _
        refine XS.iconst X256.here hx rfl (hb hby at_132) ?_
        refine XS.goto X256.here hx rfl (pc0 := 133) (pc' := 137) rfl (hb hby at_133) (by decide) (by decide) ?_
        refine XS.istore X256.here hx rfl (hb hby at_137) rfl (l' := #[.val (.int p0), .val (.int p1), .val (.int p2), .val (.int p3), .val (.int p4), .val (.int p5), .val (.int 3), .val (.ref u229), .val (.ref b235), .val (.int 1), .val (.int 0), .val (.int 0), .unset]) rfl ?_
        refine XS.aload X256.here hx rfl (hb hby at_139) rfl rfl ?_
        refine XS.iload X256.here hx rfl (hb hby at_141) rfl ?_
        exact Steps.refl _
      obtain ⟨cq258, kq258, q258a, q258b, q258c⟩ := isOf hZ237 e256 f243_0
      obtain ⟨_, _, ⟨T258, L258, k258, n258⟩, -, X258, ⟨Lc258, hQ258, l258, y258, z258⟩, st258⟩ := X256.virtualBack hx (y := (⟨"com/example/lintel/lintel/message/HeaderCursor", "reset", "(I)V"⟩ : MethodName)) (z := (⟨"com/example/lintel/lintel/message/HeaderCursor", "reset", "(I)V"⟩ : MethodName)) hown237 (mvT hZ237 (wq hw 69 rfl)) (mvT hZ237 (wq hw 70 rfl)) (notFace_of_selects (args := #[]) (mvT hZ237 (wq hw 72 rfl))) (mvT hZ237 (wq hw 72 rfl)) (mvT hZ237 (wq hw 71 rfl)) (by decide) (backOf (W := 0) (rm13 l Z a0 hw [] b235 p5 (0 : Int32) u229 T243.heap n0 O243 f243_0 f243_2 f243_1 g_b235) hZ237 (wq hw 73 rfl) (wq hw 36 rfl) (by decide) (by decide)) q258a q258c (g := (mkF m 143 #[.val (.int p0), .val (.int p1), .val (.int p2), .val (.int p3), .val (.int p4), .val (.int p5), .val (.int 3), .val (.ref u229), .val (.ref b235), .val (.int 1), .val (.int 0), .val (.int 0), .unset] [(.int p5), (.ref b235)])) rfl (by rw [hml]; rfl) (Steps.refl _) (argsL := [(.int p5)]) (rest := []) (lenOf pd_rm0_4 rfl) rfl (by exact Nat.le_refl _) (hb hby at_143) (fun _ _ => ⟨rfl, e256, (by decide : 7 + 0 ≤ _), (by decide : 43 + 0 ≤ _)⟩)
      dsimp only [Pt.U, Pt.locs, Pt.cells, Pt.slots] at X258 l258 y258 z258 st258 hQ258
      subst l258 y258 z258
      obtain ⟨rfl, Nq258, Kc258, f258_0, f258_1, f258_2⟩ := hQ258
      have N258 := Fr.app N256 Nq258
      have O258 := O243.keep Kc258 (allS g_b235 all0)
      have hkk258 := Nat.le_trans hkk243 Kc258.1
      have s259 : Steps p.tables e below A₀ (T258.setTop (mkF m 148 #[.val (.int p0), .val (.int p1), .val (.int p2), .val (.int p3), .val (.int p4), .val (.int p5), .val (.int 3), .val (.ref u229), .val (.ref b235), .val (.int 1), .val (.int 0), .val (.int 0), .unset] [(.ref b235)])) := by
        refine s257.trans ?_
        show Steps p.tables e below (T256.setTop (mkF m 143 #[.val (.int p0), .val (.int p1), .val (.int p2), .val (.int p3), .val (.int p4), .val (.int p5), .val (.int 3), .val (.ref u229), .val (.ref b235), .val (.int 1), .val (.int 0), .val (.int 0), .unset] [(.int p5), (.ref b235)])) _
        refine st258.trans ?_
        refine XS.aload X258.here hx rfl (hb hby at_146) rfl rfl ?_
        exact Steps.refl _
      by_cases hy260 : p5 < (3 : Int32)
      · have c261 : Exa Z T258.heap u229 "java/lang/String" := (c245.keep Kc258)
        have c262 : Fld Z T258.heap u229 "java/lang/String" "value" "[B" (.ref u230) := (c246.keep Kc258 (ninS ne_u229_b235 nin0))
        have c263 : Fld Z T258.heap u229 "java/lang/String" "coder" "B" (.int u233) := (c247.keep Kc258 (ninS ne_u229_b235 nin0))
        have c264 : Arv Z T258.heap u230 u231 .byte u232 (u234.map Value.int) (.int 0) := (c248.keep Kc258 (ninS ne_u230_b235 nin0))
        obtain ⟨T265, L265, X265, e265, N265, st265⟩ := own_callVP X258 hx hZ237 hown237 (wk48 hw) (wk49 hw) (wk51 hw) (wk50 hw) (by decide) (wk36 hw) (wk52 hw) (rmate3_1 l Z a0 hw [] b235 wc u229 u230 u231 u232 u233 u234 p5 T258.heap n0 O258 f258_1 f258_2 c261 c262 c263 c264 F0_ hcs f228_5 hy260) (rfl : T258.heap = T258.heap) N258 (W := 0) (by decide) (by decide) (by decide) (by decide) f258_0 (g := (mkF m 148 #[.val (.int p0), .val (.int p1), .val (.int p2), .val (.int p3), .val (.int p4), .val (.int p5), .val (.int 3), .val (.ref u229), .val (.ref b235), .val (.int 1), .val (.int 0), .val (.int 0), .unset] [(.ref b235)])) rfl (by rw [hml]; rfl) (argsL := []) (rest := []) (lenOf pd_rm0_2 rfl) rfl (by exact Nat.le_refl _) (hb hby at_148)
        have s266 : Steps p.tables e below A₀ (T265.setTop (mkF m 184 #[.val (.int p0), .val (.int p1), .val (.int p2), .val (.int p3), .val (.int p4), .val (.int p5), .val (.int 3), .val (.ref u229), .val (.ref b235), .val (.int 1), .val (.int 0), .val (.int 0), .val (.int 0)] [(.int 1)])) := by
          refine s259.trans ?_
          show Steps p.tables e below (T258.setTop (mkF m 148 #[.val (.int p0), .val (.int p1), .val (.int p2), .val (.int p3), .val (.int p4), .val (.int p5), .val (.int 3), .val (.ref u229), .val (.ref b235), .val (.int 1), .val (.int 0), .val (.int 0), .unset] [(.ref b235)])) _
          refine st265 _ ?_
          refine XS.istore X265.here hx rfl (hb hby at_151) rfl (l' := #[.val (.int p0), .val (.int p1), .val (.int p2), .val (.int p3), .val (.int p4), .val (.int p5), .val (.int 3), .val (.ref u229), .val (.ref b235), .val (.int 1), .val (.int 0), .val (.int 0), .val (.int 0)]) rfl ?_
          refine XS.iload X265.here hx rfl (hb hby at_153) rfl ?_
          refine XS.ifNo X265.here hx rfl (hb hby at_155) rfl ((if0 _ _).trans (feq (by decide)).1) ?_
          refine XS.iload X265.here hx rfl (hb hby at_158) rfl ?_
          refine XS.iload X265.here hx rfl (hb hby at_160) rfl ?_
          refine XS.iload X265.here hx rfl (hb hby at_162) rfl ?_
          refine XS.icmpYes X265.here hx rfl (pc0 := 164) (pc' := 171) rfl (hb hby at_164) rfl (tlt hy260).1 (by decide) (by decide) ?_
          refine XS.iconst X265.here hx rfl (hb hby at_171) ?_
          refine XS.icmpNo X265.here hx rfl (hb hby at_172) rfl (teq (by decide)).2 ?_
          show Steps p.tables e below (T265.setTop (mkF m 175 #[.val (.int p0), .val (.int p1), .val (.int p2), .val (.int p3), .val (.int p4), .val (.int p5), .val (.int 3), .val (.ref u229), .val (.ref b235), .val (.int 1), .val (.int 0), .val (.int 0), .val (.int 0)] [])) _
          refine XS.iconst X265.here hx rfl (hb hby at_175) ?_
          refine XS.goto X265.here hx rfl (pc0 := 176) (pc' := 180) rfl (hb hby at_176) (by decide) (by decide) ?_
          refine XS.istore X265.here hx rfl (hb hby at_180) rfl (l' := #[.val (.int p0), .val (.int p1), .val (.int p2), .val (.int p3), .val (.int p4), .val (.int p5), .val (.int 3), .val (.ref u229), .val (.ref b235), .val (.int 1), .val (.int 0), .val (.int 0), .val (.int 0)]) rfl ?_
          refine XS.iload X265.here hx rfl (hb hby at_182) rfl ?_
          exact Steps.refl _
        subst hA₀
        obtain ⟨fs, hr, hrun, hended, -, hW, hIn, hsame⟩ := X265.leaveW hS237 (by rw [e265]; exact hkk258) (v := some (.int 1)) (fun h => by rw [Bd.returns] at h; cases h)
        refine ⟨_, _, s266.trans ?_, hrun, hended, _, _, rfl, ?_, ⟨_, rfl⟩, hW, hIn, hsame.mono (by decide) (by decide)⟩
        · show Steps p.tables e below (T265.setTop (mkF m 184 #[.val (.int p0), .val (.int p1), .val (.int p2), .val (.int p3), .val (.int p4), .val (.int p5), .val (.int 3), .val (.ref u229), .val (.ref b235), .val (.int 1), .val (.int 0), .val (.int 0), .val (.int 0)] [(.int 1)])) _
          exact retN X265 hx (t := .boolean) Bd.returns (by simp) (hb hby at_184) hr
        · show Q0 Z p0 p1 p2 p3 p4 p5 wc rg h0 n0 _ T265.heap _
          rw [e265]
          exact ⟨rfl, N265⟩
      · have c267 : Exa Z T258.heap u229 "java/lang/String" := (c245.keep Kc258)
        have c268 : Fld Z T258.heap u229 "java/lang/String" "value" "[B" (.ref u230) := (c246.keep Kc258 (ninS ne_u229_b235 nin0))
        have c269 : Fld Z T258.heap u229 "java/lang/String" "coder" "B" (.int u233) := (c247.keep Kc258 (ninS ne_u229_b235 nin0))
        have c270 : Arv Z T258.heap u230 u231 .byte u232 (u234.map Value.int) (.int 0) := (c248.keep Kc258 (ninS ne_u230_b235 nin0))
        obtain ⟨T271, L271, X271, e271, N271, st271⟩ := own_callVP X258 hx hZ237 hown237 (wk48 hw) (wk49 hw) (wk51 hw) (wk50 hw) (by decide) (wk36 hw) (wk52 hw) (rmate3_0 l Z a0 hw [] b235 wc u229 u230 u231 u232 u233 u234 p5 T258.heap n0 O258 f258_1 f258_2 c267 c268 c269 c270 F0_ hcs f228_5 hy260) (rfl : T258.heap = T258.heap) N258 (W := 0) (by decide) (by decide) (by decide) (by decide) f258_0 (g := (mkF m 148 #[.val (.int p0), .val (.int p1), .val (.int p2), .val (.int p3), .val (.int p4), .val (.int p5), .val (.int 3), .val (.ref u229), .val (.ref b235), .val (.int 1), .val (.int 0), .val (.int 0), .unset] [(.ref b235)])) rfl (by rw [hml]; rfl) (argsL := []) (rest := []) (lenOf pd_rm0_2 rfl) rfl (by exact Nat.le_refl _) (hb hby at_148)
        have s272 : Steps p.tables e below A₀ (T271.setTop (mkF m 184 #[.val (.int p0), .val (.int p1), .val (.int p2), .val (.int p3), .val (.int p4), .val (.int p5), .val (.int 3), .val (.ref u229), .val (.ref b235), .val (.int 1), .val (.int 0), .val (.int 0), .val (.int 1)] [(.int 1)])) := by
          refine s259.trans ?_
          show Steps p.tables e below (T258.setTop (mkF m 148 #[.val (.int p0), .val (.int p1), .val (.int p2), .val (.int p3), .val (.int p4), .val (.int p5), .val (.int 3), .val (.ref u229), .val (.ref b235), .val (.int 1), .val (.int 0), .val (.int 0), .unset] [(.ref b235)])) _
          refine st271 _ ?_
          refine XS.istore X271.here hx rfl (hb hby at_151) rfl (l' := #[.val (.int p0), .val (.int p1), .val (.int p2), .val (.int p3), .val (.int p4), .val (.int p5), .val (.int 3), .val (.ref u229), .val (.ref b235), .val (.int 1), .val (.int 0), .val (.int 0), .val (.int 1)]) rfl ?_
          refine XS.iload X271.here hx rfl (hb hby at_153) rfl ?_
          refine XS.ifNo X271.here hx rfl (hb hby at_155) rfl ((if0 _ _).trans (feq (by decide)).1) ?_
          refine XS.iload X271.here hx rfl (hb hby at_158) rfl ?_
          refine XS.iload X271.here hx rfl (hb hby at_160) rfl ?_
          refine XS.iload X271.here hx rfl (hb hby at_162) rfl ?_
          refine XS.icmpNo X271.here hx rfl (hb hby at_164) rfl (flt hy260).1 ?_
          refine XS.iconst X271.here hx rfl (hb hby at_167) ?_
          refine XS.goto X271.here hx rfl (pc0 := 168) (pc' := 172) rfl (hb hby at_168) (by decide) (by decide) ?_
          show Steps p.tables e below (T271.setTop (mkF m 172 #[.val (.int p0), .val (.int p1), .val (.int p2), .val (.int p3), .val (.int p4), .val (.int p5), .val (.int 3), .val (.ref u229), .val (.ref b235), .val (.int 1), .val (.int 0), .val (.int 0), .val (.int 1)] [(.int 1), (.int 1)])) _
          refine XS.icmpNo X271.here hx rfl (hb hby at_172) rfl (teq (by decide)).2 ?_
          refine XS.iconst X271.here hx rfl (hb hby at_175) ?_
          refine XS.goto X271.here hx rfl (pc0 := 176) (pc' := 180) rfl (hb hby at_176) (by decide) (by decide) ?_
          refine XS.istore X271.here hx rfl (hb hby at_180) rfl (l' := #[.val (.int p0), .val (.int p1), .val (.int p2), .val (.int p3), .val (.int p4), .val (.int p5), .val (.int 3), .val (.ref u229), .val (.ref b235), .val (.int 1), .val (.int 0), .val (.int 0), .val (.int 1)]) rfl ?_
          refine XS.iload X271.here hx rfl (hb hby at_182) rfl ?_
          exact Steps.refl _
        subst hA₀
        obtain ⟨fs, hr, hrun, hended, -, hW, hIn, hsame⟩ := X271.leaveW hS237 (by rw [e271]; exact hkk258) (v := some (.int 1)) (fun h => by rw [Bd.returns] at h; cases h)
        refine ⟨_, _, s272.trans ?_, hrun, hended, _, _, rfl, ?_, ⟨_, rfl⟩, hW, hIn, hsame.mono (by decide) (by decide)⟩
        · show Steps p.tables e below (T271.setTop (mkF m 184 #[.val (.int p0), .val (.int p1), .val (.int p2), .val (.int p3), .val (.int p4), .val (.int p5), .val (.int 3), .val (.ref u229), .val (.ref b235), .val (.int 1), .val (.int 0), .val (.int 0), .val (.int 1)] [(.int 1)])) _
          exact retN X271 hx (t := .boolean) Bd.returns (by simp) (hb hby at_184) hr
        · show Q0 Z p0 p1 p2 p3 p4 p5 wc rg h0 n0 _ T271.heap _
          rw [e271]
          exact ⟨rfl, N271⟩
    · have s273 := s252
      rw [hk253] at s273
      have s274 : Steps p.tables e below A₀ (T251.setTop (mkF m 75 #[.val (.int p0), .val (.int p1), .val (.int p2), .val (.int p3), .val (.int p4), .val (.int p5), .val (.int 3), .val (.ref u229), .val (.ref b235), .val (.int 1), .val (.int 1), .unset, .unset] [(.ref b235)])) := by
        refine s273.trans ?_
        refine XS.istore X251.here hx rfl (hb hby at_65) rfl (l' := #[.val (.int p0), .val (.int p1), .val (.int p2), .val (.int p3), .val (.int p4), .val (.int p5), .val (.int 3), .val (.ref u229), .val (.ref b235), .val (.int 1), .val (.int 1), .unset, .unset]) rfl ?_
        refine XS.iload X251.here hx rfl (hb hby at_67) rfl ?_
        refine XS.iconst X251.here hx rfl (hb hby at_69) ?_
        refine XS.icmpNo X251.here hx rfl (hb hby at_70) rfl (flt (by decide)).1 ?_
        refine XS.aload X251.here hx rfl (hb hby at_73) rfl rfl ?_
        exact Steps.refl _
      obtain ⟨cq275, kq275, q275a, q275b, q275c⟩ := isOf hZ237 e251 f243_0
      obtain ⟨_, _, ⟨T275, L275, k275, n275⟩, -, X275, ⟨Lc275, hQ275, l275, y275, z275⟩, st275⟩ := X251.virtualBack hx (y := (⟨"com/example/lintel/lintel/message/HeaderCursor", "next", "()C"⟩ : MethodName)) (z := (⟨"com/example/lintel/lintel/message/HeaderCursor", "next", "()C"⟩ : MethodName)) hown237 (mvT hZ237 (wq hw 94 rfl)) (mvT hZ237 (wq hw 95 rfl)) (notFace_of_selects (args := #[]) (mvT hZ237 (wq hw 97 rfl))) (mvT hZ237 (wq hw 97 rfl)) (mvT hZ237 (wq hw 96 rfl)) (by decide) (backOf (W := 0) (rmnxt3_0 l Z a0 hw [] b235 wc u229 u230 u231 u232 u233 u234 rg T243.heap n0 O243 f243_0 g_b235 (Ne.symm ne_u229_b235) (Ne.symm ne_u230_b235) f243_2 f243_1 c245 c246 c247 c248 F0_ F1_ F2_ F3_ F4_ F5_ hcs f228_5) hZ237 (wq hw 98 rfl) (wq hw 36 rfl) (by decide) (by decide)) q275a q275c (g := (mkF m 75 #[.val (.int p0), .val (.int p1), .val (.int p2), .val (.int p3), .val (.int p4), .val (.int p5), .val (.int 3), .val (.ref u229), .val (.ref b235), .val (.int 1), .val (.int 1), .unset, .unset] [(.ref b235)])) rfl (by rw [hml]; rfl) (Steps.refl _) (argsL := []) (rest := []) (lenOf pd_rm0_5 rfl) rfl (by exact Nat.le_refl _) (hb hby at_75) (fun _ _ => ⟨rfl, e251, (by decide : 7 + 0 ≤ _), (by decide : 43 + 0 ≤ _)⟩)
      dsimp only [Pt.U, Pt.locs, Pt.cells, Pt.slots] at X275 l275 y275 z275 st275 hQ275
      subst l275 y275 z275
      obtain ⟨u276, rfl, Nq275, Kc275, f275_0, f275_1, f275_2⟩ := hQ275
      have N275 := Fr.app N251 Nq275
      have O275 := O243.keep Kc275 (allS g_b235 all0)
      have hkk275 := Nat.le_trans hkk243 Kc275.1
      have s277 : Steps p.tables e below A₀ (T275.setTop (mkF m 105 #[.val (.int p0), .val (.int p1), .val (.int p2), .val (.int p3), .val (.int p4), .val (.int p5), .val (.int 3), .val (.ref u229), .val (.ref b235), .val (.int 1), .val (.int 1), .unset, .unset] [(.ref b235)])) := by
        refine s274.trans ?_
        show Steps p.tables e below (T251.setTop (mkF m 75 #[.val (.int p0), .val (.int p1), .val (.int p2), .val (.int p3), .val (.int p4), .val (.int p5), .val (.int 3), .val (.ref u229), .val (.ref b235), .val (.int 1), .val (.int 1), .unset, .unset] [(.ref b235)])) _
        refine st275.trans ?_
        refine XS.pop X275.here hx rfl (hb hby at_78) rfl rfl ?_
        refine XS.iload X275.here hx rfl (hb hby at_79) rfl ?_
        refine XS.iconst X275.here hx rfl (hb hby at_81) ?_
        refine XS.icmpYes X275.here hx rfl (pc0 := 82) (pc' := 91) rfl (hb hby at_82) rfl (tlt (by decide)).1 (by decide) (by decide) ?_
        refine XS.iload X275.here hx rfl (hb hby at_91) rfl ?_
        refine XS.iconst X275.here hx rfl (hb hby at_93) ?_
        refine XS.icmpYes X275.here hx rfl (pc0 := 94) (pc' := 103) rfl (hb hby at_94) rfl (tlt (by decide)).1 (by decide) (by decide) ?_
        refine XS.aload X275.here hx rfl (hb hby at_103) rfl rfl ?_
        exact Steps.refl _
      have c278 : Exa Z T275.heap u229 "java/lang/String" := (c245.keep Kc275)
      have c279 : Fld Z T275.heap u229 "java/lang/String" "value" "[B" (.ref u230) := (c246.keep Kc275 (ninS ne_u229_b235 nin0))
      have c280 : Fld Z T275.heap u229 "java/lang/String" "coder" "B" (.int u233) := (c247.keep Kc275 (ninS ne_u229_b235 nin0))
      have c281 : Arv Z T275.heap u230 u231 .byte u232 (u234.map Value.int) (.int 0) := (c248.keep Kc275 (ninS ne_u230_b235 nin0))
      obtain ⟨T282, L282, X282, e282, N282, st282⟩ := own_callVP X275 hx hZ237 hown237 (wk48 hw) (wk49 hw) (wk51 hw) (wk50 hw) (by decide) (wk36 hw) (wk52 hw) (rmate3_1 l Z a0 hw [] b235 wc u229 u230 u231 u232 u233 u234 (1 : Int32) T275.heap n0 O275 f275_1 f275_2 c278 c279 c280 c281 F0_ hcs f228_5 (by decide)) (rfl : T275.heap = T275.heap) N275 (W := 0) (by decide) (by decide) (by decide) (by decide) f275_0 (g := (mkF m 105 #[.val (.int p0), .val (.int p1), .val (.int p2), .val (.int p3), .val (.int p4), .val (.int p5), .val (.int 3), .val (.ref u229), .val (.ref b235), .val (.int 1), .val (.int 1), .unset, .unset] [(.ref b235)])) rfl (by rw [hml]; rfl) (argsL := []) (rest := []) (lenOf pd_rm0_2 rfl) rfl (by exact Nat.le_refl _) (hb hby at_105)
      have s283 : Steps p.tables e below A₀ (T282.setTop (mkF m 143 #[.val (.int p0), .val (.int p1), .val (.int p2), .val (.int p3), .val (.int p4), .val (.int p5), .val (.int 3), .val (.ref u229), .val (.ref b235), .val (.int 1), .val (.int 1), .val (.int 0), .unset] [(.int p5), (.ref b235)])) := by
        refine s277.trans ?_
        show Steps p.tables e below (T275.setTop (mkF m 105 #[.val (.int p0), .val (.int p1), .val (.int p2), .val (.int p3), .val (.int p4), .val (.int p5), .val (.int 3), .val (.ref u229), .val (.ref b235), .val (.int 1), .val (.int 1), .unset, .unset] [(.ref b235)])) _
        refine st282 _ ?_
        refine XS.istore X282.here hx rfl (hb hby at_108) rfl (l' := #[.val (.int p0), .val (.int p1), .val (.int p2), .val (.int p3), .val (.int p4), .val (.int p5), .val (.int 3), .val (.ref u229), .val (.ref b235), .val (.int 1), .val (.int 1), .val (.int 0), .unset]) rfl ?_
        refine XS.iload X282.here hx rfl (hb hby at_110) rfl ?_
        refine XS.ifNo X282.here hx rfl (hb hby at_112) rfl ((if0 _ _).trans (feq (by decide)).1) ?_
        refine XS.iload X282.here hx rfl (hb hby at_115) rfl ?_
        refine XS.iload X282.here hx rfl (hb hby at_117) rfl ?_
        refine XS.iload X282.here hx rfl (hb hby at_119) rfl ?_
        refine XS.icmpYes X282.here hx rfl (pc0 := 121) (pc' := 128) rfl (hb hby at_121) rfl (feq (by decide)).2 (by decide) (by decide) ?_
        refine XS.iconst X282.here hx rfl (hb hby at_128) ?_
        refine XS.icmpNo X282.here hx rfl (hb hby at_129) rfl (teq (by decide)).2 ?_
        show Steps p.tables e below (T282.setTop (mkF m 132 #[.val (.int p0), .val (.int p1), .val (.int p2), .val (.int p3), .val (.int p4), .val (.int p5), .val (.int 3), .val (.ref u229), .val (.ref b235), .val (.int 1), .val (.int 1), .val (.int 0), .unset] [])) _
        refine XS.iconst X282.here hx rfl (hb hby at_132) ?_
        refine XS.goto X282.here hx rfl (pc0 := 133) (pc' := 137) rfl (hb hby at_133) (by decide) (by decide) ?_
        refine XS.istore X282.here hx rfl (hb hby at_137) rfl (l' := #[.val (.int p0), .val (.int p1), .val (.int p2), .val (.int p3), .val (.int p4), .val (.int p5), .val (.int 3), .val (.ref u229), .val (.ref b235), .val (.int 1), .val (.int 1), .val (.int 0), .unset]) rfl ?_
        refine XS.aload X282.here hx rfl (hb hby at_139) rfl rfl ?_
        refine XS.iload X282.here hx rfl (hb hby at_141) rfl ?_
        exact Steps.refl _
      obtain ⟨cq284, kq284, q284a, q284b, q284c⟩ := isOf hZ237 e282 f275_0
      obtain ⟨_, _, ⟨T284, L284, k284, n284⟩, -, X284, ⟨Lc284, hQ284, l284, y284, z284⟩, st284⟩ := X282.virtualBack hx (y := (⟨"com/example/lintel/lintel/message/HeaderCursor", "reset", "(I)V"⟩ : MethodName)) (z := (⟨"com/example/lintel/lintel/message/HeaderCursor", "reset", "(I)V"⟩ : MethodName)) hown237 (mvT hZ237 (wq hw 69 rfl)) (mvT hZ237 (wq hw 70 rfl)) (notFace_of_selects (args := #[]) (mvT hZ237 (wq hw 72 rfl))) (mvT hZ237 (wq hw 72 rfl)) (mvT hZ237 (wq hw 71 rfl)) (by decide) (backOf (W := 0) (rm13 l Z a0 hw [] b235 p5 (1 : Int32) u229 T275.heap n0 O275 f275_0 f275_1 f275_2 g_b235) hZ237 (wq hw 73 rfl) (wq hw 36 rfl) (by decide) (by decide)) q284a q284c (g := (mkF m 143 #[.val (.int p0), .val (.int p1), .val (.int p2), .val (.int p3), .val (.int p4), .val (.int p5), .val (.int 3), .val (.ref u229), .val (.ref b235), .val (.int 1), .val (.int 1), .val (.int 0), .unset] [(.int p5), (.ref b235)])) rfl (by rw [hml]; rfl) (Steps.refl _) (argsL := [(.int p5)]) (rest := []) (lenOf pd_rm0_4 rfl) rfl (by exact Nat.le_refl _) (hb hby at_143) (fun _ _ => ⟨rfl, e282, (by decide : 7 + 0 ≤ _), (by decide : 43 + 0 ≤ _)⟩)
      dsimp only [Pt.U, Pt.locs, Pt.cells, Pt.slots] at X284 l284 y284 z284 st284 hQ284
      subst l284 y284 z284
      obtain ⟨rfl, Nq284, Kc284, f284_0, f284_1, f284_2⟩ := hQ284
      have N284 := Fr.app N282 Nq284
      have O284 := O275.keep Kc284 (allS g_b235 all0)
      have hkk284 := Nat.le_trans hkk275 Kc284.1
      have s285 : Steps p.tables e below A₀ (T284.setTop (mkF m 148 #[.val (.int p0), .val (.int p1), .val (.int p2), .val (.int p3), .val (.int p4), .val (.int p5), .val (.int 3), .val (.ref u229), .val (.ref b235), .val (.int 1), .val (.int 1), .val (.int 0), .unset] [(.ref b235)])) := by
        refine s283.trans ?_
        show Steps p.tables e below (T282.setTop (mkF m 143 #[.val (.int p0), .val (.int p1), .val (.int p2), .val (.int p3), .val (.int p4), .val (.int p5), .val (.int 3), .val (.ref u229), .val (.ref b235), .val (.int 1), .val (.int 1), .val (.int 0), .unset] [(.int p5), (.ref b235)])) _
        refine st284.trans ?_
        refine XS.aload X284.here hx rfl (hb hby at_146) rfl rfl ?_
        exact Steps.refl _
      by_cases hy286 : p5 < (3 : Int32)
      · have c287 : Exa Z T284.heap u229 "java/lang/String" := (c278.keep Kc284)
        have c288 : Fld Z T284.heap u229 "java/lang/String" "value" "[B" (.ref u230) := (c279.keep Kc284 (ninS ne_u229_b235 nin0))
        have c289 : Fld Z T284.heap u229 "java/lang/String" "coder" "B" (.int u233) := (c280.keep Kc284 (ninS ne_u229_b235 nin0))
        have c290 : Arv Z T284.heap u230 u231 .byte u232 (u234.map Value.int) (.int 0) := (c281.keep Kc284 (ninS ne_u230_b235 nin0))
        obtain ⟨T291, L291, X291, e291, N291, st291⟩ := own_callVP X284 hx hZ237 hown237 (wk48 hw) (wk49 hw) (wk51 hw) (wk50 hw) (by decide) (wk36 hw) (wk52 hw) (rmate3_1 l Z a0 hw [] b235 wc u229 u230 u231 u232 u233 u234 p5 T284.heap n0 O284 f284_1 f284_2 c287 c288 c289 c290 F0_ hcs f228_5 hy286) (rfl : T284.heap = T284.heap) N284 (W := 0) (by decide) (by decide) (by decide) (by decide) f284_0 (g := (mkF m 148 #[.val (.int p0), .val (.int p1), .val (.int p2), .val (.int p3), .val (.int p4), .val (.int p5), .val (.int 3), .val (.ref u229), .val (.ref b235), .val (.int 1), .val (.int 1), .val (.int 0), .unset] [(.ref b235)])) rfl (by rw [hml]; rfl) (argsL := []) (rest := []) (lenOf pd_rm0_2 rfl) rfl (by exact Nat.le_refl _) (hb hby at_148)
        have s292 : Steps p.tables e below A₀ (T291.setTop (mkF m 184 #[.val (.int p0), .val (.int p1), .val (.int p2), .val (.int p3), .val (.int p4), .val (.int p5), .val (.int 3), .val (.ref u229), .val (.ref b235), .val (.int 1), .val (.int 1), .val (.int 0), .val (.int 0)] [(.int 1)])) := by
          refine s285.trans ?_
          show Steps p.tables e below (T284.setTop (mkF m 148 #[.val (.int p0), .val (.int p1), .val (.int p2), .val (.int p3), .val (.int p4), .val (.int p5), .val (.int 3), .val (.ref u229), .val (.ref b235), .val (.int 1), .val (.int 1), .val (.int 0), .unset] [(.ref b235)])) _
          refine st291 _ ?_
          refine XS.istore X291.here hx rfl (hb hby at_151) rfl (l' := #[.val (.int p0), .val (.int p1), .val (.int p2), .val (.int p3), .val (.int p4), .val (.int p5), .val (.int 3), .val (.ref u229), .val (.ref b235), .val (.int 1), .val (.int 1), .val (.int 0), .val (.int 0)]) rfl ?_
          refine XS.iload X291.here hx rfl (hb hby at_153) rfl ?_
          refine XS.ifNo X291.here hx rfl (hb hby at_155) rfl ((if0 _ _).trans (feq (by decide)).1) ?_
          refine XS.iload X291.here hx rfl (hb hby at_158) rfl ?_
          refine XS.iload X291.here hx rfl (hb hby at_160) rfl ?_
          refine XS.iload X291.here hx rfl (hb hby at_162) rfl ?_
          refine XS.icmpYes X291.here hx rfl (pc0 := 164) (pc' := 171) rfl (hb hby at_164) rfl (tlt hy286).1 (by decide) (by decide) ?_
          refine XS.iconst X291.here hx rfl (hb hby at_171) ?_
          refine XS.icmpNo X291.here hx rfl (hb hby at_172) rfl (teq (by decide)).2 ?_
          show Steps p.tables e below (T291.setTop (mkF m 175 #[.val (.int p0), .val (.int p1), .val (.int p2), .val (.int p3), .val (.int p4), .val (.int p5), .val (.int 3), .val (.ref u229), .val (.ref b235), .val (.int 1), .val (.int 1), .val (.int 0), .val (.int 0)] [])) _
          refine XS.iconst X291.here hx rfl (hb hby at_175) ?_
          refine XS.goto X291.here hx rfl (pc0 := 176) (pc' := 180) rfl (hb hby at_176) (by decide) (by decide) ?_
          refine XS.istore X291.here hx rfl (hb hby at_180) rfl (l' := #[.val (.int p0), .val (.int p1), .val (.int p2), .val (.int p3), .val (.int p4), .val (.int p5), .val (.int 3), .val (.ref u229), .val (.ref b235), .val (.int 1), .val (.int 1), .val (.int 0), .val (.int 0)]) rfl ?_
          refine XS.iload X291.here hx rfl (hb hby at_182) rfl ?_
          exact Steps.refl _
        subst hA₀
        obtain ⟨fs, hr, hrun, hended, -, hW, hIn, hsame⟩ := X291.leaveW hS237 (by rw [e291]; exact hkk284) (v := some (.int 1)) (fun h => by rw [Bd.returns] at h; cases h)
        refine ⟨_, _, s292.trans ?_, hrun, hended, _, _, rfl, ?_, ⟨_, rfl⟩, hW, hIn, hsame.mono (by decide) (by decide)⟩
        · show Steps p.tables e below (T291.setTop (mkF m 184 #[.val (.int p0), .val (.int p1), .val (.int p2), .val (.int p3), .val (.int p4), .val (.int p5), .val (.int 3), .val (.ref u229), .val (.ref b235), .val (.int 1), .val (.int 1), .val (.int 0), .val (.int 0)] [(.int 1)])) _
          exact retN X291 hx (t := .boolean) Bd.returns (by simp) (hb hby at_184) hr
        · show Q0 Z p0 p1 p2 p3 p4 p5 wc rg h0 n0 _ T291.heap _
          rw [e291]
          exact ⟨rfl, N291⟩
      · have c293 : Exa Z T284.heap u229 "java/lang/String" := (c278.keep Kc284)
        have c294 : Fld Z T284.heap u229 "java/lang/String" "value" "[B" (.ref u230) := (c279.keep Kc284 (ninS ne_u229_b235 nin0))
        have c295 : Fld Z T284.heap u229 "java/lang/String" "coder" "B" (.int u233) := (c280.keep Kc284 (ninS ne_u229_b235 nin0))
        have c296 : Arv Z T284.heap u230 u231 .byte u232 (u234.map Value.int) (.int 0) := (c281.keep Kc284 (ninS ne_u230_b235 nin0))
        obtain ⟨T297, L297, X297, e297, N297, st297⟩ := own_callVP X284 hx hZ237 hown237 (wk48 hw) (wk49 hw) (wk51 hw) (wk50 hw) (by decide) (wk36 hw) (wk52 hw) (rmate3_0 l Z a0 hw [] b235 wc u229 u230 u231 u232 u233 u234 p5 T284.heap n0 O284 f284_1 f284_2 c293 c294 c295 c296 F0_ hcs f228_5 hy286) (rfl : T284.heap = T284.heap) N284 (W := 0) (by decide) (by decide) (by decide) (by decide) f284_0 (g := (mkF m 148 #[.val (.int p0), .val (.int p1), .val (.int p2), .val (.int p3), .val (.int p4), .val (.int p5), .val (.int 3), .val (.ref u229), .val (.ref b235), .val (.int 1), .val (.int 1), .val (.int 0), .unset] [(.ref b235)])) rfl (by rw [hml]; rfl) (argsL := []) (rest := []) (lenOf pd_rm0_2 rfl) rfl (by exact Nat.le_refl _) (hb hby at_148)
        have s298 : Steps p.tables e below A₀ (T297.setTop (mkF m 184 #[.val (.int p0), .val (.int p1), .val (.int p2), .val (.int p3), .val (.int p4), .val (.int p5), .val (.int 3), .val (.ref u229), .val (.ref b235), .val (.int 1), .val (.int 1), .val (.int 0), .val (.int 1)] [(.int 1)])) := by
          refine s285.trans ?_
          show Steps p.tables e below (T284.setTop (mkF m 148 #[.val (.int p0), .val (.int p1), .val (.int p2), .val (.int p3), .val (.int p4), .val (.int p5), .val (.int 3), .val (.ref u229), .val (.ref b235), .val (.int 1), .val (.int 1), .val (.int 0), .unset] [(.ref b235)])) _
          refine st297 _ ?_
          refine XS.istore X297.here hx rfl (hb hby at_151) rfl (l' := #[.val (.int p0), .val (.int p1), .val (.int p2), .val (.int p3), .val (.int p4), .val (.int p5), .val (.int 3), .val (.ref u229), .val (.ref b235), .val (.int 1), .val (.int 1), .val (.int 0), .val (.int 1)]) rfl ?_
          refine XS.iload X297.here hx rfl (hb hby at_153) rfl ?_
          refine XS.ifNo X297.here hx rfl (hb hby at_155) rfl ((if0 _ _).trans (feq (by decide)).1) ?_
          refine XS.iload X297.here hx rfl (hb hby at_158) rfl ?_
          refine XS.iload X297.here hx rfl (hb hby at_160) rfl ?_
          refine XS.iload X297.here hx rfl (hb hby at_162) rfl ?_
          refine XS.icmpNo X297.here hx rfl (hb hby at_164) rfl (flt hy286).1 ?_
          refine XS.iconst X297.here hx rfl (hb hby at_167) ?_
          refine XS.goto X297.here hx rfl (pc0 := 168) (pc' := 172) rfl (hb hby at_168) (by decide) (by decide) ?_
          show Steps p.tables e below (T297.setTop (mkF m 172 #[.val (.int p0), .val (.int p1), .val (.int p2), .val (.int p3), .val (.int p4), .val (.int p5), .val (.int 3), .val (.ref u229), .val (.ref b235), .val (.int 1), .val (.int 1), .val (.int 0), .val (.int 1)] [(.int 1), (.int 1)])) _
          refine XS.icmpNo X297.here hx rfl (hb hby at_172) rfl (teq (by decide)).2 ?_
          refine XS.iconst X297.here hx rfl (hb hby at_175) ?_
          refine XS.goto X297.here hx rfl (pc0 := 176) (pc' := 180) rfl (hb hby at_176) (by decide) (by decide) ?_
          refine XS.istore X297.here hx rfl (hb hby at_180) rfl (l' := #[.val (.int p0), .val (.int p1), .val (.int p2), .val (.int p3), .val (.int p4), .val (.int p5), .val (.int 3), .val (.ref u229), .val (.ref b235), .val (.int 1), .val (.int 1), .val (.int 0), .val (.int 1)]) rfl ?_
          refine XS.iload X297.here hx rfl (hb hby at_182) rfl ?_
          exact Steps.refl _
        subst hA₀
        obtain ⟨fs, hr, hrun, hended, -, hW, hIn, hsame⟩ := X297.leaveW hS237 (by rw [e297]; exact hkk284) (v := some (.int 1)) (fun h => by rw [Bd.returns] at h; cases h)
        refine ⟨_, _, s298.trans ?_, hrun, hended, _, _, rfl, ?_, ⟨_, rfl⟩, hW, hIn, hsame.mono (by decide) (by decide)⟩
        · show Steps p.tables e below (T297.setTop (mkF m 184 #[.val (.int p0), .val (.int p1), .val (.int p2), .val (.int p3), .val (.int p4), .val (.int p5), .val (.int 3), .val (.ref u229), .val (.ref b235), .val (.int 1), .val (.int 1), .val (.int 0), .val (.int 1)] [(.int 1)])) _
          exact retN X297 hx (t := .boolean) Bd.returns (by simp) (hb hby at_184) hr
        · show Q0 Z p0 p1 p2 p3 p4 p5 wc rg h0 n0 _ T297.heap _
          rw [e297]
          exact ⟨rfl, N297⟩
    · have s299 := s252
      rw [hk253] at s299
      have s300 : Steps p.tables e below A₀ (T251.setTop (mkF m 75 #[.val (.int p0), .val (.int p1), .val (.int p2), .val (.int p3), .val (.int p4), .val (.int p5), .val (.int 3), .val (.ref u229), .val (.ref b235), .val (.int 1), .val (.int 2), .unset, .unset] [(.ref b235)])) := by
        refine s299.trans ?_
        refine XS.istore X251.here hx rfl (hb hby at_65) rfl (l' := #[.val (.int p0), .val (.int p1), .val (.int p2), .val (.int p3), .val (.int p4), .val (.int p5), .val (.int 3), .val (.ref u229), .val (.ref b235), .val (.int 1), .val (.int 2), .unset, .unset]) rfl ?_
        refine XS.iload X251.here hx rfl (hb hby at_67) rfl ?_
        refine XS.iconst X251.here hx rfl (hb hby at_69) ?_
        refine XS.icmpNo X251.here hx rfl (hb hby at_70) rfl (flt (by decide)).1 ?_
        refine XS.aload X251.here hx rfl (hb hby at_73) rfl rfl ?_
        exact Steps.refl _
      obtain ⟨cq301, kq301, q301a, q301b, q301c⟩ := isOf hZ237 e251 f243_0
      obtain ⟨_, _, ⟨T301, L301, k301, n301⟩, -, X301, ⟨Lc301, hQ301, l301, y301, z301⟩, st301⟩ := X251.virtualBack hx (y := (⟨"com/example/lintel/lintel/message/HeaderCursor", "next", "()C"⟩ : MethodName)) (z := (⟨"com/example/lintel/lintel/message/HeaderCursor", "next", "()C"⟩ : MethodName)) hown237 (mvT hZ237 (wq hw 94 rfl)) (mvT hZ237 (wq hw 95 rfl)) (notFace_of_selects (args := #[]) (mvT hZ237 (wq hw 97 rfl))) (mvT hZ237 (wq hw 97 rfl)) (mvT hZ237 (wq hw 96 rfl)) (by decide) (backOf (W := 0) (rmnxt3_0 l Z a0 hw [] b235 wc u229 u230 u231 u232 u233 u234 rg T243.heap n0 O243 f243_0 g_b235 (Ne.symm ne_u229_b235) (Ne.symm ne_u230_b235) f243_2 f243_1 c245 c246 c247 c248 F0_ F1_ F2_ F3_ F4_ F5_ hcs f228_5) hZ237 (wq hw 98 rfl) (wq hw 36 rfl) (by decide) (by decide)) q301a q301c (g := (mkF m 75 #[.val (.int p0), .val (.int p1), .val (.int p2), .val (.int p3), .val (.int p4), .val (.int p5), .val (.int 3), .val (.ref u229), .val (.ref b235), .val (.int 1), .val (.int 2), .unset, .unset] [(.ref b235)])) rfl (by rw [hml]; rfl) (Steps.refl _) (argsL := []) (rest := []) (lenOf pd_rm0_5 rfl) rfl (by exact Nat.le_refl _) (hb hby at_75) (fun _ _ => ⟨rfl, e251, (by decide : 7 + 0 ≤ _), (by decide : 43 + 0 ≤ _)⟩)
      dsimp only [Pt.U, Pt.locs, Pt.cells, Pt.slots] at X301 l301 y301 z301 st301 hQ301
      subst l301 y301 z301
      obtain ⟨u302, rfl, Nq301, Kc301, f301_0, f301_1, f301_2⟩ := hQ301
      have N301 := Fr.app N251 Nq301
      have O301 := O243.keep Kc301 (allS g_b235 all0)
      have hkk301 := Nat.le_trans hkk243 Kc301.1
      have s303 : Steps p.tables e below A₀ (T301.setTop (mkF m 87 #[.val (.int p0), .val (.int p1), .val (.int p2), .val (.int p3), .val (.int p4), .val (.int p5), .val (.int 3), .val (.ref u229), .val (.ref b235), .val (.int 1), .val (.int 2), .unset, .unset] [(.ref b235)])) := by
        refine s300.trans ?_
        show Steps p.tables e below (T251.setTop (mkF m 75 #[.val (.int p0), .val (.int p1), .val (.int p2), .val (.int p3), .val (.int p4), .val (.int p5), .val (.int 3), .val (.ref u229), .val (.ref b235), .val (.int 1), .val (.int 2), .unset, .unset] [(.ref b235)])) _
        refine st301.trans ?_
        refine XS.pop X301.here hx rfl (hb hby at_78) rfl rfl ?_
        refine XS.iload X301.here hx rfl (hb hby at_79) rfl ?_
        refine XS.iconst X301.here hx rfl (hb hby at_81) ?_
        refine XS.icmpNo X301.here hx rfl (hb hby at_82) rfl (flt (by decide)).1 ?_
        refine XS.aload X301.here hx rfl (hb hby at_85) rfl rfl ?_
        exact Steps.refl _
      have c304 : Exa Z T301.heap u229 "java/lang/String" := (c245.keep Kc301)
      have c305 : Fld Z T301.heap u229 "java/lang/String" "value" "[B" (.ref u230) := (c246.keep Kc301 (ninS ne_u229_b235 nin0))
      have c306 : Fld Z T301.heap u229 "java/lang/String" "coder" "B" (.int u233) := (c247.keep Kc301 (ninS ne_u229_b235 nin0))
      have c307 : Arv Z T301.heap u230 u231 .byte u232 (u234.map Value.int) (.int 0) := (c248.keep Kc301 (ninS ne_u230_b235 nin0))
      obtain ⟨cq308, kq308, q308a, q308b, q308c⟩ := isOf hZ237 (rfl : T301.heap = T301.heap) f301_0
      obtain ⟨_, _, ⟨T308, L308, k308, n308⟩, -, X308, ⟨Lc308, hQ308, l308, y308, z308⟩, st308⟩ := X301.virtualBack hx (y := (⟨"com/example/lintel/lintel/message/HeaderCursor", "next", "()C"⟩ : MethodName)) (z := (⟨"com/example/lintel/lintel/message/HeaderCursor", "next", "()C"⟩ : MethodName)) hown237 (mvT hZ237 (wq hw 94 rfl)) (mvT hZ237 (wq hw 95 rfl)) (notFace_of_selects (args := #[]) (mvT hZ237 (wq hw 97 rfl))) (mvT hZ237 (wq hw 97 rfl)) (mvT hZ237 (wq hw 96 rfl)) (by decide) (backOf (W := 0) (rmnxt3_1 l Z a0 hw [] b235 wc u229 u230 u231 u232 u233 u234 rg T301.heap n0 O301 f301_0 g_b235 (Ne.symm ne_u229_b235) (Ne.symm ne_u230_b235) f301_1 f301_2 c304 c305 c306 c307 F0_ F1_ F2_ F3_ F4_ F5_ hcs f228_5) hZ237 (wq hw 98 rfl) (wq hw 36 rfl) (by decide) (by decide)) q308a q308c (g := (mkF m 87 #[.val (.int p0), .val (.int p1), .val (.int p2), .val (.int p3), .val (.int p4), .val (.int p5), .val (.int 3), .val (.ref u229), .val (.ref b235), .val (.int 1), .val (.int 2), .unset, .unset] [(.ref b235)])) rfl (by rw [hml]; rfl) (Steps.refl _) (argsL := []) (rest := []) (lenOf pd_rm0_5 rfl) rfl (by exact Nat.le_refl _) (hb hby at_87) (fun _ _ => ⟨rfl, (rfl : T301.heap = T301.heap), (by decide : 7 + 0 ≤ _), (by decide : 43 + 0 ≤ _)⟩)
      dsimp only [Pt.U, Pt.locs, Pt.cells, Pt.slots] at X308 l308 y308 z308 st308 hQ308
      subst l308 y308 z308
      obtain ⟨u309, rfl, Nq308, Kc308, f308_0, f308_1, f308_2⟩ := hQ308
      have N308 := Fr.app N301 Nq308
      have O308 := O301.keep Kc308 (allS g_b235 all0)
      have hkk308 := Nat.le_trans hkk301 Kc308.1
      have s310 : Steps p.tables e below A₀ (T308.setTop (mkF m 105 #[.val (.int p0), .val (.int p1), .val (.int p2), .val (.int p3), .val (.int p4), .val (.int p5), .val (.int 3), .val (.ref u229), .val (.ref b235), .val (.int 1), .val (.int 2), .unset, .unset] [(.ref b235)])) := by
        refine s303.trans ?_
        show Steps p.tables e below (T301.setTop (mkF m 87 #[.val (.int p0), .val (.int p1), .val (.int p2), .val (.int p3), .val (.int p4), .val (.int p5), .val (.int 3), .val (.ref u229), .val (.ref b235), .val (.int 1), .val (.int 2), .unset, .unset] [(.ref b235)])) _
        refine st308.trans ?_
        refine XS.pop X308.here hx rfl (hb hby at_90) rfl rfl ?_
        refine XS.iload X308.here hx rfl (hb hby at_91) rfl ?_
        refine XS.iconst X308.here hx rfl (hb hby at_93) ?_
        refine XS.icmpYes X308.here hx rfl (pc0 := 94) (pc' := 103) rfl (hb hby at_94) rfl (tlt (by decide)).1 (by decide) (by decide) ?_
        refine XS.aload X308.here hx rfl (hb hby at_103) rfl rfl ?_
        exact Steps.refl _
      have c311 : Exa Z T308.heap u229 "java/lang/String" := (c304.keep Kc308)
      have c312 : Fld Z T308.heap u229 "java/lang/String" "value" "[B" (.ref u230) := (c305.keep Kc308 (ninS ne_u229_b235 nin0))
      have c313 : Fld Z T308.heap u229 "java/lang/String" "coder" "B" (.int u233) := (c306.keep Kc308 (ninS ne_u229_b235 nin0))
      have c314 : Arv Z T308.heap u230 u231 .byte u232 (u234.map Value.int) (.int 0) := (c307.keep Kc308 (ninS ne_u230_b235 nin0))
      obtain ⟨T315, L315, X315, e315, N315, st315⟩ := own_callVP X308 hx hZ237 hown237 (wk48 hw) (wk49 hw) (wk51 hw) (wk50 hw) (by decide) (wk36 hw) (wk52 hw) (rmate3_1 l Z a0 hw [] b235 wc u229 u230 u231 u232 u233 u234 (2 : Int32) T308.heap n0 O308 f308_1 f308_2 c311 c312 c313 c314 F0_ hcs f228_5 (by decide)) (rfl : T308.heap = T308.heap) N308 (W := 0) (by decide) (by decide) (by decide) (by decide) f308_0 (g := (mkF m 105 #[.val (.int p0), .val (.int p1), .val (.int p2), .val (.int p3), .val (.int p4), .val (.int p5), .val (.int 3), .val (.ref u229), .val (.ref b235), .val (.int 1), .val (.int 2), .unset, .unset] [(.ref b235)])) rfl (by rw [hml]; rfl) (argsL := []) (rest := []) (lenOf pd_rm0_2 rfl) rfl (by exact Nat.le_refl _) (hb hby at_105)
      have s316 : Steps p.tables e below A₀ (T315.setTop (mkF m 143 #[.val (.int p0), .val (.int p1), .val (.int p2), .val (.int p3), .val (.int p4), .val (.int p5), .val (.int 3), .val (.ref u229), .val (.ref b235), .val (.int 1), .val (.int 2), .val (.int 0), .unset] [(.int p5), (.ref b235)])) := by
        refine s310.trans ?_
        show Steps p.tables e below (T308.setTop (mkF m 105 #[.val (.int p0), .val (.int p1), .val (.int p2), .val (.int p3), .val (.int p4), .val (.int p5), .val (.int 3), .val (.ref u229), .val (.ref b235), .val (.int 1), .val (.int 2), .unset, .unset] [(.ref b235)])) _
        refine st315 _ ?_
        refine XS.istore X315.here hx rfl (hb hby at_108) rfl (l' := #[.val (.int p0), .val (.int p1), .val (.int p2), .val (.int p3), .val (.int p4), .val (.int p5), .val (.int 3), .val (.ref u229), .val (.ref b235), .val (.int 1), .val (.int 2), .val (.int 0), .unset]) rfl ?_
        refine XS.iload X315.here hx rfl (hb hby at_110) rfl ?_
        refine XS.ifNo X315.here hx rfl (hb hby at_112) rfl ((if0 _ _).trans (feq (by decide)).1) ?_
        refine XS.iload X315.here hx rfl (hb hby at_115) rfl ?_
        refine XS.iload X315.here hx rfl (hb hby at_117) rfl ?_
        refine XS.iload X315.here hx rfl (hb hby at_119) rfl ?_
        refine XS.icmpYes X315.here hx rfl (pc0 := 121) (pc' := 128) rfl (hb hby at_121) rfl (feq (by decide)).2 (by decide) (by decide) ?_
        refine XS.iconst X315.here hx rfl (hb hby at_128) ?_
        refine XS.icmpNo X315.here hx rfl (hb hby at_129) rfl (teq (by decide)).2 ?_
        show Steps p.tables e below (T315.setTop (mkF m 132 #[.val (.int p0), .val (.int p1), .val (.int p2), .val (.int p3), .val (.int p4), .val (.int p5), .val (.int 3), .val (.ref u229), .val (.ref b235), .val (.int 1), .val (.int 2), .val (.int 0), .unset] [])) _
        refine XS.iconst X315.here hx rfl (hb hby at_132) ?_
        refine XS.goto X315.here hx rfl (pc0 := 133) (pc' := 137) rfl (hb hby at_133) (by decide) (by decide) ?_
        refine XS.istore X315.here hx rfl (hb hby at_137) rfl (l' := #[.val (.int p0), .val (.int p1), .val (.int p2), .val (.int p3), .val (.int p4), .val (.int p5), .val (.int 3), .val (.ref u229), .val (.ref b235), .val (.int 1), .val (.int 2), .val (.int 0), .unset]) rfl ?_
        refine XS.aload X315.here hx rfl (hb hby at_139) rfl rfl ?_
        refine XS.iload X315.here hx rfl (hb hby at_141) rfl ?_
        exact Steps.refl _
      obtain ⟨cq317, kq317, q317a, q317b, q317c⟩ := isOf hZ237 e315 f308_0
      obtain ⟨_, _, ⟨T317, L317, k317, n317⟩, -, X317, ⟨Lc317, hQ317, l317, y317, z317⟩, st317⟩ := X315.virtualBack hx (y := (⟨"com/example/lintel/lintel/message/HeaderCursor", "reset", "(I)V"⟩ : MethodName)) (z := (⟨"com/example/lintel/lintel/message/HeaderCursor", "reset", "(I)V"⟩ : MethodName)) hown237 (mvT hZ237 (wq hw 69 rfl)) (mvT hZ237 (wq hw 70 rfl)) (notFace_of_selects (args := #[]) (mvT hZ237 (wq hw 72 rfl))) (mvT hZ237 (wq hw 72 rfl)) (mvT hZ237 (wq hw 71 rfl)) (by decide) (backOf (W := 0) (rm13 l Z a0 hw [] b235 p5 (2 : Int32) u229 T308.heap n0 O308 f308_0 f308_1 f308_2 g_b235) hZ237 (wq hw 73 rfl) (wq hw 36 rfl) (by decide) (by decide)) q317a q317c (g := (mkF m 143 #[.val (.int p0), .val (.int p1), .val (.int p2), .val (.int p3), .val (.int p4), .val (.int p5), .val (.int 3), .val (.ref u229), .val (.ref b235), .val (.int 1), .val (.int 2), .val (.int 0), .unset] [(.int p5), (.ref b235)])) rfl (by rw [hml]; rfl) (Steps.refl _) (argsL := [(.int p5)]) (rest := []) (lenOf pd_rm0_4 rfl) rfl (by exact Nat.le_refl _) (hb hby at_143) (fun _ _ => ⟨rfl, e315, (by decide : 7 + 0 ≤ _), (by decide : 43 + 0 ≤ _)⟩)
      dsimp only [Pt.U, Pt.locs, Pt.cells, Pt.slots] at X317 l317 y317 z317 st317 hQ317
      subst l317 y317 z317
      obtain ⟨rfl, Nq317, Kc317, f317_0, f317_1, f317_2⟩ := hQ317
      have N317 := Fr.app N315 Nq317
      have O317 := O308.keep Kc317 (allS g_b235 all0)
      have hkk317 := Nat.le_trans hkk308 Kc317.1
      have s318 : Steps p.tables e below A₀ (T317.setTop (mkF m 148 #[.val (.int p0), .val (.int p1), .val (.int p2), .val (.int p3), .val (.int p4), .val (.int p5), .val (.int 3), .val (.ref u229), .val (.ref b235), .val (.int 1), .val (.int 2), .val (.int 0), .unset] [(.ref b235)])) := by
        refine s316.trans ?_
        show Steps p.tables e below (T315.setTop (mkF m 143 #[.val (.int p0), .val (.int p1), .val (.int p2), .val (.int p3), .val (.int p4), .val (.int p5), .val (.int 3), .val (.ref u229), .val (.ref b235), .val (.int 1), .val (.int 2), .val (.int 0), .unset] [(.int p5), (.ref b235)])) _
        refine st317.trans ?_
        refine XS.aload X317.here hx rfl (hb hby at_146) rfl rfl ?_
        exact Steps.refl _
      by_cases hy319 : p5 < (3 : Int32)
      · have c320 : Exa Z T317.heap u229 "java/lang/String" := (c311.keep Kc317)
        have c321 : Fld Z T317.heap u229 "java/lang/String" "value" "[B" (.ref u230) := (c312.keep Kc317 (ninS ne_u229_b235 nin0))
        have c322 : Fld Z T317.heap u229 "java/lang/String" "coder" "B" (.int u233) := (c313.keep Kc317 (ninS ne_u229_b235 nin0))
        have c323 : Arv Z T317.heap u230 u231 .byte u232 (u234.map Value.int) (.int 0) := (c314.keep Kc317 (ninS ne_u230_b235 nin0))
        obtain ⟨T324, L324, X324, e324, N324, st324⟩ := own_callVP X317 hx hZ237 hown237 (wk48 hw) (wk49 hw) (wk51 hw) (wk50 hw) (by decide) (wk36 hw) (wk52 hw) (rmate3_1 l Z a0 hw [] b235 wc u229 u230 u231 u232 u233 u234 p5 T317.heap n0 O317 f317_1 f317_2 c320 c321 c322 c323 F0_ hcs f228_5 hy319) (rfl : T317.heap = T317.heap) N317 (W := 0) (by decide) (by decide) (by decide) (by decide) f317_0 (g := (mkF m 148 #[.val (.int p0), .val (.int p1), .val (.int p2), .val (.int p3), .val (.int p4), .val (.int p5), .val (.int 3), .val (.ref u229), .val (.ref b235), .val (.int 1), .val (.int 2), .val (.int 0), .unset] [(.ref b235)])) rfl (by rw [hml]; rfl) (argsL := []) (rest := []) (lenOf pd_rm0_2 rfl) rfl (by exact Nat.le_refl _) (hb hby at_148)
        have s325 : Steps p.tables e below A₀ (T324.setTop (mkF m 184 #[.val (.int p0), .val (.int p1), .val (.int p2), .val (.int p3), .val (.int p4), .val (.int p5), .val (.int 3), .val (.ref u229), .val (.ref b235), .val (.int 1), .val (.int 2), .val (.int 0), .val (.int 0)] [(.int 1)])) := by
          refine s318.trans ?_
          show Steps p.tables e below (T317.setTop (mkF m 148 #[.val (.int p0), .val (.int p1), .val (.int p2), .val (.int p3), .val (.int p4), .val (.int p5), .val (.int 3), .val (.ref u229), .val (.ref b235), .val (.int 1), .val (.int 2), .val (.int 0), .unset] [(.ref b235)])) _
          refine st324 _ ?_
          refine XS.istore X324.here hx rfl (hb hby at_151) rfl (l' := #[.val (.int p0), .val (.int p1), .val (.int p2), .val (.int p3), .val (.int p4), .val (.int p5), .val (.int 3), .val (.ref u229), .val (.ref b235), .val (.int 1), .val (.int 2), .val (.int 0), .val (.int 0)]) rfl ?_
          refine XS.iload X324.here hx rfl (hb hby at_153) rfl ?_
          refine XS.ifNo X324.here hx rfl (hb hby at_155) rfl ((if0 _ _).trans (feq (by decide)).1) ?_
          refine XS.iload X324.here hx rfl (hb hby at_158) rfl ?_
          refine XS.iload X324.here hx rfl (hb hby at_160) rfl ?_
          refine XS.iload X324.here hx rfl (hb hby at_162) rfl ?_
          refine XS.icmpYes X324.here hx rfl (pc0 := 164) (pc' := 171) rfl (hb hby at_164) rfl (tlt hy319).1 (by decide) (by decide) ?_
          refine XS.iconst X324.here hx rfl (hb hby at_171) ?_
          refine XS.icmpNo X324.here hx rfl (hb hby at_172) rfl (teq (by decide)).2 ?_
          show Steps p.tables e below (T324.setTop (mkF m 175 #[.val (.int p0), .val (.int p1), .val (.int p2), .val (.int p3), .val (.int p4), .val (.int p5), .val (.int 3), .val (.ref u229), .val (.ref b235), .val (.int 1), .val (.int 2), .val (.int 0), .val (.int 0)] [])) _
          refine XS.iconst X324.here hx rfl (hb hby at_175) ?_
          refine XS.goto X324.here hx rfl (pc0 := 176) (pc' := 180) rfl (hb hby at_176) (by decide) (by decide) ?_
          refine XS.istore X324.here hx rfl (hb hby at_180) rfl (l' := #[.val (.int p0), .val (.int p1), .val (.int p2), .val (.int p3), .val (.int p4), .val (.int p5), .val (.int 3), .val (.ref u229), .val (.ref b235), .val (.int 1), .val (.int 2), .val (.int 0), .val (.int 0)]) rfl ?_
          refine XS.iload X324.here hx rfl (hb hby at_182) rfl ?_
          exact Steps.refl _
        subst hA₀
        obtain ⟨fs, hr, hrun, hended, -, hW, hIn, hsame⟩ := X324.leaveW hS237 (by rw [e324]; exact hkk317) (v := some (.int 1)) (fun h => by rw [Bd.returns] at h; cases h)
        refine ⟨_, _, s325.trans ?_, hrun, hended, _, _, rfl, ?_, ⟨_, rfl⟩, hW, hIn, hsame.mono (by decide) (by decide)⟩
        · show Steps p.tables e below (T324.setTop (mkF m 184 #[.val (.int p0), .val (.int p1), .val (.int p2), .val (.int p3), .val (.int p4), .val (.int p5), .val (.int 3), .val (.ref u229), .val (.ref b235), .val (.int 1), .val (.int 2), .val (.int 0), .val (.int 0)] [(.int 1)])) _
          exact retN X324 hx (t := .boolean) Bd.returns (by simp) (hb hby at_184) hr
        · show Q0 Z p0 p1 p2 p3 p4 p5 wc rg h0 n0 _ T324.heap _
          rw [e324]
          exact ⟨rfl, N324⟩
      · have c326 : Exa Z T317.heap u229 "java/lang/String" := (c311.keep Kc317)
        have c327 : Fld Z T317.heap u229 "java/lang/String" "value" "[B" (.ref u230) := (c312.keep Kc317 (ninS ne_u229_b235 nin0))
        have c328 : Fld Z T317.heap u229 "java/lang/String" "coder" "B" (.int u233) := (c313.keep Kc317 (ninS ne_u229_b235 nin0))
        have c329 : Arv Z T317.heap u230 u231 .byte u232 (u234.map Value.int) (.int 0) := (c314.keep Kc317 (ninS ne_u230_b235 nin0))
        obtain ⟨T330, L330, X330, e330, N330, st330⟩ := own_callVP X317 hx hZ237 hown237 (wk48 hw) (wk49 hw) (wk51 hw) (wk50 hw) (by decide) (wk36 hw) (wk52 hw) (rmate3_0 l Z a0 hw [] b235 wc u229 u230 u231 u232 u233 u234 p5 T317.heap n0 O317 f317_1 f317_2 c326 c327 c328 c329 F0_ hcs f228_5 hy319) (rfl : T317.heap = T317.heap) N317 (W := 0) (by decide) (by decide) (by decide) (by decide) f317_0 (g := (mkF m 148 #[.val (.int p0), .val (.int p1), .val (.int p2), .val (.int p3), .val (.int p4), .val (.int p5), .val (.int 3), .val (.ref u229), .val (.ref b235), .val (.int 1), .val (.int 2), .val (.int 0), .unset] [(.ref b235)])) rfl (by rw [hml]; rfl) (argsL := []) (rest := []) (lenOf pd_rm0_2 rfl) rfl (by exact Nat.le_refl _) (hb hby at_148)
        have s331 : Steps p.tables e below A₀ (T330.setTop (mkF m 184 #[.val (.int p0), .val (.int p1), .val (.int p2), .val (.int p3), .val (.int p4), .val (.int p5), .val (.int 3), .val (.ref u229), .val (.ref b235), .val (.int 1), .val (.int 2), .val (.int 0), .val (.int 1)] [(.int 1)])) := by
          refine s318.trans ?_
          show Steps p.tables e below (T317.setTop (mkF m 148 #[.val (.int p0), .val (.int p1), .val (.int p2), .val (.int p3), .val (.int p4), .val (.int p5), .val (.int 3), .val (.ref u229), .val (.ref b235), .val (.int 1), .val (.int 2), .val (.int 0), .unset] [(.ref b235)])) _
          refine st330 _ ?_
          refine XS.istore X330.here hx rfl (hb hby at_151) rfl (l' := #[.val (.int p0), .val (.int p1), .val (.int p2), .val (.int p3), .val (.int p4), .val (.int p5), .val (.int 3), .val (.ref u229), .val (.ref b235), .val (.int 1), .val (.int 2), .val (.int 0), .val (.int 1)]) rfl ?_
          refine XS.iload X330.here hx rfl (hb hby at_153) rfl ?_
          refine XS.ifNo X330.here hx rfl (hb hby at_155) rfl ((if0 _ _).trans (feq (by decide)).1) ?_
          refine XS.iload X330.here hx rfl (hb hby at_158) rfl ?_
          refine XS.iload X330.here hx rfl (hb hby at_160) rfl ?_
          refine XS.iload X330.here hx rfl (hb hby at_162) rfl ?_
          refine XS.icmpNo X330.here hx rfl (hb hby at_164) rfl (flt hy319).1 ?_
          refine XS.iconst X330.here hx rfl (hb hby at_167) ?_
          refine XS.goto X330.here hx rfl (pc0 := 168) (pc' := 172) rfl (hb hby at_168) (by decide) (by decide) ?_
          show Steps p.tables e below (T330.setTop (mkF m 172 #[.val (.int p0), .val (.int p1), .val (.int p2), .val (.int p3), .val (.int p4), .val (.int p5), .val (.int 3), .val (.ref u229), .val (.ref b235), .val (.int 1), .val (.int 2), .val (.int 0), .val (.int 1)] [(.int 1), (.int 1)])) _
          refine XS.icmpNo X330.here hx rfl (hb hby at_172) rfl (teq (by decide)).2 ?_
          refine XS.iconst X330.here hx rfl (hb hby at_175) ?_
          refine XS.goto X330.here hx rfl (pc0 := 176) (pc' := 180) rfl (hb hby at_176) (by decide) (by decide) ?_
          refine XS.istore X330.here hx rfl (hb hby at_180) rfl (l' := #[.val (.int p0), .val (.int p1), .val (.int p2), .val (.int p3), .val (.int p4), .val (.int p5), .val (.int 3), .val (.ref u229), .val (.ref b235), .val (.int 1), .val (.int 2), .val (.int 0), .val (.int 1)]) rfl ?_
          refine XS.iload X330.here hx rfl (hb hby at_182) rfl ?_
          exact Steps.refl _
        subst hA₀
        obtain ⟨fs, hr, hrun, hended, -, hW, hIn, hsame⟩ := X330.leaveW hS237 (by rw [e330]; exact hkk317) (v := some (.int 1)) (fun h => by rw [Bd.returns] at h; cases h)
        refine ⟨_, _, s331.trans ?_, hrun, hended, _, _, rfl, ?_, ⟨_, rfl⟩, hW, hIn, hsame.mono (by decide) (by decide)⟩
        · show Steps p.tables e below (T330.setTop (mkF m 184 #[.val (.int p0), .val (.int p1), .val (.int p2), .val (.int p3), .val (.int p4), .val (.int p5), .val (.int 3), .val (.ref u229), .val (.ref b235), .val (.int 1), .val (.int 2), .val (.int 0), .val (.int 1)] [(.int 1)])) _
          exact retN X330 hx (t := .boolean) Bd.returns (by simp) (hb hby at_184) hr
        · show Q0 Z p0 p1 p2 p3 p4 p5 wc rg h0 n0 _ T330.heap _
          rw [e330]
          exact ⟨rfl, N330⟩
    · have s332 := s252
      rw [hk253] at s332
      have s333 : Steps p.tables e below A₀ (T251.setTop (mkF m 75 #[.val (.int p0), .val (.int p1), .val (.int p2), .val (.int p3), .val (.int p4), .val (.int p5), .val (.int 3), .val (.ref u229), .val (.ref b235), .val (.int 1), .val (.int 3), .unset, .unset] [(.ref b235)])) := by
        refine s332.trans ?_
        refine XS.istore X251.here hx rfl (hb hby at_65) rfl (l' := #[.val (.int p0), .val (.int p1), .val (.int p2), .val (.int p3), .val (.int p4), .val (.int p5), .val (.int 3), .val (.ref u229), .val (.ref b235), .val (.int 1), .val (.int 3), .unset, .unset]) rfl ?_
        refine XS.iload X251.here hx rfl (hb hby at_67) rfl ?_
        refine XS.iconst X251.here hx rfl (hb hby at_69) ?_
        refine XS.icmpNo X251.here hx rfl (hb hby at_70) rfl (flt (by decide)).1 ?_
        refine XS.aload X251.here hx rfl (hb hby at_73) rfl rfl ?_
        exact Steps.refl _
      obtain ⟨cq334, kq334, q334a, q334b, q334c⟩ := isOf hZ237 e251 f243_0
      obtain ⟨_, _, ⟨T334, L334, k334, n334⟩, -, X334, ⟨Lc334, hQ334, l334, y334, z334⟩, st334⟩ := X251.virtualBack hx (y := (⟨"com/example/lintel/lintel/message/HeaderCursor", "next", "()C"⟩ : MethodName)) (z := (⟨"com/example/lintel/lintel/message/HeaderCursor", "next", "()C"⟩ : MethodName)) hown237 (mvT hZ237 (wq hw 94 rfl)) (mvT hZ237 (wq hw 95 rfl)) (notFace_of_selects (args := #[]) (mvT hZ237 (wq hw 97 rfl))) (mvT hZ237 (wq hw 97 rfl)) (mvT hZ237 (wq hw 96 rfl)) (by decide) (backOf (W := 0) (rmnxt3_0 l Z a0 hw [] b235 wc u229 u230 u231 u232 u233 u234 rg T243.heap n0 O243 f243_0 g_b235 (Ne.symm ne_u229_b235) (Ne.symm ne_u230_b235) f243_2 f243_1 c245 c246 c247 c248 F0_ F1_ F2_ F3_ F4_ F5_ hcs f228_5) hZ237 (wq hw 98 rfl) (wq hw 36 rfl) (by decide) (by decide)) q334a q334c (g := (mkF m 75 #[.val (.int p0), .val (.int p1), .val (.int p2), .val (.int p3), .val (.int p4), .val (.int p5), .val (.int 3), .val (.ref u229), .val (.ref b235), .val (.int 1), .val (.int 3), .unset, .unset] [(.ref b235)])) rfl (by rw [hml]; rfl) (Steps.refl _) (argsL := []) (rest := []) (lenOf pd_rm0_5 rfl) rfl (by exact Nat.le_refl _) (hb hby at_75) (fun _ _ => ⟨rfl, e251, (by decide : 7 + 0 ≤ _), (by decide : 43 + 0 ≤ _)⟩)
      dsimp only [Pt.U, Pt.locs, Pt.cells, Pt.slots] at X334 l334 y334 z334 st334 hQ334
      subst l334 y334 z334
      obtain ⟨u335, rfl, Nq334, Kc334, f334_0, f334_1, f334_2⟩ := hQ334
      have N334 := Fr.app N251 Nq334
      have O334 := O243.keep Kc334 (allS g_b235 all0)
      have hkk334 := Nat.le_trans hkk243 Kc334.1
      have s336 : Steps p.tables e below A₀ (T334.setTop (mkF m 87 #[.val (.int p0), .val (.int p1), .val (.int p2), .val (.int p3), .val (.int p4), .val (.int p5), .val (.int 3), .val (.ref u229), .val (.ref b235), .val (.int 1), .val (.int 3), .unset, .unset] [(.ref b235)])) := by
        refine s333.trans ?_
        show Steps p.tables e below (T251.setTop (mkF m 75 #[.val (.int p0), .val (.int p1), .val (.int p2), .val (.int p3), .val (.int p4), .val (.int p5), .val (.int 3), .val (.ref u229), .val (.ref b235), .val (.int 1), .val (.int 3), .unset, .unset] [(.ref b235)])) _
        refine st334.trans ?_
        refine XS.pop X334.here hx rfl (hb hby at_78) rfl rfl ?_
        refine XS.iload X334.here hx rfl (hb hby at_79) rfl ?_
        refine XS.iconst X334.here hx rfl (hb hby at_81) ?_
        refine XS.icmpNo X334.here hx rfl (hb hby at_82) rfl (flt (by decide)).1 ?_
        refine XS.aload X334.here hx rfl (hb hby at_85) rfl rfl ?_
        exact Steps.refl _
      have c337 : Exa Z T334.heap u229 "java/lang/String" := (c245.keep Kc334)
      have c338 : Fld Z T334.heap u229 "java/lang/String" "value" "[B" (.ref u230) := (c246.keep Kc334 (ninS ne_u229_b235 nin0))
      have c339 : Fld Z T334.heap u229 "java/lang/String" "coder" "B" (.int u233) := (c247.keep Kc334 (ninS ne_u229_b235 nin0))
      have c340 : Arv Z T334.heap u230 u231 .byte u232 (u234.map Value.int) (.int 0) := (c248.keep Kc334 (ninS ne_u230_b235 nin0))
      obtain ⟨cq341, kq341, q341a, q341b, q341c⟩ := isOf hZ237 (rfl : T334.heap = T334.heap) f334_0
      obtain ⟨_, _, ⟨T341, L341, k341, n341⟩, -, X341, ⟨Lc341, hQ341, l341, y341, z341⟩, st341⟩ := X334.virtualBack hx (y := (⟨"com/example/lintel/lintel/message/HeaderCursor", "next", "()C"⟩ : MethodName)) (z := (⟨"com/example/lintel/lintel/message/HeaderCursor", "next", "()C"⟩ : MethodName)) hown237 (mvT hZ237 (wq hw 94 rfl)) (mvT hZ237 (wq hw 95 rfl)) (notFace_of_selects (args := #[]) (mvT hZ237 (wq hw 97 rfl))) (mvT hZ237 (wq hw 97 rfl)) (mvT hZ237 (wq hw 96 rfl)) (by decide) (backOf (W := 0) (rmnxt3_1 l Z a0 hw [] b235 wc u229 u230 u231 u232 u233 u234 rg T334.heap n0 O334 f334_0 g_b235 (Ne.symm ne_u229_b235) (Ne.symm ne_u230_b235) f334_1 f334_2 c337 c338 c339 c340 F0_ F1_ F2_ F3_ F4_ F5_ hcs f228_5) hZ237 (wq hw 98 rfl) (wq hw 36 rfl) (by decide) (by decide)) q341a q341c (g := (mkF m 87 #[.val (.int p0), .val (.int p1), .val (.int p2), .val (.int p3), .val (.int p4), .val (.int p5), .val (.int 3), .val (.ref u229), .val (.ref b235), .val (.int 1), .val (.int 3), .unset, .unset] [(.ref b235)])) rfl (by rw [hml]; rfl) (Steps.refl _) (argsL := []) (rest := []) (lenOf pd_rm0_5 rfl) rfl (by exact Nat.le_refl _) (hb hby at_87) (fun _ _ => ⟨rfl, (rfl : T334.heap = T334.heap), (by decide : 7 + 0 ≤ _), (by decide : 43 + 0 ≤ _)⟩)
      dsimp only [Pt.U, Pt.locs, Pt.cells, Pt.slots] at X341 l341 y341 z341 st341 hQ341
      subst l341 y341 z341
      obtain ⟨u342, rfl, Nq341, Kc341, f341_0, f341_1, f341_2⟩ := hQ341
      have N341 := Fr.app N334 Nq341
      have O341 := O334.keep Kc341 (allS g_b235 all0)
      have hkk341 := Nat.le_trans hkk334 Kc341.1
      have s343 : Steps p.tables e below A₀ (T341.setTop (mkF m 99 #[.val (.int p0), .val (.int p1), .val (.int p2), .val (.int p3), .val (.int p4), .val (.int p5), .val (.int 3), .val (.ref u229), .val (.ref b235), .val (.int 1), .val (.int 3), .unset, .unset] [(.ref b235)])) := by
        refine s336.trans ?_
        show Steps p.tables e below (T334.setTop (mkF m 87 #[.val (.int p0), .val (.int p1), .val (.int p2), .val (.int p3), .val (.int p4), .val (.int p5), .val (.int 3), .val (.ref u229), .val (.ref b235), .val (.int 1), .val (.int 3), .unset, .unset] [(.ref b235)])) _
        refine st341.trans ?_
        refine XS.pop X341.here hx rfl (hb hby at_90) rfl rfl ?_
        refine XS.iload X341.here hx rfl (hb hby at_91) rfl ?_
        refine XS.iconst X341.here hx rfl (hb hby at_93) ?_
        refine XS.icmpNo X341.here hx rfl (hb hby at_94) rfl (flt (by decide)).1 ?_
        refine XS.aload X341.here hx rfl (hb hby at_97) rfl rfl ?_
        exact Steps.refl _
      have c344 : Exa Z T341.heap u229 "java/lang/String" := (c337.keep Kc341)
      have c345 : Fld Z T341.heap u229 "java/lang/String" "value" "[B" (.ref u230) := (c338.keep Kc341 (ninS ne_u229_b235 nin0))
      have c346 : Fld Z T341.heap u229 "java/lang/String" "coder" "B" (.int u233) := (c339.keep Kc341 (ninS ne_u229_b235 nin0))
      have c347 : Arv Z T341.heap u230 u231 .byte u232 (u234.map Value.int) (.int 0) := (c340.keep Kc341 (ninS ne_u230_b235 nin0))
      obtain ⟨cq348, kq348, q348a, q348b, q348c⟩ := isOf hZ237 (rfl : T341.heap = T341.heap) f341_0
      obtain ⟨_, _, ⟨T348, L348, k348, n348⟩, -, X348, ⟨Lc348, hQ348, l348, y348, z348⟩, st348⟩ := X341.virtualBack hx (y := (⟨"com/example/lintel/lintel/message/HeaderCursor", "next", "()C"⟩ : MethodName)) (z := (⟨"com/example/lintel/lintel/message/HeaderCursor", "next", "()C"⟩ : MethodName)) hown237 (mvT hZ237 (wq hw 94 rfl)) (mvT hZ237 (wq hw 95 rfl)) (notFace_of_selects (args := #[]) (mvT hZ237 (wq hw 97 rfl))) (mvT hZ237 (wq hw 97 rfl)) (mvT hZ237 (wq hw 96 rfl)) (by decide) (backOf (W := 0) (rmnxt3_2 l Z a0 hw [] b235 wc u229 u230 u231 u232 u233 u234 rg T341.heap n0 O341 f341_0 g_b235 (Ne.symm ne_u229_b235) (Ne.symm ne_u230_b235) f341_1 f341_2 c344 c345 c346 c347 F0_ F1_ F2_ F3_ F4_ F5_ hcs f228_5) hZ237 (wq hw 98 rfl) (wq hw 36 rfl) (by decide) (by decide)) q348a q348c (g := (mkF m 99 #[.val (.int p0), .val (.int p1), .val (.int p2), .val (.int p3), .val (.int p4), .val (.int p5), .val (.int 3), .val (.ref u229), .val (.ref b235), .val (.int 1), .val (.int 3), .unset, .unset] [(.ref b235)])) rfl (by rw [hml]; rfl) (Steps.refl _) (argsL := []) (rest := []) (lenOf pd_rm0_5 rfl) rfl (by exact Nat.le_refl _) (hb hby at_99) (fun _ _ => ⟨rfl, (rfl : T341.heap = T341.heap), (by decide : 7 + 0 ≤ _), (by decide : 43 + 0 ≤ _)⟩)
      dsimp only [Pt.U, Pt.locs, Pt.cells, Pt.slots] at X348 l348 y348 z348 st348 hQ348
      subst l348 y348 z348
      obtain ⟨u349, rfl, Nq348, Kc348, f348_0, f348_1, f348_2⟩ := hQ348
      have N348 := Fr.app N341 Nq348
      have O348 := O341.keep Kc348 (allS g_b235 all0)
      have hkk348 := Nat.le_trans hkk341 Kc348.1
      have s350 : Steps p.tables e below A₀ (T348.setTop (mkF m 105 #[.val (.int p0), .val (.int p1), .val (.int p2), .val (.int p3), .val (.int p4), .val (.int p5), .val (.int 3), .val (.ref u229), .val (.ref b235), .val (.int 1), .val (.int 3), .unset, .unset] [(.ref b235)])) := by
        refine s343.trans ?_
        show Steps p.tables e below (T341.setTop (mkF m 99 #[.val (.int p0), .val (.int p1), .val (.int p2), .val (.int p3), .val (.int p4), .val (.int p5), .val (.int 3), .val (.ref u229), .val (.ref b235), .val (.int 1), .val (.int 3), .unset, .unset] [(.ref b235)])) _
        refine st348.trans ?_
        refine XS.pop X348.here hx rfl (hb hby at_102) rfl rfl ?_
        refine XS.aload X348.here hx rfl (hb hby at_103) rfl rfl ?_
        exact Steps.refl _
      have c351 : Exa Z T348.heap u229 "java/lang/String" := (c344.keep Kc348)
      have c352 : Fld Z T348.heap u229 "java/lang/String" "value" "[B" (.ref u230) := (c345.keep Kc348 (ninS ne_u229_b235 nin0))
      have c353 : Fld Z T348.heap u229 "java/lang/String" "coder" "B" (.int u233) := (c346.keep Kc348 (ninS ne_u229_b235 nin0))
      have c354 : Arv Z T348.heap u230 u231 .byte u232 (u234.map Value.int) (.int 0) := (c347.keep Kc348 (ninS ne_u230_b235 nin0))
      obtain ⟨T355, L355, X355, e355, N355, st355⟩ := own_callVP X348 hx hZ237 hown237 (wk48 hw) (wk49 hw) (wk51 hw) (wk50 hw) (by decide) (wk36 hw) (wk52 hw) (rmate3_0 l Z a0 hw [] b235 wc u229 u230 u231 u232 u233 u234 (3 : Int32) T348.heap n0 O348 f348_1 f348_2 c351 c352 c353 c354 F0_ hcs f228_5 (by decide)) (rfl : T348.heap = T348.heap) N348 (W := 0) (by decide) (by decide) (by decide) (by decide) f348_0 (g := (mkF m 105 #[.val (.int p0), .val (.int p1), .val (.int p2), .val (.int p3), .val (.int p4), .val (.int p5), .val (.int 3), .val (.ref u229), .val (.ref b235), .val (.int 1), .val (.int 3), .unset, .unset] [(.ref b235)])) rfl (by rw [hml]; rfl) (argsL := []) (rest := []) (lenOf pd_rm0_2 rfl) rfl (by exact Nat.le_refl _) (hb hby at_105)
      have s356 : Steps p.tables e below A₀ (T355.setTop (mkF m 143 #[.val (.int p0), .val (.int p1), .val (.int p2), .val (.int p3), .val (.int p4), .val (.int p5), .val (.int 3), .val (.ref u229), .val (.ref b235), .val (.int 1), .val (.int 3), .val (.int 1), .unset] [(.int p5), (.ref b235)])) := by
        refine s350.trans ?_
        show Steps p.tables e below (T348.setTop (mkF m 105 #[.val (.int p0), .val (.int p1), .val (.int p2), .val (.int p3), .val (.int p4), .val (.int p5), .val (.int 3), .val (.ref u229), .val (.ref b235), .val (.int 1), .val (.int 3), .unset, .unset] [(.ref b235)])) _
        refine st355 _ ?_
        refine XS.istore X355.here hx rfl (hb hby at_108) rfl (l' := #[.val (.int p0), .val (.int p1), .val (.int p2), .val (.int p3), .val (.int p4), .val (.int p5), .val (.int 3), .val (.ref u229), .val (.ref b235), .val (.int 1), .val (.int 3), .val (.int 1), .unset]) rfl ?_
        refine XS.iload X355.here hx rfl (hb hby at_110) rfl ?_
        refine XS.ifNo X355.here hx rfl (hb hby at_112) rfl ((if0 _ _).trans (feq (by decide)).1) ?_
        refine XS.iload X355.here hx rfl (hb hby at_115) rfl ?_
        refine XS.iload X355.here hx rfl (hb hby at_117) rfl ?_
        refine XS.iload X355.here hx rfl (hb hby at_119) rfl ?_
        refine XS.icmpNo X355.here hx rfl (hb hby at_121) rfl (teq (by decide)).2 ?_
        refine XS.iconst X355.here hx rfl (hb hby at_124) ?_
        refine XS.goto X355.here hx rfl (pc0 := 125) (pc' := 129) rfl (hb hby at_125) (by decide) (by decide) ?_
        show Steps p.tables e below (T355.setTop (mkF m 129 #[.val (.int p0), .val (.int p1), .val (.int p2), .val (.int p3), .val (.int p4), .val (.int p5), .val (.int 3), .val (.ref u229), .val (.ref b235), .val (.int 1), .val (.int 3), .val (.int 1), .unset] [(.int 1), (.int 1)])) _
        refine XS.icmpNo X355.here hx rfl (hb hby at_129) rfl (teq (by decide)).2 ?_
        refine XS.iconst X355.here hx rfl (hb hby at_132) ?_
        refine XS.goto X355.here hx rfl (pc0 := 133) (pc' := 137) rfl (hb hby at_133) (by decide) (by decide) ?_
        refine XS.istore X355.here hx rfl (hb hby at_137) rfl (l' := #[.val (.int p0), .val (.int p1), .val (.int p2), .val (.int p3), .val (.int p4), .val (.int p5), .val (.int 3), .val (.ref u229), .val (.ref b235), .val (.int 1), .val (.int 3), .val (.int 1), .unset]) rfl ?_
        refine XS.aload X355.here hx rfl (hb hby at_139) rfl rfl ?_
        refine XS.iload X355.here hx rfl (hb hby at_141) rfl ?_
        exact Steps.refl _
      obtain ⟨cq357, kq357, q357a, q357b, q357c⟩ := isOf hZ237 e355 f348_0
      obtain ⟨_, _, ⟨T357, L357, k357, n357⟩, -, X357, ⟨Lc357, hQ357, l357, y357, z357⟩, st357⟩ := X355.virtualBack hx (y := (⟨"com/example/lintel/lintel/message/HeaderCursor", "reset", "(I)V"⟩ : MethodName)) (z := (⟨"com/example/lintel/lintel/message/HeaderCursor", "reset", "(I)V"⟩ : MethodName)) hown237 (mvT hZ237 (wq hw 69 rfl)) (mvT hZ237 (wq hw 70 rfl)) (notFace_of_selects (args := #[]) (mvT hZ237 (wq hw 72 rfl))) (mvT hZ237 (wq hw 72 rfl)) (mvT hZ237 (wq hw 71 rfl)) (by decide) (backOf (W := 0) (rm13 l Z a0 hw [] b235 p5 (3 : Int32) u229 T348.heap n0 O348 f348_0 f348_1 f348_2 g_b235) hZ237 (wq hw 73 rfl) (wq hw 36 rfl) (by decide) (by decide)) q357a q357c (g := (mkF m 143 #[.val (.int p0), .val (.int p1), .val (.int p2), .val (.int p3), .val (.int p4), .val (.int p5), .val (.int 3), .val (.ref u229), .val (.ref b235), .val (.int 1), .val (.int 3), .val (.int 1), .unset] [(.int p5), (.ref b235)])) rfl (by rw [hml]; rfl) (Steps.refl _) (argsL := [(.int p5)]) (rest := []) (lenOf pd_rm0_4 rfl) rfl (by exact Nat.le_refl _) (hb hby at_143) (fun _ _ => ⟨rfl, e355, (by decide : 7 + 0 ≤ _), (by decide : 43 + 0 ≤ _)⟩)
      dsimp only [Pt.U, Pt.locs, Pt.cells, Pt.slots] at X357 l357 y357 z357 st357 hQ357
      subst l357 y357 z357
      obtain ⟨rfl, Nq357, Kc357, f357_0, f357_1, f357_2⟩ := hQ357
      have N357 := Fr.app N355 Nq357
      have O357 := O348.keep Kc357 (allS g_b235 all0)
      have hkk357 := Nat.le_trans hkk348 Kc357.1
      have s358 : Steps p.tables e below A₀ (T357.setTop (mkF m 148 #[.val (.int p0), .val (.int p1), .val (.int p2), .val (.int p3), .val (.int p4), .val (.int p5), .val (.int 3), .val (.ref u229), .val (.ref b235), .val (.int 1), .val (.int 3), .val (.int 1), .unset] [(.ref b235)])) := by
        refine s356.trans ?_
        show Steps p.tables e below (T355.setTop (mkF m 143 #[.val (.int p0), .val (.int p1), .val (.int p2), .val (.int p3), .val (.int p4), .val (.int p5), .val (.int 3), .val (.ref u229), .val (.ref b235), .val (.int 1), .val (.int 3), .val (.int 1), .unset] [(.int p5), (.ref b235)])) _
        refine st357.trans ?_
        refine XS.aload X357.here hx rfl (hb hby at_146) rfl rfl ?_
        exact Steps.refl _
      by_cases hy359 : p5 < (3 : Int32)
      · have c360 : Exa Z T357.heap u229 "java/lang/String" := (c351.keep Kc357)
        have c361 : Fld Z T357.heap u229 "java/lang/String" "value" "[B" (.ref u230) := (c352.keep Kc357 (ninS ne_u229_b235 nin0))
        have c362 : Fld Z T357.heap u229 "java/lang/String" "coder" "B" (.int u233) := (c353.keep Kc357 (ninS ne_u229_b235 nin0))
        have c363 : Arv Z T357.heap u230 u231 .byte u232 (u234.map Value.int) (.int 0) := (c354.keep Kc357 (ninS ne_u230_b235 nin0))
        obtain ⟨T364, L364, X364, e364, N364, st364⟩ := own_callVP X357 hx hZ237 hown237 (wk48 hw) (wk49 hw) (wk51 hw) (wk50 hw) (by decide) (wk36 hw) (wk52 hw) (rmate3_1 l Z a0 hw [] b235 wc u229 u230 u231 u232 u233 u234 p5 T357.heap n0 O357 f357_1 f357_2 c360 c361 c362 c363 F0_ hcs f228_5 hy359) (rfl : T357.heap = T357.heap) N357 (W := 0) (by decide) (by decide) (by decide) (by decide) f357_0 (g := (mkF m 148 #[.val (.int p0), .val (.int p1), .val (.int p2), .val (.int p3), .val (.int p4), .val (.int p5), .val (.int 3), .val (.ref u229), .val (.ref b235), .val (.int 1), .val (.int 3), .val (.int 1), .unset] [(.ref b235)])) rfl (by rw [hml]; rfl) (argsL := []) (rest := []) (lenOf pd_rm0_2 rfl) rfl (by exact Nat.le_refl _) (hb hby at_148)
        have s365 : Steps p.tables e below A₀ (T364.setTop (mkF m 184 #[.val (.int p0), .val (.int p1), .val (.int p2), .val (.int p3), .val (.int p4), .val (.int p5), .val (.int 3), .val (.ref u229), .val (.ref b235), .val (.int 1), .val (.int 3), .val (.int 1), .val (.int 0)] [(.int 1)])) := by
          refine s358.trans ?_
          show Steps p.tables e below (T357.setTop (mkF m 148 #[.val (.int p0), .val (.int p1), .val (.int p2), .val (.int p3), .val (.int p4), .val (.int p5), .val (.int 3), .val (.ref u229), .val (.ref b235), .val (.int 1), .val (.int 3), .val (.int 1), .unset] [(.ref b235)])) _
          refine st364 _ ?_
          refine XS.istore X364.here hx rfl (hb hby at_151) rfl (l' := #[.val (.int p0), .val (.int p1), .val (.int p2), .val (.int p3), .val (.int p4), .val (.int p5), .val (.int 3), .val (.ref u229), .val (.ref b235), .val (.int 1), .val (.int 3), .val (.int 1), .val (.int 0)]) rfl ?_
          refine XS.iload X364.here hx rfl (hb hby at_153) rfl ?_
          refine XS.ifNo X364.here hx rfl (hb hby at_155) rfl ((if0 _ _).trans (feq (by decide)).1) ?_
          refine XS.iload X364.here hx rfl (hb hby at_158) rfl ?_
          refine XS.iload X364.here hx rfl (hb hby at_160) rfl ?_
          refine XS.iload X364.here hx rfl (hb hby at_162) rfl ?_
          refine XS.icmpYes X364.here hx rfl (pc0 := 164) (pc' := 171) rfl (hb hby at_164) rfl (tlt hy359).1 (by decide) (by decide) ?_
          refine XS.iconst X364.here hx rfl (hb hby at_171) ?_
          refine XS.icmpNo X364.here hx rfl (hb hby at_172) rfl (teq (by decide)).2 ?_
          show Steps p.tables e below (T364.setTop (mkF m 175 #[.val (.int p0), .val (.int p1), .val (.int p2), .val (.int p3), .val (.int p4), .val (.int p5), .val (.int 3), .val (.ref u229), .val (.ref b235), .val (.int 1), .val (.int 3), .val (.int 1), .val (.int 0)] [])) _
          refine XS.iconst X364.here hx rfl (hb hby at_175) ?_
          refine XS.goto X364.here hx rfl (pc0 := 176) (pc' := 180) rfl (hb hby at_176) (by decide) (by decide) ?_
          refine XS.istore X364.here hx rfl (hb hby at_180) rfl (l' := #[.val (.int p0), .val (.int p1), .val (.int p2), .val (.int p3), .val (.int p4), .val (.int p5), .val (.int 3), .val (.ref u229), .val (.ref b235), .val (.int 1), .val (.int 3), .val (.int 1), .val (.int 0)]) rfl ?_
          refine XS.iload X364.here hx rfl (hb hby at_182) rfl ?_
          exact Steps.refl _
        subst hA₀
        obtain ⟨fs, hr, hrun, hended, -, hW, hIn, hsame⟩ := X364.leaveW hS237 (by rw [e364]; exact hkk357) (v := some (.int 1)) (fun h => by rw [Bd.returns] at h; cases h)
        refine ⟨_, _, s365.trans ?_, hrun, hended, _, _, rfl, ?_, ⟨_, rfl⟩, hW, hIn, hsame.mono (by decide) (by decide)⟩
        · show Steps p.tables e below (T364.setTop (mkF m 184 #[.val (.int p0), .val (.int p1), .val (.int p2), .val (.int p3), .val (.int p4), .val (.int p5), .val (.int 3), .val (.ref u229), .val (.ref b235), .val (.int 1), .val (.int 3), .val (.int 1), .val (.int 0)] [(.int 1)])) _
          exact retN X364 hx (t := .boolean) Bd.returns (by simp) (hb hby at_184) hr
        · show Q0 Z p0 p1 p2 p3 p4 p5 wc rg h0 n0 _ T364.heap _
          rw [e364]
          exact ⟨rfl, N364⟩
      · have c366 : Exa Z T357.heap u229 "java/lang/String" := (c351.keep Kc357)
        have c367 : Fld Z T357.heap u229 "java/lang/String" "value" "[B" (.ref u230) := (c352.keep Kc357 (ninS ne_u229_b235 nin0))
        have c368 : Fld Z T357.heap u229 "java/lang/String" "coder" "B" (.int u233) := (c353.keep Kc357 (ninS ne_u229_b235 nin0))
        have c369 : Arv Z T357.heap u230 u231 .byte u232 (u234.map Value.int) (.int 0) := (c354.keep Kc357 (ninS ne_u230_b235 nin0))
        obtain ⟨T370, L370, X370, e370, N370, st370⟩ := own_callVP X357 hx hZ237 hown237 (wk48 hw) (wk49 hw) (wk51 hw) (wk50 hw) (by decide) (wk36 hw) (wk52 hw) (rmate3_0 l Z a0 hw [] b235 wc u229 u230 u231 u232 u233 u234 p5 T357.heap n0 O357 f357_1 f357_2 c366 c367 c368 c369 F0_ hcs f228_5 hy359) (rfl : T357.heap = T357.heap) N357 (W := 0) (by decide) (by decide) (by decide) (by decide) f357_0 (g := (mkF m 148 #[.val (.int p0), .val (.int p1), .val (.int p2), .val (.int p3), .val (.int p4), .val (.int p5), .val (.int 3), .val (.ref u229), .val (.ref b235), .val (.int 1), .val (.int 3), .val (.int 1), .unset] [(.ref b235)])) rfl (by rw [hml]; rfl) (argsL := []) (rest := []) (lenOf pd_rm0_2 rfl) rfl (by exact Nat.le_refl _) (hb hby at_148)
        have s371 : Steps p.tables e below A₀ (T370.setTop (mkF m 184 #[.val (.int p0), .val (.int p1), .val (.int p2), .val (.int p3), .val (.int p4), .val (.int p5), .val (.int 3), .val (.ref u229), .val (.ref b235), .val (.int 1), .val (.int 3), .val (.int 1), .val (.int 1)] [(.int 1)])) := by
          refine s358.trans ?_
          show Steps p.tables e below (T357.setTop (mkF m 148 #[.val (.int p0), .val (.int p1), .val (.int p2), .val (.int p3), .val (.int p4), .val (.int p5), .val (.int 3), .val (.ref u229), .val (.ref b235), .val (.int 1), .val (.int 3), .val (.int 1), .unset] [(.ref b235)])) _
          refine st370 _ ?_
          refine XS.istore X370.here hx rfl (hb hby at_151) rfl (l' := #[.val (.int p0), .val (.int p1), .val (.int p2), .val (.int p3), .val (.int p4), .val (.int p5), .val (.int 3), .val (.ref u229), .val (.ref b235), .val (.int 1), .val (.int 3), .val (.int 1), .val (.int 1)]) rfl ?_
          refine XS.iload X370.here hx rfl (hb hby at_153) rfl ?_
          refine XS.ifNo X370.here hx rfl (hb hby at_155) rfl ((if0 _ _).trans (feq (by decide)).1) ?_
          refine XS.iload X370.here hx rfl (hb hby at_158) rfl ?_
          refine XS.iload X370.here hx rfl (hb hby at_160) rfl ?_
          refine XS.iload X370.here hx rfl (hb hby at_162) rfl ?_
          refine XS.icmpNo X370.here hx rfl (hb hby at_164) rfl (flt hy359).1 ?_
          refine XS.iconst X370.here hx rfl (hb hby at_167) ?_
          refine XS.goto X370.here hx rfl (pc0 := 168) (pc' := 172) rfl (hb hby at_168) (by decide) (by decide) ?_
          show Steps p.tables e below (T370.setTop (mkF m 172 #[.val (.int p0), .val (.int p1), .val (.int p2), .val (.int p3), .val (.int p4), .val (.int p5), .val (.int 3), .val (.ref u229), .val (.ref b235), .val (.int 1), .val (.int 3), .val (.int 1), .val (.int 1)] [(.int 1), (.int 1)])) _
          refine XS.icmpNo X370.here hx rfl (hb hby at_172) rfl (teq (by decide)).2 ?_
          refine XS.iconst X370.here hx rfl (hb hby at_175) ?_
          refine XS.goto X370.here hx rfl (pc0 := 176) (pc' := 180) rfl (hb hby at_176) (by decide) (by decide) ?_
          refine XS.istore X370.here hx rfl (hb hby at_180) rfl (l' := #[.val (.int p0), .val (.int p1), .val (.int p2), .val (.int p3), .val (.int p4), .val (.int p5), .val (.int 3), .val (.ref u229), .val (.ref b235), .val (.int 1), .val (.int 3), .val (.int 1), .val (.int 1)]) rfl ?_
          refine XS.iload X370.here hx rfl (hb hby at_182) rfl ?_
          exact Steps.refl _
        subst hA₀
        obtain ⟨fs, hr, hrun, hended, -, hW, hIn, hsame⟩ := X370.leaveW hS237 (by rw [e370]; exact hkk357) (v := some (.int 1)) (fun h => by rw [Bd.returns] at h; cases h)
        refine ⟨_, _, s371.trans ?_, hrun, hended, _, _, rfl, ?_, ⟨_, rfl⟩, hW, hIn, hsame.mono (by decide) (by decide)⟩
        · show Steps p.tables e below (T370.setTop (mkF m 184 #[.val (.int p0), .val (.int p1), .val (.int p2), .val (.int p3), .val (.int p4), .val (.int p5), .val (.int 3), .val (.ref u229), .val (.ref b235), .val (.int 1), .val (.int 3), .val (.int 1), .val (.int 1)] [(.int 1)])) _
          exact retN X370 hx (t := .boolean) Bd.returns (by simp) (hb hby at_184) hr
        · show Q0 Z p0 p1 p2 p3 p4 p5 wc rg h0 n0 _ T370.heap _
          rw [e370]
          exact ⟨rfl, N370⟩
set_option maxRecDepth 65536 in
set_option maxHeartbeats 40000000 in
theorem comes_1 {Post : Tables → Env → Array Value → State → Outcome → State → Prop} (hpost : ∀ tb e args s v u, (limb_1_1.after args s (.returned v) u = true ∧ limb_1_2.after args s (.returned v) u = true ∧ True) → ReturnedEndW s (.returned v) u (Jvm.fieldLocs frame_1_writes args s ++ Jvm.arrayLocs frame_1_arrays args s ++ Jvm.staticLocs frame_1_statics s) 24 2176 → Post tb e args s (.returned v) u) :
    ArmFor flags0 classFile x code maxLocals ret World_1 tables_1 room_1 Calls_1 rest_1 Pre_1 Post := by
  intro l hfl _ _ p e ha hc hk s m args below hf hA hF happ hP
  obtain ⟨hcalls, hrest, hpre⟩ := hP
  obtain ⟨-, -, -, hnamed, -, -, -, hat⟩ := (Spec.applies_iff hf).mp happ
  obtain ⟨hg, hn⟩ := and_e (Cond.before_iff.mp (show (Jvm.Cond.and given_1 narrow_1).before args s = true from hpre))
  obtain ⟨gc, gk0⟩ := and_e hg
  obtain ⟨ga0, gk1⟩ := and_e gk0
  obtain ⟨ga1, gk2⟩ := and_e gk1
  obtain ⟨ga2, gk3⟩ := and_e gk2
  obtain ⟨ga3, gk4⟩ := and_e gk3
  obtain ⟨ga4, gk5⟩ := and_e gk4
  obtain ⟨w0, w1, w2, w3, w4, w5, rfl⟩ : ∃ w0 w1 w2 w3 w4 w5 : Value, args = #[w0, w1, w2, w3, w4, w5] := by
    have hs : args.size = 6 := by simpa [Cond.value, given_1] using gc
    obtain ⟨L⟩ := args
    match L, hs with
    | [w0, w1, w2, w3, w4, w5], _ => exact ⟨w0, w1, w2, w3, w4, w5, rfl⟩
  have hw := fun d (hd : d ∈ tables_1) => atoms_spec (ws := Jvm.Cond.code x code maxLocals ret :: tables_1) hat d (List.mem_cons_of_mem _ hd)
  have hfit : Fit s := fun {y c} hc i hi => by
    obtain ⟨ha, rfl⟩ := Array.getElem?_eq_some_iff.mp hc
    have q := List.all_eq_true.mp ((Array.all_eq_true_iff_forall_mem.mp hF) _ (Array.getElem_mem ha)) i (List.mem_range.mpr hi)
    simpa [Array.getElem?_eq_getElem hi] using q
  obtain ⟨hsets, hown0⟩ := atoms_of _ (rest_1_c_eq ▸ (show rest_1_c.before _ s = true from hrest))
  have hr0 := Cond.before_iff.mp hown0
  obtain ⟨i0, ei0⟩ := is_v ga0
  obtain rfl : w0 = (.int i0) := Option.some.inj ei0
  obtain ⟨i1, ei1⟩ := is_v ga1
  obtain rfl : w1 = (.int i1) := Option.some.inj ei1
  obtain ⟨i2, ei2⟩ := is_v ga2
  obtain rfl : w2 = (.int i2) := Option.some.inj ei2
  obtain ⟨i3, ei3⟩ := is_v ga3
  obtain rfl : w3 = (.int i3) := Option.some.inj ei3
  obtain ⟨i4, ei4⟩ := is_v ga4
  obtain rfl : w4 = (.int i4) := Option.some.inj ei4
  obtain ⟨i5, ei5⟩ := is_v gk5
  obtain rfl : w5 = (.int i5) := Option.some.inj ei5
  obtain ⟨wc, ewc⟩ := is_v (Cond.before_iff.mp (hsets _ (List.mem_of_getElem? (i := 1) rfl)))
  have Sc := Sta.start ewc (Or.inl (hsets _ (List.mem_of_getElem? (i := 0) rfl)))
  have hcs : ¬ (wc = (0 : Int32)) := gotF (Cond.eq_ints ewc (Term.int_eval 0)) (not_v (r := true) (Cond.before_iff.mp (hsets _ (List.mem_of_getElem? (i := 2) rfl))))
  obtain ⟨rg, erg, hrg⟩ := isR_v (Cond.before_iff.mp (hsets _ (List.mem_of_getElem? (i := 8) rfl)))
  have Sg := Sta.start erg (Or.inl (hsets _ (List.mem_of_getElem? (i := 7) rfl)))
  have Su0 := Sta.start (own_eq_int (Cond.before_iff.mp (hsets _ (List.mem_of_getElem? (i := 12) rfl)))) (Or.inl (hsets _ (List.mem_of_getElem? (i := 11) rfl)))
  have Su1 := Sta.start (own_eq_int (Cond.before_iff.mp (hsets _ (List.mem_of_getElem? (i := 15) rfl)))) (Or.inl (hsets _ (List.mem_of_getElem? (i := 14) rfl)))
  have Su2 := Sta.start (own_eq_int (Cond.before_iff.mp (hsets _ (List.mem_of_getElem? (i := 18) rfl)))) (Or.inl (hsets _ (List.mem_of_getElem? (i := 17) rfl)))
  have hheld : Jvm.Lit.constHeld s "java/lang/String" 7 := hcalls.1 ("java/lang/String", 7) (List.mem_of_getElem? (i := 1) rfl)
  have hcw := (hsets _ (List.mem_of_getElem? (i := 2) rfl))
  obtain ⟨n, o, h1, h2, h3, _, L, rfl, ⟨rfl, N⟩, hq⟩ := rm0 l s _ hw tables_1 i0 i1 i2 i3 i4 i5 wc rg s.heap s.heap.size (Old.start s) Sc Sg hrg Su0 Su1 Su2 hcs hheld hcw p e ha hc hk s m _ below hf ((Spec.applies_iff_loose hf).mp happ).1 ⟨rfl, State.Warmed39.refl s, rfl, Or.inl IB.start⟩ trivial
  refine ⟨n, _, h1, h2, h3, hpost _ _ _ _ _ _ ⟨Cond.after_iff.mpr rfl, Cond.after_iff.mpr (eq_i res_at (Term.int_eval (1)) rfl), trivial⟩ ⟨hq.1, hq.2.1, hq.2.2.1, (hq.2.2.2.sift fun y hy => Or.inr (N y hy)).mono (by decide) (by decide)⟩⟩
theorem main_1_1 : Claimed_1_1 := comes_1 fun _ _ _ _ _ _ h hF => ⟨h.1, hF⟩
theorem main_1_2 : Claimed_1_2 := comes_1 fun _ _ _ _ _ _ h hF => ⟨h.2.1, hF⟩
end Jvm.Pilot.@@N@@
namespace Jvm.Pilot.@@N@@
open Jvm Jvm.ClassFile Sem Op Lib Jvm.Free Jvm.Stand Jvm.Pilot.@@N@@.Jvm.D
/-! MADE BY PROGRAM (witnessworld.py) out of the Statement's table words and the real class files: 21 classes; the members and pool entries that the words name. The judged class is class 1, her method 2. -/
namespace start1
open Jvm.ClassFile
def u (s : String) : CpInfo := .utf8 (stringToUtf16 s)
/-- a pool by its gaps: so many unusable entries, then the entry; so many at the end -/
def gap : Nat → List CpInfo → List CpInfo
  | 0, r => r
  | n + 1, r => .unusable :: gap n r
def poolList (es : List (Nat × CpInfo)) (last : Nat) : List CpInfo := es.foldr (fun e r => gap e.1 (e.2 :: r)) (gap last [])
def pool (es : List (Nat × CpInfo)) (last : Nat) : Array CpInfo := ⟨poolList es last⟩
def fileOf (pool : Array CpInfo) (this : Nat) (attrs : Array Attribute := #[]) (ms : Array MethodInfo := #[]) (fl : Nat := 33) (sup : Nat := 0) (ifs : Array Nat := #[]) (fds : Array FieldInfo := #[]) : ClassFile where
  minorVersion := 0
  majorVersion := 65
  constantPool := pool
  accessFlags := fl
  thisClass := this
  superClass := sup
  interfaces := ifs
  fields := fds
  methods := ms
  attributes := attrs
def plain (name : String) (sup : Option ClassId) : Class where
  name := name
  kind := .ordinary
  loader := none
  accessFlags := 33
  super := sup
  interfaces := #[]
  cf := none
  fields := #[]
  methods := #[]
  instanceTypes := #[]
  staticTypes := #[]
  resolved := #[]
  callSites := []
  init := .initialized
  statics := none
  mirror := none

def pool0 : Array CpInfo := pool [(5, u "<init>"), (0, u "()V"), (1, .class_ 10), (1, u "java/lang/Object")] 113

def k0c0 : Code := { maxStack := 0, maxLocals := 1, code := object_method_1_code, exceptionTable := #[], attributes := #[] }
def k0m0 : Method := { name := "<init>", desc := "()V", sig := { parameters := [], returnType := none }, accessFlags := 1, code := some k0c0 }
/-- java/lang/Object -/
def k0 : Class := { plain "java/lang/Object" none with
  accessFlags := 33
  interfaces := #[]
  cf := some (fileOf pool0 8 #[] #[{ accessFlags := 1, nameIndex := 5, descriptorIndex := 6, attributes := #[] }] 33 0 #[] #[])
  fields := #[]
  methods := #[k0m0]
  instanceTypes := #[]
  staticTypes := #[]
  resolved := Array.replicate 124 none
  statics := none }

def pool1 : Array CpInfo := pool [(2, .class_ 4), (1, u "java/lang/Object"), (0, u "<init>"), (0, u "()V"), (0, .class_ 8), (0, u "java/lang/String"), (0, .methodref 7 10), (0, .nameAndType 5 11), (0, u "([C)V"), (0, .methodref 13 14), (0, .class_ 15), (0, .nameAndType 16 17), (0, u "com/example/lintel/lintel/message/HeaderCursorAtEndPinLaw"), (0, u "make"), (0, u "(ICCC)Ljava/lang/String;"), (0, .class_ 19), (0, u "com/example/lintel/lintel/message/HeaderCursor"), (0, .string 21), (0, u "value"), (0, .methodref 18 23), (0, .nameAndType 5 24), (0, u "(Ljava/lang/String;Ljava/lang/String;)V"), (0, .methodref 18 26), (0, .nameAndType 27 28), (0, u "atEnd"), (0, u "()Z"), (0, .methodref 30 31), (0, .class_ 32), (0, .nameAndType 33 34), (0, u "java/lang/Math"), (0, u "min"), (0, u "(II)I"), (0, .methodref 18 36), (0, .nameAndType 37 38), (0, u "next"), (0, u "()C"), (0, .methodref 18 40), (0, .nameAndType 41 42), (0, u "reset"), (0, u "(I)V"), (3, u "law"), (0, u "(IIIIII)Z")] 2

def k1m0 : Method := { name := "<init>", desc := "()V", sig := { parameters := [], returnType := none }, accessFlags := 1, code := none }
def k1c1 : Code := { maxStack := 6, maxLocals := 4, code := method_2_code, exceptionTable := #[], attributes := #[] }
def k1m1 : Method := { name := "make", desc := "(ICCC)Ljava/lang/String;", sig := { parameters := [.int, .char, .char, .char], returnType := some (.object "java/lang/String") }, accessFlags := 10, code := some k1c1 }
def k1c2 : Code := { maxStack := 4, maxLocals := 13, code := code, exceptionTable := #[], attributes := #[] }
def k1m2 : Method := { name := "law", desc := "(IIIIII)Z", sig := { parameters := [.int, .int, .int, .int, .int, .int], returnType := some .boolean }, accessFlags := 9, code := some k1c2 }
/-- com/example/lintel/lintel/message/HeaderCursorAtEndPinLaw -/
def k1 : Class := { plain "com/example/lintel/lintel/message/HeaderCursorAtEndPinLaw" (some 0) with
  accessFlags := 49
  interfaces := #[]
  cf := some (fileOf pool1 13 #[] #[{ accessFlags := 1, nameIndex := 5, descriptorIndex := 6, attributes := #[] }, { accessFlags := 10, nameIndex := 16, descriptorIndex := 17, attributes := #[] }, { accessFlags := 9, nameIndex := 46, descriptorIndex := 47, attributes := #[] }] 49 2 #[] #[])
  fields := #[]
  methods := #[k1m0, k1m1, k1m2]
  instanceTypes := #[]
  staticTypes := #[]
  resolved := Array.replicate 50 none
  statics := none }

def pool2 : Array CpInfo := pool [(1, .class_ 2), (0, u "java/io/Serializable"), (0, .class_ 4), (0, u "java/lang/Object")] 2

/-- java/io/Serializable -/
def k2 : Class := { plain "java/io/Serializable" (some 0) with
  accessFlags := 1537
  interfaces := #[]
  cf := some (fileOf pool2 1 #[] #[] 1537 3 #[] #[])
  fields := #[]
  methods := #[]
  instanceTypes := #[]
  staticTypes := #[]
  resolved := Array.replicate 7 none
  statics := none }

def pool3 : Array CpInfo := pool [(1, .class_ 2), (0, u "java/lang/Comparable"), (0, .class_ 4), (0, u "java/lang/Object")] 7

/-- java/lang/Comparable -/
def k3 : Class := { plain "java/lang/Comparable" (some 0) with
  accessFlags := 1537
  interfaces := #[]
  cf := some (fileOf pool3 1 #[] #[] 1537 3 #[] #[])
  fields := #[]
  methods := #[]
  instanceTypes := #[]
  staticTypes := #[]
  resolved := Array.replicate 12 none
  statics := none }

def pool4 : Array CpInfo := pool [(2, .class_ 4), (1, u "java/lang/CharSequence"), (42, .class_ 48), (0, u "java/lang/CharSequence$1CodePointIterator"), (10, .class_ 60), (0, u "java/lang/CharSequence$1CharIterator"), (5, .class_ 67), (0, u "java/lang/Object")] 63

/-- java/lang/CharSequence -/
def k4 : Class := { plain "java/lang/CharSequence" (some 0) with
  accessFlags := 1537
  interfaces := #[]
  cf := some (fileOf pool4 2 #[.nestMembers #[47, 59]] #[] 1537 66 #[] #[])
  fields := #[]
  methods := #[]
  instanceTypes := #[]
  staticTypes := #[]
  resolved := Array.replicate 131 none
  statics := none }

def pool5 : Array CpInfo := pool [(1, .class_ 2), (0, u "java/lang/constant/Constable"), (0, .class_ 4), (0, u "java/lang/Object")] 6

/-- java/lang/constant/Constable -/
def k5 : Class := { plain "java/lang/constant/Constable" (some 0) with
  accessFlags := 1537
  interfaces := #[]
  cf := some (fileOf pool5 1 #[] #[] 1537 3 #[] #[])
  fields := #[]
  methods := #[]
  instanceTypes := #[]
  staticTypes := #[]
  resolved := Array.replicate 11 none
  statics := none }

def pool6 : Array CpInfo := pool [(1, .class_ 2), (0, u "java/lang/constant/ConstantDesc"), (0, .class_ 4), (0, u "java/lang/Object")] 32

/-- java/lang/constant/ConstantDesc -/
def k6 : Class := { plain "java/lang/constant/ConstantDesc" (some 0) with
  accessFlags := 1537
  interfaces := #[]
  cf := some (fileOf pool6 1 #[] #[] 1537 3 #[] #[])
  fields := #[]
  methods := #[]
  instanceTypes := #[]
  staticTypes := #[]
  resolved := Array.replicate 37 none
  statics := none }

def pool7 : Array CpInfo := pool [(1, .methodref 2 3), (0, .class_ 4), (0, .nameAndType 5 6), (0, u "java/lang/Object"), (0, u "<init>"), (0, u "()V"), (0, .string 8), (0, u ""), (0, .fieldref 10 11), (0, .class_ 12), (0, .nameAndType 13 14), (0, u "java/lang/String"), (0, u "value"), (0, u "[B"), (0, .fieldref 10 16), (0, .nameAndType 17 18), (0, u "coder"), (0, u "B"), (2, u "hash"), (0, u "I"), (2, u "hashIsZero"), (0, u "Z"), (0, .methodref 10 28), (0, .nameAndType 5 29), (0, u "([CIILjava/lang/Void;)V"), (8, .fieldref 10 39), (0, .nameAndType 40 26), (0, u "COMPACT_STRINGS"), (1, .class_ 44), (1, u "java/lang/StringUTF16"), (0, u "compress"), (1, .methodref 42 48), (0, .nameAndType 49 50), (0, u "coderFromArrayLen"), (0, u "([BI)B"), (56, .class_ 109), (1, u "java/lang/StringLatin1"), (32, u "()Z"), (34, .methodref 42 178), (0, .nameAndType 45 179), (0, u "([CII)[B"), (154, u "()I"), (0, .methodref 10 336), (0, .nameAndType 17 337), (0, u "()B"), (25, u "([BI)C"), (27, u "(II)V"), (35, u "(I)C"), (64, .methodref 10 493), (0, .nameAndType 494 142), (0, u "isLatin1"), (0, .methodref 107 496), (0, .nameAndType 497 363), (0, u "charAt"), (0, .methodref 42 496), (2, u "checkIndex"), (5, u "length"), (67, .class_ 576), (0, u "java/lang/CharSequence"), (22, u "CASE_INSENSITIVE_ORDER"), (0, u "Ljava/util/Comparator;"), (409, u "([C)V"), (42, .fieldref 1054 1055), (0, .class_ 1056), (0, .nameAndType 1057 1058), (0, u "jdk/internal/util/Preconditions"), (0, u "SIOOBE_FORMATTER"), (0, u "Ljava/util/function/BiFunction;"), (0, .methodref 1054 1060), (0, .nameAndType 501 1061), (0, u "(IILjava/util/function/BiFunction;)I"), (39, u "serialPersistentFields"), (0, u "[Ljava/io/ObjectStreamField;"), (0, .class_ 1104), (0, u "java/lang/String$CaseInsensitiveComparator"), (1, .class_ 1107), (0, u "java/io/Serializable"), (0, .class_ 1109), (0, u "java/lang/Comparable"), (0, .class_ 1111), (0, u "java/lang/constant/Constable"), (0, .class_ 1113), (0, u "java/lang/constant/ConstantDesc"), (2, u "serialVersionUID"), (0, u "J"), (3, u "REPL"), (0, u "C"), (2, u "LATIN1"), (1, u "UTF16")] 323

def k7m0 : Method := { name := "<init>", desc := "()V", sig := { parameters := [], returnType := none }, accessFlags := 1, code := none }
def k7c1 : Code := { maxStack := 5, maxLocals := 2, code := jdk_42_method_3_code, exceptionTable := #[], attributes := #[] }
def k7m1 : Method := { name := "<init>", desc := "([C)V", sig := { parameters := [(.array .char)], returnType := none }, accessFlags := 1, code := some k7c1 }
def k7c2 : Code := { maxStack := 2, maxLocals := 1, code := jdk_42_method_54_code, exceptionTable := #[], attributes := #[] }
def k7m2 : Method := { name := "length", desc := "()I", sig := { parameters := [], returnType := some .int }, accessFlags := 1, code := some k7c2 }
def k7c3 : Code := { maxStack := 2, maxLocals := 2, code := jdk_42_method_56_code, exceptionTable := #[], attributes := #[] }
def k7m3 : Method := { name := "charAt", desc := "(I)C", sig := { parameters := [.int], returnType := some .char }, accessFlags := 1, code := some k7c3 }
def k7c4 : Code := { maxStack := 4, maxLocals := 6, code := jdk_42_method_149_code, exceptionTable := #[], attributes := #[] }
def k7m4 : Method := { name := "<init>", desc := "([CIILjava/lang/Void;)V", sig := { parameters := [(.array .char), .int, .int, (.object "java/lang/Void")], returnType := none }, accessFlags := 2, code := some k7c4 }
def k7c5 : Code := { maxStack := 1, maxLocals := 1, code := jdk_42_method_152_code, exceptionTable := #[], attributes := #[] }
def k7m5 : Method := { name := "coder", desc := "()B", sig := { parameters := [], returnType := some .byte }, accessFlags := 0, code := some k7c5 }
def k7c6 : Code := { maxStack := 1, maxLocals := 1, code := jdk_42_method_154_code, exceptionTable := #[], attributes := #[] }
def k7m6 : Method := { name := "isLatin1", desc := "()Z", sig := { parameters := [], returnType := some .boolean }, accessFlags := 0, code := some k7c6 }
def k7c7 : Code := { maxStack := 3, maxLocals := 2, code := jdk_42_method_155_code, exceptionTable := #[], attributes := #[] }
def k7m7 : Method := { name := "checkIndex", desc := "(II)V", sig := { parameters := [.int, .int], returnType := none }, accessFlags := 8, code := some k7c7 }
/-- java/lang/String -/
def k7 : Class := { plain "java/lang/String" (some 0) with
  accessFlags := 49
  interfaces := #[2, 3, 4, 5, 6]
  cf := some (fileOf pool7 10 #[.nestMembers #[1103]] #[{ accessFlags := 1, nameIndex := 5, descriptorIndex := 6, attributes := #[] }, { accessFlags := 1, nameIndex := 5, descriptorIndex := 1010, attributes := #[] }, { accessFlags := 1, nameIndex := 507, descriptorIndex := 334, attributes := #[] }, { accessFlags := 1, nameIndex := 497, descriptorIndex := 427, attributes := #[] }, { accessFlags := 2, nameIndex := 5, descriptorIndex := 29, attributes := #[] }, { accessFlags := 0, nameIndex := 17, descriptorIndex := 337, attributes := #[] }, { accessFlags := 0, nameIndex := 494, descriptorIndex := 142, attributes := #[] }, { accessFlags := 8, nameIndex := 501, descriptorIndex := 391, attributes := #[] }] 49 2 #[1106, 1108, 575, 1110, 1112] #[{ accessFlags := 18, nameIndex := 13, descriptorIndex := 14, attributes := #[] }, { accessFlags := 18, nameIndex := 17, descriptorIndex := 18, attributes := #[] }, { accessFlags := 2, nameIndex := 21, descriptorIndex := 22, attributes := #[] }, { accessFlags := 2, nameIndex := 25, descriptorIndex := 26, attributes := #[] }, { accessFlags := 26, nameIndex := 1116, descriptorIndex := 1117, attributes := #[] }, { accessFlags := 24, nameIndex := 40, descriptorIndex := 26, attributes := #[] }, { accessFlags := 26, nameIndex := 1101, descriptorIndex := 1102, attributes := #[] }, { accessFlags := 26, nameIndex := 1121, descriptorIndex := 1122, attributes := #[] }, { accessFlags := 25, nameIndex := 599, descriptorIndex := 600, attributes := #[] }, { accessFlags := 24, nameIndex := 1125, descriptorIndex := 18, attributes := #[] }, { accessFlags := 24, nameIndex := 1127, descriptorIndex := 18, attributes := #[] }])
  fields := #[{ name := "value", type := (.array .byte), accessFlags := 18, slot := 0, constantValue := 0 }, { name := "coder", type := .byte, accessFlags := 18, slot := 1, constantValue := 0 }, { name := "hash", type := .int, accessFlags := 2, slot := 2, constantValue := 0 }, { name := "hashIsZero", type := .boolean, accessFlags := 2, slot := 3, constantValue := 0 }, { name := "serialVersionUID", type := .long, accessFlags := 26, slot := 0, constantValue := 0 }, { name := "COMPACT_STRINGS", type := .boolean, accessFlags := 24, slot := 1, constantValue := 0 }, { name := "serialPersistentFields", type := (.array (.object "java/io/ObjectStreamField")), accessFlags := 26, slot := 2, constantValue := 0 }, { name := "REPL", type := .char, accessFlags := 26, slot := 3, constantValue := 0 }, { name := "CASE_INSENSITIVE_ORDER", type := (.object "java/util/Comparator"), accessFlags := 25, slot := 4, constantValue := 0 }, { name := "LATIN1", type := .byte, accessFlags := 24, slot := 5, constantValue := 0 }, { name := "UTF16", type := .byte, accessFlags := 24, slot := 6, constantValue := 0 }]
  methods := #[k7m0, k7m1, k7m2, k7m3, k7m4, k7m5, k7m6, k7m7]
  instanceTypes := #[(.array .byte), .byte, .int, .boolean]
  staticTypes := #[.long, .boolean, (.array (.object "java/io/ObjectStreamField")), .char, (.object "java/util/Comparator"), .byte, .byte]
  resolved := Array.replicate 1451 none
  statics := some 0 }

def pool8 : Array CpInfo := pool [(3, .class_ 4), (0, u "java/lang/String"), (1, .class_ 8), (1, u "java/lang/Object"), (0, u "<init>"), (0, u "()V"), (0, .methodref 12 13), (0, .class_ 14), (0, .nameAndType 15 16), (0, u "java/lang/StringUTF16"), (0, u "newBytesLength"), (0, u "(I)I"), (3, .integer 1073741823), (23, .fieldref 12 45), (0, .nameAndType 46 47), (0, u "$assertionsDisabled"), (0, u "Z"), (0, .methodref 12 49), (0, .nameAndType 50 51), (0, u "length"), (0, u "([B)I"), (7, .fieldref 12 60), (0, .nameAndType 61 62), (0, u "HI_BYTE_SHIFT"), (0, u "I"), (0, .fieldref 12 64), (0, .nameAndType 65 62), (0, u "LO_BYTE_SHIFT"), (1, .methodref 12 68), (0, .nameAndType 69 70), (0, u "checkIndex"), (0, u "(I[B)V"), (0, .methodref 12 72), (0, .nameAndType 73 74), (0, u "getChar"), (0, u "([BI)C"), (32, .methodref 12 108), (0, .nameAndType 109 110), (0, u "newBytesFor"), (0, u "(I)[B"), (0, .methodref 12 112), (0, .nameAndType 113 114), (0, u "putChar"), (0, u "([BII)V"), (0, .methodref 12 116), (0, .nameAndType 117 118), (0, u "compress"), (0, u "([CI[BII)I"), (0, .methodref 12 120), (0, .nameAndType 121 122), (0, u "toBytes"), (0, u "([CII)[B"), (138, u "coderFromArrayLen"), (0, u "([BI)B"), (106, .class_ 371), (1, u "java/lang/StringUTF16$LinesSpliterator"), (20, u "charAt"), (21, .methodref 3 415), (0, .nameAndType 69 416), (0, u "(II)V"), (13, u "MAX_LENGTH"), (196, .class_ 628), (0, u "java/lang/StringUTF16$CodePointsSpliterator"), (0, .class_ 630), (0, u "java/lang/StringUTF16$CharsSpliterator")] 4

def k8m0 : Method := { name := "<init>", desc := "()V", sig := { parameters := [], returnType := none }, accessFlags := 0, code := none }
def k8c1 : Code := { maxStack := 1, maxLocals := 1, code := jdk_52_method_2_code, exceptionTable := #[], attributes := #[] }
def k8m1 : Method := { name := "newBytesFor", desc := "(I)[B", sig := { parameters := [.int], returnType := some (.array .byte) }, accessFlags := 9, code := some k8c1 }
def k8c2 : Code := { maxStack := 4, maxLocals := 1, code := jdk_52_method_3_code, exceptionTable := #[], attributes := #[] }
def k8m2 : Method := { name := "newBytesLength", desc := "(I)I", sig := { parameters := [.int], returnType := some .int }, accessFlags := 9, code := some k8c2 }
def k8c3 : Code := { maxStack := 4, maxLocals := 3, code := jdk_52_method_4_code, exceptionTable := #[], attributes := #[] }
def k8m3 : Method := { name := "putChar", desc := "([BII)V", sig := { parameters := [(.array .byte), .int, .int], returnType := none }, accessFlags := 8, code := some k8c3 }
def k8c4 : Code := { maxStack := 3, maxLocals := 2, code := jdk_52_method_5_code, exceptionTable := #[], attributes := #[] }
def k8m4 : Method := { name := "getChar", desc := "([BI)C", sig := { parameters := [(.array .byte), .int], returnType := some .char }, accessFlags := 8, code := some k8c4 }
def k8c5 : Code := { maxStack := 2, maxLocals := 1, code := jdk_52_method_6_code, exceptionTable := #[], attributes := #[] }
def k8m5 : Method := { name := "length", desc := "([B)I", sig := { parameters := [(.array .byte)], returnType := some .int }, accessFlags := 9, code := some k8c5 }
def k8c6 : Code := { maxStack := 4, maxLocals := 5, code := jdk_52_method_14_code, exceptionTable := #[], attributes := #[] }
def k8m6 : Method := { name := "toBytes", desc := "([CII)[B", sig := { parameters := [(.array .char), .int, .int], returnType := some (.array .byte) }, accessFlags := 9, code := some k8c6 }
def k8c7 : Code := { maxStack := 2, maxLocals := 2, code := jdk_52_method_15_code, exceptionTable := #[], attributes := #[] }
def k8m7 : Method := { name := "coderFromArrayLen", desc := "([BI)B", sig := { parameters := [(.array .byte), .int], returnType := some .byte }, accessFlags := 8, code := some k8c7 }
def k8c8 : Code := { maxStack := 5, maxLocals := 6, code := jdk_52_method_16_code, exceptionTable := #[], attributes := #[] }
def k8m8 : Method := { name := "compress", desc := "([CII)[B", sig := { parameters := [(.array .char), .int, .int], returnType := some (.array .byte) }, accessFlags := 9, code := some k8c8 }
def k8c9 : Code := { maxStack := 3, maxLocals := 7, code := jdk_52_method_21_code, exceptionTable := #[], attributes := #[] }
def k8m9 : Method := { name := "compress", desc := "([CI[BII)I", sig := { parameters := [(.array .char), .int, (.array .byte), .int, .int], returnType := some .int }, accessFlags := 9, code := some k8c9 }
def k8c10 : Code := { maxStack := 2, maxLocals := 2, code := jdk_52_method_83_code, exceptionTable := #[], attributes := #[] }
def k8m10 : Method := { name := "charAt", desc := "([BI)C", sig := { parameters := [(.array .byte), .int], returnType := some .char }, accessFlags := 9, code := some k8c10 }
def k8c11 : Code := { maxStack := 2, maxLocals := 2, code := jdk_52_method_91_code, exceptionTable := #[], attributes := #[] }
def k8m11 : Method := { name := "checkIndex", desc := "(I[B)V", sig := { parameters := [.int, (.array .byte)], returnType := none }, accessFlags := 9, code := some k8c11 }
/-- java/lang/StringUTF16 -/
def k8 : Class := { plain "java/lang/StringUTF16" (some 0) with
  accessFlags := 48
  interfaces := #[]
  cf := some (fileOf pool8 12 #[.nestMembers #[627, 629, 369]] #[{ accessFlags := 0, nameIndex := 9, descriptorIndex := 10, attributes := #[] }, { accessFlags := 9, nameIndex := 109, descriptorIndex := 110, attributes := #[] }, { accessFlags := 9, nameIndex := 15, descriptorIndex := 16, attributes := #[] }, { accessFlags := 8, nameIndex := 113, descriptorIndex := 114, attributes := #[] }, { accessFlags := 8, nameIndex := 73, descriptorIndex := 74, attributes := #[] }, { accessFlags := 9, nameIndex := 50, descriptorIndex := 51, attributes := #[] }, { accessFlags := 9, nameIndex := 121, descriptorIndex := 122, attributes := #[] }, { accessFlags := 8, nameIndex := 261, descriptorIndex := 262, attributes := #[] }, { accessFlags := 9, nameIndex := 117, descriptorIndex := 122, attributes := #[] }, { accessFlags := 9, nameIndex := 117, descriptorIndex := 118, attributes := #[] }, { accessFlags := 9, nameIndex := 392, descriptorIndex := 74, attributes := #[] }, { accessFlags := 9, nameIndex := 69, descriptorIndex := 70, attributes := #[] }] 48 6 #[] #[{ accessFlags := 26, nameIndex := 61, descriptorIndex := 62, attributes := #[] }, { accessFlags := 26, nameIndex := 65, descriptorIndex := 62, attributes := #[] }, { accessFlags := 24, nameIndex := 430, descriptorIndex := 62, attributes := #[] }, { accessFlags := 4120, nameIndex := 46, descriptorIndex := 47, attributes := #[] }])
  fields := #[{ name := "HI_BYTE_SHIFT", type := .int, accessFlags := 26, slot := 0, constantValue := 0 }, { name := "LO_BYTE_SHIFT", type := .int, accessFlags := 26, slot := 1, constantValue := 0 }, { name := "MAX_LENGTH", type := .int, accessFlags := 24, slot := 2, constantValue := 0 }, { name := "$assertionsDisabled", type := .boolean, accessFlags := 4120, slot := 3, constantValue := 0 }]
  methods := #[k8m0, k8m1, k8m2, k8m3, k8m4, k8m5, k8m6, k8m7, k8m8, k8m9, k8m10, k8m11]
  instanceTypes := #[]
  staticTypes := #[.int, .int, .int, .boolean]
  resolved := Array.replicate 635 none
  statics := some 1 }

def pool9 : Array CpInfo := pool [(1, .methodref 2 3), (0, .class_ 4), (0, .nameAndType 5 6), (0, u "java/lang/Object"), (0, u "<init>"), (0, u "()V"), (0, .fieldref 8 9), (0, .class_ 10), (0, .nameAndType 11 12), (0, u "com/example/lintel/lintel/message/HeaderCursor"), (0, u "text"), (0, u "Ljava/lang/String;"), (0, .fieldref 8 14), (0, .nameAndType 15 12), (0, u "what"), (0, .fieldref 8 17), (0, .nameAndType 18 19), (0, u "at"), (0, u "I"), (0, .methodref 21 22), (0, .class_ 23), (0, .nameAndType 24 25), (0, u "java/lang/String"), (0, u "length"), (0, u "()I"), (0, .methodref 21 27), (0, .nameAndType 28 29), (0, u "charAt"), (0, u "(I)C"), (2, u "atEnd"), (0, u "()Z"), (3, u "()C"), (21, u "next"), (58, u "(Ljava/lang/String;Ljava/lang/String;)V"), (4, u "reset"), (0, u "(I)V")] 29

def k9c0 : Code := { maxStack := 2, maxLocals := 3, code := prog_1_method_1_code, exceptionTable := #[], attributes := #[] }
def k9m0 : Method := { name := "<init>", desc := "(Ljava/lang/String;Ljava/lang/String;)V", sig := { parameters := [(.object "java/lang/String"), (.object "java/lang/String")], returnType := none }, accessFlags := 1, code := some k9c0 }
def k9c1 : Code := { maxStack := 2, maxLocals := 1, code := prog_1_method_2_code, exceptionTable := #[], attributes := #[] }
def k9m1 : Method := { name := "atEnd", desc := "()Z", sig := { parameters := [], returnType := some .boolean }, accessFlags := 1, code := some k9c1 }
def k9c2 : Code := { maxStack := 5, maxLocals := 1, code := prog_1_method_4_code, exceptionTable := #[], attributes := #[] }
def k9m2 : Method := { name := "next", desc := "()C", sig := { parameters := [], returnType := some .char }, accessFlags := 1, code := some k9c2 }
def k9c3 : Code := { maxStack := 2, maxLocals := 2, code := prog_1_method_6_code, exceptionTable := #[], attributes := #[] }
def k9m3 : Method := { name := "reset", desc := "(I)V", sig := { parameters := [.int], returnType := none }, accessFlags := 1, code := some k9c3 }
/-- com/example/lintel/lintel/message/HeaderCursor -/
def k9 : Class := { plain "com/example/lintel/lintel/message/HeaderCursor" (some 0) with
  accessFlags := 49
  interfaces := #[]
  cf := some (fileOf pool9 8 #[] #[{ accessFlags := 1, nameIndex := 5, descriptorIndex := 118, attributes := #[] }, { accessFlags := 1, nameIndex := 32, descriptorIndex := 33, attributes := #[] }, { accessFlags := 1, nameIndex := 59, descriptorIndex := 37, attributes := #[] }, { accessFlags := 1, nameIndex := 123, descriptorIndex := 124, attributes := #[] }] 49 2 #[] #[{ accessFlags := 18, nameIndex := 11, descriptorIndex := 12, attributes := #[] }, { accessFlags := 18, nameIndex := 15, descriptorIndex := 12, attributes := #[] }, { accessFlags := 2, nameIndex := 18, descriptorIndex := 19, attributes := #[] }])
  fields := #[{ name := "text", type := (.object "java/lang/String"), accessFlags := 18, slot := 0, constantValue := 0 }, { name := "what", type := (.object "java/lang/String"), accessFlags := 18, slot := 1, constantValue := 0 }, { name := "at", type := .int, accessFlags := 2, slot := 2, constantValue := 0 }]
  methods := #[k9m0, k9m1, k9m2, k9m3]
  instanceTypes := #[(.object "java/lang/String"), (.object "java/lang/String"), .int]
  staticTypes := #[]
  resolved := Array.replicate 154 none
  statics := none }

def pool10 : Array CpInfo := pool [(1, .class_ 2), (0, u "java/lang/Math"), (1, .class_ 6), (1, u "java/lang/Object"), (0, u "<init>"), (0, u "()V"), (89, .class_ 100), (1, u "java/lang/Math$RandomNumberGeneratorHolder"), (71, u "negativeZeroFloatBits"), (0, u "J"), (2, u "negativeZeroDoubleBits"), (24, u "min"), (43, u "$assertionsDisabled"), (0, u "Z"), (88, u "(II)I"), (2, u "twoToTheDoubleScaleDown"), (0, u "D"), (4, u "twoToTheDoubleScaleUp"), (9, u "E"), (3, u "PI"), (2, u "TAU"), (2, u "DEGREES_TO_RADIANS"), (0, u "RADIANS_TO_DEGREES")] 94

def k10m0 : Method := { name := "<init>", desc := "()V", sig := { parameters := [], returnType := none }, accessFlags := 2, code := none }
def k10c1 : Code := { maxStack := 2, maxLocals := 2, code := jdk_29_method_69_code, exceptionTable := #[], attributes := #[] }
def k10m1 : Method := { name := "min", desc := "(II)I", sig := { parameters := [.int, .int], returnType := some .int }, accessFlags := 9, code := some k10c1 }
/-- java/lang/Math -/
def k10 : Class := { plain "java/lang/Math" (some 0) with
  accessFlags := 49
  interfaces := #[]
  cf := some (fileOf pool10 1 #[.nestMembers #[98]] #[{ accessFlags := 2, nameIndex := 7, descriptorIndex := 8, attributes := #[] }, { accessFlags := 9, nameIndex := 201, descriptorIndex := 335, attributes := #[] }] 49 4 #[] #[{ accessFlags := 25, nameIndex := 354, descriptorIndex := 339, attributes := #[] }, { accessFlags := 25, nameIndex := 358, descriptorIndex := 339, attributes := #[] }, { accessFlags := 25, nameIndex := 361, descriptorIndex := 339, attributes := #[] }, { accessFlags := 26, nameIndex := 364, descriptorIndex := 339, attributes := #[] }, { accessFlags := 26, nameIndex := 365, descriptorIndex := 339, attributes := #[] }, { accessFlags := 26, nameIndex := 172, descriptorIndex := 173, attributes := #[] }, { accessFlags := 26, nameIndex := 176, descriptorIndex := 173, attributes := #[] }, { accessFlags := 8, nameIndex := 344, descriptorIndex := 339, attributes := #[] }, { accessFlags := 8, nameIndex := 338, descriptorIndex := 339, attributes := #[] }, { accessFlags := 4120, nameIndex := 245, descriptorIndex := 246, attributes := #[] }])
  fields := #[{ name := "E", type := .double, accessFlags := 25, slot := 0, constantValue := 0 }, { name := "PI", type := .double, accessFlags := 25, slot := 1, constantValue := 0 }, { name := "TAU", type := .double, accessFlags := 25, slot := 2, constantValue := 0 }, { name := "DEGREES_TO_RADIANS", type := .double, accessFlags := 26, slot := 3, constantValue := 0 }, { name := "RADIANS_TO_DEGREES", type := .double, accessFlags := 26, slot := 4, constantValue := 0 }, { name := "negativeZeroFloatBits", type := .long, accessFlags := 26, slot := 5, constantValue := 0 }, { name := "negativeZeroDoubleBits", type := .long, accessFlags := 26, slot := 6, constantValue := 0 }, { name := "twoToTheDoubleScaleUp", type := .double, accessFlags := 8, slot := 7, constantValue := 0 }, { name := "twoToTheDoubleScaleDown", type := .double, accessFlags := 8, slot := 8, constantValue := 0 }, { name := "$assertionsDisabled", type := .boolean, accessFlags := 4120, slot := 9, constantValue := 0 }]
  methods := #[k10m0, k10m1]
  instanceTypes := #[]
  staticTypes := #[.double, .double, .double, .double, .double, .long, .long, .double, .double, .boolean]
  resolved := Array.replicate 460 none
  statics := none }

def pool11 : Array CpInfo := pool [(2, .class_ 4), (1, u "java/lang/Object"), (0, u "<init>"), (0, u "()V"), (17, .class_ 26), (1, u "jdk/internal/util/Preconditions"), (6, u "checkIndex"), (21, .class_ 56), (0, u "jdk/internal/util/Preconditions$4"), (57, .class_ 115), (0, u "jdk/internal/util/Preconditions$1"), (7, u "SIOOBE_FORMATTER"), (0, u "Ljava/util/function/BiFunction;"), (0, .class_ 126), (0, u "jdk/internal/util/Preconditions$2"), (3, u "AIOOBE_FORMATTER"), (0, .class_ 132), (0, u "jdk/internal/util/Preconditions$3"), (3, u "IOOBE_FORMATTER"), (41, u "(IILjava/util/function/BiFunction;)I")] 15

def k11m0 : Method := { name := "<init>", desc := "()V", sig := { parameters := [], returnType := none }, accessFlags := 1, code := none }
def k11c1 : Code := { maxStack := 3, maxLocals := 3, code := jdk_41_method_11_code, exceptionTable := #[], attributes := #[] }
def k11m1 : Method := { name := "checkIndex", desc := "(IILjava/util/function/BiFunction;)I", sig := { parameters := [.int, .int, (.object "java/util/function/BiFunction")], returnType := some .int }, accessFlags := 9, code := some k11c1 }
/-- jdk/internal/util/Preconditions -/
def k11 : Class := { plain "jdk/internal/util/Preconditions" (some 0) with
  accessFlags := 33
  interfaces := #[]
  cf := some (fileOf pool11 24 #[.nestMembers #[55, 131, 125, 114]] #[{ accessFlags := 1, nameIndex := 5, descriptorIndex := 6, attributes := #[] }, { accessFlags := 9, nameIndex := 33, descriptorIndex := 178, attributes := #[] }] 33 2 #[] #[{ accessFlags := 25, nameIndex := 123, descriptorIndex := 124, attributes := #[] }, { accessFlags := 25, nameIndex := 130, descriptorIndex := 124, attributes := #[] }, { accessFlags := 25, nameIndex := 136, descriptorIndex := 124, attributes := #[] }])
  fields := #[{ name := "SIOOBE_FORMATTER", type := (.object "java/util/function/BiFunction"), accessFlags := 25, slot := 0, constantValue := 0 }, { name := "AIOOBE_FORMATTER", type := (.object "java/util/function/BiFunction"), accessFlags := 25, slot := 1, constantValue := 0 }, { name := "IOOBE_FORMATTER", type := (.object "java/util/function/BiFunction"), accessFlags := 25, slot := 2, constantValue := 0 }]
  methods := #[k11m0, k11m1]
  instanceTypes := #[]
  staticTypes := #[(.object "java/util/function/BiFunction"), (.object "java/util/function/BiFunction"), (.object "java/util/function/BiFunction")]
  resolved := Array.replicate 194 none
  statics := some 2 }

def pool12 : Array CpInfo := pool [(1, .class_ 2), (0, u "java/lang/String"), (1, .class_ 6), (1, u "java/lang/Object"), (0, u "<init>"), (0, u "()V"), (0, .methodref 1 10), (0, .nameAndType 11 12), (0, u "checkIndex"), (0, u "(II)V"), (1, .class_ 16), (1, u "java/lang/StringLatin1"), (36, u "([BI)C"), (67, u "$assertionsDisabled"), (0, u "Z"), (98, .class_ 223), (1, u "java/lang/StringLatin1$LinesSpliterator"), (28, u "charAt"), (137, .class_ 391), (0, u "java/lang/StringLatin1$CharsSpliterator")] 3

def k12m0 : Method := { name := "<init>", desc := "()V", sig := { parameters := [], returnType := none }, accessFlags := 0, code := none }
def k12c1 : Code := { maxStack := 2, maxLocals := 2, code := jdk_43_method_2_code, exceptionTable := #[], attributes := #[] }
def k12m1 : Method := { name := "charAt", desc := "([BI)C", sig := { parameters := [(.array .byte), .int], returnType := some .char }, accessFlags := 9, code := some k12c1 }
/-- java/lang/StringLatin1 -/
def k12 : Class := { plain "java/lang/StringLatin1" (some 0) with
  accessFlags := 48
  interfaces := #[]
  cf := some (fileOf pool12 14 #[.nestMembers #[390, 221]] #[{ accessFlags := 0, nameIndex := 7, descriptorIndex := 8, attributes := #[] }, { accessFlags := 9, nameIndex := 252, descriptorIndex := 53, attributes := #[] }] 48 4 #[] #[{ accessFlags := 4120, nameIndex := 121, descriptorIndex := 122, attributes := #[] }])
  fields := #[{ name := "$assertionsDisabled", type := .boolean, accessFlags := 4120, slot := 0, constantValue := 0 }]
  methods := #[k12m0, k12m1]
  instanceTypes := #[]
  staticTypes := #[.boolean]
  resolved := Array.replicate 395 none
  statics := none }

def pool13 : Array CpInfo := pool [(9, u "<init>"), (6, .class_ 18), (1, u "java/lang/Object"), (0, u "()V"), (1, .class_ 23), (1, u "jdk/internal/util/ArraysSupport"), (0, u "LOG2_ARRAY_LONG_INDEX_SCALE"), (0, u "I"), (2, u "U"), (0, u "Ljdk/internal/misc/Unsafe;"), (8, u "BIG_ENDIAN"), (0, u "Z"), (8, u "LOG2_BYTE_BIT_SIZE"), (4, u "LOG2_ARRAY_INT_INDEX_SCALE"), (54, u "JLA"), (0, u "Ljdk/internal/access/JavaLangAccess;"), (11, u "LOG2_ARRAY_BOOLEAN_INDEX_SCALE"), (9, u "LOG2_ARRAY_BYTE_INDEX_SCALE"), (5, u "LOG2_ARRAY_CHAR_INDEX_SCALE"), (5, u "LOG2_ARRAY_SHORT_INDEX_SCALE"), (18, u "LOG2_ARRAY_FLOAT_INDEX_SCALE"), (24, u "LOG2_ARRAY_DOUBLE_INDEX_SCALE"), (89, u "T_BOOLEAN"), (2, u "T_CHAR"), (1, u "T_FLOAT"), (1, u "T_DOUBLE"), (1, u "T_BYTE"), (1, u "T_SHORT"), (1, u "T_INT"), (1, u "T_LONG"), (1, u "SOFT_MAX_ARRAY_LENGTH")] 83

def k13m0 : Method := { name := "<init>", desc := "()V", sig := { parameters := [], returnType := none }, accessFlags := 2, code := none }
/-- jdk/internal/util/ArraysSupport -/
def k13 : Class := { plain "jdk/internal/util/ArraysSupport" (some 0) with
  accessFlags := 33
  interfaces := #[]
  cf := some (fileOf pool13 21 #[] #[{ accessFlags := 2, nameIndex := 9, descriptorIndex := 19, attributes := #[] }] 33 16 #[] #[{ accessFlags := 24, nameIndex := 28, descriptorIndex := 29, attributes := #[] }, { accessFlags := 26, nameIndex := 38, descriptorIndex := 39, attributes := #[] }, { accessFlags := 25, nameIndex := 121, descriptorIndex := 25, attributes := #[] }, { accessFlags := 25, nameIndex := 131, descriptorIndex := 25, attributes := #[] }, { accessFlags := 25, nameIndex := 137, descriptorIndex := 25, attributes := #[] }, { accessFlags := 25, nameIndex := 143, descriptorIndex := 25, attributes := #[] }, { accessFlags := 25, nameIndex := 53, descriptorIndex := 25, attributes := #[] }, { accessFlags := 25, nameIndex := 24, descriptorIndex := 25, attributes := #[] }, { accessFlags := 25, nameIndex := 162, descriptorIndex := 25, attributes := #[] }, { accessFlags := 25, nameIndex := 187, descriptorIndex := 25, attributes := #[] }, { accessFlags := 26, nameIndex := 48, descriptorIndex := 25, attributes := #[] }, { accessFlags := 25, nameIndex := 277, descriptorIndex := 25, attributes := #[] }, { accessFlags := 25, nameIndex := 280, descriptorIndex := 25, attributes := #[] }, { accessFlags := 25, nameIndex := 282, descriptorIndex := 25, attributes := #[] }, { accessFlags := 25, nameIndex := 284, descriptorIndex := 25, attributes := #[] }, { accessFlags := 25, nameIndex := 286, descriptorIndex := 25, attributes := #[] }, { accessFlags := 25, nameIndex := 288, descriptorIndex := 25, attributes := #[] }, { accessFlags := 25, nameIndex := 290, descriptorIndex := 25, attributes := #[] }, { accessFlags := 25, nameIndex := 292, descriptorIndex := 25, attributes := #[] }, { accessFlags := 26, nameIndex := 108, descriptorIndex := 109, attributes := #[] }, { accessFlags := 25, nameIndex := 294, descriptorIndex := 25, attributes := #[] }])
  fields := #[{ name := "U", type := (.object "jdk/internal/misc/Unsafe"), accessFlags := 24, slot := 0, constantValue := 0 }, { name := "BIG_ENDIAN", type := .boolean, accessFlags := 26, slot := 1, constantValue := 0 }, { name := "LOG2_ARRAY_BOOLEAN_INDEX_SCALE", type := .int, accessFlags := 25, slot := 2, constantValue := 0 }, { name := "LOG2_ARRAY_BYTE_INDEX_SCALE", type := .int, accessFlags := 25, slot := 3, constantValue := 0 }, { name := "LOG2_ARRAY_CHAR_INDEX_SCALE", type := .int, accessFlags := 25, slot := 4, constantValue := 0 }, { name := "LOG2_ARRAY_SHORT_INDEX_SCALE", type := .int, accessFlags := 25, slot := 5, constantValue := 0 }, { name := "LOG2_ARRAY_INT_INDEX_SCALE", type := .int, accessFlags := 25, slot := 6, constantValue := 0 }, { name := "LOG2_ARRAY_LONG_INDEX_SCALE", type := .int, accessFlags := 25, slot := 7, constantValue := 0 }, { name := "LOG2_ARRAY_FLOAT_INDEX_SCALE", type := .int, accessFlags := 25, slot := 8, constantValue := 0 }, { name := "LOG2_ARRAY_DOUBLE_INDEX_SCALE", type := .int, accessFlags := 25, slot := 9, constantValue := 0 }, { name := "LOG2_BYTE_BIT_SIZE", type := .int, accessFlags := 26, slot := 10, constantValue := 0 }, { name := "T_BOOLEAN", type := .int, accessFlags := 25, slot := 11, constantValue := 0 }, { name := "T_CHAR", type := .int, accessFlags := 25, slot := 12, constantValue := 0 }, { name := "T_FLOAT", type := .int, accessFlags := 25, slot := 13, constantValue := 0 }, { name := "T_DOUBLE", type := .int, accessFlags := 25, slot := 14, constantValue := 0 }, { name := "T_BYTE", type := .int, accessFlags := 25, slot := 15, constantValue := 0 }, { name := "T_SHORT", type := .int, accessFlags := 25, slot := 16, constantValue := 0 }, { name := "T_INT", type := .int, accessFlags := 25, slot := 17, constantValue := 0 }, { name := "T_LONG", type := .int, accessFlags := 25, slot := 18, constantValue := 0 }, { name := "JLA", type := (.object "jdk/internal/access/JavaLangAccess"), accessFlags := 26, slot := 19, constantValue := 0 }, { name := "SOFT_MAX_ARRAY_LENGTH", type := .int, accessFlags := 25, slot := 20, constantValue := 0 }]
  methods := #[k13m0]
  instanceTypes := #[]
  staticTypes := #[(.object "jdk/internal/misc/Unsafe"), .boolean, .int, .int, .int, .int, .int, .int, .int, .int, .int, .int, .int, .int, .int, .int, .int, .int, .int, (.object "jdk/internal/access/JavaLangAccess"), .int]
  resolved := Array.replicate 378 none
  statics := none }

def pool14 : Array CpInfo := pool [(1, u "java/lang/Cloneable"), (0, .class_ 1), (0, u "java/lang/Object"), (0, .class_ 3)] 3

/-- java/lang/Cloneable -/
def k14 : Class := { plain "java/lang/Cloneable" (some 0) with
  accessFlags := 1537
  interfaces := #[]
  cf := some (fileOf pool14 2 #[] #[] 1537 4 #[] #[])
  fields := #[]
  methods := #[]
  instanceTypes := #[]
  staticTypes := #[]
  resolved := Array.replicate 8 none
  statics := none }

/-- the primitive byte -/
def k15 : Class := { plain "byte" none with kind := .primitive 'B', accessFlags := 0x411 }
/-- [B -/
def k16 : Class := { plain "[B" (some 0) with kind := .array 15 .byte, interfaces := #[14, 2], accessFlags := 1041 }

/-- the primitive char -/
def k17 : Class := { plain "char" none with kind := .primitive 'C', accessFlags := 0x411 }
/-- [C -/
def k18 : Class := { plain "[C" (some 0) with kind := .array 17 .char, interfaces := #[14, 2], accessFlags := 1041 }

/-- the primitive int -/
def k19 : Class := { plain "int" none with kind := .primitive 'I', accessFlags := 0x411 }
/-- [I -/
def k20 : Class := { plain "[I" (some 0) with kind := .array 19 .int, interfaces := #[14, 2], accessFlags := 1041 }

def heap : Heap := #[{ cls := 7, slots := #[.long 0, .int 1, .null, .int 0, .null, .int 0, .int 0], vm := .statics 7 },
  { cls := 8, slots := #[.int 0, .int 8, .int 0, .int 1], vm := .statics 8 },
  { cls := 11, slots := #[.null, .null, .null], vm := .statics 11 }]
def classes : Array Class := #[k0, k1, k2, k3, k4, k5, k6, k7, k8, k9, k10, k11, k12, k13, k14, k15, k16, k17, k18, k19, k20]
def interned : List (Array UInt16 × Addr) := []
def slotsUsed : Nat := 14
def theMethod : MethodId := ⟨1, 2⟩
def args0 : Array Value := #[.int 65, .int 66, .int 67, .int 2, .int 1, .int 1]
def aboutOver (below : List Frame) : State where
  vm := { classes := classes, interned := interned.toArray }
  heap := heap
  slotsUsed := slotsUsed
  threads := #[{ frames := .invoking theMethod args0 :: below }]
def below0 : List Frame := [.native { method := ⟨0, 0⟩, args := #[] }]
def about1 : State := aboutOver below0
def p0 : Program := .bare "" "" ""
def e0 : Env := launch0.env 0 0 0
theorem w_frames : about1.frames = Frame.invoking theMethod args0 :: below0 := rfl
set_option maxRecDepth 65536 in
theorem w_args : argsFit about1.vm theMethod args0 = true := by decide +kernel
set_option maxRecDepth 65536 in
theorem w_heap : heapFits about1 = true := by decide +kernel
set_option maxRecDepth 65536 in
theorem w_runnable : about1.curStatus? = some .runnable := by decide +kernel
set_option maxRecDepth 65536 in
theorem w_alone : about1.alone = true := by decide +kernel
set_option maxRecDepth 65536 in
theorem w_named : about1.methodNamed? x = some theMethod := by decide +kernel
set_option maxRecDepth 65536 in
theorem w_hears : about1.hears theMethod below0 = true := by decide +kernel
set_option maxRecDepth 65536 in
theorem w_ripe : about1.ripe theMethod args0 below0 = true := by decide +kernel
theorem w_running : about1.status = .running := rfl
set_option maxRecDepth 65536 in
theorem w_room : about1.hasRoom e0.platform room_1 = true :=
  launch0.hasRoom_least _ room_1 (by decide +kernel) (by decide +kernel) (by decide +kernel) (by decide +kernel) (by decide +kernel) (by decide +kernel)
theorem allAtoms_all (ts : List Jvm.Cond) (a : Array Jvm.Value) (st : Jvm.State) : (allAtoms ts).before a st = ts.all (fun c => c.before a st) := by
  induction ts with
  | nil => rfl
  | cons c t ih =>
    show (Jvm.Cond.and c (allAtoms t)).before a st = _
    rw [Jvm.Cond.before_and, ih, List.all_cons]
def words1 : List Jvm.Cond := Jvm.Cond.code x code maxLocals ret :: tables_1
/-- a 'code' word, met by the world's own term for the bytes: nothing is compared byte by byte -/
theorem code_word {y : MethodName} {bytes : ByteArray} {mx : Nat} {rt : Option FieldType} {a : Array Value} {s : State} {m : MethodId} {meth : Method} {c : Code} (h1 : s.methodNamed? y = some m) (h2 : s.vm.method? m = some meth) (h3 : meth.code = some c) (h4 : c.code = bytes)
    (h5 : (c.maxLocals == mx && c.exceptionTable.isEmpty && decide (c.maxStack ≤ mostOperands) && decide (meth.sig.returnType = rt) && !meth.locks && decide (parseMethodDescriptor y.desc = some meth.sig)) = true) : (Jvm.Cond.code y bytes mx rt).before a s = true := by
  simp only [Bool.and_eq_true, beq_iff_eq, Bool.not_eq_true', decide_eq_true_eq] at h5
  obtain ⟨⟨⟨⟨⟨g1, g2⟩, g3⟩, g4⟩, g5⟩, g6⟩ := h5
  simp [Cond.before, Cond.holds, Cond.value, h1, h2, h3, h4, g1, g2, g3, g4, g5, g6]
def isCode : Jvm.Cond → Bool
  | .code _ _ _ _ => true
  | _ => false
theorem all_split {L : List Jvm.Cond} {P : Jvm.Cond → Bool} (h1 : L.all (fun c => isCode c || P c) = true) (h2 : ∀ c ∈ L.filter isCode, P c = true) : L.all P = true := by
  refine List.all_eq_true.mpr fun c hc => ?_
  have h := List.all_eq_true.mp h1 c hc
  rcases Bool.eq_false_or_eq_true (isCode c) with hi | hi
  · exact h2 c (List.mem_filter.mpr ⟨hc, hi⟩)
  · simpa [hi] using h
set_option maxRecDepth 65536 in
theorem w_c0 : (Jvm.Cond.code x code maxLocals ret).before args0 about1 = true := code_word (m := ⟨1, 2⟩) (meth := k1m2) (c := k1c2) (by decide +kernel) rfl rfl rfl (by decide +kernel)
set_option maxRecDepth 65536 in
theorem w_c1 : (Jvm.Cond.code ({ cls := "com/example/lintel/lintel/message/HeaderCursorAtEndPinLaw", name := "make", desc := "(ICCC)Ljava/lang/String;" } : Jvm.MethodName) method_2_code (4 : Nat) (Option.some (Jvm.ClassFile.FieldType.object "java/lang/String"))).before args0 about1 = true := code_word (m := ⟨1, 1⟩) (meth := k1m1) (c := k1c1) (by decide +kernel) rfl rfl rfl (by decide +kernel)
set_option maxRecDepth 65536 in
theorem w_c2 : (Jvm.Cond.code ({ cls := "java/lang/String", name := "<init>", desc := "([C)V" } : Jvm.MethodName) jdk_42_method_3_code (2 : Nat) (Option.none : Option Jvm.ClassFile.FieldType)).before args0 about1 = true := code_word (m := ⟨7, 1⟩) (meth := k7m1) (c := k7c1) (by decide +kernel) rfl rfl rfl (by decide +kernel)
set_option maxRecDepth 65536 in
theorem w_c3 : (Jvm.Cond.code ({ cls := "java/lang/String", name := "<init>", desc := "([CIILjava/lang/Void;)V" } : Jvm.MethodName) jdk_42_method_149_code (6 : Nat) (Option.none : Option Jvm.ClassFile.FieldType)).before args0 about1 = true := code_word (m := ⟨7, 4⟩) (meth := k7m4) (c := k7c4) (by decide +kernel) rfl rfl rfl (by decide +kernel)
set_option maxRecDepth 65536 in
theorem w_c4 : (Jvm.Cond.code ({ cls := "java/lang/Object", name := "<init>", desc := "()V" } : Jvm.MethodName) object_method_1_code (1 : Nat) (Option.none : Option Jvm.ClassFile.FieldType)).before args0 about1 = true := code_word (m := ⟨0, 0⟩) (meth := k0m0) (c := k0c0) (by decide +kernel) rfl rfl rfl (by decide +kernel)
set_option maxRecDepth 65536 in
theorem w_c5 : (Jvm.Cond.code ({ cls := "java/lang/StringUTF16", name := "compress", desc := "([CII)[B" } : Jvm.MethodName) jdk_52_method_16_code (6 : Nat) (Option.some (Jvm.ClassFile.FieldType.array Jvm.ClassFile.FieldType.byte))).before args0 about1 = true := code_word (m := ⟨8, 8⟩) (meth := k8m8) (c := k8c8) (by decide +kernel) rfl rfl rfl (by decide +kernel)
set_option maxRecDepth 65536 in
theorem w_c6 : (Jvm.Cond.code ({ cls := "java/lang/StringUTF16", name := "compress", desc := "([CI[BII)I" } : Jvm.MethodName) jdk_52_method_21_code (7 : Nat) (Option.some Jvm.ClassFile.FieldType.int)).before args0 about1 = true := code_word (m := ⟨8, 9⟩) (meth := k8m9) (c := k8c9) (by decide +kernel) rfl rfl rfl (by decide +kernel)
set_option maxRecDepth 65536 in
theorem w_c7 : (Jvm.Cond.code ({ cls := "java/lang/StringUTF16", name := "coderFromArrayLen", desc := "([BI)B" } : Jvm.MethodName) jdk_52_method_15_code (2 : Nat) (Option.some Jvm.ClassFile.FieldType.byte)).before args0 about1 = true := code_word (m := ⟨8, 7⟩) (meth := k8m7) (c := k8c7) (by decide +kernel) rfl rfl rfl (by decide +kernel)
set_option maxRecDepth 65536 in
theorem w_c8 : (Jvm.Cond.code ({ cls := "com/example/lintel/lintel/message/HeaderCursor", name := "<init>", desc := "(Ljava/lang/String;Ljava/lang/String;)V" } : Jvm.MethodName) prog_1_method_1_code (3 : Nat) (Option.none : Option Jvm.ClassFile.FieldType)).before args0 about1 = true := code_word (m := ⟨9, 0⟩) (meth := k9m0) (c := k9c0) (by decide +kernel) rfl rfl rfl (by decide +kernel)
set_option maxRecDepth 65536 in
theorem w_c9 : (Jvm.Cond.code ({ cls := "com/example/lintel/lintel/message/HeaderCursor", name := "atEnd", desc := "()Z" } : Jvm.MethodName) prog_1_method_2_code (1 : Nat) (Option.some Jvm.ClassFile.FieldType.boolean)).before args0 about1 = true := code_word (m := ⟨9, 1⟩) (meth := k9m1) (c := k9c1) (by decide +kernel) rfl rfl rfl (by decide +kernel)
set_option maxRecDepth 65536 in
theorem w_c10 : (Jvm.Cond.code ({ cls := "java/lang/String", name := "length", desc := "()I" } : Jvm.MethodName) jdk_42_method_54_code (1 : Nat) (Option.some Jvm.ClassFile.FieldType.int)).before args0 about1 = true := code_word (m := ⟨7, 2⟩) (meth := k7m2) (c := k7c2) (by decide +kernel) rfl rfl rfl (by decide +kernel)
set_option maxRecDepth 65536 in
theorem w_c11 : (Jvm.Cond.code ({ cls := "java/lang/String", name := "coder", desc := "()B" } : Jvm.MethodName) jdk_42_method_152_code (1 : Nat) (Option.some Jvm.ClassFile.FieldType.byte)).before args0 about1 = true := code_word (m := ⟨7, 5⟩) (meth := k7m5) (c := k7c5) (by decide +kernel) rfl rfl rfl (by decide +kernel)
set_option maxRecDepth 65536 in
theorem w_c12 : (Jvm.Cond.code ({ cls := "java/lang/Math", name := "min", desc := "(II)I" } : Jvm.MethodName) jdk_29_method_69_code (2 : Nat) (Option.some Jvm.ClassFile.FieldType.int)).before args0 about1 = true := code_word (m := ⟨10, 1⟩) (meth := k10m1) (c := k10c1) (by decide +kernel) rfl rfl rfl (by decide +kernel)
set_option maxRecDepth 65536 in
theorem w_c13 : (Jvm.Cond.code ({ cls := "com/example/lintel/lintel/message/HeaderCursor", name := "reset", desc := "(I)V" } : Jvm.MethodName) prog_1_method_6_code (2 : Nat) (Option.none : Option Jvm.ClassFile.FieldType)).before args0 about1 = true := code_word (m := ⟨9, 3⟩) (meth := k9m3) (c := k9c3) (by decide +kernel) rfl rfl rfl (by decide +kernel)
set_option maxRecDepth 65536 in
theorem w_c14 : (Jvm.Cond.code ({ cls := "java/lang/StringUTF16", name := "toBytes", desc := "([CII)[B" } : Jvm.MethodName) jdk_52_method_14_code (5 : Nat) (Option.some (Jvm.ClassFile.FieldType.array Jvm.ClassFile.FieldType.byte))).before args0 about1 = true := code_word (m := ⟨8, 6⟩) (meth := k8m6) (c := k8c6) (by decide +kernel) rfl rfl rfl (by decide +kernel)
set_option maxRecDepth 65536 in
theorem w_c15 : (Jvm.Cond.code ({ cls := "java/lang/StringUTF16", name := "newBytesFor", desc := "(I)[B" } : Jvm.MethodName) jdk_52_method_2_code (1 : Nat) (Option.some (Jvm.ClassFile.FieldType.array Jvm.ClassFile.FieldType.byte))).before args0 about1 = true := code_word (m := ⟨8, 1⟩) (meth := k8m1) (c := k8c1) (by decide +kernel) rfl rfl rfl (by decide +kernel)
set_option maxRecDepth 65536 in
theorem w_c16 : (Jvm.Cond.code ({ cls := "java/lang/StringUTF16", name := "newBytesLength", desc := "(I)I" } : Jvm.MethodName) jdk_52_method_3_code (1 : Nat) (Option.some Jvm.ClassFile.FieldType.int)).before args0 about1 = true := code_word (m := ⟨8, 2⟩) (meth := k8m2) (c := k8c2) (by decide +kernel) rfl rfl rfl (by decide +kernel)
set_option maxRecDepth 65536 in
theorem w_c17 : (Jvm.Cond.code ({ cls := "java/lang/StringUTF16", name := "putChar", desc := "([BII)V" } : Jvm.MethodName) jdk_52_method_4_code (3 : Nat) (Option.none : Option Jvm.ClassFile.FieldType)).before args0 about1 = true := code_word (m := ⟨8, 3⟩) (meth := k8m3) (c := k8c3) (by decide +kernel) rfl rfl rfl (by decide +kernel)
set_option maxRecDepth 65536 in
theorem w_c18 : (Jvm.Cond.code ({ cls := "java/lang/StringUTF16", name := "getChar", desc := "([BI)C" } : Jvm.MethodName) jdk_52_method_5_code (2 : Nat) (Option.some Jvm.ClassFile.FieldType.char)).before args0 about1 = true := code_word (m := ⟨8, 4⟩) (meth := k8m4) (c := k8c4) (by decide +kernel) rfl rfl rfl (by decide +kernel)
set_option maxRecDepth 65536 in
theorem w_c19 : (Jvm.Cond.code ({ cls := "com/example/lintel/lintel/message/HeaderCursor", name := "next", desc := "()C" } : Jvm.MethodName) prog_1_method_4_code (1 : Nat) (Option.some Jvm.ClassFile.FieldType.char)).before args0 about1 = true := code_word (m := ⟨9, 2⟩) (meth := k9m2) (c := k9c2) (by decide +kernel) rfl rfl rfl (by decide +kernel)
set_option maxRecDepth 65536 in
theorem w_c20 : (Jvm.Cond.code ({ cls := "java/lang/String", name := "charAt", desc := "(I)C" } : Jvm.MethodName) jdk_42_method_56_code (2 : Nat) (Option.some Jvm.ClassFile.FieldType.char)).before args0 about1 = true := code_word (m := ⟨7, 3⟩) (meth := k7m3) (c := k7c3) (by decide +kernel) rfl rfl rfl (by decide +kernel)
set_option maxRecDepth 65536 in
theorem w_c21 : (Jvm.Cond.code ({ cls := "java/lang/String", name := "isLatin1", desc := "()Z" } : Jvm.MethodName) jdk_42_method_154_code (1 : Nat) (Option.some Jvm.ClassFile.FieldType.boolean)).before args0 about1 = true := code_word (m := ⟨7, 6⟩) (meth := k7m6) (c := k7c6) (by decide +kernel) rfl rfl rfl (by decide +kernel)
set_option maxRecDepth 65536 in
theorem w_c22 : (Jvm.Cond.code ({ cls := "java/lang/StringUTF16", name := "charAt", desc := "([BI)C" } : Jvm.MethodName) jdk_52_method_83_code (2 : Nat) (Option.some Jvm.ClassFile.FieldType.char)).before args0 about1 = true := code_word (m := ⟨8, 10⟩) (meth := k8m10) (c := k8c10) (by decide +kernel) rfl rfl rfl (by decide +kernel)
set_option maxRecDepth 65536 in
theorem w_c23 : (Jvm.Cond.code ({ cls := "java/lang/StringUTF16", name := "checkIndex", desc := "(I[B)V" } : Jvm.MethodName) jdk_52_method_91_code (2 : Nat) (Option.none : Option Jvm.ClassFile.FieldType)).before args0 about1 = true := code_word (m := ⟨8, 11⟩) (meth := k8m11) (c := k8c11) (by decide +kernel) rfl rfl rfl (by decide +kernel)
set_option maxRecDepth 65536 in
theorem w_c24 : (Jvm.Cond.code ({ cls := "java/lang/StringUTF16", name := "length", desc := "([B)I" } : Jvm.MethodName) jdk_52_method_6_code (1 : Nat) (Option.some Jvm.ClassFile.FieldType.int)).before args0 about1 = true := code_word (m := ⟨8, 5⟩) (meth := k8m5) (c := k8c5) (by decide +kernel) rfl rfl rfl (by decide +kernel)
set_option maxRecDepth 65536 in
theorem w_c25 : (Jvm.Cond.code ({ cls := "java/lang/String", name := "checkIndex", desc := "(II)V" } : Jvm.MethodName) jdk_42_method_155_code (2 : Nat) (Option.none : Option Jvm.ClassFile.FieldType)).before args0 about1 = true := code_word (m := ⟨7, 7⟩) (meth := k7m7) (c := k7c7) (by decide +kernel) rfl rfl rfl (by decide +kernel)
set_option maxRecDepth 65536 in
theorem w_c26 : (Jvm.Cond.code ({ cls := "jdk/internal/util/Preconditions", name := "checkIndex", desc := "(IILjava/util/function/BiFunction;)I" } : Jvm.MethodName) jdk_41_method_11_code (3 : Nat) (Option.some Jvm.ClassFile.FieldType.int)).before args0 about1 = true := code_word (m := ⟨11, 1⟩) (meth := k11m1) (c := k11c1) (by decide +kernel) rfl rfl rfl (by decide +kernel)
set_option maxRecDepth 65536 in
theorem w_c27 : (Jvm.Cond.code ({ cls := "java/lang/StringLatin1", name := "charAt", desc := "([BI)C" } : Jvm.MethodName) jdk_43_method_2_code (2 : Nat) (Option.some Jvm.ClassFile.FieldType.char)).before args0 about1 = true := code_word (m := ⟨12, 1⟩) (meth := k12m1) (c := k12c1) (by decide +kernel) rfl rfl rfl (by decide +kernel)
def codes1 : List Jvm.Cond := [Jvm.Cond.code x code maxLocals ret, Jvm.Cond.code ({ cls := "com/example/lintel/lintel/message/HeaderCursorAtEndPinLaw", name := "make", desc := "(ICCC)Ljava/lang/String;" } : Jvm.MethodName) method_2_code (4 : Nat) (Option.some (Jvm.ClassFile.FieldType.object "java/lang/String")), Jvm.Cond.code ({ cls := "java/lang/String", name := "<init>", desc := "([C)V" } : Jvm.MethodName) jdk_42_method_3_code (2 : Nat) (Option.none : Option Jvm.ClassFile.FieldType), Jvm.Cond.code ({ cls := "java/lang/String", name := "<init>", desc := "([CIILjava/lang/Void;)V" } : Jvm.MethodName) jdk_42_method_149_code (6 : Nat) (Option.none : Option Jvm.ClassFile.FieldType), Jvm.Cond.code ({ cls := "java/lang/Object", name := "<init>", desc := "()V" } : Jvm.MethodName) object_method_1_code (1 : Nat) (Option.none : Option Jvm.ClassFile.FieldType), Jvm.Cond.code ({ cls := "java/lang/StringUTF16", name := "compress", desc := "([CII)[B" } : Jvm.MethodName) jdk_52_method_16_code (6 : Nat) (Option.some (Jvm.ClassFile.FieldType.array Jvm.ClassFile.FieldType.byte)), Jvm.Cond.code ({ cls := "java/lang/StringUTF16", name := "compress", desc := "([CI[BII)I" } : Jvm.MethodName) jdk_52_method_21_code (7 : Nat) (Option.some Jvm.ClassFile.FieldType.int), Jvm.Cond.code ({ cls := "java/lang/StringUTF16", name := "coderFromArrayLen", desc := "([BI)B" } : Jvm.MethodName) jdk_52_method_15_code (2 : Nat) (Option.some Jvm.ClassFile.FieldType.byte), Jvm.Cond.code ({ cls := "com/example/lintel/lintel/message/HeaderCursor", name := "<init>", desc := "(Ljava/lang/String;Ljava/lang/String;)V" } : Jvm.MethodName) prog_1_method_1_code (3 : Nat) (Option.none : Option Jvm.ClassFile.FieldType), Jvm.Cond.code ({ cls := "com/example/lintel/lintel/message/HeaderCursor", name := "atEnd", desc := "()Z" } : Jvm.MethodName) prog_1_method_2_code (1 : Nat) (Option.some Jvm.ClassFile.FieldType.boolean), Jvm.Cond.code ({ cls := "java/lang/String", name := "length", desc := "()I" } : Jvm.MethodName) jdk_42_method_54_code (1 : Nat) (Option.some Jvm.ClassFile.FieldType.int), Jvm.Cond.code ({ cls := "java/lang/String", name := "coder", desc := "()B" } : Jvm.MethodName) jdk_42_method_152_code (1 : Nat) (Option.some Jvm.ClassFile.FieldType.byte), Jvm.Cond.code ({ cls := "java/lang/Math", name := "min", desc := "(II)I" } : Jvm.MethodName) jdk_29_method_69_code (2 : Nat) (Option.some Jvm.ClassFile.FieldType.int), Jvm.Cond.code ({ cls := "com/example/lintel/lintel/message/HeaderCursor", name := "reset", desc := "(I)V" } : Jvm.MethodName) prog_1_method_6_code (2 : Nat) (Option.none : Option Jvm.ClassFile.FieldType), Jvm.Cond.code ({ cls := "java/lang/StringUTF16", name := "toBytes", desc := "([CII)[B" } : Jvm.MethodName) jdk_52_method_14_code (5 : Nat) (Option.some (Jvm.ClassFile.FieldType.array Jvm.ClassFile.FieldType.byte)), Jvm.Cond.code ({ cls := "java/lang/StringUTF16", name := "newBytesFor", desc := "(I)[B" } : Jvm.MethodName) jdk_52_method_2_code (1 : Nat) (Option.some (Jvm.ClassFile.FieldType.array Jvm.ClassFile.FieldType.byte)), Jvm.Cond.code ({ cls := "java/lang/StringUTF16", name := "newBytesLength", desc := "(I)I" } : Jvm.MethodName) jdk_52_method_3_code (1 : Nat) (Option.some Jvm.ClassFile.FieldType.int), Jvm.Cond.code ({ cls := "java/lang/StringUTF16", name := "putChar", desc := "([BII)V" } : Jvm.MethodName) jdk_52_method_4_code (3 : Nat) (Option.none : Option Jvm.ClassFile.FieldType), Jvm.Cond.code ({ cls := "java/lang/StringUTF16", name := "getChar", desc := "([BI)C" } : Jvm.MethodName) jdk_52_method_5_code (2 : Nat) (Option.some Jvm.ClassFile.FieldType.char), Jvm.Cond.code ({ cls := "com/example/lintel/lintel/message/HeaderCursor", name := "next", desc := "()C" } : Jvm.MethodName) prog_1_method_4_code (1 : Nat) (Option.some Jvm.ClassFile.FieldType.char), Jvm.Cond.code ({ cls := "java/lang/String", name := "charAt", desc := "(I)C" } : Jvm.MethodName) jdk_42_method_56_code (2 : Nat) (Option.some Jvm.ClassFile.FieldType.char), Jvm.Cond.code ({ cls := "java/lang/String", name := "isLatin1", desc := "()Z" } : Jvm.MethodName) jdk_42_method_154_code (1 : Nat) (Option.some Jvm.ClassFile.FieldType.boolean), Jvm.Cond.code ({ cls := "java/lang/StringUTF16", name := "charAt", desc := "([BI)C" } : Jvm.MethodName) jdk_52_method_83_code (2 : Nat) (Option.some Jvm.ClassFile.FieldType.char), Jvm.Cond.code ({ cls := "java/lang/StringUTF16", name := "checkIndex", desc := "(I[B)V" } : Jvm.MethodName) jdk_52_method_91_code (2 : Nat) (Option.none : Option Jvm.ClassFile.FieldType), Jvm.Cond.code ({ cls := "java/lang/StringUTF16", name := "length", desc := "([B)I" } : Jvm.MethodName) jdk_52_method_6_code (1 : Nat) (Option.some Jvm.ClassFile.FieldType.int), Jvm.Cond.code ({ cls := "java/lang/String", name := "checkIndex", desc := "(II)V" } : Jvm.MethodName) jdk_42_method_155_code (2 : Nat) (Option.none : Option Jvm.ClassFile.FieldType), Jvm.Cond.code ({ cls := "jdk/internal/util/Preconditions", name := "checkIndex", desc := "(IILjava/util/function/BiFunction;)I" } : Jvm.MethodName) jdk_41_method_11_code (3 : Nat) (Option.some Jvm.ClassFile.FieldType.int), Jvm.Cond.code ({ cls := "java/lang/StringLatin1", name := "charAt", desc := "([BI)C" } : Jvm.MethodName) jdk_43_method_2_code (2 : Nat) (Option.some Jvm.ClassFile.FieldType.char)]
set_option maxRecDepth 65536 in
theorem codes_eq : words1.filter isCode = codes1 := rfl
theorem w_codes : ∀ c ∈ words1.filter isCode, c.before args0 about1 = true := by
  rw [codes_eq]
  intro c hc
  simp only [codes1, List.mem_cons, List.not_mem_nil, or_false] at hc
  rcases hc with rfl | rfl | rfl | rfl | rfl | rfl | rfl | rfl | rfl | rfl | rfl | rfl | rfl | rfl | rfl | rfl | rfl | rfl | rfl | rfl | rfl | rfl | rfl | rfl | rfl | rfl | rfl | rfl
  · exact w_c0
  · exact w_c1
  · exact w_c2
  · exact w_c3
  · exact w_c4
  · exact w_c5
  · exact w_c6
  · exact w_c7
  · exact w_c8
  · exact w_c9
  · exact w_c10
  · exact w_c11
  · exact w_c12
  · exact w_c13
  · exact w_c14
  · exact w_c15
  · exact w_c16
  · exact w_c17
  · exact w_c18
  · exact w_c19
  · exact w_c20
  · exact w_c21
  · exact w_c22
  · exact w_c23
  · exact w_c24
  · exact w_c25
  · exact w_c26
  · exact w_c27
set_option maxRecDepth 65536 in
theorem w_t1 : (words1.take 24).all (fun c => isCode c || c.before args0 about1) = true := by decide +kernel
set_option maxRecDepth 65536 in
theorem w_t2 : ((words1.drop 24).take 24).all (fun c => isCode c || c.before args0 about1) = true := by decide +kernel
set_option maxRecDepth 65536 in
theorem w_t3 : (((words1.drop 24).drop 24).take 24).all (fun c => isCode c || c.before args0 about1) = true := by decide +kernel
set_option maxRecDepth 65536 in
theorem w_t4 : ((((words1.drop 24).drop 24).drop 24).take 24).all (fun c => isCode c || c.before args0 about1) = true := by decide +kernel
set_option maxRecDepth 65536 in
theorem w_t5 : (((((words1.drop 24).drop 24).drop 24).drop 24).take 24).all (fun c => isCode c || c.before args0 about1) = true := by decide +kernel
set_option maxRecDepth 65536 in
theorem w_t6 : (((((words1.drop 24).drop 24).drop 24).drop 24).drop 24).all (fun c => isCode c || c.before args0 about1) = true := by decide +kernel
theorem w_tables : (allAtoms (Jvm.Cond.code x code maxLocals ret :: tables_1)).before args0 about1 = true := by
  rw [allAtoms_all]
  show words1.all (fun c => c.before args0 about1) = true
  refine all_split ?_ w_codes
  rw [← List.take_append_drop 24 words1, List.all_append, w_t1, ← List.take_append_drop 24 (words1.drop 24), List.all_append, w_t2, ← List.take_append_drop 24 ((words1.drop 24).drop 24), List.all_append, w_t3, ← List.take_append_drop 24 (((words1.drop 24).drop 24).drop 24), List.all_append, w_t4, ← List.take_append_drop 24 ((((words1.drop 24).drop 24).drop 24).drop 24), List.all_append, w_t5, w_t6]
  rfl
set_option maxRecDepth 65536 in
theorem w_rest : rest_1_c.before args0 about1 = true := by decide +kernel
set_option maxRecDepth 65536 in
theorem w_case : (Jvm.Cond.and given_1 narrow_1).before args0 about1 = true := by decide +kernel
set_option maxRecDepth 65536 in
theorem w_consts : constsHeld consts_1 about1 := Jvm.Lit.constsHeldB_iff.mp (by decide +kernel)
theorem w_applies : (headSpec (Jvm.Cond.code x code maxLocals ret :: tables_1) room_1).applies x e0.platform about1 = true :=
  (Spec.applies_iff w_frames).mpr ⟨w_running, w_runnable, w_alone, w_named, w_hears, w_ripe, w_room, w_tables⟩
theorem atStart : AtStart classFile x code maxLocals ret World_1 tables_1 room_1 Calls_1 rest_1 Pre_1 launch0 p0 e0 about1 theMethod args0 below0 :=
  ⟨lists_1, trivial, launch0.admits_env _ _ _, launch0.least_env, fairChoices_fair.cas, fairChoices_fair.clock, w_frames, w_args, w_heap, w_applies, ⟨w_consts, trivial⟩, w_rest, w_case⟩
end start1
theorem witness_1 : WitnessClaimed_1 := ⟨start1.p0, start1.e0, start1.about1, start1.theMethod, start1.args0, start1.below0, start1.atStart⟩
end Jvm.Pilot.@@N@@
