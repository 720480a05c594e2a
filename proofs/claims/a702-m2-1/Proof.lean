import JvmDerived
import JvmDerived.Pilot.@@N@@Statement
import JvmDerived.Pilot.@@N@@Code
set_option linter.unusedVariables false
set_option linter.unusedSimpArgs false
namespace Jvm.RoadKit
open Sem ClassFile Op Lib Jvm.Stand Jvm.Free Jvm.LawKit
section New
variable {p : Program} {l : Launch} {e : Env} {R : Room} {s : State} {m : MethodId} {args : Array Value} {below : List Frame} {meth : Method} {c : Code} {T : State} {locs : List Loc} {cells slots : Nat}
theorem retI (X : Stand p l e R s m args below meth c T locs cells slots) (hx : p.tables.exec = Jvm.exec) {pc : Nat} {Ls : Array Slot} {z : Int32} {rest : List Value} (hret : meth.sig.returnType = some .int) (hd : decode c.code pc = .ok (.ireturn, 1)) {fs : List Frame}
    (hl : ∀ (f : JFrame) (acts : List Action), f.method = m → f.locked = none → f.entered = [] → (doReturn e (T.setTop f) acts (some (.int z))).1 = T.setFrames fs) : Steps p.tables e below (T.setTop (mkF m pc Ls (.int z :: rest))) (T.setFrames fs) := by
  have hm' : T.vm.method? m = some meth := X.method'
  have hn : narrow .int (.int z) = .int z := rfl
  show Steps p.tables e below (T.setTop { method := m, pc := pc, locals := Ls, stack := _ :: rest, locked := none }) _
  jvm_step X.here [X.here.top, hx, hd, hm', hret, hn]
  first | (intro acts; rw [hl _ acts rfl rfl rfl]) | rw [hl _ _ rfl rfl rfl]
  exact Steps.refl _
end New
end Jvm.RoadKit
namespace Jvm.Pilot.@@N@@
open Jvm Jvm.ClassFile Sem Op Lib Jvm.Free Jvm.Stand Jvm.LawKit Jvm.RoadKit Bundle Jvm.Pilot.@@N@@.Jvm.D
abbrev nm0 : MethodName := ⟨"java/lang/StringUTF16", "compress", "([CI[BII)I"⟩
abbrev nm1 : MethodName := ⟨"java/lang/StringUTF16", "compress", "([CII)[B"⟩
abbrev nm2 : MethodName := ⟨"java/lang/StringUTF16", "coderFromArrayLen", "([BI)B"⟩
abbrev nm3 : MethodName := ⟨"java/lang/String", "<init>", "([CIILjava/lang/Void;)V"⟩
abbrev nm4 : MethodName := ⟨"java/lang/String", "<init>", "([C)V"⟩
abbrev nm5 : MethodName := ⟨"java/lang/StringLatin1", "canEncode", "(C)Z"⟩
abbrev nm6 : MethodName := ⟨"java/lang/StringLatin1", "toBytes", "(C)[B"⟩
abbrev nm7 : MethodName := ⟨"java/lang/String", "<init>", "([BB)V"⟩
abbrev nm8 : MethodName := ⟨"java/lang/String", "valueOf", "(C)Ljava/lang/String;"⟩
abbrev nm9 : MethodName := ⟨"java/lang/Record", "<init>", "()V"⟩
abbrev nm10 : MethodName := ⟨"com/example/lintel/lintel/model/TemplatePart", "<init>", "(Ljava/lang/String;Ljava/lang/String;Ljava/lang/String;)V"⟩
abbrev nm11 : MethodName := ⟨"com/example/lintel/lintel/model/TemplatePart", "isVariable", "()Z"⟩
abbrev nm12 : MethodName := ⟨"com/example/lintel/lintel/model/TemplatePartIsVariablePinLaw", "pick", "(III)Ljava/lang/String;"⟩
theorem wk44 {a0 : Array Value} {Z : State} (hw : ∀ d ∈ tables_1, d.before a0 Z = true) : (Jvm.Cond.initialized "java/lang/StringUTF16").before a0 Z = true := hw _ (List.mem_of_getElem? (i := 44) rfl)
theorem wk50 {a0 : Array Value} {Z : State} (hw : ∀ d ∈ tables_1, d.before a0 Z = true) : (Jvm.Cond.methodLink "java/lang/String" (47 : Nat) ({ cls := "java/lang/StringUTF16", name := "coderFromArrayLen", desc := "([BI)B" } : Jvm.MethodName)).before a0 Z = true := hw _ (List.mem_of_getElem? (i := 50) rfl)
theorem wk51 {a0 : Array Value} {Z : State} (hw : ∀ d ∈ tables_1, d.before a0 Z = true) : (Jvm.Cond.static ({ cls := "java/lang/StringUTF16", name := "coderFromArrayLen", desc := "([BI)B" } : Jvm.MethodName)).before a0 Z = true := hw _ (List.mem_of_getElem? (i := 51) rfl)
theorem wk52 {a0 : Array Value} {Z : State} (hw : ∀ d ∈ tables_1, d.before a0 Z = true) : (Jvm.Cond.code ({ cls := "java/lang/StringUTF16", name := "coderFromArrayLen", desc := "([BI)B" } : Jvm.MethodName) jdk_52_method_15_code (2 : Nat) (Option.some Jvm.ClassFile.FieldType.byte)).before a0 Z = true := hw _ (List.mem_of_getElem? (i := 52) rfl)
theorem wk60 {a0 : Array Value} {Z : State} (hw : ∀ d ∈ tables_1, d.before a0 Z = true) : (Jvm.Cond.methodLink "java/lang/String" (1015 : Nat) ({ cls := "java/lang/StringLatin1", name := "canEncode", desc := "(C)Z" } : Jvm.MethodName)).before a0 Z = true := hw _ (List.mem_of_getElem? (i := 60) rfl)
theorem wk61 {a0 : Array Value} {Z : State} (hw : ∀ d ∈ tables_1, d.before a0 Z = true) : (Jvm.Cond.static ({ cls := "java/lang/StringLatin1", name := "canEncode", desc := "(C)Z" } : Jvm.MethodName)).before a0 Z = true := hw _ (List.mem_of_getElem? (i := 61) rfl)
theorem wk62 {a0 : Array Value} {Z : State} (hw : ∀ d ∈ tables_1, d.before a0 Z = true) : (Jvm.Cond.initialized "java/lang/StringLatin1").before a0 Z = true := hw _ (List.mem_of_getElem? (i := 62) rfl)
theorem wk63 {a0 : Array Value} {Z : State} (hw : ∀ d ∈ tables_1, d.before a0 Z = true) : (Jvm.Cond.code ({ cls := "java/lang/StringLatin1", name := "canEncode", desc := "(C)Z" } : Jvm.MethodName) jdk_43_method_3_code (1 : Nat) (Option.some Jvm.ClassFile.FieldType.boolean)).before a0 Z = true := hw _ (List.mem_of_getElem? (i := 63) rfl)
theorem own_callP {p : Program} {l : Launch} {e : Env} {R : Room} {s : State} {m : MethodId} {args : Array Value} {below : List Frame} {meth : Method} {c : Code} {T Z : State} {locs : List Loc} {cells slots : Nat} {a0 : Array Value} {h : Heap} {n0 : Nat} (X : Stand p l e R s m args below meth c T locs cells slots) (hx : p.tables.exec = Jvm.exec) (hZ : Z.Warmed39 s.vm) {own : String} {index : Nat} {y : MethodName} {bytes : ByteArray} {maxL : Nat} {ret : Option FieldType} {rm : Room} {rv : Value} {argsL rest : List Value} {W : Nat}
    (hown : s.vm.findClass own = some m.cls) (w1 : (Jvm.Cond.methodLink own index y).before a0 Z = true) (w2 : (Jvm.Cond.static y).before a0 Z = true) (w3 : (Jvm.Cond.initialized y.cls).before a0 Z = true) (w4 : (Jvm.Cond.code y bytes maxL ret).before a0 Z = true) (hy : y.cls ≠ "java/lang/invoke/MethodHandle" ∧ y.cls ≠ "java/lang/invoke/VarHandle")
    (hM : MetFree l y (head1 [Jvm.Cond.code y bytes maxL ret] rm) (fun a U => a = argsL.toArray ∧ Z.Warmed39 U.vm ∧ U.heap = h) (fun _ _ _ _ _ => True) (fun _ U o U' => ∃ v L, o = .returned v ∧ (v = some rv ∧ Fr n0 L ∧ U'.heap = h) ∧ FrameEnd U o U' L rm.cells rm.slots))
    (eT : T.heap = h) (N : Fr n0 locs) (hf : rm.frames + 1 ≤ R.frames) (hl : W + (maxL + 11) + rm.locals ≤ R.locals) (hc : cells + rm.cells ≤ R.cells) (hsl : slots + rm.slots ≤ R.slots)
    {g : JFrame} (hg : g.method = m) (hsize : g.locals.size = c.maxLocals) (hlen : ∀ sig, parseMethodDescriptor y.desc = some sig → argsL.length = sig.parameters.length) (hstack : g.stack = argsL.reverse ++ rest) (hW : 2 * g.monitorRoom + (rest.map fun v => v.category).sum ≤ W) (hdg : decode c.code g.pc = .ok (.invokestatic index, 3)) :
    ∃ T' L, Stand p l e R s m args below meth c T' L (cells + rm.cells) (slots + rm.slots) ∧ T'.heap = h ∧ Fr n0 L ∧ ∀ target, Steps p.tables e below (T'.setTop { g with pc := g.pc + 3, stack := rv :: rest }) target → Steps p.tables e below (T.setTop g) target := by
  obtain ⟨_, _, ⟨T', L', k', n'⟩, -, X', ⟨Lc, hQ, l1, y1, z1⟩, st⟩ := Jvm.LawKit.callS X hx (y := y) hown (mvT hZ w1) (mvT hZ w2) (mvT hZ w3) (mvT hZ w4) hy (backOf (W := W) (Q := fun v hh L => v = some rv ∧ Fr n0 L ∧ hh = h) hM hZ w4 w3 hf hl) hg hsize (argsL := argsL) (rest := rest) hlen hstack hW hdg (fun _ _ => ⟨rfl, eT, hc, hsl⟩)
  dsimp only [Pt.U, Pt.locs, Pt.cells, Pt.slots] at X' l1 y1 z1 st hQ
  subst l1 y1 z1
  obtain ⟨rfl, Nq, e'⟩ := hQ
  exact ⟨T', _, X', e', Fr.app N Nq, st⟩
theorem catV {v : Value} (h : v.isRef = true) : v.category = 1 := by cases v <;> first | rfl | cases h
theorem fitsV {C : String} {v : Value} (h : v.isRef = true) : fits (.object C) v = true := by cases v <;> first | rfl | cases h
theorem own_wS {Z : State} {a0 : Array Value} (hw : ∀ d ∈ tables_1, d.before a0 Z = true) : ∀ a ∈ Bundle.stringAtoms, a.before a0 Z = true := by
  intro a ha
  simp only [Bundle.stringAtoms, List.mem_cons, List.not_mem_nil, or_false] at ha
  rcases ha with rfl | rfl | rfl | rfl | rfl | rfl | rfl
  · exact (hw _ (List.mem_of_getElem? (i := 32) rfl))
  · exact (hw _ (List.mem_of_getElem? (i := 31) rfl))
  · exact (hw _ (List.mem_of_getElem? (i := 46) rfl))
  · exact (hw _ (List.mem_of_getElem? (i := 56) rfl))
  · exact (hw _ (List.mem_of_getElem? (i := 54) rfl))
  · exact (hw _ (List.mem_of_getElem? (i := 72) rfl))
  · exact (hw _ (List.mem_of_getElem? (i := 73) rfl))
def own_lit (vm : Vm) (a : Addr) : Prop := ∀ s : State, Lit (s.setVm vm) "java/lang/String" 7 a
def own_R (Z : State) (h : Heap) (vm : Vm) : Prop := IB Z vm [] ∨ ∃ (a b : Addr) (k : ClassId), own_lit vm a ∧ Exa Z h a "java/lang/String" ∧ Fld Z h a "java/lang/String" "coder" "B" (.int (0 : Int32)) ∧ Fld Z h a "java/lang/String" "value" "[B" (.ref b) ∧ Arv Z h b k .byte (0 : Int32) [] (.int (0 : Int32))
theorem own_lit_of {s : State} {vm : Vm} {a : Addr} (L : Lit (s.setVm vm) "java/lang/String" 7 a) : own_lit vm a := fun _ => L
theorem own_lit_warm {s : State} {vm1 : Vm} {a : Addr} (L : own_lit s.vm a) (hW : s.WarmedH vm1) : own_lit vm1 a := own_lit_of (Lit.stays (s := s) (vm0 := s.vm) (L s) hW.wide)
theorem own_R_warm {Z s : State} {h : Heap} {vm1 : Vm} (hW : s.WarmedH vm1) (r : own_R Z h s.vm) : own_R Z h vm1 := by
  rcases r with ⟨more, e, hm⟩ | ⟨a, b, k, L, E, C, V, A⟩
  · exact Or.inl ⟨more, hW.interned_eq.trans e, hm⟩
  · exact Or.inr ⟨a, b, k, own_lit_warm L hW, E, C, V, A⟩
theorem own_R_keep {Z : State} {h h' : Heap} {vm : Vm} (r : own_R Z h vm) (K : Keep h h' []) : own_R Z h' vm := by
  rcases r with r | ⟨a, b, k, L, E, C, V, A⟩
  · exact Or.inl r
  · exact Or.inr ⟨a, b, k, L, E.keep K, C.keep K nin0, V.keep K nin0, A.keep K nin0⟩
theorem own_backW {l : Launch} {R : Room} {p : Program} {e : Env} {below : List Frame} {s Z : State} {args a0 : Array Value} {h : Heap} {y : MethodName} {bytes : ByteArray} {maxL : Nat} {ret : Option FieldType} {rm : Room} {len W : Nat} {as' : Array Value} {Q : Option Value → Heap → List Loc → Prop}
    (hM : MetFree l y (head1 [Jvm.Cond.code y bytes maxL ret] rm) (fun a U => a = as' ∧ Z.Warmed39 U.vm ∧ U.heap = h ∧ own_R Z h U.vm) (fun _ _ _ _ _ => True) (fun _ U o U' => ∃ v L, o = .returned v ∧ (Q v U'.heap L ∧ own_R Z U'.heap U'.vm) ∧ ReturnedEndW U o U' L rm.cells rm.slots))
    (hZ : Z.Warmed39 s.vm) (wc : (Jvm.Cond.code y bytes maxL ret).before a0 Z = true) (wz : (Jvm.Cond.initialized y.cls).before a0 Z = true) (hf : rm.frames + 1 ≤ R.frames) (hl : W + (maxL + 11) + rm.locals ≤ R.locals) :
    BackS l R p e below s args y len W (fun A a => a = as' ∧ A.U.heap = h ∧ own_R Z h A.U.vm ∧ A.cells + rm.cells ≤ R.cells ∧ A.slots + rm.slots ≤ R.slots)
      (fun A _ v B => ∃ L, Q v B.U.heap L ∧ own_R Z B.U.heap B.U.vm ∧ B.locs = A.locs ++ L ∧ B.cells = A.cells + rm.cells ∧ B.slots = A.slots + rm.slots) :=
  BackS.of_freeW (bytes := bytes) (maxL := maxL) (ret := ret) (E := fun _ _ o t L k n => k = rm.cells ∧ n = rm.slots ∧ ∃ v, o = .returned v ∧ Q v t.heap L ∧ own_R Z t.heap t.vm) hM hf hl
    (fun m meth c A a Y hp => have hU : Z.Warmed39 A.U.vm := wtrans hZ Y.warmed
      ⟨by show (Jvm.Cond.and _ .tt).before a A.U = true; rw [Cond.before_and, mv hU wc]; rfl, mv hU wc, mv hU wz, hp.2.2.2.1, hp.2.2.2.2⟩)
    (fun m meth c A a g mk Y hp => ⟨hp.1, wtrans hZ Y.warmed, hp.2.1, hp.2.2.1⟩) (fun _ _ _ _ _ _ _ _ _ => trivial)
    (fun _ _ _ _ ⟨v, L, h1, h2, h3⟩ => ⟨L, _, _, h3, rfl, rfl, v, h1, h2⟩)
    (fun m meth c A a g mk v t L k n Y hp _ _ ⟨e1, e2, v', e3, e4⟩ => by cases e3; subst e1 e2; exact ⟨L, e4.1, e4.2, rfl, rfl, rfl⟩)
theorem own_ne_arr {Z : State} {h : Heap} {a b : Addr} {C : String} {a0 : Array Value} {n : Nat} {k : ClassId} {ty : FieldType} {z : Int32} {vs : List Value} {d : Value} (E : Exa Z h a C) (wi : (Jvm.Cond.instantiable C n).before a0 Z = true) (A : Arv Z h b k ty z vs d) : b ≠ a := by
  obtain ⟨c, G, -⟩ := A
  exact Ne.symm (ne_arr E wi G)
theorem own_ch (x : Int32) : ¬ ((255 : Int32) < nar .char ((x &&& (255 : Int32)).toUInt32.toUInt16.toUInt32.toInt32)) := by
  have e1 : (x &&& (255 : Int32)).toUInt32.toUInt16.toUInt32.toInt32 = x &&& 255 := i2c_mask x
  rw [e1]
  have e2 : nar .char (x &&& (255 : Int32)) = x &&& 255 := i2c_mask x
  rw [e2, Int32.lt_iff_toInt_lt]
  have h := c_mask x 255 8 (by decide) (by decide)
  have k : (255 : Int32).toInt = 255 := rfl
  omega
theorem own_ch1 (x : Int32) : ¬ ((255 : Int32) < ((x &&& (255 : Int32)).toUInt32.toUInt16.toUInt32.toInt32)) := by
  have e2 := own_ch x
  rw [show nar .char ((x &&& (255 : Int32)).toUInt32.toUInt16.toUInt32.toInt32) = ((x &&& (255 : Int32)).toUInt32.toUInt16.toUInt32.toInt32).toUInt32.toUInt16.toUInt32.toInt32 from rfl, i2c_mask, i2c_mask] at e2
  rw [i2c_mask]
  exact e2
theorem d9_0 : decode jdk_52_method_21_code 0 = .ok (.iconst 0, 1) := by decide +kernel
theorem d9_1 : decode jdk_52_method_21_code 1 = .ok (.istore 5, 2) := by decide +kernel
theorem d9_3 : decode jdk_52_method_21_code 3 = .ok (.iload 5, 2) := by decide +kernel
theorem d9_5 : decode jdk_52_method_21_code 5 = .ok (.iload 4, 2) := by decide +kernel
theorem d9_7 : decode jdk_52_method_21_code 7 = .ok (.if_icmp .ge 37, 3) := by decide +kernel
theorem d9_10 : decode jdk_52_method_21_code 10 = .ok (.aload_n 0, 1) := by decide +kernel
theorem d9_11 : decode jdk_52_method_21_code 11 = .ok (.iload_n 1, 1) := by decide +kernel
theorem d9_12 : decode jdk_52_method_21_code 12 = .ok (.caload, 1) := by decide +kernel
theorem d9_13 : decode jdk_52_method_21_code 13 = .ok (.istore 6, 2) := by decide +kernel
theorem d9_15 : decode jdk_52_method_21_code 15 = .ok (.iload 6, 2) := by decide +kernel
theorem d9_17 : decode jdk_52_method_21_code 17 = .ok (.sipush 255, 3) := by decide +kernel
theorem d9_20 : decode jdk_52_method_21_code 20 = .ok (.if_icmp .le 6, 3) := by decide +kernel
theorem d9_26 : decode jdk_52_method_21_code 26 = .ok (.aload_n 2, 1) := by decide +kernel
theorem d9_27 : decode jdk_52_method_21_code 27 = .ok (.iload_n 3, 1) := by decide +kernel
theorem d9_28 : decode jdk_52_method_21_code 28 = .ok (.iload 6, 2) := by decide +kernel
theorem d9_30 : decode jdk_52_method_21_code 30 = .ok (.i2b, 1) := by decide +kernel
theorem d9_31 : decode jdk_52_method_21_code 31 = .ok (.bastore, 1) := by decide +kernel
theorem d9_32 : decode jdk_52_method_21_code 32 = .ok (.iinc 1 1, 3) := by decide +kernel
theorem d9_35 : decode jdk_52_method_21_code 35 = .ok (.iinc 3 1, 3) := by decide +kernel
theorem d9_38 : decode jdk_52_method_21_code 38 = .ok (.iinc 5 1, 3) := by decide +kernel
theorem d9_41 : decode jdk_52_method_21_code 41 = .ok (.goto (-38), 3) := by decide +kernel
theorem d9_44 : decode jdk_52_method_21_code 44 = .ok (.iload 4, 2) := by decide +kernel
theorem d9_46 : decode jdk_52_method_21_code 46 = .ok (.ireturn, 1) := by decide +kernel
theorem pn_9 : plainName "java/lang/StringUTF16" = true := by first | (simp [plainName, overriddenIn]; done) | decide +kernel
theorem ef_rmc5_2 (m : MethodId) (p0 : Addr) (p2 : Addr) : entryFrame m #[(.ref p0), (.int (0 : Int32)), (.ref p2), (.int (0 : Int32)), (.int (2 : Int32))] 7 = mkF m 0 #[.val (.ref p0), .val (.int (0 : Int32)), .val (.ref p2), .val (.int (0 : Int32)), .val (.int (2 : Int32)), .unset, .unset] [] := by first | (simp [entryFrame, mkF, argsToLocals, Value.category]; done) | rfl
def Qc5_2 (Z : State) (p0 : Addr) (p2 : Addr) (kc : ClassId) (c0 : Int32) (c1 : Int32) (kb : ClassId) (h0 : Heap) (n0 : Nat) (v : Option Value) (h : Heap) (L : List Loc) : Prop := v = some (.int (2 : Int32)) ∧ Fr n0 L ∧ Keep h0 h [p2] ∧ (Arv Z h p2 kb .byte (2 : Int32) [(.int ((c0.toInt8.toInt32).toInt8.toInt32)), (.int ((c1.toInt8.toInt32).toInt8.toInt32))] (.int (0 : Int32)))
set_option maxRecDepth 65536 in
set_option maxHeartbeats 40000000 in
theorem rmc5_2 (l : Launch) (Z : State) (a0 : Array Value) (hw : ∀ d ∈ tables_1, d.before a0 Z = true) (ws : List Jvm.Cond) (p0 : Addr) (p2 : Addr) (kc : ClassId) (c0 : Int32) (c1 : Int32) (kb : ClassId) (h0 : Heap) (n0 : Nat) (O0 : Old Z n0 h0) (F0_ : Arv Z h0 p0 kc .char (2 : Int32) [(.int c0), (.int c1)] (.int (0 : Int32))) (F1_ : Arv Z h0 p2 kb .byte (2 : Int32) [(.int (0 : Int32)), (.int (0 : Int32))] (.int (0 : Int32))) (F2_ : n0 ≤ p2) (F3_ : p0 ≠ p2) (hc0 : ¬ ((255 : Int32) < c0)) (hc1 : ¬ ((255 : Int32) < c1)) :
    MetFree l nm0 (head1 (Jvm.Cond.code nm0 jdk_52_method_21_code 7 (some .int) :: ws) ({ frames := 0, cells := 0, slots := 0, locals := 0 } : Room)) (fun a U => a = #[(.ref p0), (.int (0 : Int32)), (.ref p2), (.int (0 : Int32)), (.int (2 : Int32))] ∧ Z.Warmed39 U.vm ∧ U.heap = h0) (fun _ _ _ _ _ => True) (fun _ U o U' => ∃ v L, o = .returned v ∧ Qc5_2 Z p0 p2 kc c0 c1 kb h0 n0 v U'.heap L ∧ FrameEnd U o U' L ({ frames := 0, cells := 0, slots := 0, locals := 0 } : Room).cells ({ frames := 0, cells := 0, slots := 0, locals := 0 } : Room).slots) := by
  refine MetFree.of_bodySF (plainFor_of_name pn_9) hisR ?_
  intro p e s m args below meth c s₁ Bd hml0 hP hK
  obtain ⟨rfl, hZ, hh⟩ := hP
  have hx := Bd.exec
  have hby := Bd.bytes
  have hml : c.maxLocals = 7 := hml0
  have hown : s.vm.findClass "java/lang/StringUTF16" = some m.cls := findClass_of_methodNamed Bd.named
  have hnm := (name_of_methodNamed Bd.named Bd.method).1
  have X0 : Stand p l e ({ frames := 0, cells := 0, slots := 0, locals := 0 } : Room) s m #[(.ref p0), (.int (0 : Int32)), (.ref p2), (.int (0 : Int32)), (.int (2 : Int32))] below meth c s₁ [] 0 0 := Stand.of_body Bd
  have e0 : s₁.heap = h0 := by rw [← hh, Bd.state]; rfl
  have N0 := Fr.nil n0
  have s0 : Steps p.tables e below (s₁.setTop (entryFrame m #[(.ref p0), (.int (0 : Int32)), (.ref p2), (.int (0 : Int32)), (.int (2 : Int32))] 7)) (s₁.setTop (mkF m 0 #[.val (.ref p0), .val (.int (0 : Int32)), .val (.ref p2), .val (.int (0 : Int32)), .val (.int (2 : Int32)), .unset, .unset] [])) := castTop (ef_rmc5_2 m p0 p2) (Steps.refl _)
  obtain ⟨A₀, hA₀⟩ : ∃ z, z = (s₁.setTop (entryFrame m #[(.ref p0), (.int (0 : Int32)), (.ref p2), (.int (0 : Int32)), (.int (2 : Int32))] 7)) := ⟨_, rfl⟩
  rw [← hA₀] at s0
  obtain ⟨cla1, Ara1, qa1, Sa1, Za1, Ha1, Ga1⟩ := id F0_
  have hin2 : ¬ ((0 : Int32) < 0 ∨ cla1.slots.size ≤ ((0 : Int32)).toNatClampNeg) := inb_of Sa1 ⟨by decide, by decide⟩
  have hat3 : cla1.slots[((0 : Int32)).toNatClampNeg]? = some (.int c0) := Has.at Ha1 hin2 rfl
  obtain ⟨cla4, Ara4, qa4, Sa4, Za4, Ha4, Ga4⟩ := id F1_
  have hin5 : ¬ ((0 : Int32) < 0 ∨ cla4.slots.size ≤ ((0 : Int32)).toNatClampNeg) := inb_of Sa4 ⟨by decide, by decide⟩
  obtain ⟨T6, h6, X6, e6, W6, st6⟩ := stB X0 hx hZ e0 Ara4 (j := (0 : Int32)) hin5 (g := (mkF m 31 #[.val (.ref p0), .val (.int (0 : Int32)), .val (.ref p2), .val (.int (0 : Int32)), .val (.int (2 : Int32)), .val (.int (0 : Int32)), .val (.int c0)] [(.int (c0.toInt8.toInt32)), (.int (0 : Int32)), (.ref p2)])) rfl rfl (hb hby d9_31)
  have O6 := O0.wr W6 F2_
  have K6 : Keep h0 h6 [p2] := (Keep.refl h0 [p2]).wr W6 (Or.inl (List.mem_of_getElem? (i := 0) rfl))
  have N6 := Fr.snoc X6 N0 F2_
  have V6 : Arv Z h6 p2 kb .byte (2 : Int32) [(.int ((c0.toInt8.toInt32).toInt8.toInt32)), (.int (0 : Int32))] (.int (0 : Int32)) := Arv.set Ara4 qa4 Sa4 Za4 Ha4 Ga4 (fits_nar_byte _) W6 0 rfl (Nat.le_of_ble_eq_true rfl)
  have c7 : Arv Z h6 p0 kc .char (2 : Int32) [(.int c0), (.int c1)] (.int (0 : Int32)) := (F0_.other W6 F3_)
  obtain ⟨cla8, Ara8, qa8, Sa8, Za8, Ha8, Ga8⟩ := id c7
  have hin9 : ¬ ((1 : Int32) < 0 ∨ cla8.slots.size ≤ ((1 : Int32)).toNatClampNeg) := inb_of Sa8 ⟨by decide, by decide⟩
  have hat10 : cla8.slots[((1 : Int32)).toNatClampNeg]? = some (.int c1) := Has.at Ha8 hin9 rfl
  obtain ⟨cla11, Ara11, qa11, Sa11, Za11, Ha11, Ga11⟩ := id V6
  have hin12 : ¬ ((1 : Int32) < 0 ∨ cla11.slots.size ≤ ((1 : Int32)).toNatClampNeg) := inb_of Sa11 ⟨by decide, by decide⟩
  obtain ⟨T13, h13, X13, e13, W13, st13⟩ := stB X6 hx hZ e6 Ara11 (j := (1 : Int32)) hin12 (g := (mkF m 31 #[.val (.ref p0), .val (.int (1 : Int32)), .val (.ref p2), .val (.int (1 : Int32)), .val (.int (2 : Int32)), .val (.int (1 : Int32)), .val (.int c1)] [(.int (c1.toInt8.toInt32)), (.int (1 : Int32)), (.ref p2)])) rfl rfl (hb hby d9_31)
  have O13 := O6.wr W13 F2_
  have K13 : Keep h0 h13 [p2] := K6.wr W13 (Or.inl (List.mem_of_getElem? (i := 0) rfl))
  have N13 := Fr.snoc X13 N6 F2_
  have V13 : Arv Z h13 p2 kb .byte (2 : Int32) [(.int ((c0.toInt8.toInt32).toInt8.toInt32)), (.int ((c1.toInt8.toInt32).toInt8.toInt32))] (.int (0 : Int32)) := Arv.set Ara11 qa11 Sa11 Za11 Ha11 Ga11 (fits_nar_byte _) W13 1 rfl (Nat.le_of_ble_eq_true rfl)
  have s14 : Steps p.tables e below A₀ (T13.setTop (mkF m 46 #[.val (.ref p0), .val (.int (2 : Int32)), .val (.ref p2), .val (.int (2 : Int32)), .val (.int (2 : Int32)), .val (.int (2 : Int32)), .val (.int c1)] [(.int (2 : Int32))])) := by
    refine s0.trans ?_
    refine XS.iconst X0.here hx rfl (hb hby d9_0) ?_
    show Steps p.tables e below (s₁.setTop (mkF m 1 #[.val (.ref p0), .val (.int (0 : Int32)), .val (.ref p2), .val (.int (0 : Int32)), .val (.int (2 : Int32)), .unset, .unset] [(.int (0 : Int32))])) _
    refine XS.istore X0.here hx rfl (hb hby d9_1) rfl (l' := #[.val (.ref p0), .val (.int (0 : Int32)), .val (.ref p2), .val (.int (0 : Int32)), .val (.int (2 : Int32)), .val (.int (0 : Int32)), .unset]) rfl ?_
    refine XS.iload X0.here hx rfl (hb hby d9_3) rfl ?_
    refine XS.iload X0.here hx rfl (hb hby d9_5) rfl ?_
    refine XS.icmpNo X0.here hx rfl (hb hby d9_7) rfl (tlt (by decide)).2.1 ?_
    refine XS.aloadN X0.here hx rfl (hb hby d9_10) rfl rfl ?_
    refine XS.iloadN X0.here hx rfl (hb hby d9_11) rfl ?_
    show Steps p.tables e below (s₁.setTop (mkF m 12 #[.val (.ref p0), .val (.int (0 : Int32)), .val (.ref p2), .val (.int (0 : Int32)), .val (.int (2 : Int32)), .val (.int (0 : Int32)), .unset] [(.int (0 : Int32)), (.ref p0)])) _
    refine X0.caload hx (j := (0 : Int32)) (v := (.int c0)) (by rw [e0]; exact Ara1.1) (State.isArrayOf_alike hZ.alike Ara1.2.1) Ara1.2.2 hin2 hat3 (g := (mkF m 12 #[.val (.ref p0), .val (.int (0 : Int32)), .val (.ref p2), .val (.int (0 : Int32)), .val (.int (2 : Int32)), .val (.int (0 : Int32)), .unset] [(.int (0 : Int32)), (.ref p0)])) rfl rfl (hb hby d9_12) _ ?_
    refine XS.istore X0.here hx rfl (hb hby d9_13) rfl (l' := #[.val (.ref p0), .val (.int (0 : Int32)), .val (.ref p2), .val (.int (0 : Int32)), .val (.int (2 : Int32)), .val (.int (0 : Int32)), .val (.int c0)]) rfl ?_
    refine XS.iload X0.here hx rfl (hb hby d9_15) rfl ?_
    refine XS.sipush X0.here hx rfl (hb hby d9_17) ?_
    refine XS.icmpYes X0.here hx rfl (pc0 := 20) (pc' := 26) rfl (hb hby d9_20) rfl (flt hc0).2.2.2 (by decide) (by decide) ?_
    refine XS.aloadN X0.here hx rfl (hb hby d9_26) rfl rfl ?_
    show Steps p.tables e below (s₁.setTop (mkF m 27 #[.val (.ref p0), .val (.int (0 : Int32)), .val (.ref p2), .val (.int (0 : Int32)), .val (.int (2 : Int32)), .val (.int (0 : Int32)), .val (.int c0)] [(.ref p2)])) _
    refine XS.iloadN X0.here hx rfl (hb hby d9_27) rfl ?_
    refine XS.iload X0.here hx rfl (hb hby d9_28) rfl ?_
    refine XS.i2b X0.here hx rfl (hb hby d9_30) rfl ?_
    refine st6 _ ?_
    refine XS.iinc X6.here hx rfl (hb hby d9_32) rfl (l' := #[.val (.ref p0), .val (.int (1 : Int32)), .val (.ref p2), .val (.int (0 : Int32)), .val (.int (2 : Int32)), .val (.int (0 : Int32)), .val (.int c0)]) rfl ?_
    refine XS.iinc X6.here hx rfl (hb hby d9_35) rfl (l' := #[.val (.ref p0), .val (.int (1 : Int32)), .val (.ref p2), .val (.int (1 : Int32)), .val (.int (2 : Int32)), .val (.int (0 : Int32)), .val (.int c0)]) rfl ?_
    show Steps p.tables e below (T6.setTop (mkF m 38 #[.val (.ref p0), .val (.int (1 : Int32)), .val (.ref p2), .val (.int (1 : Int32)), .val (.int (2 : Int32)), .val (.int (0 : Int32)), .val (.int c0)] [])) _
    refine XS.iinc X6.here hx rfl (hb hby d9_38) rfl (l' := #[.val (.ref p0), .val (.int (1 : Int32)), .val (.ref p2), .val (.int (1 : Int32)), .val (.int (2 : Int32)), .val (.int (1 : Int32)), .val (.int c0)]) rfl ?_
    refine XS.goto X6.here hx rfl (pc0 := 41) (pc' := 3) rfl (hb hby d9_41) (by decide) (by decide) ?_
    refine XS.iload X6.here hx rfl (hb hby d9_3) rfl ?_
    refine XS.iload X6.here hx rfl (hb hby d9_5) rfl ?_
    refine XS.icmpNo X6.here hx rfl (hb hby d9_7) rfl (tlt (by decide)).2.1 ?_
    refine XS.aloadN X6.here hx rfl (hb hby d9_10) rfl rfl ?_
    show Steps p.tables e below (T6.setTop (mkF m 11 #[.val (.ref p0), .val (.int (1 : Int32)), .val (.ref p2), .val (.int (1 : Int32)), .val (.int (2 : Int32)), .val (.int (1 : Int32)), .val (.int c0)] [(.ref p0)])) _
    refine XS.iloadN X6.here hx rfl (hb hby d9_11) rfl ?_
    refine X6.caload hx (j := (1 : Int32)) (v := (.int c1)) (by rw [e6]; exact Ara8.1) (State.isArrayOf_alike hZ.alike Ara8.2.1) Ara8.2.2 hin9 hat10 (g := (mkF m 12 #[.val (.ref p0), .val (.int (1 : Int32)), .val (.ref p2), .val (.int (1 : Int32)), .val (.int (2 : Int32)), .val (.int (1 : Int32)), .val (.int c0)] [(.int (1 : Int32)), (.ref p0)])) rfl rfl (hb hby d9_12) _ ?_
    refine XS.istore X6.here hx rfl (hb hby d9_13) rfl (l' := #[.val (.ref p0), .val (.int (1 : Int32)), .val (.ref p2), .val (.int (1 : Int32)), .val (.int (2 : Int32)), .val (.int (1 : Int32)), .val (.int c1)]) rfl ?_
    refine XS.iload X6.here hx rfl (hb hby d9_15) rfl ?_
    refine XS.sipush X6.here hx rfl (hb hby d9_17) ?_
    refine XS.icmpYes X6.here hx rfl (pc0 := 20) (pc' := 26) rfl (hb hby d9_20) rfl (flt hc1).2.2.2 (by decide) (by decide) ?_
    show Steps p.tables e below (T6.setTop (mkF m 26 #[.val (.ref p0), .val (.int (1 : Int32)), .val (.ref p2), .val (.int (1 : Int32)), .val (.int (2 : Int32)), .val (.int (1 : Int32)), .val (.int c1)] [])) _
    refine XS.aloadN X6.here hx rfl (hb hby d9_26) rfl rfl ?_
    refine XS.iloadN X6.here hx rfl (hb hby d9_27) rfl ?_
    refine XS.iload X6.here hx rfl (hb hby d9_28) rfl ?_
    refine XS.i2b X6.here hx rfl (hb hby d9_30) rfl ?_
    refine st13 _ ?_
    refine XS.iinc X13.here hx rfl (hb hby d9_32) rfl (l' := #[.val (.ref p0), .val (.int (2 : Int32)), .val (.ref p2), .val (.int (1 : Int32)), .val (.int (2 : Int32)), .val (.int (1 : Int32)), .val (.int c1)]) rfl ?_
    show Steps p.tables e below (T13.setTop (mkF m 35 #[.val (.ref p0), .val (.int (2 : Int32)), .val (.ref p2), .val (.int (1 : Int32)), .val (.int (2 : Int32)), .val (.int (1 : Int32)), .val (.int c1)] [])) _
    refine XS.iinc X13.here hx rfl (hb hby d9_35) rfl (l' := #[.val (.ref p0), .val (.int (2 : Int32)), .val (.ref p2), .val (.int (2 : Int32)), .val (.int (2 : Int32)), .val (.int (1 : Int32)), .val (.int c1)]) rfl ?_
    refine XS.iinc X13.here hx rfl (hb hby d9_38) rfl (l' := #[.val (.ref p0), .val (.int (2 : Int32)), .val (.ref p2), .val (.int (2 : Int32)), .val (.int (2 : Int32)), .val (.int (2 : Int32)), .val (.int c1)]) rfl ?_
    refine XS.goto X13.here hx rfl (pc0 := 41) (pc' := 3) rfl (hb hby d9_41) (by decide) (by decide) ?_
    refine XS.iload X13.here hx rfl (hb hby d9_3) rfl ?_
    refine XS.iload X13.here hx rfl (hb hby d9_5) rfl ?_
    refine XS.icmpYes X13.here hx rfl (pc0 := 7) (pc' := 44) rfl (hb hby d9_7) rfl (flt (by decide)).2.1 (by decide) (by decide) ?_
    show Steps p.tables e below (T13.setTop (mkF m 44 #[.val (.ref p0), .val (.int (2 : Int32)), .val (.ref p2), .val (.int (2 : Int32)), .val (.int (2 : Int32)), .val (.int (2 : Int32)), .val (.int c1)] [])) _
    refine XS.iload X13.here hx rfl (hb hby d9_44) rfl ?_
    exact Steps.refl _
  subst hA₀
  obtain ⟨fs, hr, hrun, hended, hW, hsame⟩ := X13.leave (v := some (.int (2 : Int32))) (fun h => by rw [Bd.returns] at h; cases h)
  refine ⟨_, _, s14.trans ?_, hrun, hended, _, _, rfl, ?_, ⟨_, rfl⟩, hW, hsame.mono (by decide) (by decide)⟩
  · show Steps p.tables e below (T13.setTop (mkF m 46 #[.val (.ref p0), .val (.int (2 : Int32)), .val (.ref p2), .val (.int (2 : Int32)), .val (.int (2 : Int32)), .val (.int (2 : Int32)), .val (.int c1)] [(.int (2 : Int32))])) _
    exact retI X13 hx Bd.returns (hb hby d9_46) hr
  · show Qc5_2 Z p0 p2 kc c0 c1 kb h0 n0 _ T13.heap _
    rw [e13]
    exact ⟨rfl, N13, K13, V13⟩
theorem d8_0 : decode jdk_52_method_16_code 0 = .ok (.iload_n 2, 1) := by decide +kernel
theorem d8_1 : decode jdk_52_method_16_code 1 = .ok (.newarray .byte, 2) := by decide +kernel
theorem d8_3 : decode jdk_52_method_16_code 3 = .ok (.astore_n 3, 1) := by decide +kernel
theorem d8_4 : decode jdk_52_method_16_code 4 = .ok (.aload_n 0, 1) := by decide +kernel
theorem d8_5 : decode jdk_52_method_16_code 5 = .ok (.iload_n 1, 1) := by decide +kernel
theorem d8_6 : decode jdk_52_method_16_code 6 = .ok (.aload_n 3, 1) := by decide +kernel
theorem d8_7 : decode jdk_52_method_16_code 7 = .ok (.iconst 0, 1) := by decide +kernel
theorem d8_8 : decode jdk_52_method_16_code 8 = .ok (.iload_n 2, 1) := by decide +kernel
theorem d8_9 : decode jdk_52_method_16_code 9 = .ok (.invokestatic 115, 3) := by decide +kernel
theorem d8_12 : decode jdk_52_method_16_code 12 = .ok (.istore 4, 2) := by decide +kernel
theorem d8_14 : decode jdk_52_method_16_code 14 = .ok (.iload 4, 2) := by decide +kernel
theorem d8_16 : decode jdk_52_method_16_code 16 = .ok (.iload_n 2, 1) := by decide +kernel
theorem d8_17 : decode jdk_52_method_16_code 17 = .ok (.if_icmp .eq 40, 3) := by decide +kernel
theorem d8_57 : decode jdk_52_method_16_code 57 = .ok (.aload_n 3, 1) := by decide +kernel
theorem d8_58 : decode jdk_52_method_16_code 58 = .ok (.areturn, 1) := by decide +kernel
theorem pd_rmc3_2_0 : parseMethodDescriptor "([CI[BII)I" = some ⟨[(.array .char), .int, (.array .byte), .int, .int], some .int⟩ := by decide +kernel
theorem ef_rmc3_2 (m : MethodId) (p0 : Addr) : entryFrame m #[(.ref p0), (.int (0 : Int32)), (.int (2 : Int32))] 6 = mkF m 0 #[.val (.ref p0), .val (.int (0 : Int32)), .val (.int (2 : Int32)), .unset, .unset, .unset] [] := by first | (simp [entryFrame, mkF, argsToLocals, Value.category]; done) | rfl
def Qc3_2 (Z : State) (p0 : Addr) (kc : ClassId) (c0 : Int32) (c1 : Int32) (h0 : Heap) (n0 : Nat) (v : Option Value) (h : Heap) (L : List Loc) : Prop := ∃ b : Addr, ∃ kb : ClassId, v = some (.ref b) ∧ Fr n0 L ∧ Keep h0 h [] ∧ (Arv Z h b kb .byte (2 : Int32) [(.int ((c0.toInt8.toInt32).toInt8.toInt32)), (.int ((c1.toInt8.toInt32).toInt8.toInt32))] (.int (0 : Int32))) ∧ (h0.size ≤ b)
set_option maxRecDepth 65536 in
set_option maxHeartbeats 40000000 in
theorem rmc3_2 (l : Launch) (Z : State) (a0 : Array Value) (hw : ∀ d ∈ tables_1, d.before a0 Z = true) (ws : List Jvm.Cond) (p0 : Addr) (kc : ClassId) (c0 : Int32) (c1 : Int32) (h0 : Heap) (n0 : Nat) (O0 : Old Z n0 h0) (F0_ : Arv Z h0 p0 kc .char (2 : Int32) [(.int c0), (.int c1)] (.int (0 : Int32))) (hc0 : ¬ ((255 : Int32) < c0)) (hc1 : ¬ ((255 : Int32) < c1)) :
    MetFree l nm1 (head1 (Jvm.Cond.code nm1 jdk_52_method_16_code 6 (some (.array .byte)) :: ws) ({ frames := 1, cells := 1, slots := 2, locals := 18 } : Room)) (fun a U => a = #[(.ref p0), (.int (0 : Int32)), (.int (2 : Int32))] ∧ Z.Warmed39 U.vm ∧ U.heap = h0) (fun _ _ _ _ _ => True) (fun _ U o U' => ∃ v L, o = .returned v ∧ Qc3_2 Z p0 kc c0 c1 h0 n0 v U'.heap L ∧ FrameEnd U o U' L ({ frames := 1, cells := 1, slots := 2, locals := 18 } : Room).cells ({ frames := 1, cells := 1, slots := 2, locals := 18 } : Room).slots) := by
  refine MetFree.of_bodySF (plainFor_of_name pn_9) hisR ?_
  intro p e s m args below meth c s₁ Bd hml0 hP hK
  obtain ⟨rfl, hZ, hh⟩ := hP
  have hx := Bd.exec
  have hby := Bd.bytes
  have hml : c.maxLocals = 6 := hml0
  have hown : s.vm.findClass "java/lang/StringUTF16" = some m.cls := findClass_of_methodNamed Bd.named
  have hnm := (name_of_methodNamed Bd.named Bd.method).1
  have X0 : Stand p l e ({ frames := 1, cells := 1, slots := 2, locals := 18 } : Room) s m #[(.ref p0), (.int (0 : Int32)), (.int (2 : Int32))] below meth c s₁ [] 0 0 := Stand.of_body Bd
  have e0 : s₁.heap = h0 := by rw [← hh, Bd.state]; rfl
  have N0 := Fr.nil n0
  have s0 : Steps p.tables e below (s₁.setTop (entryFrame m #[(.ref p0), (.int (0 : Int32)), (.int (2 : Int32))] 6)) (s₁.setTop (mkF m 0 #[.val (.ref p0), .val (.int (0 : Int32)), .val (.int (2 : Int32)), .unset, .unset, .unset] [])) := castTop (ef_rmc3_2 m p0) (Steps.refl _)
  obtain ⟨A₀, hA₀⟩ : ∃ z, z = (s₁.setTop (entryFrame m #[(.ref p0), (.int (0 : Int32)), (.int (2 : Int32))] 6)) := ⟨_, rfl⟩
  rw [← hA₀] at s0
  obtain ⟨T1, h1, k1, X1, e1, E1, A1, st1⟩ := newP X0 hx hZ (hw _ (List.mem_of_getElem? (i := 46) rfl)) e0 (g := (mkF m 1 #[.val (.ref p0), .val (.int (0 : Int32)), .val (.int (2 : Int32)), .unset, .unset, .unset] [(.int (2 : Int32))])) rfl (hb hby d8_1) rfl (by decide) (cap := 2) (by decide) (by decide) (by decide) (by decide)
  obtain ⟨b1, g1⟩ : ∃ z, z = h0.size := ⟨_, rfl⟩
  rw [← g1] at A1 st1
  have ne_p0_b1 : p0 ≠ b1 := Nat.ne_of_lt (Nat.lt_of_lt_of_le F0_.lt (Nat.le_of_eq g1.symm))
  have g_b1 : n0 ≤ b1 := Nat.le_trans (Nat.le_of_eq O0.1.symm) (Nat.le_trans O0.2.1 (Nat.le_of_eq g1.symm))
  have sz_b1 : h0.size ≤ b1 := Nat.le_trans (Keep.refl h0 []).1 (Nat.le_of_eq g1.symm)
  have O1 := O0.ext E1
  have K1 : Keep h0 h1 [] := (Keep.refl h0 []).ext E1
  have V1 : Arv Z h1 b1 k1 .byte (2 : Int32) [(.int (0 : Int32)), (.int (0 : Int32))] (.int (0 : Int32)) := (Arv.new A1 (by decide)).pad (pad_rep [] (.int (0 : Int32)) 2)
  have c2 : Arv Z h1 p0 kc .char (2 : Int32) [(.int c0), (.int c1)] (.int (0 : Int32)) := (F0_.ext E1)
  obtain ⟨_, _, ⟨T3, L3, k3, n3⟩, -, X3, ⟨Lc3, hQ3, l3, y3, z3⟩, st3⟩ := Jvm.LawKit.callS X1 hx (y := (⟨"java/lang/StringUTF16", "compress", "([CI[BII)I"⟩ : MethodName)) hown (mvT hZ (hw _ (List.mem_of_getElem? (i := 47) rfl))) (mvT hZ (hw _ (List.mem_of_getElem? (i := 48) rfl))) (mvT hZ (hw _ (List.mem_of_getElem? (i := 44) rfl))) (mvT hZ (hw _ (List.mem_of_getElem? (i := 49) rfl))) (by decide) (backOf (W := 0) (rmc5_2 l Z a0 hw [] p0 b1 kc c0 c1 k1 h1 n0 O1 c2 V1 g_b1 ne_p0_b1 hc0 hc1) hZ (hw _ (List.mem_of_getElem? (i := 49) rfl)) (hw _ (List.mem_of_getElem? (i := 44) rfl)) (by decide) (by decide)) (g := (mkF m 9 #[.val (.ref p0), .val (.int (0 : Int32)), .val (.int (2 : Int32)), .val (.ref b1), .unset, .unset] [(.int (2 : Int32)), (.int (0 : Int32)), (.ref b1), (.int (0 : Int32)), (.ref p0)])) rfl (by rw [hml]; rfl) (argsL := [(.ref p0), (.int (0 : Int32)), (.ref b1), (.int (0 : Int32)), (.int (2 : Int32))]) (rest := []) (lenOf pd_rmc3_2_0 rfl) rfl (by show 2 * 0 + _ ≤ _; exact Nat.le_of_eq rfl) (hb hby d8_9) (fun _ _ => ⟨rfl, e1, (by decide : 1 + 0 ≤ _), (by decide : 2 + 0 ≤ _)⟩)
  dsimp only [Pt.U, Pt.locs, Pt.cells, Pt.slots] at X3 l3 y3 z3 st3 hQ3
  subst l3 y3 z3
  obtain ⟨rfl, Nq3, Kc3, f3_0⟩ := hQ3
  have N3 := Fr.app N0 Nq3
  have K3 : Keep h0 T3.heap [] := K1.trans Kc3 (allS (Or.inr sz_b1) all0)
  have O3 := O1.keep Kc3 (allS g_b1 all0)
  have s4 : Steps p.tables e below A₀ (T3.setTop (mkF m 58 #[.val (.ref p0), .val (.int (0 : Int32)), .val (.int (2 : Int32)), .val (.ref b1), .val (.int (2 : Int32)), .unset] [(.ref b1)])) := by
    refine s0.trans ?_
    refine XS.iloadN X0.here hx rfl (hb hby d8_0) rfl ?_
    show Steps p.tables e below (s₁.setTop (mkF m 1 #[.val (.ref p0), .val (.int (0 : Int32)), .val (.int (2 : Int32)), .unset, .unset, .unset] [(.int (2 : Int32))])) _
    refine st1 _ ?_
    refine XS.astoreN X1.here hx rfl (hb hby d8_3) rfl rfl (l' := #[.val (.ref p0), .val (.int (0 : Int32)), .val (.int (2 : Int32)), .val (.ref b1), .unset, .unset]) rfl ?_
    refine XS.aloadN X1.here hx rfl (hb hby d8_4) rfl rfl ?_
    refine XS.iloadN X1.here hx rfl (hb hby d8_5) rfl ?_
    refine XS.aloadN X1.here hx rfl (hb hby d8_6) rfl rfl ?_
    refine XS.iconst X1.here hx rfl (hb hby d8_7) ?_
    show Steps p.tables e below (T1.setTop (mkF m 8 #[.val (.ref p0), .val (.int (0 : Int32)), .val (.int (2 : Int32)), .val (.ref b1), .unset, .unset] [(.int (0 : Int32)), (.ref b1), (.int (0 : Int32)), (.ref p0)])) _
    refine XS.iloadN X1.here hx rfl (hb hby d8_8) rfl ?_
    refine st3 _ ?_
    refine XS.istore X3.here hx rfl (hb hby d8_12) rfl (l' := #[.val (.ref p0), .val (.int (0 : Int32)), .val (.int (2 : Int32)), .val (.ref b1), .val (.int (2 : Int32)), .unset]) rfl ?_
    refine XS.iload X3.here hx rfl (hb hby d8_14) rfl ?_
    refine XS.iloadN X3.here hx rfl (hb hby d8_16) rfl ?_
    refine XS.icmpYes X3.here hx rfl (pc0 := 17) (pc' := 57) rfl (hb hby d8_17) rfl (teq (by decide)).1 (by decide) (by decide) ?_
    show Steps p.tables e below (T3.setTop (mkF m 57 #[.val (.ref p0), .val (.int (0 : Int32)), .val (.int (2 : Int32)), .val (.ref b1), .val (.int (2 : Int32)), .unset] [])) _
    refine XS.aloadN X3.here hx rfl (hb hby d8_57) rfl rfl ?_
    exact Steps.refl _
  subst hA₀
  obtain ⟨fs, hr, hrun, hended, hW, hsame⟩ := X3.leave (v := some (.ref b1)) (fun h => by rw [Bd.returns] at h; cases h)
  refine ⟨_, _, s4.trans ?_, hrun, hended, _, _, rfl, ?_, ⟨_, rfl⟩, hW, hsame.mono (by decide) (by decide)⟩
  · show Steps p.tables e below (T3.setTop (mkF m 58 #[.val (.ref p0), .val (.int (0 : Int32)), .val (.int (2 : Int32)), .val (.ref b1), .val (.int (2 : Int32)), .unset] [(.ref b1)])) _
    jvm_step X3.here [X3.here.top, hx, (hb hby d8_58), X3.method', Bd.returns, Value.isRef, FieldType.isReference]
    first | (intro acts; rw [hr _ acts rfl rfl rfl]) | rw [hr _ _ rfl rfl rfl]
    exact Steps.refl _
  · show Qc3_2 Z p0 kc c0 c1 h0 n0 _ T3.heap _
    exact ⟨b1, k1, rfl, N3, K3, f3_0, sz_b1⟩
theorem d10_0 : decode jdk_52_method_15_code 0 = .ok (.iload_n 1, 1) := by decide +kernel
theorem d10_1 : decode jdk_52_method_15_code 1 = .ok (.aload_n 0, 1) := by decide +kernel
theorem d10_2 : decode jdk_52_method_15_code 2 = .ok (.arraylength, 1) := by decide +kernel
theorem d10_3 : decode jdk_52_method_15_code 3 = .ok (.isub, 1) := by decide +kernel
theorem d10_4 : decode jdk_52_method_15_code 4 = .ok (.bipush 31, 2) := by decide +kernel
theorem d10_6 : decode jdk_52_method_15_code 6 = .ok (.iushr, 1) := by decide +kernel
theorem d10_7 : decode jdk_52_method_15_code 7 = .ok (.i2b, 1) := by decide +kernel
theorem d10_8 : decode jdk_52_method_15_code 8 = .ok (.ireturn, 1) := by decide +kernel
theorem ef_rmcf_2 (m : MethodId) (p0 : Addr) : entryFrame m #[(.ref p0), (.int (2 : Int32))] 2 = mkF m 0 #[.val (.ref p0), .val (.int (2 : Int32))] [] := by first | (simp [entryFrame, mkF, argsToLocals, Value.category]; done) | rfl
def Qcf_2 (Z : State) (p0 : Addr) (kb : ClassId) (e0x : Int32) (e1x : Int32) (h0 : Heap) (n0 : Nat) (v : Option Value) (h : Heap) (L : List Loc) : Prop := v = some (.int (0 : Int32)) ∧ Fr n0 L ∧ h = h0
set_option maxRecDepth 65536 in
set_option maxHeartbeats 40000000 in
theorem rmcf_2 (l : Launch) (Z : State) (a0 : Array Value) (hw : ∀ d ∈ tables_1, d.before a0 Z = true) (ws : List Jvm.Cond) (p0 : Addr) (kb : ClassId) (e0x : Int32) (e1x : Int32) (h0 : Heap) (n0 : Nat) (O0 : Old Z n0 h0) (F0_ : Arv Z h0 p0 kb .byte (2 : Int32) [(.int e0x), (.int e1x)] (.int (0 : Int32))) :
    MetFree l nm2 (head1 (Jvm.Cond.code nm2 jdk_52_method_15_code 2 (some .byte) :: ws) ({ frames := 0, cells := 0, slots := 0, locals := 0 } : Room)) (fun a U => a = #[(.ref p0), (.int (2 : Int32))] ∧ Z.Warmed39 U.vm ∧ U.heap = h0) (fun _ _ _ _ _ => True) (fun _ U o U' => ∃ v L, o = .returned v ∧ Qcf_2 Z p0 kb e0x e1x h0 n0 v U'.heap L ∧ FrameEnd U o U' L ({ frames := 0, cells := 0, slots := 0, locals := 0 } : Room).cells ({ frames := 0, cells := 0, slots := 0, locals := 0 } : Room).slots) := by
  refine MetFree.of_bodySF (plainFor_of_name pn_9) hisR ?_
  intro p e s m args below meth c s₁ Bd hml0 hP hK
  obtain ⟨rfl, hZ, hh⟩ := hP
  have hx := Bd.exec
  have hby := Bd.bytes
  have hml : c.maxLocals = 2 := hml0
  have hown : s.vm.findClass "java/lang/StringUTF16" = some m.cls := findClass_of_methodNamed Bd.named
  have hnm := (name_of_methodNamed Bd.named Bd.method).1
  have X0 : Stand p l e ({ frames := 0, cells := 0, slots := 0, locals := 0 } : Room) s m #[(.ref p0), (.int (2 : Int32))] below meth c s₁ [] 0 0 := Stand.of_body Bd
  have e0 : s₁.heap = h0 := by rw [← hh, Bd.state]; rfl
  have N0 := Fr.nil n0
  have s0 : Steps p.tables e below (s₁.setTop (entryFrame m #[(.ref p0), (.int (2 : Int32))] 2)) (s₁.setTop (mkF m 0 #[.val (.ref p0), .val (.int (2 : Int32))] [])) := castTop (ef_rmcf_2 m p0) (Steps.refl _)
  obtain ⟨A₀, hA₀⟩ : ∃ z, z = (s₁.setTop (entryFrame m #[(.ref p0), (.int (2 : Int32))] 2)) := ⟨_, rfl⟩
  rw [← hA₀] at s0
  obtain ⟨cla1, Ara1, qa1, Sa1, Za1, Ha1, Ga1⟩ := id F0_
  have s2 : Steps p.tables e below A₀ (s₁.setTop (mkF m 8 #[.val (.ref p0), .val (.int (2 : Int32))] [(.int ((0 : Int32).toInt8.toInt32))])) := by
    refine s0.trans ?_
    refine XS.iloadN X0.here hx rfl (hb hby d10_0) rfl ?_
    show Steps p.tables e below (s₁.setTop (mkF m 1 #[.val (.ref p0), .val (.int (2 : Int32))] [(.int (2 : Int32))])) _
    refine XS.aloadN X0.here hx rfl (hb hby d10_1) rfl rfl ?_
    refine X0.arraylength hx (by rw [e0]; exact Ara1.1) (State.isArrayOf_alike hZ.alike Ara1.2.1) (g := (mkF m 2 #[.val (.ref p0), .val (.int (2 : Int32))] [(.ref p0), (.int (2 : Int32))])) rfl rfl (hb hby d10_2) _ ?_
    rw [len_of Sa1 Za1]
    show Steps p.tables e below (s₁.setTop (mkF m 3 #[.val (.ref p0), .val (.int (2 : Int32))] [(.int (2 : Int32)), (.int (2 : Int32))])) _
    refine XS.isub X0.here hx rfl (hb hby d10_3) rfl ?_
    refine XS.bipush X0.here hx rfl (hb hby d10_4) ?_
    refine XS.iushr X0.here hx rfl (hb hby d10_6) rfl ?_
    refine XS.i2b X0.here hx rfl (hb hby d10_7) rfl ?_
    exact Steps.refl _
  subst hA₀
  obtain ⟨fs, hr, hrun, hended, hW, hsame⟩ := X0.leave (v := some (.int (nar .byte ((0 : Int32).toInt8.toInt32)))) (fun h => by rw [Bd.returns] at h; cases h)
  refine ⟨_, _, s2.trans ?_, hrun, hended, _, _, rfl, ?_, ⟨_, rfl⟩, hW, hsame.mono (by decide) (by decide)⟩
  · show Steps p.tables e below (s₁.setTop (mkF m 8 #[.val (.ref p0), .val (.int (2 : Int32))] [(.int ((0 : Int32).toInt8.toInt32))])) _
    exact retN X0 hx (t := .byte) Bd.returns (by simp) (hb hby d10_8) hr
  · show Qcf_2 Z p0 kb e0x e1x h0 n0 _ s₁.heap _
    rw [e0]
    exact ⟨rfl, N0, rfl⟩
theorem d7_0 : decode jdk_42_method_149_code 0 = .ok (.aload_n 0, 1) := by decide +kernel
theorem d7_1 : decode jdk_42_method_149_code 1 = .ok (.invokespecial 1, 3) := by decide +kernel
theorem d7_4 : decode jdk_42_method_149_code 4 = .ok (.iload_n 3, 1) := by decide +kernel
theorem d7_5 : decode jdk_42_method_149_code 5 = .ok (.ifCond .ne 22, 3) := by decide +kernel
theorem d7_27 : decode jdk_42_method_149_code 27 = .ok (.getstatic 38, 3) := by decide +kernel
theorem d7_30 : decode jdk_42_method_149_code 30 = .ok (.ifCond .eq 28, 3) := by decide +kernel
theorem d7_33 : decode jdk_42_method_149_code 33 = .ok (.aload_n 1, 1) := by decide +kernel
theorem d7_34 : decode jdk_42_method_149_code 34 = .ok (.iload_n 2, 1) := by decide +kernel
theorem d7_35 : decode jdk_42_method_149_code 35 = .ok (.iload_n 3, 1) := by decide +kernel
theorem d7_36 : decode jdk_42_method_149_code 36 = .ok (.invokestatic 177, 3) := by decide +kernel
theorem d7_39 : decode jdk_42_method_149_code 39 = .ok (.astore 5, 2) := by decide +kernel
theorem d7_41 : decode jdk_42_method_149_code 41 = .ok (.aload_n 0, 1) := by decide +kernel
theorem d7_42 : decode jdk_42_method_149_code 42 = .ok (.aload 5, 2) := by decide +kernel
theorem d7_44 : decode jdk_42_method_149_code 44 = .ok (.iload_n 3, 1) := by decide +kernel
theorem d7_45 : decode jdk_42_method_149_code 45 = .ok (.invokestatic 47, 3) := by decide +kernel
theorem d7_48 : decode jdk_42_method_149_code 48 = .ok (.putfield 15, 3) := by decide +kernel
theorem d7_51 : decode jdk_42_method_149_code 51 = .ok (.aload_n 0, 1) := by decide +kernel
theorem d7_52 : decode jdk_42_method_149_code 52 = .ok (.aload 5, 2) := by decide +kernel
theorem d7_54 : decode jdk_42_method_149_code 54 = .ok (.putfield 9, 3) := by decide +kernel
theorem d7_57 : decode jdk_42_method_149_code 57 = .ok (.return_, 1) := by decide +kernel
theorem pn_7 : plainName "java/lang/String" = true := by first | (simp [plainName, overriddenIn]; done) | decide +kernel
theorem pd_rmsv_2_0 : parseMethodDescriptor "([CII)[B" = some ⟨[(.array .char), .int, .int], some (.array .byte)⟩ := by decide +kernel
theorem pd_rmsv_2_1 : parseMethodDescriptor "([BI)B" = some ⟨[(.array .byte), .int], some .byte⟩ := by decide +kernel
theorem ef_rmsv_2 (m : MethodId) (p0 : Addr) (p1 : Addr) : entryFrame m #[(.ref p0), (.ref p1), (.int (0 : Int32)), (.int (2 : Int32)), .null] 6 = mkF m 0 #[.val (.ref p0), .val (.ref p1), .val (.int (0 : Int32)), .val (.int (2 : Int32)), .val .null, .unset] [] := by first | (simp [entryFrame, mkF, argsToLocals, Value.category]; done) | rfl
def Qsv_2 (Z : State) (p0 : Addr) (p1 : Addr) (wc : Int32) (kc : ClassId) (c0 : Int32) (c1 : Int32) (h0 : Heap) (n0 : Nat) (v : Option Value) (h : Heap) (L : List Loc) : Prop := ∃ b : Addr, ∃ kb : ClassId, v = none ∧ Fr n0 L ∧ Keep h0 h [p0] ∧ (Exa Z h p0 "java/lang/String") ∧ (Fld Z h p0 "java/lang/String" "value" "[B" (.ref b)) ∧ (Fld Z h p0 "java/lang/String" "coder" "B" (.int (0 : Int32))) ∧ (Arv Z h b kb .byte (2 : Int32) [(.int ((c0.toInt8.toInt32).toInt8.toInt32)), (.int ((c1.toInt8.toInt32).toInt8.toInt32))] (.int (0 : Int32))) ∧ (h0.size ≤ b)
set_option maxRecDepth 65536 in
set_option maxHeartbeats 40000000 in
theorem rmsv_2 (l : Launch) (Z : State) (a0 : Array Value) (hw : ∀ d ∈ tables_1, d.before a0 Z = true) (ws : List Jvm.Cond) (p0 : Addr) (p1 : Addr) (wc : Int32) (kc : ClassId) (c0 : Int32) (c1 : Int32) (h0 : Heap) (n0 : Nat) (O0 : Old Z n0 h0) (F0_ : Exa Z h0 p0 "java/lang/String") (F1_ : Fld Z h0 p0 "java/lang/String" "value" "[B" .null) (F2_ : Fld Z h0 p0 "java/lang/String" "coder" "B" (.int (0 : Int32))) (F3_ : n0 ≤ p0) (F4_ : Arv Z h0 p1 kc .char (2 : Int32) [(.int c0), (.int c1)] (.int (0 : Int32))) (F5_ : Sta Z Z.heap "java/lang/String" "COMPACT_STRINGS" "Z" (.int wc)) (F6_ : p0 ≠ p1) (hcs : ¬ (wc = (0 : Int32))) (hc0 : ¬ ((255 : Int32) < c0)) (hc1 : ¬ ((255 : Int32) < c1)) :
    MetFree l nm3 (head1 (Jvm.Cond.code nm3 jdk_42_method_149_code 6 none :: ws) ({ frames := 2, cells := 1, slots := 2, locals := 35 } : Room)) (fun a U => a = #[(.ref p0), (.ref p1), (.int (0 : Int32)), (.int (2 : Int32)), .null] ∧ Z.Warmed39 U.vm ∧ U.heap = h0) (fun _ _ _ _ _ => True) (fun _ U o U' => ∃ v L, o = .returned v ∧ Qsv_2 Z p0 p1 wc kc c0 c1 h0 n0 v U'.heap L ∧ FrameEnd U o U' L ({ frames := 2, cells := 1, slots := 2, locals := 35 } : Room).cells ({ frames := 2, cells := 1, slots := 2, locals := 35 } : Room).slots) := by
  refine MetFree.of_bodySF (plainFor_of_name pn_7) hisR ?_
  intro p e s m args below meth c s₁ Bd hml0 hP hK
  obtain ⟨rfl, hZ, hh⟩ := hP
  have hx := Bd.exec
  have hby := Bd.bytes
  have hml : c.maxLocals = 6 := hml0
  have hown : s.vm.findClass "java/lang/String" = some m.cls := findClass_of_methodNamed Bd.named
  have hnm := (name_of_methodNamed Bd.named Bd.method).1
  have X0 : Stand p l e ({ frames := 2, cells := 1, slots := 2, locals := 35 } : Room) s m #[(.ref p0), (.ref p1), (.int (0 : Int32)), (.int (2 : Int32)), .null] below meth c s₁ [] 0 0 := Stand.of_body Bd
  have e0 : s₁.heap = h0 := by rw [← hh, Bd.state]; rfl
  have N0 := Fr.nil n0
  have s0 : Steps p.tables e below (s₁.setTop (entryFrame m #[(.ref p0), (.ref p1), (.int (0 : Int32)), (.int (2 : Int32)), .null] 6)) (s₁.setTop (mkF m 0 #[.val (.ref p0), .val (.ref p1), .val (.int (0 : Int32)), .val (.int (2 : Int32)), .val .null, .unset] [])) := castTop (ef_rmsv_2 m p0 p1) (Steps.refl _)
  obtain ⟨A₀, hA₀⟩ : ∃ z, z = (s₁.setTop (entryFrame m #[(.ref p0), (.ref p1), (.int (0 : Int32)), (.int (2 : Int32)), .null] 6)) := ⟨_, rfl⟩
  rw [← hA₀] at s0
  obtain ⟨T1, X1, e1, st1⟩ := initO X0 hx hZ hown (hw _ (List.mem_of_getElem? (i := 40) rfl)) (hw _ (List.mem_of_getElem? (i := 16) rfl)) (hw _ (List.mem_of_getElem? (i := 17) rfl)) e0 (g := (mkF m 1 #[.val (.ref p0), .val (.ref p1), .val (.int (0 : Int32)), .val (.int (2 : Int32)), .val .null, .unset] [(.ref p0)])) rfl (by rw [hml]; rfl) rfl (hb hby d7_1) (by decide) (W := 0) (by show 2 * 0 + _ ≤ _; exact Nat.le_of_eq rfl) (by decide)
  obtain ⟨T2, X2, e2, st2⟩ := getS2 X1 hx hZ hown (host := "") (Or.inl (hw _ (List.mem_of_getElem? (i := 41) rfl))) Via.refl e1 (F5_.ext O0.2) (g := (mkF m 27 #[.val (.ref p0), .val (.ref p1), .val (.int (0 : Int32)), .val (.int (2 : Int32)), .val .null, .unset] [])) rfl (hb hby d7_27)
  obtain ⟨_, _, ⟨T3, L3, k3, n3⟩, -, X3, ⟨Lc3, hQ3, l3, y3, z3⟩, st3⟩ := Jvm.LawKit.callS X2 hx (y := (⟨"java/lang/StringUTF16", "compress", "([CII)[B"⟩ : MethodName)) hown (mvT hZ (hw _ (List.mem_of_getElem? (i := 42) rfl))) (mvT hZ (hw _ (List.mem_of_getElem? (i := 43) rfl))) (mvT hZ (hw _ (List.mem_of_getElem? (i := 44) rfl))) (mvT hZ (hw _ (List.mem_of_getElem? (i := 45) rfl))) (by decide) (backOf (W := 0) (rmc3_2 l Z a0 hw [] p1 kc c0 c1 h0 n0 O0 F4_ hc0 hc1) hZ (hw _ (List.mem_of_getElem? (i := 45) rfl)) (hw _ (List.mem_of_getElem? (i := 44) rfl)) (by decide) (by decide)) (g := (mkF m 36 #[.val (.ref p0), .val (.ref p1), .val (.int (0 : Int32)), .val (.int (2 : Int32)), .val .null, .unset] [(.int (2 : Int32)), (.int (0 : Int32)), (.ref p1)])) rfl (by rw [hml]; rfl) (argsL := [(.ref p1), (.int (0 : Int32)), (.int (2 : Int32))]) (rest := []) (lenOf pd_rmsv_2_0 rfl) rfl (by show 2 * 0 + _ ≤ _; exact Nat.le_of_eq rfl) (hb hby d7_36) (fun _ _ => ⟨rfl, e2, (by decide : 0 + 1 ≤ _), (by decide : 0 + 2 ≤ _)⟩)
  dsimp only [Pt.U, Pt.locs, Pt.cells, Pt.slots] at X3 l3 y3 z3 st3 hQ3
  subst l3 y3 z3
  obtain ⟨u4, u5, rfl, Nq3, Kc3, f3_0, f3_1⟩ := hQ3
  have N3 := Fr.app N0 Nq3
  have ne_p0_u4 : p0 ≠ u4 := Nat.ne_of_lt (Nat.lt_of_lt_of_le F0_.lt f3_1)
  have ne_p1_u4 : p1 ≠ u4 := Nat.ne_of_lt (Nat.lt_of_lt_of_le F4_.lt f3_1)
  have g_u4 : n0 ≤ u4 := Nat.le_trans (Nat.le_of_eq O0.1.symm) (Nat.le_trans O0.2.1 f3_1)
  have sz_u4 : h0.size ≤ u4 := Nat.le_trans (Keep.refl h0 [p0]).1 f3_1
  have K3 : Keep h0 T3.heap [p0] := (Keep.refl h0 [p0]).trans Kc3 all0
  have O3 := O0.keep Kc3 all0
  obtain ⟨T6, L6, X6, e6, N6, st6⟩ := own_callP X3 hx hZ hown (wk50 hw) (wk51 hw) (wk44 hw) (wk52 hw) (by decide) (rmcf_2 l Z a0 hw [] u4 u5 ((c0.toInt8.toInt32).toInt8.toInt32) ((c1.toInt8.toInt32).toInt8.toInt32) T3.heap n0 O3 f3_0) (rfl : T3.heap = T3.heap) N3 (W := 1) (by decide) (by decide) (by decide) (by decide) (g := (mkF m 45 #[.val (.ref p0), .val (.ref p1), .val (.int (0 : Int32)), .val (.int (2 : Int32)), .val .null, .val (.ref u4)] [(.int (2 : Int32)), (.ref u4), (.ref p0)])) rfl (by rw [hml]; rfl) (argsL := [(.ref u4), (.int (2 : Int32))]) (rest := [(.ref p0)]) (lenOf pd_rmsv_2_1 rfl) rfl (by show 2 * 0 + _ ≤ _; exact Nat.le_of_eq rfl) (hb hby d7_45)
  have c7 : Exa Z T3.heap p0 "java/lang/String" := (F0_.keep Kc3)
  have c8 : Fld Z T3.heap p0 "java/lang/String" "coder" "B" (.int (0 : Int32)) := (F2_.keep Kc3 nin0)
  obtain ⟨T9, h9, X9, e9, W9, st9⟩ := putFN X6 hx hZ hown (hw _ (List.mem_of_getElem? (i := 53) rfl)) Via.refl e6 c8 c7 (Or.inr ⟨(hw _ (List.mem_of_getElem? (i := 54) rfl)), rfl, hnm⟩) (hw _ (List.mem_of_getElem? (i := 31) rfl)) (ty := .byte) (v' := (.int ((0 : Int32).toInt8.toInt32))) (by decide) rfl (fits_nar_byte _) (g := (mkF m 48 #[.val (.ref p0), .val (.ref p1), .val (.int (0 : Int32)), .val (.int (2 : Int32)), .val .null, .val (.ref u4)] [(.int (0 : Int32)), (.ref p0)])) rfl rfl (hb hby d7_48)
  have Fw9 := c8.same W9
  have O9 := O3.wr W9 F3_
  have K9 : Keep h0 h9 [p0] := K3.wr W9 (Or.inl (List.mem_of_getElem? (i := 0) rfl))
  have N9 := Fr.snoc X9 N6 F3_
  have c10 : Exa Z h9 p0 "java/lang/String" := (c7.wr W9)
  have c11 : Fld Z h9 p0 "java/lang/String" "value" "[B" .null := ((F1_.keep Kc3 nin0).other W9 (Or.inr (slot_ne (Or.inr (hw _ (List.mem_of_getElem? (i := 56) rfl))) (Or.inr (hw _ (List.mem_of_getElem? (i := 54) rfl))) (by decide) (t := (.array .byte)) (t' := .byte) (by decide) (by decide))))
  obtain ⟨T12, h12, X12, e12, W12, st12⟩ := putF X9 hx hZ hown (host := "") (Or.inl (hw _ (List.mem_of_getElem? (i := 55) rfl))) Via.refl e9 c11 c10 (Or.inr ⟨(hw _ (List.mem_of_getElem? (i := 56) rfl)), rfl, hnm⟩) (hw _ (List.mem_of_getElem? (i := 31) rfl)) (ty := (.array .byte)) (by decide) rfl rfl (g := (mkF m 54 #[.val (.ref p0), .val (.ref p1), .val (.int (0 : Int32)), .val (.int (2 : Int32)), .val .null, .val (.ref u4)] [(.ref u4), (.ref p0)])) rfl rfl (hb hby d7_54)
  have Fw12 := c11.same W12
  have O12 := O9.wr W12 F3_
  have K12 : Keep h0 h12 [p0] := K9.wr W12 (Or.inl (List.mem_of_getElem? (i := 0) rfl))
  have N12 := Fr.snoc X12 N9 F3_
  have s13 : Steps p.tables e below A₀ (T12.setTop (mkF m 57 #[.val (.ref p0), .val (.ref p1), .val (.int (0 : Int32)), .val (.int (2 : Int32)), .val .null, .val (.ref u4)] [])) := by
    refine s0.trans ?_
    refine XS.aloadN X0.here hx rfl (hb hby d7_0) rfl rfl ?_
    show Steps p.tables e below (s₁.setTop (mkF m 1 #[.val (.ref p0), .val (.ref p1), .val (.int (0 : Int32)), .val (.int (2 : Int32)), .val .null, .unset] [(.ref p0)])) _
    refine st1 _ ?_
    refine XS.iloadN X1.here hx rfl (hb hby d7_4) rfl ?_
    refine XS.ifYes X1.here hx rfl (pc0 := 5) (pc' := 27) rfl (hb hby d7_5) rfl ((if0 _ _).trans (feq (by decide)).2) (by decide) (by decide) ?_
    refine st2 _ ?_
    refine XS.ifNo X2.here hx rfl (hb hby d7_30) rfl ((if0 _ _).trans (feq hcs).1) ?_
    refine XS.aloadN X2.here hx rfl (hb hby d7_33) rfl rfl ?_
    show Steps p.tables e below (T2.setTop (mkF m 34 #[.val (.ref p0), .val (.ref p1), .val (.int (0 : Int32)), .val (.int (2 : Int32)), .val .null, .unset] [(.ref p1)])) _
    refine XS.iloadN X2.here hx rfl (hb hby d7_34) rfl ?_
    refine XS.iloadN X2.here hx rfl (hb hby d7_35) rfl ?_
    refine st3 _ ?_
    refine XS.astore X3.here hx rfl (hb hby d7_39) rfl rfl (l' := #[.val (.ref p0), .val (.ref p1), .val (.int (0 : Int32)), .val (.int (2 : Int32)), .val .null, .val (.ref u4)]) rfl ?_
    refine XS.aloadN X3.here hx rfl (hb hby d7_41) rfl rfl ?_
    refine XS.aload X3.here hx rfl (hb hby d7_42) rfl rfl ?_
    show Steps p.tables e below (T3.setTop (mkF m 44 #[.val (.ref p0), .val (.ref p1), .val (.int (0 : Int32)), .val (.int (2 : Int32)), .val .null, .val (.ref u4)] [(.ref u4), (.ref p0)])) _
    refine XS.iloadN X3.here hx rfl (hb hby d7_44) rfl ?_
    refine st6 _ ?_
    refine st9 _ ?_
    refine XS.aloadN X9.here hx rfl (hb hby d7_51) rfl rfl ?_
    refine XS.aload X9.here hx rfl (hb hby d7_52) rfl rfl ?_
    refine st12 _ ?_
    exact Steps.refl _
  subst hA₀
  have c14 : Exa Z h12 p0 "java/lang/String" := (c10.wr W12)
  have c15 : Fld Z h12 p0 "java/lang/String" "coder" "B" (.int ((0 : Int32).toInt8.toInt32)) := (Fw9.other W12 (Or.inr (slot_ne (Or.inr (hw _ (List.mem_of_getElem? (i := 54) rfl))) (Or.inr (hw _ (List.mem_of_getElem? (i := 56) rfl))) (by decide) (t := .byte) (t' := (.array .byte)) (by decide) (by decide))))
  have c16 : Arv Z h12 u4 u5 .byte (2 : Int32) [(.int ((c0.toInt8.toInt32).toInt8.toInt32)), (.int ((c1.toInt8.toInt32).toInt8.toInt32))] (.int (0 : Int32)) := ((f3_0.other W9 (Ne.symm ne_p0_u4)).other W12 (Ne.symm ne_p0_u4))
  obtain ⟨fs, hr, hrun, hended, hW, hsame⟩ := X12.leave (v := none) (fun _ => rfl)
  refine ⟨_, _, s13.trans ?_, hrun, hended, _, _, rfl, ?_, ⟨_, rfl⟩, hW, hsame.mono (by decide) (by decide)⟩
  · show Steps p.tables e below (T12.setTop (mkF m 57 #[.val (.ref p0), .val (.ref p1), .val (.int (0 : Int32)), .val (.int (2 : Int32)), .val .null, .val (.ref u4)] [])) _
    exact X12.returnOut hx Bd.returns (hb hby d7_57) hr
  · show Qsv_2 Z p0 p1 wc kc c0 c1 h0 n0 _ T12.heap _
    rw [e12]
    exact ⟨u4, u5, rfl, N12, K12, c14, Fw12, c15, c16, sz_u4⟩
theorem d6_0 : decode jdk_42_method_3_code 0 = .ok (.aload_n 0, 1) := by decide +kernel
theorem d6_1 : decode jdk_42_method_3_code 1 = .ok (.aload_n 1, 1) := by decide +kernel
theorem d6_2 : decode jdk_42_method_3_code 2 = .ok (.iconst 0, 1) := by decide +kernel
theorem d6_3 : decode jdk_42_method_3_code 3 = .ok (.aload_n 1, 1) := by decide +kernel
theorem d6_4 : decode jdk_42_method_3_code 4 = .ok (.arraylength, 1) := by decide +kernel
theorem d6_5 : decode jdk_42_method_3_code 5 = .ok (.aconst_null, 1) := by decide +kernel
theorem d6_6 : decode jdk_42_method_3_code 6 = .ok (.invokespecial 27, 3) := by decide +kernel
theorem d6_9 : decode jdk_42_method_3_code 9 = .ok (.return_, 1) := by decide +kernel
theorem pd_rms1_2_0 : parseMethodDescriptor "([CIILjava/lang/Void;)V" = some ⟨[(.array .char), .int, .int, (.object "java/lang/Void")], none⟩ := by decide +kernel
theorem ef_rms1_2 (m : MethodId) (p0 : Addr) (p1 : Addr) : entryFrame m #[(.ref p0), (.ref p1)] 2 = mkF m 0 #[.val (.ref p0), .val (.ref p1)] [] := by first | (simp [entryFrame, mkF, argsToLocals, Value.category]; done) | rfl
def Qs1_2 (Z : State) (p0 : Addr) (p1 : Addr) (wc : Int32) (kc : ClassId) (c0 : Int32) (c1 : Int32) (h0 : Heap) (n0 : Nat) (v : Option Value) (h : Heap) (L : List Loc) : Prop := ∃ b : Addr, ∃ kb : ClassId, v = none ∧ Fr n0 L ∧ Keep h0 h [p0] ∧ (Exa Z h p0 "java/lang/String") ∧ (Fld Z h p0 "java/lang/String" "value" "[B" (.ref b)) ∧ (Fld Z h p0 "java/lang/String" "coder" "B" (.int (0 : Int32))) ∧ (Arv Z h b kb .byte (2 : Int32) [(.int ((c0.toInt8.toInt32).toInt8.toInt32)), (.int ((c1.toInt8.toInt32).toInt8.toInt32))] (.int (0 : Int32))) ∧ (h0.size ≤ b)
set_option maxRecDepth 65536 in
set_option maxHeartbeats 40000000 in
theorem rms1_2 (l : Launch) (Z : State) (a0 : Array Value) (hw : ∀ d ∈ tables_1, d.before a0 Z = true) (ws : List Jvm.Cond) (p0 : Addr) (p1 : Addr) (wc : Int32) (kc : ClassId) (c0 : Int32) (c1 : Int32) (h0 : Heap) (n0 : Nat) (O0 : Old Z n0 h0) (F0_ : Exa Z h0 p0 "java/lang/String") (F1_ : Fld Z h0 p0 "java/lang/String" "value" "[B" .null) (F2_ : Fld Z h0 p0 "java/lang/String" "coder" "B" (.int (0 : Int32))) (F3_ : n0 ≤ p0) (F4_ : Arv Z h0 p1 kc .char (2 : Int32) [(.int c0), (.int c1)] (.int (0 : Int32))) (F5_ : Sta Z Z.heap "java/lang/String" "COMPACT_STRINGS" "Z" (.int wc)) (F6_ : p0 ≠ p1) (hcs : ¬ (wc = (0 : Int32))) (hc0 : ¬ ((255 : Int32) < c0)) (hc1 : ¬ ((255 : Int32) < c1)) :
    MetFree l nm4 (head1 (Jvm.Cond.code nm4 jdk_42_method_3_code 2 none :: ws) ({ frames := 3, cells := 1, slots := 2, locals := 52 } : Room)) (fun a U => a = #[(.ref p0), (.ref p1)] ∧ Z.Warmed39 U.vm ∧ U.heap = h0) (fun _ _ _ _ _ => True) (fun _ U o U' => ∃ v L, o = .returned v ∧ Qs1_2 Z p0 p1 wc kc c0 c1 h0 n0 v U'.heap L ∧ FrameEnd U o U' L ({ frames := 3, cells := 1, slots := 2, locals := 52 } : Room).cells ({ frames := 3, cells := 1, slots := 2, locals := 52 } : Room).slots) := by
  refine MetFree.of_bodySF (plainFor_of_name pn_7) hisR ?_
  intro p e s m args below meth c s₁ Bd hml0 hP hK
  obtain ⟨rfl, hZ, hh⟩ := hP
  have hx := Bd.exec
  have hby := Bd.bytes
  have hml : c.maxLocals = 2 := hml0
  have hown : s.vm.findClass "java/lang/String" = some m.cls := findClass_of_methodNamed Bd.named
  have hnm := (name_of_methodNamed Bd.named Bd.method).1
  have X0 : Stand p l e ({ frames := 3, cells := 1, slots := 2, locals := 52 } : Room) s m #[(.ref p0), (.ref p1)] below meth c s₁ [] 0 0 := Stand.of_body Bd
  have e0 : s₁.heap = h0 := by rw [← hh, Bd.state]; rfl
  have N0 := Fr.nil n0
  have s0 : Steps p.tables e below (s₁.setTop (entryFrame m #[(.ref p0), (.ref p1)] 2)) (s₁.setTop (mkF m 0 #[.val (.ref p0), .val (.ref p1)] [])) := castTop (ef_rms1_2 m p0 p1) (Steps.refl _)
  obtain ⟨A₀, hA₀⟩ : ∃ z, z = (s₁.setTop (entryFrame m #[(.ref p0), (.ref p1)] 2)) := ⟨_, rfl⟩
  rw [← hA₀] at s0
  obtain ⟨cla1, Ara1, qa1, Sa1, Za1, Ha1, Ga1⟩ := id F4_
  obtain ⟨_, _, ⟨T2, L2, k2, n2⟩, -, X2, ⟨Lc2, hQ2, l2, y2, z2⟩, st2⟩ := X0.specialBack hx (y := (⟨"java/lang/String", "<init>", "([CIILjava/lang/Void;)V"⟩ : MethodName)) rfl hown (mvT hZ (hw _ (List.mem_of_getElem? (i := 36) rfl))) (mvT hZ (hw _ (List.mem_of_getElem? (i := 37) rfl))) (mvT hZ (hw _ (List.mem_of_getElem? (i := 39) rfl))) (by decide) (backOf (W := 0) (rmsv_2 l Z a0 hw [] p0 p1 wc kc c0 c1 h0 n0 O0 F0_ F1_ F2_ F3_ F4_ F5_ F6_ hcs hc0 hc1) hZ (hw _ (List.mem_of_getElem? (i := 39) rfl)) (hw _ (List.mem_of_getElem? (i := 32) rfl)) (by decide) (by decide)) (g := (mkF m 6 #[.val (.ref p0), .val (.ref p1)] [.null, (.int (2 : Int32)), (.int (0 : Int32)), (.ref p1), (.ref p0)])) rfl (by rw [hml]; rfl) (Steps.refl _) (a := p0) (argsL := [(.ref p1), (.int (0 : Int32)), (.int (2 : Int32)), .null]) (rest := []) (lenOf pd_rms1_2_0 rfl) rfl (by show 2 * 0 + _ ≤ _; exact Nat.le_of_eq rfl) (hb hby d6_6) (fun _ _ => ⟨rfl, e0, (by decide : 0 + 1 ≤ _), (by decide : 0 + 2 ≤ _)⟩)
  dsimp only [Pt.U, Pt.locs, Pt.cells, Pt.slots] at X2 l2 y2 z2 st2 hQ2
  subst l2 y2 z2
  obtain ⟨u3, u4, rfl, Nq2, Kc2, f2_0, f2_1, f2_2, f2_3, f2_4⟩ := hQ2
  have N2 := Fr.app N0 Nq2
  have ne_p0_u3 : p0 ≠ u3 := Nat.ne_of_lt (Nat.lt_of_lt_of_le F0_.lt f2_4)
  have ne_p1_u3 : p1 ≠ u3 := Nat.ne_of_lt (Nat.lt_of_lt_of_le F4_.lt f2_4)
  have g_u3 : n0 ≤ u3 := Nat.le_trans (Nat.le_of_eq O0.1.symm) (Nat.le_trans O0.2.1 f2_4)
  have sz_u3 : h0.size ≤ u3 := Nat.le_trans (Keep.refl h0 [p0]).1 f2_4
  have K2 : Keep h0 T2.heap [p0] := (Keep.refl h0 [p0]).trans Kc2 (allS (Or.inl (List.mem_of_getElem? (i := 0) rfl)) all0)
  have O2 := O0.keep Kc2 (allS F3_ all0)
  have s5 : Steps p.tables e below A₀ (T2.setTop (mkF m 9 #[.val (.ref p0), .val (.ref p1)] [])) := by
    refine s0.trans ?_
    refine XS.aloadN X0.here hx rfl (hb hby d6_0) rfl rfl ?_
    show Steps p.tables e below (s₁.setTop (mkF m 1 #[.val (.ref p0), .val (.ref p1)] [(.ref p0)])) _
    refine XS.aloadN X0.here hx rfl (hb hby d6_1) rfl rfl ?_
    refine XS.iconst X0.here hx rfl (hb hby d6_2) ?_
    refine XS.aloadN X0.here hx rfl (hb hby d6_3) rfl rfl ?_
    refine X0.arraylength hx (by rw [e0]; exact Ara1.1) (State.isArrayOf_alike hZ.alike Ara1.2.1) (g := (mkF m 4 #[.val (.ref p0), .val (.ref p1)] [(.ref p1), (.int (0 : Int32)), (.ref p1), (.ref p0)])) rfl rfl (hb hby d6_4) _ ?_
    rw [len_of Sa1 Za1]
    show Steps p.tables e below (s₁.setTop (mkF m 5 #[.val (.ref p0), .val (.ref p1)] [(.int (2 : Int32)), (.int (0 : Int32)), (.ref p1), (.ref p0)])) _
    refine XS.aconstNull X0.here hx rfl (hb hby d6_5) ?_
    refine st2.trans ?_
    exact Steps.refl _
  subst hA₀
  obtain ⟨fs, hr, hrun, hended, hW, hsame⟩ := X2.leave (v := none) (fun _ => rfl)
  refine ⟨_, _, s5.trans ?_, hrun, hended, _, _, rfl, ?_, ⟨_, rfl⟩, hW, hsame.mono (by decide) (by decide)⟩
  · show Steps p.tables e below (T2.setTop (mkF m 9 #[.val (.ref p0), .val (.ref p1)] [])) _
    exact X2.returnOut hx Bd.returns (hb hby d6_9) hr
  · show Qs1_2 Z p0 p1 wc kc c0 c1 h0 n0 _ T2.heap _
    exact ⟨u3, u4, rfl, N2, K2, f2_0, f2_1, f2_2, f2_3, sz_u3⟩
theorem d7_8 : decode jdk_42_method_149_code 8 = .ok (.aload_n 0, 1) := by decide +kernel
theorem d7_9 : decode jdk_42_method_149_code 9 = .ok (.ldc 7, 2) := by decide +kernel
theorem d7_11 : decode jdk_42_method_149_code 11 = .ok (.getfield 9, 3) := by decide +kernel
theorem d7_14 : decode jdk_42_method_149_code 14 = .ok (.putfield 9, 3) := by decide +kernel
theorem d7_17 : decode jdk_42_method_149_code 17 = .ok (.aload_n 0, 1) := by decide +kernel
theorem d7_18 : decode jdk_42_method_149_code 18 = .ok (.ldc 7, 2) := by decide +kernel
theorem d7_20 : decode jdk_42_method_149_code 20 = .ok (.getfield 15, 3) := by decide +kernel
theorem d7_23 : decode jdk_42_method_149_code 23 = .ok (.putfield 15, 3) := by decide +kernel
theorem d7_26 : decode jdk_42_method_149_code 26 = .ok (.return_, 1) := by decide +kernel
theorem ef_rmsv_0 (m : MethodId) (p0 : Addr) (p1 : Addr) : entryFrame m #[(.ref p0), (.ref p1), (.int (0 : Int32)), (.int (0 : Int32)), .null] 6 = mkF m 0 #[.val (.ref p0), .val (.ref p1), .val (.int (0 : Int32)), .val (.int (0 : Int32)), .val .null, .unset] [] := by first | (simp [entryFrame, mkF, argsToLocals, Value.category]; done) | rfl
def Qsv_0 (Z : State) (p0 : Addr) (p1 : Addr) (h0 : Heap) (n0 : Nat) (v : Option Value) (h : Heap) (L : List Loc) : Prop := ∃ b : Addr, ∃ kb : ClassId, v = none ∧ Fr n0 L ∧ Keep h0 h [p0] ∧ (Exa Z h p0 "java/lang/String") ∧ (Fld Z h p0 "java/lang/String" "value" "[B" (.ref b)) ∧ (Fld Z h p0 "java/lang/String" "coder" "B" (.int (0 : Int32))) ∧ (Arv Z h b kb .byte (0 : Int32) [] (.int (0 : Int32))) ∧ (p0 ≠ b)
set_option maxRecDepth 65536 in
set_option maxHeartbeats 40000000 in
theorem rmsv_0 (l : Launch) (Z : State) (a0 : Array Value) (hw : ∀ d ∈ tables_1, d.before a0 Z = true) (ws : List Jvm.Cond) (p0 : Addr) (p1 : Addr) (h0 : Heap) (n0 : Nat) (O0 : Old Z n0 h0) (F0_ : Exa Z h0 p0 "java/lang/String") (F1_ : Fld Z h0 p0 "java/lang/String" "value" "[B" .null) (F2_ : Fld Z h0 p0 "java/lang/String" "coder" "B" (.int (0 : Int32))) (F3_ : n0 ≤ p0) (hheld : Jvm.Lit.constHeld Z "java/lang/String" 7) (hcw : Jvm.Lit.compactW.before a0 Z = true) :
    MetFree l nm3 (head1 (Jvm.Cond.code nm3 jdk_42_method_149_code 6 none :: ws) ({ frames := 1, cells := 2, slots := 4, locals := 12 } : Room)) (fun a U => a = #[(.ref p0), (.ref p1), (.int (0 : Int32)), (.int (0 : Int32)), .null] ∧ Z.Warmed39 U.vm ∧ U.heap = h0 ∧ own_R Z h0 U.vm) (fun _ _ _ _ _ => True) (fun _ U o U' => ∃ v L, o = .returned v ∧ (Qsv_0 Z p0 p1 h0 n0 v U'.heap L ∧ own_R Z U'.heap U'.vm) ∧ ReturnedEndW U o U' L ({ frames := 1, cells := 2, slots := 4, locals := 12 } : Room).cells ({ frames := 1, cells := 2, slots := 4, locals := 12 } : Room).slots) := by
  refine MetFree.of_bodySF (plainFor_of_name pn_7) hisR ?_
  intro p e s m args below meth c s₁ Bd hml0 hP hK
  obtain ⟨rfl, hZ, hh, hR⟩ := hP
  have hx := Bd.exec
  have hby := Bd.bytes
  have hml : c.maxLocals = 6 := hml0
  have hown : s.vm.findClass "java/lang/String" = some m.cls := findClass_of_methodNamed Bd.named
  have hnm := (name_of_methodNamed Bd.named Bd.method).1
  have X0 : Stand p l e ({ frames := 1, cells := 2, slots := 4, locals := 12 } : Room) (s.setVm s.vm) m #[(.ref p0), (.ref p1), (.int (0 : Int32)), (.int (0 : Int32)), .null] below meth c s₁ [] 0 0 := Stand.of_body Bd
  have e0 : s₁.heap = h0 := by rw [← hh, Bd.state]; rfl
  have N0 := Fr.nil n0
  have hS0 : s.Since s.vm s.heap.size := (State.WarmedH.refl s).since _
  have hk0 : s.heap.size ≤ h0.size := Nat.le_of_eq (congrArg Array.size hh)
  have s0 : Steps p.tables e below (s₁.setTop (entryFrame m #[(.ref p0), (.ref p1), (.int (0 : Int32)), (.int (0 : Int32)), .null] 6)) (s₁.setTop (mkF m 0 #[.val (.ref p0), .val (.ref p1), .val (.int (0 : Int32)), .val (.int (0 : Int32)), .val .null, .unset] [])) := castTop (ef_rmsv_0 m p0 p1) (Steps.refl _)
  obtain ⟨A₀, hA₀⟩ : ∃ z, z = (s₁.setTop (entryFrame m #[(.ref p0), (.ref p1), (.int (0 : Int32)), (.int (0 : Int32)), .null] 6)) := ⟨_, rfl⟩
  rw [← hA₀] at s0
  obtain ⟨T1, X1, e1, st1⟩ := initO X0 hx hZ hown (hw _ (List.mem_of_getElem? (i := 40) rfl)) (hw _ (List.mem_of_getElem? (i := 16) rfl)) (hw _ (List.mem_of_getElem? (i := 17) rfl)) e0 (g := (mkF m 1 #[.val (.ref p0), .val (.ref p1), .val (.int (0 : Int32)), .val (.int (0 : Int32)), .val .null, .unset] [(.ref p0)])) rfl (by rw [hml]; rfl) rfl (hb hby d7_1) (by decide) (W := 0) (by show 2 * 0 + _ ≤ _; exact Nat.le_of_eq rfl) (by decide)
  have s2 : Steps p.tables e below A₀ (T1.setTop (mkF m 9 #[.val (.ref p0), .val (.ref p1), .val (.int (0 : Int32)), .val (.int (0 : Int32)), .val .null, .unset] [(.ref p0)])) := by
    refine s0.trans ?_
    refine XS.aloadN X0.here hx rfl (hb hby d7_0) rfl rfl ?_
    show Steps p.tables e below (s₁.setTop (mkF m 1 #[.val (.ref p0), .val (.ref p1), .val (.int (0 : Int32)), .val (.int (0 : Int32)), .val .null, .unset] [(.ref p0)])) _
    refine st1 _ ?_
    refine XS.iloadN X1.here hx rfl (hb hby d7_4) rfl ?_
    refine XS.ifNo X1.here hx rfl (hb hby d7_5) rfl ((if0 _ _).trans (teq (by decide)).2) ?_
    refine XS.aloadN X1.here hx rfl (hb hby d7_8) rfl rfl ?_
    exact Steps.refl _
  rcases hR with hI | ⟨ax, bx, kx, La, Ea, Ca, Va, Aa⟩
  · obtain ⟨a3, T3, h3, k3, b3, kk3, X3, e3, E3, hS3, hk3, hZ3, hown3, Ex3, Fc3, Fv3, Ar3, -, -, -, Li, st3⟩ := ldcSVL X1 hx hZ hown (hw _ (List.mem_of_getElem? (i := 71) rfl)) (own_wS hw) e1 hS0 hk0 (Fr.nil _) (fun b cl q => by rw [hh]; exact O0.2.2 b cl q) hI (by simp) hheld hcw (vs := []) (z := (0 : Int32)) ⟨by decide, rfl⟩ (by decide) rfl (g := (mkF m 9 #[.val (.ref p0), .val (.ref p1), .val (.int (0 : Int32)), .val (.int (0 : Int32)), .val .null, .unset] [(.ref p0)])) rfl (hb hby d7_9) (n := 0) (by decide) (by decide) (by decide) (by decide)
    have O3 := O0.ext E3
    have hkk3 := Nat.le_trans hk0 E3.1
    have K3 : Keep h0 h3 [p0] := (Keep.refl h0 [p0]).ext E3
    have c4 : Fld Z h3 p0 "java/lang/String" "value" "[B" .null := (F1_.ext E3)
    have nap : a3 ≠ p0 := Fld.ne Fv3 c4 (fun q => nomatch q)
    have c5 : Exa Z h3 p0 "java/lang/String" := (F0_.ext E3)
    have nbp : b3 ≠ p0 := own_ne_arr c5 (hw _ (List.mem_of_getElem? (i := 31) rfl)) Ar3
    obtain ⟨T6, X6, e6, st6⟩ := getF X3 hx hZ3 hown3 (host := "") (Or.inl (hw _ (List.mem_of_getElem? (i := 55) rfl))) Via.refl e3 Fv3 (g := (mkF m 11 #[.val (.ref p0), .val (.ref p1), .val (.int (0 : Int32)), .val (.int (0 : Int32)), .val .null, .unset] [(.ref a3), (.ref p0)])) rfl rfl (hb hby d7_11)
    obtain ⟨T7, h7, X7, e7, W7, st7⟩ := putF X6 hx hZ3 hown3 (host := "") (Or.inl (hw _ (List.mem_of_getElem? (i := 55) rfl))) Via.refl e6 c4 c5 (Or.inr ⟨(hw _ (List.mem_of_getElem? (i := 56) rfl)), rfl, hnm⟩) (hw _ (List.mem_of_getElem? (i := 31) rfl)) (ty := (.array .byte)) (by decide) rfl rfl (g := (mkF m 14 #[.val (.ref p0), .val (.ref p1), .val (.int (0 : Int32)), .val (.int (0 : Int32)), .val .null, .unset] [(.ref b3), (.ref p0)])) rfl rfl (hb hby d7_14)
    have Fw7 := c4.same W7
    have O7 := O3.wr W7 F3_
    have hkk7 := Nat.le_trans hk3 (Keep.of_wr W7).1
    have K7 : Keep h0 h7 [p0] := K3.wr W7 (Or.inl (List.mem_of_getElem? (i := 0) rfl))
    have N7 := Fr.snoc X7 N0 F3_
    have c8 : Fld Z h7 a3 "java/lang/String" "coder" "B" (.int (0 : Int32)) := (Fc3.other W7 (Or.inl nap))
    obtain ⟨T9, X9, e9, st9⟩ := getF X7 hx hZ3 hown3 (host := "") (Or.inl (hw _ (List.mem_of_getElem? (i := 53) rfl))) Via.refl e7 c8 (g := (mkF m 20 #[.val (.ref p0), .val (.ref p1), .val (.int (0 : Int32)), .val (.int (0 : Int32)), .val .null, .unset] [(.ref a3), (.ref p0)])) rfl rfl (hb hby d7_20)
    have c10 : Exa Z h7 p0 "java/lang/String" := (c5.wr W7)
    have c11 : Fld Z h7 p0 "java/lang/String" "coder" "B" (.int (0 : Int32)) := ((F2_.ext E3).other W7 (Or.inr (slot_ne (Or.inr (hw _ (List.mem_of_getElem? (i := 54) rfl))) (Or.inr (hw _ (List.mem_of_getElem? (i := 56) rfl))) (by decide) (t := .byte) (t' := (.array .byte)) (by decide) (by decide))))
    obtain ⟨T12, h12, X12, e12, W12, st12⟩ := putFN X9 hx hZ3 hown3 (hw _ (List.mem_of_getElem? (i := 53) rfl)) Via.refl e9 c11 c10 (Or.inr ⟨(hw _ (List.mem_of_getElem? (i := 54) rfl)), rfl, hnm⟩) (hw _ (List.mem_of_getElem? (i := 31) rfl)) (ty := .byte) (v' := (.int ((0 : Int32).toInt8.toInt32))) (by decide) rfl (fits_nar_byte _) (g := (mkF m 23 #[.val (.ref p0), .val (.ref p1), .val (.int (0 : Int32)), .val (.int (0 : Int32)), .val .null, .unset] [(.int (0 : Int32)), (.ref p0)])) rfl rfl (hb hby d7_23)
    have Fw12 := c11.same W12
    have O12 := O7.wr W12 F3_
    have hkk12 := Nat.le_trans hkk7 (Keep.of_wr W12).1
    have K12 : Keep h0 h12 [p0] := K7.wr W12 (Or.inl (List.mem_of_getElem? (i := 0) rfl))
    have N12 := Fr.snoc X12 N7 F3_
    have s13 : Steps p.tables e below A₀ (T12.setTop (mkF m 26 #[.val (.ref p0), .val (.ref p1), .val (.int (0 : Int32)), .val (.int (0 : Int32)), .val .null, .unset] [])) := by
      refine s2.trans ?_
      refine st3 _ ?_
      show Steps p.tables e below (T3.setTop (mkF m 11 #[.val (.ref p0), .val (.ref p1), .val (.int (0 : Int32)), .val (.int (0 : Int32)), .val .null, .unset] [(.ref a3), (.ref p0)])) _
      refine st6 _ ?_
      refine st7 _ ?_
      refine XS.aloadN X7.here hx rfl (hb hby d7_17) rfl rfl ?_
      show Steps p.tables e below (T7.setTop (mkF m 18 #[.val (.ref p0), .val (.ref p1), .val (.int (0 : Int32)), .val (.int (0 : Int32)), .val .null, .unset] [(.ref p0)])) _
      refine ldcAgain X7 hx hZ3 hown3 (hw _ (List.mem_of_getElem? (i := 71) rfl)) Li (g := (mkF m 18 #[.val (.ref p0), .val (.ref p1), .val (.int (0 : Int32)), .val (.int (0 : Int32)), .val .null, .unset] [(.ref p0)])) rfl (hb hby d7_18) _ ?_
      refine st9 _ ?_
      refine st12 _ ?_
      exact Steps.refl _
    have c14 : Exa Z h12 a3 "java/lang/String" := ((Ex3.wr W7).wr W12)
    have c15 : Fld Z h12 a3 "java/lang/String" "coder" "B" (.int (0 : Int32)) := (c8.other W12 (Or.inl nap))
    have c16 : Fld Z h12 a3 "java/lang/String" "value" "[B" (.ref b3) := ((Fv3.other W7 (Or.inl nap)).other W12 (Or.inl nap))
    have c17 : Arv Z h12 b3 kk3 .byte (0 : Int32) [] (.int (0 : Int32)) := ((Ar3.other W7 nbp).other W12 nbp)
    subst hA₀
    have c18 : Exa Z h12 p0 "java/lang/String" := (c10.wr W12)
    have c19 : Fld Z h12 p0 "java/lang/String" "value" "[B" (.ref b3) := (Fw7.other W12 (Or.inr (slot_ne (Or.inr (hw _ (List.mem_of_getElem? (i := 56) rfl))) (Or.inr (hw _ (List.mem_of_getElem? (i := 54) rfl))) (by decide) (t := (.array .byte)) (t' := .byte) (by decide) (by decide))))
    obtain ⟨fs, hr, hrun, hended, -, hW, hIn, hsame⟩ := X12.leaveW hS3 (by rw [e12]; exact hkk12) (v := none) (fun _ => rfl)
    refine ⟨_, _, s13.trans ?_, hrun, hended, _, _, rfl, ?_, ⟨_, rfl⟩, hW, hIn, hsame.mono (by decide) (by decide)⟩
    · show Steps p.tables e below (T12.setTop (mkF m 26 #[.val (.ref p0), .val (.ref p1), .val (.int (0 : Int32)), .val (.int (0 : Int32)), .val .null, .unset] [])) _
      exact X12.returnOut hx Bd.returns (hb hby d7_26) hr
    · refine ⟨?_, ?_⟩
      · show Qsv_0 Z p0 p1 h0 n0 _ T12.heap _
        rw [e12]
        exact ⟨b3, kk3, rfl, N12, K12, c18, c19, Fw12, c17, (Ne.symm nbp)⟩
      · show own_R Z T12.heap T12.vm
        rw [e12]
        exact Or.inr ⟨a3, b3, kk3, own_lit_warm (own_lit_of Li) X12.warmed, c14, c15, c16, c17⟩
  · have nap : ax ≠ p0 := Fld.ne Va F1_ (fun q => nomatch q)
    have nbp : bx ≠ p0 := own_ne_arr F0_ (hw _ (List.mem_of_getElem? (i := 31) rfl)) Aa
    obtain ⟨T20, X20, e20, st20⟩ := getF X1 hx hZ hown (host := "") (Or.inl (hw _ (List.mem_of_getElem? (i := 55) rfl))) Via.refl e1 Va (g := (mkF m 11 #[.val (.ref p0), .val (.ref p1), .val (.int (0 : Int32)), .val (.int (0 : Int32)), .val .null, .unset] [(.ref ax), (.ref p0)])) rfl rfl (hb hby d7_11)
    obtain ⟨T21, h21, X21, e21, W21, st21⟩ := putF X20 hx hZ hown (host := "") (Or.inl (hw _ (List.mem_of_getElem? (i := 55) rfl))) Via.refl e20 F1_ F0_ (Or.inr ⟨(hw _ (List.mem_of_getElem? (i := 56) rfl)), rfl, hnm⟩) (hw _ (List.mem_of_getElem? (i := 31) rfl)) (ty := (.array .byte)) (by decide) rfl rfl (g := (mkF m 14 #[.val (.ref p0), .val (.ref p1), .val (.int (0 : Int32)), .val (.int (0 : Int32)), .val .null, .unset] [(.ref bx), (.ref p0)])) rfl rfl (hb hby d7_14)
    have Fw21 := F1_.same W21
    have O21 := O0.wr W21 F3_
    have hkk21 := Nat.le_trans hk0 (Keep.of_wr W21).1
    have K21 : Keep h0 h21 [p0] := (Keep.refl h0 [p0]).wr W21 (Or.inl (List.mem_of_getElem? (i := 0) rfl))
    have N21 := Fr.snoc X21 N0 F3_
    have c22 : Fld Z h21 ax "java/lang/String" "coder" "B" (.int (0 : Int32)) := (Ca.other W21 (Or.inl nap))
    obtain ⟨T23, X23, e23, st23⟩ := getF X21 hx hZ hown (host := "") (Or.inl (hw _ (List.mem_of_getElem? (i := 53) rfl))) Via.refl e21 c22 (g := (mkF m 20 #[.val (.ref p0), .val (.ref p1), .val (.int (0 : Int32)), .val (.int (0 : Int32)), .val .null, .unset] [(.ref ax), (.ref p0)])) rfl rfl (hb hby d7_20)
    have c24 : Exa Z h21 p0 "java/lang/String" := (F0_.wr W21)
    have c25 : Fld Z h21 p0 "java/lang/String" "coder" "B" (.int (0 : Int32)) := (F2_.other W21 (Or.inr (slot_ne (Or.inr (hw _ (List.mem_of_getElem? (i := 54) rfl))) (Or.inr (hw _ (List.mem_of_getElem? (i := 56) rfl))) (by decide) (t := .byte) (t' := (.array .byte)) (by decide) (by decide))))
    obtain ⟨T26, h26, X26, e26, W26, st26⟩ := putFN X23 hx hZ hown (hw _ (List.mem_of_getElem? (i := 53) rfl)) Via.refl e23 c25 c24 (Or.inr ⟨(hw _ (List.mem_of_getElem? (i := 54) rfl)), rfl, hnm⟩) (hw _ (List.mem_of_getElem? (i := 31) rfl)) (ty := .byte) (v' := (.int ((0 : Int32).toInt8.toInt32))) (by decide) rfl (fits_nar_byte _) (g := (mkF m 23 #[.val (.ref p0), .val (.ref p1), .val (.int (0 : Int32)), .val (.int (0 : Int32)), .val .null, .unset] [(.int (0 : Int32)), (.ref p0)])) rfl rfl (hb hby d7_23)
    have Fw26 := c25.same W26
    have O26 := O21.wr W26 F3_
    have hkk26 := Nat.le_trans hkk21 (Keep.of_wr W26).1
    have K26 : Keep h0 h26 [p0] := K21.wr W26 (Or.inl (List.mem_of_getElem? (i := 0) rfl))
    have N26 := Fr.snoc X26 N21 F3_
    have s27 : Steps p.tables e below A₀ (T26.setTop (mkF m 26 #[.val (.ref p0), .val (.ref p1), .val (.int (0 : Int32)), .val (.int (0 : Int32)), .val .null, .unset] [])) := by
      refine s2.trans ?_
      refine ldcAgain X1 hx hZ hown (hw _ (List.mem_of_getElem? (i := 71) rfl)) (La s) (g := (mkF m 9 #[.val (.ref p0), .val (.ref p1), .val (.int (0 : Int32)), .val (.int (0 : Int32)), .val .null, .unset] [(.ref p0)])) rfl (hb hby d7_9) _ ?_
      show Steps p.tables e below (T1.setTop (mkF m 11 #[.val (.ref p0), .val (.ref p1), .val (.int (0 : Int32)), .val (.int (0 : Int32)), .val .null, .unset] [(.ref ax), (.ref p0)])) _
      refine st20 _ ?_
      refine st21 _ ?_
      refine XS.aloadN X21.here hx rfl (hb hby d7_17) rfl rfl ?_
      show Steps p.tables e below (T21.setTop (mkF m 18 #[.val (.ref p0), .val (.ref p1), .val (.int (0 : Int32)), .val (.int (0 : Int32)), .val .null, .unset] [(.ref p0)])) _
      refine ldcAgain X21 hx hZ hown (hw _ (List.mem_of_getElem? (i := 71) rfl)) (La s) (g := (mkF m 18 #[.val (.ref p0), .val (.ref p1), .val (.int (0 : Int32)), .val (.int (0 : Int32)), .val .null, .unset] [(.ref p0)])) rfl (hb hby d7_18) _ ?_
      refine st23 _ ?_
      refine st26 _ ?_
      exact Steps.refl _
    have c28 : Exa Z h26 ax "java/lang/String" := ((Ea.wr W21).wr W26)
    have c29 : Fld Z h26 ax "java/lang/String" "coder" "B" (.int (0 : Int32)) := (c22.other W26 (Or.inl nap))
    have c30 : Fld Z h26 ax "java/lang/String" "value" "[B" (.ref bx) := ((Va.other W21 (Or.inl nap)).other W26 (Or.inl nap))
    have c31 : Arv Z h26 bx kx .byte (0 : Int32) [] (.int (0 : Int32)) := ((Aa.other W21 nbp).other W26 nbp)
    subst hA₀
    have c32 : Exa Z h26 p0 "java/lang/String" := (c24.wr W26)
    have c33 : Fld Z h26 p0 "java/lang/String" "value" "[B" (.ref bx) := (Fw21.other W26 (Or.inr (slot_ne (Or.inr (hw _ (List.mem_of_getElem? (i := 56) rfl))) (Or.inr (hw _ (List.mem_of_getElem? (i := 54) rfl))) (by decide) (t := (.array .byte)) (t' := .byte) (by decide) (by decide))))
    obtain ⟨fs, hr, hrun, hended, -, hW, hIn, hsame⟩ := X26.leaveW hS0 (by rw [e26]; exact hkk26) (v := none) (fun _ => rfl)
    refine ⟨_, _, s27.trans ?_, hrun, hended, _, _, rfl, ?_, ⟨_, rfl⟩, hW, hIn, hsame.mono (by decide) (by decide)⟩
    · show Steps p.tables e below (T26.setTop (mkF m 26 #[.val (.ref p0), .val (.ref p1), .val (.int (0 : Int32)), .val (.int (0 : Int32)), .val .null, .unset] [])) _
      exact X26.returnOut hx Bd.returns (hb hby d7_26) hr
    · refine ⟨?_, ?_⟩
      · show Qsv_0 Z p0 p1 h0 n0 _ T26.heap _
        rw [e26]
        exact ⟨bx, kx, rfl, N26, K26, c32, c33, Fw26, c31, (Ne.symm nbp)⟩
      · show own_R Z T26.heap T26.vm
        rw [e26]
        exact Or.inr ⟨ax, bx, kx, own_lit_warm La X26.warmed, c28, c29, c30, c31⟩
theorem pd_rms1_0_0 : parseMethodDescriptor "([CIILjava/lang/Void;)V" = some ⟨[(.array .char), .int, .int, (.object "java/lang/Void")], none⟩ := by decide +kernel
theorem ef_rms1_0 (m : MethodId) (p0 : Addr) (p1 : Addr) : entryFrame m #[(.ref p0), (.ref p1)] 2 = mkF m 0 #[.val (.ref p0), .val (.ref p1)] [] := by first | (simp [entryFrame, mkF, argsToLocals, Value.category]; done) | rfl
def Qs1_0 (Z : State) (p0 : Addr) (p1 : Addr) (kc : ClassId) (h0 : Heap) (n0 : Nat) (v : Option Value) (h : Heap) (L : List Loc) : Prop := ∃ b : Addr, ∃ kb : ClassId, v = none ∧ Fr n0 L ∧ Keep h0 h [p0] ∧ (Exa Z h p0 "java/lang/String") ∧ (Fld Z h p0 "java/lang/String" "value" "[B" (.ref b)) ∧ (Fld Z h p0 "java/lang/String" "coder" "B" (.int (0 : Int32))) ∧ (Arv Z h b kb .byte (0 : Int32) [] (.int (0 : Int32))) ∧ (p0 ≠ b)
set_option maxRecDepth 65536 in
set_option maxHeartbeats 40000000 in
theorem rms1_0 (l : Launch) (Z : State) (a0 : Array Value) (hw : ∀ d ∈ tables_1, d.before a0 Z = true) (ws : List Jvm.Cond) (p0 : Addr) (p1 : Addr) (kc : ClassId) (h0 : Heap) (n0 : Nat) (O0 : Old Z n0 h0) (F0_ : Exa Z h0 p0 "java/lang/String") (F1_ : Fld Z h0 p0 "java/lang/String" "value" "[B" .null) (F2_ : Fld Z h0 p0 "java/lang/String" "coder" "B" (.int (0 : Int32))) (F3_ : n0 ≤ p0) (F4_ : Arv Z h0 p1 kc .char (0 : Int32) [] (.int (0 : Int32))) (hheld : Jvm.Lit.constHeld Z "java/lang/String" 7) (hcw : Jvm.Lit.compactW.before a0 Z = true) :
    MetFree l nm4 (head1 (Jvm.Cond.code nm4 jdk_42_method_3_code 2 none :: ws) ({ frames := 2, cells := 2, slots := 4, locals := 29 } : Room)) (fun a U => a = #[(.ref p0), (.ref p1)] ∧ Z.Warmed39 U.vm ∧ U.heap = h0 ∧ own_R Z h0 U.vm) (fun _ _ _ _ _ => True) (fun _ U o U' => ∃ v L, o = .returned v ∧ (Qs1_0 Z p0 p1 kc h0 n0 v U'.heap L ∧ own_R Z U'.heap U'.vm) ∧ ReturnedEndW U o U' L ({ frames := 2, cells := 2, slots := 4, locals := 29 } : Room).cells ({ frames := 2, cells := 2, slots := 4, locals := 29 } : Room).slots) := by
  refine MetFree.of_bodySF (plainFor_of_name pn_7) hisR ?_
  intro p e s m args below meth c s₁ Bd hml0 hP hK
  obtain ⟨rfl, hZ, hh, hR⟩ := hP
  have hx := Bd.exec
  have hby := Bd.bytes
  have hml : c.maxLocals = 2 := hml0
  have hown : s.vm.findClass "java/lang/String" = some m.cls := findClass_of_methodNamed Bd.named
  have hnm := (name_of_methodNamed Bd.named Bd.method).1
  have X0 : Stand p l e ({ frames := 2, cells := 2, slots := 4, locals := 29 } : Room) (s.setVm s.vm) m #[(.ref p0), (.ref p1)] below meth c s₁ [] 0 0 := Stand.of_body Bd
  have e0 : s₁.heap = h0 := by rw [← hh, Bd.state]; rfl
  have N0 := Fr.nil n0
  have hS0 : s.Since s.vm s.heap.size := (State.WarmedH.refl s).since _
  have hk0 : s.heap.size ≤ h0.size := Nat.le_of_eq (congrArg Array.size hh)
  have s0 : Steps p.tables e below (s₁.setTop (entryFrame m #[(.ref p0), (.ref p1)] 2)) (s₁.setTop (mkF m 0 #[.val (.ref p0), .val (.ref p1)] [])) := castTop (ef_rms1_0 m p0 p1) (Steps.refl _)
  obtain ⟨A₀, hA₀⟩ : ∃ z, z = (s₁.setTop (entryFrame m #[(.ref p0), (.ref p1)] 2)) := ⟨_, rfl⟩
  rw [← hA₀] at s0
  obtain ⟨cla1, Ara1, qa1, Sa1, Za1, Ha1, Ga1⟩ := id F4_
  have s2 : Steps p.tables e below A₀ (s₁.setTop (mkF m 6 #[.val (.ref p0), .val (.ref p1)] [.null, (.int (0 : Int32)), (.int (0 : Int32)), (.ref p1), (.ref p0)])) := by
    refine s0.trans ?_
    refine XS.aloadN X0.here hx rfl (hb hby d6_0) rfl rfl ?_
    show Steps p.tables e below (s₁.setTop (mkF m 1 #[.val (.ref p0), .val (.ref p1)] [(.ref p0)])) _
    refine XS.aloadN X0.here hx rfl (hb hby d6_1) rfl rfl ?_
    refine XS.iconst X0.here hx rfl (hb hby d6_2) ?_
    refine XS.aloadN X0.here hx rfl (hb hby d6_3) rfl rfl ?_
    refine X0.arraylength hx (by rw [e0]; exact Ara1.1) (State.isArrayOf_alike hZ.alike Ara1.2.1) (g := (mkF m 4 #[.val (.ref p0), .val (.ref p1)] [(.ref p1), (.int (0 : Int32)), (.ref p1), (.ref p0)])) rfl rfl (hb hby d6_4) _ ?_
    rw [len_of Sa1 Za1]
    show Steps p.tables e below (s₁.setTop (mkF m 5 #[.val (.ref p0), .val (.ref p1)] [(.int (0 : Int32)), (.int (0 : Int32)), (.ref p1), (.ref p0)])) _
    refine XS.aconstNull X0.here hx rfl (hb hby d6_5) ?_
    exact Steps.refl _
  obtain ⟨_, _, ⟨T3, L3, k3, n3⟩, -, Xa3, hSa3, hga3, ⟨Lc3, hQ3, hR3, l3, y3, z3⟩, st3⟩ := X0.specialBackS hx (y := (⟨"java/lang/String", "<init>", "([CIILjava/lang/Void;)V"⟩ : MethodName)) rfl hown (mvT hZ (hw _ (List.mem_of_getElem? (i := 36) rfl))) (mvT hZ (hw _ (List.mem_of_getElem? (i := 37) rfl))) (mvT hZ (hw _ (List.mem_of_getElem? (i := 39) rfl))) (by decide) (own_backW (W := 0) (rmsv_0 l Z a0 hw [] p0 p1 h0 n0 O0 F0_ F1_ F2_ F3_ hheld hcw) hZ (hw _ (List.mem_of_getElem? (i := 39) rfl)) (hw _ (List.mem_of_getElem? (i := 32) rfl)) (by decide) (by decide)) (g := (mkF m 6 #[.val (.ref p0), .val (.ref p1)] [.null, (.int (0 : Int32)), (.int (0 : Int32)), (.ref p1), (.ref p0)])) rfl (by rw [hml]; rfl) (Steps.refl _) (a := p0) (argsL := [(.ref p1), (.int (0 : Int32)), (.int (0 : Int32)), .null]) (rest := []) (lenOf pd_rms1_0_0 rfl) rfl (by show 2 * 0 + _ ≤ _; exact Nat.le_of_eq rfl) (hb hby d6_6) (fun vm₁ hv => ⟨rfl, e0, own_R_warm hv hR, (by decide : 0 + 2 ≤ _), (by decide : 0 + 4 ≤ _)⟩)
  dsimp only [Pt.U, Pt.locs, Pt.cells, Pt.slots] at Xa3 hSa3 hga3 l3 y3 z3 st3 hQ3 hR3
  subst l3 y3 z3
  obtain ⟨X3, hS3, hZ3, hown3⟩ := rebS hS0 (by rw [e0]; exact hk0) Xa3 hSa3 hga3 hZ hown
  obtain ⟨u4, u5, rfl, Nq3, Kc3, f3_0, f3_1, f3_2, f3_3, f3_4⟩ := hQ3
  have N3 := Fr.app N0 Nq3
  have K3 : Keep h0 T3.heap [p0] := (Keep.refl h0 [p0]).trans Kc3 (allS (Or.inl (List.mem_of_getElem? (i := 0) rfl)) all0)
  have O3 := O0.keep Kc3 (allS F3_ all0)
  have s6 : Steps p.tables e below A₀ (T3.setTop (mkF m 9 #[.val (.ref p0), .val (.ref p1)] [])) := by
    refine s2.trans ?_
    show Steps p.tables e below (s₁.setTop (mkF m 6 #[.val (.ref p0), .val (.ref p1)] [.null, (.int (0 : Int32)), (.int (0 : Int32)), (.ref p1), (.ref p0)])) _
    refine st3.trans ?_
    exact Steps.refl _
  subst hA₀
  obtain ⟨fs, hr, hrun, hended, -, hW, hIn, hsame⟩ := X3.leaveW hS3 (by rw [(rfl : T3.heap = T3.heap)]; exact (Nat.le_refl T3.heap.size)) (v := none) (fun _ => rfl)
  refine ⟨_, _, s6.trans ?_, hrun, hended, _, _, rfl, ?_, ⟨_, rfl⟩, hW, hIn, hsame.mono (by decide) (by decide)⟩
  · show Steps p.tables e below (T3.setTop (mkF m 9 #[.val (.ref p0), .val (.ref p1)] [])) _
    exact X3.returnOut hx Bd.returns (hb hby d6_9) hr
  · refine ⟨?_, ?_⟩
    · show Qs1_0 Z p0 p1 kc h0 n0 _ T3.heap _
      exact ⟨u4, u5, rfl, N3, K3, f3_0, f3_1, f3_2, f3_3, f3_4⟩
    · show own_R Z T3.heap T3.vm
      exact own_R_warm X3.warmed hR3
theorem d12_0 : decode jdk_43_method_3_code 0 = .ok (.iload_n 0, 1) := by decide +kernel
theorem d12_1 : decode jdk_43_method_3_code 1 = .ok (.sipush 255, 3) := by decide +kernel
theorem d12_4 : decode jdk_43_method_3_code 4 = .ok (.if_icmp .gt 7, 3) := by decide +kernel
theorem d12_7 : decode jdk_43_method_3_code 7 = .ok (.iconst 1, 1) := by decide +kernel
theorem d12_8 : decode jdk_43_method_3_code 8 = .ok (.goto 4, 3) := by decide +kernel
theorem d12_12 : decode jdk_43_method_3_code 12 = .ok (.ireturn, 1) := by decide +kernel
theorem pn_12 : plainName "java/lang/StringLatin1" = true := by first | (simp [plainName, overriddenIn]; done) | decide +kernel
theorem ef_rm12 (m : MethodId) (p0 : Int32) : entryFrame m #[(.int p0)] 1 = mkF m 0 #[.val (.int p0)] [] := by first | (simp [entryFrame, mkF, argsToLocals, Value.category]; done) | rfl
def Q12 (Z : State) (p0 : Int32) (h0 : Heap) (n0 : Nat) (v : Option Value) (h : Heap) (L : List Loc) : Prop := v = some (.int (1 : Int32)) ∧ Fr n0 L ∧ h = h0
set_option maxRecDepth 65536 in
set_option maxHeartbeats 40000000 in
theorem rm12 (l : Launch) (Z : State) (a0 : Array Value) (hw : ∀ d ∈ tables_1, d.before a0 Z = true) (ws : List Jvm.Cond) (p0 : Int32) (h0 : Heap) (n0 : Nat) (O0 : Old Z n0 h0) (hle : ¬ ((255 : Int32) < p0)) :
    MetFree l nm5 (head1 (Jvm.Cond.code nm5 jdk_43_method_3_code 1 (some .boolean) :: ws) ({ frames := 0, cells := 0, slots := 0, locals := 0 } : Room)) (fun a U => a = #[(.int p0)] ∧ Z.Warmed39 U.vm ∧ U.heap = h0) (fun _ _ _ _ _ => True) (fun _ U o U' => ∃ v L, o = .returned v ∧ Q12 Z p0 h0 n0 v U'.heap L ∧ FrameEnd U o U' L ({ frames := 0, cells := 0, slots := 0, locals := 0 } : Room).cells ({ frames := 0, cells := 0, slots := 0, locals := 0 } : Room).slots) := by
  refine MetFree.of_bodySF (plainFor_of_name pn_12) hisR ?_
  intro p e s m args below meth c s₁ Bd hml0 hP hK
  obtain ⟨rfl, hZ, hh⟩ := hP
  have hx := Bd.exec
  have hby := Bd.bytes
  have hml : c.maxLocals = 1 := hml0
  have hown : s.vm.findClass "java/lang/StringLatin1" = some m.cls := findClass_of_methodNamed Bd.named
  have hnm := (name_of_methodNamed Bd.named Bd.method).1
  have X0 : Stand p l e ({ frames := 0, cells := 0, slots := 0, locals := 0 } : Room) s m #[(.int p0)] below meth c s₁ [] 0 0 := Stand.of_body Bd
  have e0 : s₁.heap = h0 := by rw [← hh, Bd.state]; rfl
  have N0 := Fr.nil n0
  have s0 : Steps p.tables e below (s₁.setTop (entryFrame m #[(.int p0)] 1)) (s₁.setTop (mkF m 0 #[.val (.int p0)] [])) := castTop (ef_rm12 m p0) (Steps.refl _)
  obtain ⟨A₀, hA₀⟩ : ∃ z, z = (s₁.setTop (entryFrame m #[(.int p0)] 1)) := ⟨_, rfl⟩
  rw [← hA₀] at s0
  have s1 : Steps p.tables e below A₀ (s₁.setTop (mkF m 12 #[.val (.int p0)] [(.int (1 : Int32))])) := by
    refine s0.trans ?_
    refine XS.iloadN X0.here hx rfl (hb hby d12_0) rfl ?_
    show Steps p.tables e below (s₁.setTop (mkF m 1 #[.val (.int p0)] [(.int p0)])) _
    refine XS.sipush X0.here hx rfl (hb hby d12_1) ?_
    refine XS.icmpNo X0.here hx rfl (hb hby d12_4) rfl (flt hle).2.2.1 ?_
    refine XS.iconst X0.here hx rfl (hb hby d12_7) ?_
    refine XS.goto X0.here hx rfl (pc0 := 8) (pc' := 12) rfl (hb hby d12_8) (by decide) (by decide) ?_
    exact Steps.refl _
  subst hA₀
  obtain ⟨fs, hr, hrun, hended, hW, hsame⟩ := X0.leave (v := some (.int (1 : Int32))) (fun h => by rw [Bd.returns] at h; cases h)
  refine ⟨_, _, s1.trans ?_, hrun, hended, _, _, rfl, ?_, ⟨_, rfl⟩, hW, hsame.mono (by decide) (by decide)⟩
  · show Steps p.tables e below (s₁.setTop (mkF m 12 #[.val (.int p0)] [(.int (1 : Int32))])) _
    exact retN X0 hx (t := .boolean) Bd.returns (by simp) (hb hby d12_12) hr
  · show Q12 Z p0 h0 n0 _ s₁.heap _
    rw [e0]
    exact ⟨rfl, N0, rfl⟩
theorem d13_0 : decode jdk_43_method_46_code 0 = .ok (.iconst 1, 1) := by decide +kernel
theorem d13_1 : decode jdk_43_method_46_code 1 = .ok (.newarray .byte, 2) := by decide +kernel
theorem d13_3 : decode jdk_43_method_46_code 3 = .ok (.dup, 1) := by decide +kernel
theorem d13_4 : decode jdk_43_method_46_code 4 = .ok (.iconst 0, 1) := by decide +kernel
theorem d13_5 : decode jdk_43_method_46_code 5 = .ok (.iload_n 0, 1) := by decide +kernel
theorem d13_6 : decode jdk_43_method_46_code 6 = .ok (.i2b, 1) := by decide +kernel
theorem d13_7 : decode jdk_43_method_46_code 7 = .ok (.bastore, 1) := by decide +kernel
theorem d13_8 : decode jdk_43_method_46_code 8 = .ok (.areturn, 1) := by decide +kernel
theorem ef_rm13 (m : MethodId) (p0 : Int32) : entryFrame m #[(.int p0)] 1 = mkF m 0 #[.val (.int p0)] [] := by first | (simp [entryFrame, mkF, argsToLocals, Value.category]; done) | rfl
def Q13 (Z : State) (p0 : Int32) (h0 : Heap) (n0 : Nat) (v : Option Value) (h : Heap) (L : List Loc) : Prop := ∃ b : Addr, ∃ kb : ClassId, v = some (.ref b) ∧ Fr n0 L ∧ Keep h0 h [] ∧ (Arv Z h b kb .byte (1 : Int32) [(.int ((p0.toInt8.toInt32).toInt8.toInt32))] (.int (0 : Int32))) ∧ (h0.size ≤ b)
set_option maxRecDepth 65536 in
set_option maxHeartbeats 40000000 in
theorem rm13 (l : Launch) (Z : State) (a0 : Array Value) (hw : ∀ d ∈ tables_1, d.before a0 Z = true) (ws : List Jvm.Cond) (p0 : Int32) (h0 : Heap) (n0 : Nat) (O0 : Old Z n0 h0) :
    MetFree l nm6 (head1 (Jvm.Cond.code nm6 jdk_43_method_46_code 1 (some (.array .byte)) :: ws) ({ frames := 0, cells := 1, slots := 1, locals := 0 } : Room)) (fun a U => a = #[(.int p0)] ∧ Z.Warmed39 U.vm ∧ U.heap = h0) (fun _ _ _ _ _ => True) (fun _ U o U' => ∃ v L, o = .returned v ∧ Q13 Z p0 h0 n0 v U'.heap L ∧ FrameEnd U o U' L ({ frames := 0, cells := 1, slots := 1, locals := 0 } : Room).cells ({ frames := 0, cells := 1, slots := 1, locals := 0 } : Room).slots) := by
  refine MetFree.of_bodySF (plainFor_of_name pn_12) hisR ?_
  intro p e s m args below meth c s₁ Bd hml0 hP hK
  obtain ⟨rfl, hZ, hh⟩ := hP
  have hx := Bd.exec
  have hby := Bd.bytes
  have hml : c.maxLocals = 1 := hml0
  have hown : s.vm.findClass "java/lang/StringLatin1" = some m.cls := findClass_of_methodNamed Bd.named
  have hnm := (name_of_methodNamed Bd.named Bd.method).1
  have X0 : Stand p l e ({ frames := 0, cells := 1, slots := 1, locals := 0 } : Room) s m #[(.int p0)] below meth c s₁ [] 0 0 := Stand.of_body Bd
  have e0 : s₁.heap = h0 := by rw [← hh, Bd.state]; rfl
  have N0 := Fr.nil n0
  have s0 : Steps p.tables e below (s₁.setTop (entryFrame m #[(.int p0)] 1)) (s₁.setTop (mkF m 0 #[.val (.int p0)] [])) := castTop (ef_rm13 m p0) (Steps.refl _)
  obtain ⟨A₀, hA₀⟩ : ∃ z, z = (s₁.setTop (entryFrame m #[(.int p0)] 1)) := ⟨_, rfl⟩
  rw [← hA₀] at s0
  obtain ⟨T1, h1, k1, X1, e1, E1, A1, st1⟩ := newP X0 hx hZ (hw _ (List.mem_of_getElem? (i := 46) rfl)) e0 (g := (mkF m 1 #[.val (.int p0)] [(.int (1 : Int32))])) rfl (hb hby d13_1) rfl (by decide) (cap := 1) (by decide) (by decide) (by decide) (by decide)
  obtain ⟨b1, g1⟩ : ∃ z, z = h0.size := ⟨_, rfl⟩
  rw [← g1] at A1 st1
  have g_b1 : n0 ≤ b1 := Nat.le_trans (Nat.le_of_eq O0.1.symm) (Nat.le_trans O0.2.1 (Nat.le_of_eq g1.symm))
  have sz_b1 : h0.size ≤ b1 := Nat.le_trans (Keep.refl h0 []).1 (Nat.le_of_eq g1.symm)
  have O1 := O0.ext E1
  have K1 : Keep h0 h1 [] := (Keep.refl h0 []).ext E1
  have V1 : Arv Z h1 b1 k1 .byte (1 : Int32) [(.int (0 : Int32))] (.int (0 : Int32)) := (Arv.new A1 (by decide)).pad (pad_rep [] (.int (0 : Int32)) 1)
  obtain ⟨cla2, Ara2, qa2, Sa2, Za2, Ha2, Ga2⟩ := id V1
  have hin3 : ¬ ((0 : Int32) < 0 ∨ cla2.slots.size ≤ ((0 : Int32)).toNatClampNeg) := inb_of Sa2 ⟨by decide, by decide⟩
  obtain ⟨T4, h4, X4, e4, W4, st4⟩ := stB X1 hx hZ e1 Ara2 (j := (0 : Int32)) hin3 (g := (mkF m 7 #[.val (.int p0)] [(.int (p0.toInt8.toInt32)), (.int (0 : Int32)), (.ref b1), (.ref b1)])) rfl rfl (hb hby d13_7)
  have O4 := O1.wr W4 g_b1
  have K4 : Keep h0 h4 [] := K1.wr W4 (Or.inr sz_b1)
  have N4 := Fr.snoc X4 N0 g_b1
  have V4 : Arv Z h4 b1 k1 .byte (1 : Int32) [(.int ((p0.toInt8.toInt32).toInt8.toInt32))] (.int (0 : Int32)) := Arv.set Ara2 qa2 Sa2 Za2 Ha2 Ga2 (fits_nar_byte _) W4 0 rfl (Nat.le_of_ble_eq_true rfl)
  have s5 : Steps p.tables e below A₀ (T4.setTop (mkF m 8 #[.val (.int p0)] [(.ref b1)])) := by
    refine s0.trans ?_
    refine XS.iconst X0.here hx rfl (hb hby d13_0) ?_
    show Steps p.tables e below (s₁.setTop (mkF m 1 #[.val (.int p0)] [(.int (1 : Int32))])) _
    refine st1 _ ?_
    refine XS.dup X1.here hx rfl (hb hby d13_3) rfl rfl ?_
    refine XS.iconst X1.here hx rfl (hb hby d13_4) ?_
    refine XS.iloadN X1.here hx rfl (hb hby d13_5) rfl ?_
    refine XS.i2b X1.here hx rfl (hb hby d13_6) rfl ?_
    refine st4 _ ?_
    exact Steps.refl _
  subst hA₀
  obtain ⟨fs, hr, hrun, hended, hW, hsame⟩ := X4.leave (v := some (.ref b1)) (fun h => by rw [Bd.returns] at h; cases h)
  refine ⟨_, _, s5.trans ?_, hrun, hended, _, _, rfl, ?_, ⟨_, rfl⟩, hW, hsame.mono (by decide) (by decide)⟩
  · show Steps p.tables e below (T4.setTop (mkF m 8 #[.val (.int p0)] [(.ref b1)])) _
    jvm_step X4.here [X4.here.top, hx, (hb hby d13_8), X4.method', Bd.returns, Value.isRef, FieldType.isReference]
    first | (intro acts; rw [hr _ acts rfl rfl rfl]) | rw [hr _ _ rfl rfl rfl]
    exact Steps.refl _
  · show Q13 Z p0 h0 n0 _ T4.heap _
    rw [e4]
    exact ⟨b1, k1, rfl, N4, K4, V4, sz_b1⟩
theorem d14_0 : decode jdk_42_method_151_code 0 = .ok (.aload_n 0, 1) := by decide +kernel
theorem d14_1 : decode jdk_42_method_151_code 1 = .ok (.invokespecial 1, 3) := by decide +kernel
theorem d14_4 : decode jdk_42_method_151_code 4 = .ok (.aload_n 0, 1) := by decide +kernel
theorem d14_5 : decode jdk_42_method_151_code 5 = .ok (.aload_n 1, 1) := by decide +kernel
theorem d14_6 : decode jdk_42_method_151_code 6 = .ok (.putfield 9, 3) := by decide +kernel
theorem d14_9 : decode jdk_42_method_151_code 9 = .ok (.aload_n 0, 1) := by decide +kernel
theorem d14_10 : decode jdk_42_method_151_code 10 = .ok (.iload_n 2, 1) := by decide +kernel
theorem d14_11 : decode jdk_42_method_151_code 11 = .ok (.putfield 15, 3) := by decide +kernel
theorem d14_14 : decode jdk_42_method_151_code 14 = .ok (.return_, 1) := by decide +kernel
theorem ef_rmsb (m : MethodId) (p0 : Addr) (p1 : Addr) : entryFrame m #[(.ref p0), (.ref p1), (.int (0 : Int32))] 3 = mkF m 0 #[.val (.ref p0), .val (.ref p1), .val (.int (0 : Int32))] [] := by first | (simp [entryFrame, mkF, argsToLocals, Value.category]; done) | rfl
def Qsb (Z : State) (p0 : Addr) (p1 : Addr) (h0 : Heap) (n0 : Nat) (v : Option Value) (h : Heap) (L : List Loc) : Prop := v = none ∧ Fr n0 L ∧ Keep h0 h [p0] ∧ (Exa Z h p0 "java/lang/String") ∧ (Fld Z h p0 "java/lang/String" "value" "[B" (.ref p1)) ∧ (Fld Z h p0 "java/lang/String" "coder" "B" (.int (0 : Int32)))
set_option maxRecDepth 65536 in
set_option maxHeartbeats 40000000 in
theorem rmsb (l : Launch) (Z : State) (a0 : Array Value) (hw : ∀ d ∈ tables_1, d.before a0 Z = true) (ws : List Jvm.Cond) (p0 : Addr) (p1 : Addr) (h0 : Heap) (n0 : Nat) (O0 : Old Z n0 h0) (F0_ : Exa Z h0 p0 "java/lang/String") (F1_ : Fld Z h0 p0 "java/lang/String" "value" "[B" .null) (F2_ : Fld Z h0 p0 "java/lang/String" "coder" "B" (.int (0 : Int32))) (F3_ : n0 ≤ p0) :
    MetFree l nm7 (head1 (Jvm.Cond.code nm7 jdk_42_method_151_code 3 none :: ws) ({ frames := 1, cells := 0, slots := 0, locals := 12 } : Room)) (fun a U => a = #[(.ref p0), (.ref p1), (.int (0 : Int32))] ∧ Z.Warmed39 U.vm ∧ U.heap = h0) (fun _ _ _ _ _ => True) (fun _ U o U' => ∃ v L, o = .returned v ∧ Qsb Z p0 p1 h0 n0 v U'.heap L ∧ FrameEnd U o U' L ({ frames := 1, cells := 0, slots := 0, locals := 12 } : Room).cells ({ frames := 1, cells := 0, slots := 0, locals := 12 } : Room).slots) := by
  refine MetFree.of_bodySF (plainFor_of_name pn_7) hisR ?_
  intro p e s m args below meth c s₁ Bd hml0 hP hK
  obtain ⟨rfl, hZ, hh⟩ := hP
  have hx := Bd.exec
  have hby := Bd.bytes
  have hml : c.maxLocals = 3 := hml0
  have hown : s.vm.findClass "java/lang/String" = some m.cls := findClass_of_methodNamed Bd.named
  have hnm := (name_of_methodNamed Bd.named Bd.method).1
  have X0 : Stand p l e ({ frames := 1, cells := 0, slots := 0, locals := 12 } : Room) s m #[(.ref p0), (.ref p1), (.int (0 : Int32))] below meth c s₁ [] 0 0 := Stand.of_body Bd
  have e0 : s₁.heap = h0 := by rw [← hh, Bd.state]; rfl
  have N0 := Fr.nil n0
  have s0 : Steps p.tables e below (s₁.setTop (entryFrame m #[(.ref p0), (.ref p1), (.int (0 : Int32))] 3)) (s₁.setTop (mkF m 0 #[.val (.ref p0), .val (.ref p1), .val (.int (0 : Int32))] [])) := castTop (ef_rmsb m p0 p1) (Steps.refl _)
  obtain ⟨A₀, hA₀⟩ : ∃ z, z = (s₁.setTop (entryFrame m #[(.ref p0), (.ref p1), (.int (0 : Int32))] 3)) := ⟨_, rfl⟩
  rw [← hA₀] at s0
  obtain ⟨T1, X1, e1, st1⟩ := initO X0 hx hZ hown (hw _ (List.mem_of_getElem? (i := 40) rfl)) (hw _ (List.mem_of_getElem? (i := 16) rfl)) (hw _ (List.mem_of_getElem? (i := 17) rfl)) e0 (g := (mkF m 1 #[.val (.ref p0), .val (.ref p1), .val (.int (0 : Int32))] [(.ref p0)])) rfl (by rw [hml]; rfl) rfl (hb hby d14_1) (by decide) (W := 0) (by show 2 * 0 + _ ≤ _; exact Nat.le_of_eq rfl) (by decide)
  obtain ⟨T2, h2, X2, e2, W2, st2⟩ := putF X1 hx hZ hown (host := "") (Or.inl (hw _ (List.mem_of_getElem? (i := 55) rfl))) Via.refl e1 F1_ F0_ (Or.inr ⟨(hw _ (List.mem_of_getElem? (i := 56) rfl)), rfl, hnm⟩) (hw _ (List.mem_of_getElem? (i := 31) rfl)) (ty := (.array .byte)) (by decide) rfl rfl (g := (mkF m 6 #[.val (.ref p0), .val (.ref p1), .val (.int (0 : Int32))] [(.ref p1), (.ref p0)])) rfl rfl (hb hby d14_6)
  have Fw2 := F1_.same W2
  have O2 := O0.wr W2 F3_
  have K2 : Keep h0 h2 [p0] := (Keep.refl h0 [p0]).wr W2 (Or.inl (List.mem_of_getElem? (i := 0) rfl))
  have N2 := Fr.snoc X2 N0 F3_
  have c3 : Exa Z h2 p0 "java/lang/String" := (F0_.wr W2)
  have c4 : Fld Z h2 p0 "java/lang/String" "coder" "B" (.int (0 : Int32)) := (F2_.other W2 (Or.inr (slot_ne (Or.inr (hw _ (List.mem_of_getElem? (i := 54) rfl))) (Or.inr (hw _ (List.mem_of_getElem? (i := 56) rfl))) (by decide) (t := .byte) (t' := (.array .byte)) (by decide) (by decide))))
  obtain ⟨T5, h5, X5, e5, W5, st5⟩ := putFN X2 hx hZ hown (hw _ (List.mem_of_getElem? (i := 53) rfl)) Via.refl e2 c4 c3 (Or.inr ⟨(hw _ (List.mem_of_getElem? (i := 54) rfl)), rfl, hnm⟩) (hw _ (List.mem_of_getElem? (i := 31) rfl)) (ty := .byte) (v' := (.int ((0 : Int32).toInt8.toInt32))) (by decide) rfl (fits_nar_byte _) (g := (mkF m 11 #[.val (.ref p0), .val (.ref p1), .val (.int (0 : Int32))] [(.int (0 : Int32)), (.ref p0)])) rfl rfl (hb hby d14_11)
  have Fw5 := c4.same W5
  have O5 := O2.wr W5 F3_
  have K5 : Keep h0 h5 [p0] := K2.wr W5 (Or.inl (List.mem_of_getElem? (i := 0) rfl))
  have N5 := Fr.snoc X5 N2 F3_
  have s6 : Steps p.tables e below A₀ (T5.setTop (mkF m 14 #[.val (.ref p0), .val (.ref p1), .val (.int (0 : Int32))] [])) := by
    refine s0.trans ?_
    refine XS.aloadN X0.here hx rfl (hb hby d14_0) rfl rfl ?_
    show Steps p.tables e below (s₁.setTop (mkF m 1 #[.val (.ref p0), .val (.ref p1), .val (.int (0 : Int32))] [(.ref p0)])) _
    refine st1 _ ?_
    refine XS.aloadN X1.here hx rfl (hb hby d14_4) rfl rfl ?_
    refine XS.aloadN X1.here hx rfl (hb hby d14_5) rfl rfl ?_
    refine st2 _ ?_
    refine XS.aloadN X2.here hx rfl (hb hby d14_9) rfl rfl ?_
    refine XS.iloadN X2.here hx rfl (hb hby d14_10) rfl ?_
    show Steps p.tables e below (T2.setTop (mkF m 11 #[.val (.ref p0), .val (.ref p1), .val (.int (0 : Int32))] [(.int (0 : Int32)), (.ref p0)])) _
    refine st5 _ ?_
    exact Steps.refl _
  subst hA₀
  have c7 : Exa Z h5 p0 "java/lang/String" := (c3.wr W5)
  have c8 : Fld Z h5 p0 "java/lang/String" "value" "[B" (.ref p1) := (Fw2.other W5 (Or.inr (slot_ne (Or.inr (hw _ (List.mem_of_getElem? (i := 56) rfl))) (Or.inr (hw _ (List.mem_of_getElem? (i := 54) rfl))) (by decide) (t := (.array .byte)) (t' := .byte) (by decide) (by decide))))
  obtain ⟨fs, hr, hrun, hended, hW, hsame⟩ := X5.leave (v := none) (fun _ => rfl)
  refine ⟨_, _, s6.trans ?_, hrun, hended, _, _, rfl, ?_, ⟨_, rfl⟩, hW, hsame.mono (by decide) (by decide)⟩
  · show Steps p.tables e below (T5.setTop (mkF m 14 #[.val (.ref p0), .val (.ref p1), .val (.int (0 : Int32))] [])) _
    exact X5.returnOut hx Bd.returns (hb hby d14_14) hr
  · show Qsb Z p0 p1 h0 n0 _ T5.heap _
    rw [e5]
    exact ⟨rfl, N5, K5, c7, c8, Fw5⟩
theorem d11_0 : decode jdk_42_method_139_code 0 = .ok (.getstatic 38, 3) := by decide +kernel
theorem d11_3 : decode jdk_42_method_139_code 3 = .ok (.ifCond .eq 23, 3) := by decide +kernel
theorem d11_6 : decode jdk_42_method_139_code 6 = .ok (.iload_n 0, 1) := by decide +kernel
theorem d11_7 : decode jdk_42_method_139_code 7 = .ok (.invokestatic 1015, 3) := by decide +kernel
theorem d11_10 : decode jdk_42_method_139_code 10 = .ok (.ifCond .eq 16, 3) := by decide +kernel
theorem d11_13 : decode jdk_42_method_139_code 13 = .ok (.new 10, 3) := by decide +kernel
theorem d11_16 : decode jdk_42_method_139_code 16 = .ok (.dup, 1) := by decide +kernel
theorem d11_17 : decode jdk_42_method_139_code 17 = .ok (.iload_n 0, 1) := by decide +kernel
theorem d11_18 : decode jdk_42_method_139_code 18 = .ok (.invokestatic 1018, 3) := by decide +kernel
theorem d11_21 : decode jdk_42_method_139_code 21 = .ok (.iconst 0, 1) := by decide +kernel
theorem d11_22 : decode jdk_42_method_139_code 22 = .ok (.invokespecial 209, 3) := by decide +kernel
theorem d11_25 : decode jdk_42_method_139_code 25 = .ok (.areturn, 1) := by decide +kernel
theorem pd_rm11_0 : parseMethodDescriptor "(C)Z" = some ⟨[.char], some .boolean⟩ := by decide +kernel
theorem pd_rm11_1 : parseMethodDescriptor "(C)[B" = some ⟨[.char], some (.array .byte)⟩ := by decide +kernel
theorem pd_rm11_2 : parseMethodDescriptor "([BB)V" = some ⟨[(.array .byte), .byte], none⟩ := by decide +kernel
theorem ef_rm11 (m : MethodId) (p0 : Int32) : entryFrame m #[(.int p0)] 1 = mkF m 0 #[.val (.int p0)] [] := by first | (simp [entryFrame, mkF, argsToLocals, Value.category]; done) | rfl
def Q11 (Z : State) (p0 : Int32) (wc : Int32) (h0 : Heap) (n0 : Nat) (v : Option Value) (h : Heap) (L : List Loc) : Prop := ∃ u : Addr, v = some (.ref u) ∧ Fr n0 L ∧ Keep h0 h [] ∧ (Exa Z h u "java/lang/String")
set_option maxRecDepth 65536 in
set_option maxHeartbeats 40000000 in
theorem rm11 (l : Launch) (Z : State) (a0 : Array Value) (hw : ∀ d ∈ tables_1, d.before a0 Z = true) (ws : List Jvm.Cond) (p0 : Int32) (wc : Int32) (h0 : Heap) (n0 : Nat) (O0 : Old Z n0 h0) (F0_ : Sta Z Z.heap "java/lang/String" "COMPACT_STRINGS" "Z" (.int wc)) (hcs : ¬ (wc = (0 : Int32))) (hle : ¬ ((255 : Int32) < p0)) :
    MetFree l nm8 (head1 (Jvm.Cond.code nm8 jdk_42_method_139_code 1 (some (.object "java/lang/String")) :: ws) ({ frames := 2, cells := 2, slots := 5, locals := 27 } : Room)) (fun a U => a = #[(.int p0)] ∧ Z.Warmed39 U.vm ∧ U.heap = h0) (fun _ _ _ _ _ => True) (fun _ U o U' => ∃ v L, o = .returned v ∧ Q11 Z p0 wc h0 n0 v U'.heap L ∧ FrameEnd U o U' L ({ frames := 2, cells := 2, slots := 5, locals := 27 } : Room).cells ({ frames := 2, cells := 2, slots := 5, locals := 27 } : Room).slots) := by
  refine MetFree.of_bodySF (plainFor_of_name pn_7) hisR ?_
  intro p e s m args below meth c s₁ Bd hml0 hP hK
  obtain ⟨rfl, hZ, hh⟩ := hP
  have hx := Bd.exec
  have hby := Bd.bytes
  have hml : c.maxLocals = 1 := hml0
  have hown : s.vm.findClass "java/lang/String" = some m.cls := findClass_of_methodNamed Bd.named
  have hnm := (name_of_methodNamed Bd.named Bd.method).1
  have X0 : Stand p l e ({ frames := 2, cells := 2, slots := 5, locals := 27 } : Room) s m #[(.int p0)] below meth c s₁ [] 0 0 := Stand.of_body Bd
  have e0 : s₁.heap = h0 := by rw [← hh, Bd.state]; rfl
  have N0 := Fr.nil n0
  have s0 : Steps p.tables e below (s₁.setTop (entryFrame m #[(.int p0)] 1)) (s₁.setTop (mkF m 0 #[.val (.int p0)] [])) := castTop (ef_rm11 m p0) (Steps.refl _)
  obtain ⟨A₀, hA₀⟩ : ∃ z, z = (s₁.setTop (entryFrame m #[(.int p0)] 1)) := ⟨_, rfl⟩
  rw [← hA₀] at s0
  obtain ⟨T1, X1, e1, st1⟩ := getS2 X0 hx hZ hown (host := "") (Or.inl (hw _ (List.mem_of_getElem? (i := 41) rfl))) Via.refl e0 (F0_.ext O0.2) (g := (mkF m 0 #[.val (.int p0)] [])) rfl (hb hby d11_0)
  obtain ⟨T2, L2, X2, e2, N2, st2⟩ := own_callP X1 hx hZ hown (wk60 hw) (wk61 hw) (wk62 hw) (wk63 hw) (by decide) (rm12 l Z a0 hw [] p0 h0 n0 O0 hle) e1 N0 (W := 0) (by decide) (by decide) (by decide) (by decide) (g := (mkF m 7 #[.val (.int p0)] [(.int p0)])) rfl (by rw [hml]; rfl) (argsL := [(.int p0)]) (rest := []) (lenOf pd_rm11_0 rfl) rfl (by show 2 * 0 + _ ≤ _; exact Nat.le_of_eq rfl) (hb hby d11_7)
  obtain ⟨T3, h3, X3, e3, E3, A3, D3, -, st3⟩ := newO X2 hx hZ hown (hw _ (List.mem_of_getElem? (i := 64) rfl)) (hw _ (List.mem_of_getElem? (i := 31) rfl)) (hw _ (List.mem_of_getElem? (i := 32) rfl)) e2 (g := (mkF m 13 #[.val (.int p0)] [])) rfl (hb hby d11_13) (by decide) (by decide)
  obtain ⟨b3, g3⟩ : ∃ z, z = h0.size := ⟨_, rfl⟩
  rw [← g3] at A3 D3 st3
  have g_b3 : n0 ≤ b3 := Nat.le_trans (Nat.le_of_eq O0.1.symm) (Nat.le_trans O0.2.1 (Nat.le_of_eq g3.symm))
  have sz_b3 : h0.size ≤ b3 := Nat.le_trans (Keep.refl h0 []).1 (Nat.le_of_eq g3.symm)
  have O3 := O0.ext E3
  have K3 : Keep h0 h3 [] := (Keep.refl h0 []).ext E3
  have F3_coder : Fld Z h3 b3 "java/lang/String" "coder" "B" (.int (0 : Int32)) := D3 (Or.inr (hw _ (List.mem_of_getElem? (i := 54) rfl))) (ty := .byte) (by decide)
  have F3_value : Fld Z h3 b3 "java/lang/String" "value" "[B" .null := D3 (Or.inr (hw _ (List.mem_of_getElem? (i := 56) rfl))) (ty := (.array .byte)) (by decide)
  obtain ⟨_, _, ⟨T4, L4, k4, n4⟩, -, X4, ⟨Lc4, hQ4, l4, y4, z4⟩, st4⟩ := Jvm.LawKit.callS X3 hx (y := (⟨"java/lang/StringLatin1", "toBytes", "(C)[B"⟩ : MethodName)) hown (mvT hZ (hw _ (List.mem_of_getElem? (i := 65) rfl))) (mvT hZ (hw _ (List.mem_of_getElem? (i := 66) rfl))) (mvT hZ (hw _ (List.mem_of_getElem? (i := 62) rfl))) (mvT hZ (hw _ (List.mem_of_getElem? (i := 67) rfl))) (by decide) (backOf (W := 2) (rm13 l Z a0 hw [] p0 h3 n0 O3 ) hZ (hw _ (List.mem_of_getElem? (i := 67) rfl)) (hw _ (List.mem_of_getElem? (i := 62) rfl)) (by decide) (by decide)) (g := (mkF m 18 #[.val (.int p0)] [(.int p0), (.ref b3), (.ref b3)])) rfl (by rw [hml]; rfl) (argsL := [(.int p0)]) (rest := [(.ref b3), (.ref b3)]) (lenOf pd_rm11_1 rfl) rfl (by show 2 * 0 + _ ≤ _; exact Nat.le_of_eq rfl) (hb hby d11_18) (fun _ _ => ⟨rfl, e3, (by decide : 1 + 1 ≤ _), (by decide : 4 + 1 ≤ _)⟩)
  dsimp only [Pt.U, Pt.locs, Pt.cells, Pt.slots] at X4 l4 y4 z4 st4 hQ4
  subst l4 y4 z4
  obtain ⟨u5, u6, rfl, Nq4, Kc4, f4_0, f4_1⟩ := hQ4
  have N4 := Fr.app N2 Nq4
  have ne_b3_u5 : b3 ≠ u5 := Nat.ne_of_lt (Nat.lt_of_lt_of_le A3.lt f4_1)
  have g_u5 : n0 ≤ u5 := Nat.le_trans (Nat.le_of_eq O3.1.symm) (Nat.le_trans O3.2.1 f4_1)
  have sz_u5 : h0.size ≤ u5 := Nat.le_trans K3.1 f4_1
  have K4 : Keep h0 T4.heap [] := K3.trans Kc4 all0
  have O4 := O3.keep Kc4 all0
  have c7 : Exa Z T4.heap b3 "java/lang/String" := (A3.keep Kc4)
  have c8 : Fld Z T4.heap b3 "java/lang/String" "value" "[B" .null := (F3_value.keep Kc4 nin0)
  have c9 : Fld Z T4.heap b3 "java/lang/String" "coder" "B" (.int (0 : Int32)) := (F3_coder.keep Kc4 nin0)
  obtain ⟨_, _, ⟨T10, L10, k10, n10⟩, -, X10, ⟨Lc10, hQ10, l10, y10, z10⟩, st10⟩ := X4.specialBack hx (y := (⟨"java/lang/String", "<init>", "([BB)V"⟩ : MethodName)) rfl hown (mvT hZ (hw _ (List.mem_of_getElem? (i := 68) rfl))) (mvT hZ (hw _ (List.mem_of_getElem? (i := 69) rfl))) (mvT hZ (hw _ (List.mem_of_getElem? (i := 70) rfl))) (by decide) (backOf (W := 1) (rmsb l Z a0 hw [] b3 u5 T4.heap n0 O4 c7 c8 c9 g_b3) hZ (hw _ (List.mem_of_getElem? (i := 70) rfl)) (hw _ (List.mem_of_getElem? (i := 32) rfl)) (by decide) (by decide)) (g := (mkF m 22 #[.val (.int p0)] [(.int (0 : Int32)), (.ref u5), (.ref b3), (.ref b3)])) rfl (by rw [hml]; rfl) (Steps.refl _) (a := b3) (argsL := [(.ref u5), (.int (0 : Int32))]) (rest := [(.ref b3)]) (lenOf pd_rm11_2 rfl) rfl (by show 2 * 0 + _ ≤ _; exact Nat.le_of_eq rfl) (hb hby d11_22) (fun _ _ => ⟨rfl, (rfl : T4.heap = T4.heap), (by decide : 2 + 0 ≤ _), (by decide : 5 + 0 ≤ _)⟩)
  dsimp only [Pt.U, Pt.locs, Pt.cells, Pt.slots] at X10 l10 y10 z10 st10 hQ10
  subst l10 y10 z10
  obtain ⟨rfl, Nq10, Kc10, f10_0, f10_1, f10_2⟩ := hQ10
  have N10 := Fr.app N4 Nq10
  have K10 : Keep h0 T10.heap [] := K4.trans Kc10 (allS (Or.inr sz_b3) all0)
  have O10 := O4.keep Kc10 (allS g_b3 all0)
  have s11 : Steps p.tables e below A₀ (T10.setTop (mkF m 25 #[.val (.int p0)] [(.ref b3)])) := by
    refine s0.trans ?_
    refine st1 _ ?_
    show Steps p.tables e below (T1.setTop (mkF m 3 #[.val (.int p0)] [(.int wc)])) _
    refine XS.ifNo X1.here hx rfl (hb hby d11_3) rfl ((if0 _ _).trans (feq hcs).1) ?_
    refine XS.iloadN X1.here hx rfl (hb hby d11_6) rfl ?_
    refine st2 _ ?_
    refine XS.ifNo X2.here hx rfl (hb hby d11_10) rfl ((if0 _ _).trans (feq (by decide)).1) ?_
    refine st3 _ ?_
    refine XS.dup X3.here hx rfl (hb hby d11_16) rfl rfl ?_
    show Steps p.tables e below (T3.setTop (mkF m 17 #[.val (.int p0)] [(.ref b3), (.ref b3)])) _
    refine XS.iloadN X3.here hx rfl (hb hby d11_17) rfl ?_
    refine st4 _ ?_
    refine XS.iconst X4.here hx rfl (hb hby d11_21) ?_
    refine st10.trans ?_
    exact Steps.refl _
  subst hA₀
  obtain ⟨fs, hr, hrun, hended, hW, hsame⟩ := X10.leave (v := some (.ref b3)) (fun h => by rw [Bd.returns] at h; cases h)
  refine ⟨_, _, s11.trans ?_, hrun, hended, _, _, rfl, ?_, ⟨_, rfl⟩, hW, hsame.mono (by decide) (by decide)⟩
  · show Steps p.tables e below (T10.setTop (mkF m 25 #[.val (.int p0)] [(.ref b3)])) _
    jvm_step X10.here [X10.here.top, hx, (hb hby d11_25), X10.method', Bd.returns, Value.isRef, FieldType.isReference]
    first | (intro acts; rw [hr _ acts rfl rfl rfl]) | rw [hr _ _ rfl rfl rfl]
    exact Steps.refl _
  · show Q11 Z p0 wc h0 n0 _ T10.heap _
    exact ⟨b3, rfl, N10, K10, f10_0⟩
theorem d3_0 : decode jdk_30_method_1_code 0 = .ok (.aload_n 0, 1) := by decide +kernel
theorem d3_1 : decode jdk_30_method_1_code 1 = .ok (.invokespecial 1, 3) := by decide +kernel
theorem d3_4 : decode jdk_30_method_1_code 4 = .ok (.return_, 1) := by decide +kernel
theorem pn_3 : plainName "java/lang/Record" = true := by first | (simp [plainName, overriddenIn]; done) | decide +kernel
theorem ef_rm3 (m : MethodId) (p0 : Addr) : entryFrame m #[(.ref p0)] 1 = mkF m 0 #[.val (.ref p0)] [] := by first | (simp [entryFrame, mkF, argsToLocals, Value.category]; done) | rfl
def Q3 (Z : State) (p0 : Addr) (h0 : Heap) (n0 : Nat) (v : Option Value) (h : Heap) (L : List Loc) : Prop := v = none ∧ Fr n0 L ∧ h = h0
set_option maxRecDepth 65536 in
set_option maxHeartbeats 40000000 in
theorem rm3 (l : Launch) (Z : State) (a0 : Array Value) (hw : ∀ d ∈ tables_1, d.before a0 Z = true) (ws : List Jvm.Cond) (p0 : Addr) (h0 : Heap) (n0 : Nat) (O0 : Old Z n0 h0) :
    MetFree l nm9 (head1 (Jvm.Cond.code nm9 jdk_30_method_1_code 1 none :: ws) ({ frames := 1, cells := 0, slots := 0, locals := 12 } : Room)) (fun a U => a = #[(.ref p0)] ∧ Z.Warmed39 U.vm ∧ U.heap = h0) (fun _ _ _ _ _ => True) (fun _ U o U' => ∃ v L, o = .returned v ∧ Q3 Z p0 h0 n0 v U'.heap L ∧ FrameEnd U o U' L ({ frames := 1, cells := 0, slots := 0, locals := 12 } : Room).cells ({ frames := 1, cells := 0, slots := 0, locals := 12 } : Room).slots) := by
  refine MetFree.of_bodySF (plainFor_of_name pn_3) hisR ?_
  intro p e s m args below meth c s₁ Bd hml0 hP hK
  obtain ⟨rfl, hZ, hh⟩ := hP
  have hx := Bd.exec
  have hby := Bd.bytes
  have hml : c.maxLocals = 1 := hml0
  have hown : s.vm.findClass "java/lang/Record" = some m.cls := findClass_of_methodNamed Bd.named
  have hnm := (name_of_methodNamed Bd.named Bd.method).1
  have X0 : Stand p l e ({ frames := 1, cells := 0, slots := 0, locals := 12 } : Room) s m #[(.ref p0)] below meth c s₁ [] 0 0 := Stand.of_body Bd
  have e0 : s₁.heap = h0 := by rw [← hh, Bd.state]; rfl
  have N0 := Fr.nil n0
  have s0 : Steps p.tables e below (s₁.setTop (entryFrame m #[(.ref p0)] 1)) (s₁.setTop (mkF m 0 #[.val (.ref p0)] [])) := castTop (ef_rm3 m p0) (Steps.refl _)
  obtain ⟨A₀, hA₀⟩ : ∃ z, z = (s₁.setTop (entryFrame m #[(.ref p0)] 1)) := ⟨_, rfl⟩
  rw [← hA₀] at s0
  obtain ⟨T1, X1, e1, st1⟩ := initO X0 hx hZ hown (hw _ (List.mem_of_getElem? (i := 15) rfl)) (hw _ (List.mem_of_getElem? (i := 16) rfl)) (hw _ (List.mem_of_getElem? (i := 17) rfl)) e0 (g := (mkF m 1 #[.val (.ref p0)] [(.ref p0)])) rfl (by rw [hml]; rfl) rfl (hb hby d3_1) (by decide) (W := 0) (by show 2 * 0 + _ ≤ _; exact Nat.le_of_eq rfl) (by decide)
  have s2 : Steps p.tables e below A₀ (T1.setTop (mkF m 4 #[.val (.ref p0)] [])) := by
    refine s0.trans ?_
    refine XS.aloadN X0.here hx rfl (hb hby d3_0) rfl rfl ?_
    show Steps p.tables e below (s₁.setTop (mkF m 1 #[.val (.ref p0)] [(.ref p0)])) _
    refine st1 _ ?_
    exact Steps.refl _
  subst hA₀
  obtain ⟨fs, hr, hrun, hended, hW, hsame⟩ := X1.leave (v := none) (fun _ => rfl)
  refine ⟨_, _, s2.trans ?_, hrun, hended, _, _, rfl, ?_, ⟨_, rfl⟩, hW, hsame.mono (by decide) (by decide)⟩
  · show Steps p.tables e below (T1.setTop (mkF m 4 #[.val (.ref p0)] [])) _
    exact X1.returnOut hx Bd.returns (hb hby d3_4) hr
  · show Q3 Z p0 h0 n0 _ T1.heap _
    rw [e1]
    exact ⟨rfl, N0, rfl⟩
theorem d2_0 : decode prog_3_method_1_code 0 = .ok (.aload_n 0, 1) := by decide +kernel
theorem d2_1 : decode prog_3_method_1_code 1 = .ok (.invokespecial 1, 3) := by decide +kernel
theorem d2_4 : decode prog_3_method_1_code 4 = .ok (.aload_n 0, 1) := by decide +kernel
theorem d2_5 : decode prog_3_method_1_code 5 = .ok (.aload_n 1, 1) := by decide +kernel
theorem d2_6 : decode prog_3_method_1_code 6 = .ok (.putfield 7, 3) := by decide +kernel
theorem d2_9 : decode prog_3_method_1_code 9 = .ok (.aload_n 0, 1) := by decide +kernel
theorem d2_10 : decode prog_3_method_1_code 10 = .ok (.aload_n 2, 1) := by decide +kernel
theorem d2_11 : decode prog_3_method_1_code 11 = .ok (.putfield 13, 3) := by decide +kernel
theorem d2_14 : decode prog_3_method_1_code 14 = .ok (.aload_n 0, 1) := by decide +kernel
theorem d2_15 : decode prog_3_method_1_code 15 = .ok (.aload_n 3, 1) := by decide +kernel
theorem d2_16 : decode prog_3_method_1_code 16 = .ok (.putfield 16, 3) := by decide +kernel
theorem d2_19 : decode prog_3_method_1_code 19 = .ok (.return_, 1) := by decide +kernel
theorem pn_2 : plainName "com/example/lintel/lintel/model/TemplatePart" = true := by first | (simp [plainName, overriddenIn]; done) | decide +kernel
theorem pd_rmi1_0 : parseMethodDescriptor "()V" = some ⟨[], none⟩ := by decide +kernel
theorem ef_rmi1 (m : MethodId) (p0 : Addr) (p1 : Value) (p3 : Value) (r_p1 : p1.isRef = true) (r_p3 : p3.isRef = true) : entryFrame m #[(.ref p0), p1, .null, p3] 4 = mkF m 0 #[.val (.ref p0), .val p1, .val .null, .val p3] [] := by
  cases p1 <;> cases p3 <;> first | (cases r_p1; done) | (cases r_p3; done) | (simp [entryFrame, mkF, argsToLocals, Value.category]; done) | rfl
def Qi1 (Z : State) (p0 : Addr) (p1 : Value) (p3 : Value) (h0 : Heap) (n0 : Nat) (v : Option Value) (h : Heap) (L : List Loc) : Prop := v = none ∧ Fr n0 L ∧ Keep h0 h [p0] ∧ (Exa Z h p0 "com/example/lintel/lintel/model/TemplatePart") ∧ (Fld Z h p0 "com/example/lintel/lintel/model/TemplatePart" "name" "Ljava/lang/String;" .null)
set_option maxRecDepth 65536 in
set_option maxHeartbeats 40000000 in
theorem rmi1 (l : Launch) (Z : State) (a0 : Array Value) (hw : ∀ d ∈ tables_1, d.before a0 Z = true) (ws : List Jvm.Cond) (p0 : Addr) (p1 : Value) (p3 : Value) (h0 : Heap) (n0 : Nat) (O0 : Old Z n0 h0) (F0_ : Exa Z h0 p0 "com/example/lintel/lintel/model/TemplatePart") (F1_ : Fld Z h0 p0 "com/example/lintel/lintel/model/TemplatePart" "text" "Ljava/lang/String;" .null) (F2_ : Fld Z h0 p0 "com/example/lintel/lintel/model/TemplatePart" "name" "Ljava/lang/String;" .null) (F3_ : Fld Z h0 p0 "com/example/lintel/lintel/model/TemplatePart" "expression" "Ljava/lang/String;" .null) (F4_ : n0 ≤ p0) (F5_ : p1.isRef = true) (F6_ : p3.isRef = true) :
    MetFree l nm10 (head1 (Jvm.Cond.code nm10 prog_3_method_1_code 4 none :: ws) ({ frames := 2, cells := 0, slots := 0, locals := 24 } : Room)) (fun a U => a = #[(.ref p0), p1, .null, p3] ∧ Z.Warmed39 U.vm ∧ U.heap = h0) (fun _ _ _ _ _ => True) (fun _ U o U' => ∃ v L, o = .returned v ∧ Qi1 Z p0 p1 p3 h0 n0 v U'.heap L ∧ FrameEnd U o U' L ({ frames := 2, cells := 0, slots := 0, locals := 24 } : Room).cells ({ frames := 2, cells := 0, slots := 0, locals := 24 } : Room).slots) := by
  refine MetFree.of_bodySF (plainFor_of_name pn_2) hisR ?_
  intro p e s m args below meth c s₁ Bd hml0 hP hK
  obtain ⟨rfl, hZ, hh⟩ := hP
  have hx := Bd.exec
  have hby := Bd.bytes
  have hml : c.maxLocals = 4 := hml0
  have hown : s.vm.findClass "com/example/lintel/lintel/model/TemplatePart" = some m.cls := findClass_of_methodNamed Bd.named
  have hnm := (name_of_methodNamed Bd.named Bd.method).1
  have X0 : Stand p l e ({ frames := 2, cells := 0, slots := 0, locals := 24 } : Room) s m #[(.ref p0), p1, .null, p3] below meth c s₁ [] 0 0 := Stand.of_body Bd
  have e0 : s₁.heap = h0 := by rw [← hh, Bd.state]; rfl
  have N0 := Fr.nil n0
  have s0 : Steps p.tables e below (s₁.setTop (entryFrame m #[(.ref p0), p1, .null, p3] 4)) (s₁.setTop (mkF m 0 #[.val (.ref p0), .val p1, .val .null, .val p3] [])) := castTop (ef_rmi1 m p0 p1 p3 F5_ F6_) (Steps.refl _)
  obtain ⟨A₀, hA₀⟩ : ∃ z, z = (s₁.setTop (entryFrame m #[(.ref p0), p1, .null, p3] 4)) := ⟨_, rfl⟩
  rw [← hA₀] at s0
  obtain ⟨_, _, ⟨T1, L1, k1, n1⟩, -, X1, ⟨Lc1, hQ1, l1, y1, z1⟩, st1⟩ := X0.specialBack hx (y := (⟨"java/lang/Record", "<init>", "()V"⟩ : MethodName)) rfl hown (mvT hZ (hw _ (List.mem_of_getElem? (i := 10) rfl))) (mvT hZ (hw _ (List.mem_of_getElem? (i := 11) rfl))) (mvT hZ (hw _ (List.mem_of_getElem? (i := 14) rfl))) (by decide) (backOf (W := 0) (rm3 l Z a0 hw [] p0 h0 n0 O0 ) hZ (hw _ (List.mem_of_getElem? (i := 14) rfl)) (hw _ (List.mem_of_getElem? (i := 13) rfl)) (by decide) (by decide)) (g := (mkF m 1 #[.val (.ref p0), .val p1, .val .null, .val p3] [(.ref p0)])) rfl (by rw [hml]; rfl) (Steps.refl _) (a := p0) (argsL := []) (rest := []) (lenOf pd_rmi1_0 rfl) rfl (by show 2 * 0 + _ ≤ _; exact Nat.le_of_eq rfl) (hb hby d2_1) (fun _ _ => ⟨rfl, e0, (by decide : 0 + 0 ≤ _), (by decide : 0 + 0 ≤ _)⟩)
  dsimp only [Pt.U, Pt.locs, Pt.cells, Pt.slots] at X1 l1 y1 z1 st1 hQ1
  subst l1 y1 z1
  obtain ⟨rfl, Nq1, e1⟩ := hQ1
  have N1 := Fr.app N0 Nq1
  obtain ⟨T2, h2, X2, e2, W2, st2⟩ := putF X1 hx hZ hown (host := "") (Or.inl (hw _ (List.mem_of_getElem? (i := 18) rfl))) Via.refl e1 F1_ F0_ (Or.inr ⟨(hw _ (List.mem_of_getElem? (i := 19) rfl)), rfl, hnm⟩) (hw _ (List.mem_of_getElem? (i := 5) rfl)) (ty := (.object "java/lang/String")) (by decide) rfl (fitsV F5_) (g := (mkF m 6 #[.val (.ref p0), .val p1, .val .null, .val p3] [p1, (.ref p0)])) rfl rfl (hb hby d2_6)
  have Fw2 := F1_.same W2
  have O2 := O0.wr W2 F4_
  have K2 : Keep h0 h2 [p0] := (Keep.refl h0 [p0]).wr W2 (Or.inl (List.mem_of_getElem? (i := 0) rfl))
  have N2 := Fr.snoc X2 N1 F4_
  have c3 : Exa Z h2 p0 "com/example/lintel/lintel/model/TemplatePart" := (F0_.wr W2)
  have c4 : Fld Z h2 p0 "com/example/lintel/lintel/model/TemplatePart" "name" "Ljava/lang/String;" .null := (F2_.other W2 (Or.inr (slot_ne (Or.inr (hw _ (List.mem_of_getElem? (i := 21) rfl))) (Or.inr (hw _ (List.mem_of_getElem? (i := 19) rfl))) (by decide) (t := (.object "java/lang/String")) (t' := (.object "java/lang/String")) (by decide) (by decide))))
  obtain ⟨T5, h5, X5, e5, W5, st5⟩ := putF X2 hx hZ hown (host := "") (Or.inl (hw _ (List.mem_of_getElem? (i := 20) rfl))) Via.refl e2 c4 c3 (Or.inr ⟨(hw _ (List.mem_of_getElem? (i := 21) rfl)), rfl, hnm⟩) (hw _ (List.mem_of_getElem? (i := 5) rfl)) (ty := (.object "java/lang/String")) (by decide) rfl rfl (g := (mkF m 11 #[.val (.ref p0), .val p1, .val .null, .val p3] [.null, (.ref p0)])) rfl rfl (hb hby d2_11)
  have Fw5 := c4.same W5
  have O5 := O2.wr W5 F4_
  have K5 : Keep h0 h5 [p0] := K2.wr W5 (Or.inl (List.mem_of_getElem? (i := 0) rfl))
  have N5 := Fr.snoc X5 N2 F4_
  have c6 : Exa Z h5 p0 "com/example/lintel/lintel/model/TemplatePart" := (c3.wr W5)
  have c7 : Fld Z h5 p0 "com/example/lintel/lintel/model/TemplatePart" "expression" "Ljava/lang/String;" .null := ((F3_.other W2 (Or.inr (slot_ne (Or.inr (hw _ (List.mem_of_getElem? (i := 23) rfl))) (Or.inr (hw _ (List.mem_of_getElem? (i := 19) rfl))) (by decide) (t := (.object "java/lang/String")) (t' := (.object "java/lang/String")) (by decide) (by decide)))).other W5 (Or.inr (slot_ne (Or.inr (hw _ (List.mem_of_getElem? (i := 23) rfl))) (Or.inr (hw _ (List.mem_of_getElem? (i := 21) rfl))) (by decide) (t := (.object "java/lang/String")) (t' := (.object "java/lang/String")) (by decide) (by decide))))
  obtain ⟨T8, h8, X8, e8, W8, st8⟩ := putF X5 hx hZ hown (host := "") (Or.inl (hw _ (List.mem_of_getElem? (i := 22) rfl))) Via.refl e5 c7 c6 (Or.inr ⟨(hw _ (List.mem_of_getElem? (i := 23) rfl)), rfl, hnm⟩) (hw _ (List.mem_of_getElem? (i := 5) rfl)) (ty := (.object "java/lang/String")) (by decide) rfl (fitsV F6_) (g := (mkF m 16 #[.val (.ref p0), .val p1, .val .null, .val p3] [p3, (.ref p0)])) rfl rfl (hb hby d2_16)
  have Fw8 := c7.same W8
  have O8 := O5.wr W8 F4_
  have K8 : Keep h0 h8 [p0] := K5.wr W8 (Or.inl (List.mem_of_getElem? (i := 0) rfl))
  have N8 := Fr.snoc X8 N5 F4_
  have s9 : Steps p.tables e below A₀ (T8.setTop (mkF m 19 #[.val (.ref p0), .val p1, .val .null, .val p3] [])) := by
    refine s0.trans ?_
    refine XS.aloadN X0.here hx rfl (hb hby d2_0) rfl rfl ?_
    show Steps p.tables e below (s₁.setTop (mkF m 1 #[.val (.ref p0), .val p1, .val .null, .val p3] [(.ref p0)])) _
    refine st1.trans ?_
    refine XS.aloadN X1.here hx rfl (hb hby d2_4) rfl rfl ?_
    refine XS.aloadN X1.here hx rfl (hb hby d2_5) rfl F5_ ?_
    refine st2 _ ?_
    refine XS.aloadN X2.here hx rfl (hb hby d2_9) rfl rfl ?_
    refine XS.aloadN X2.here hx rfl (hb hby d2_10) rfl rfl ?_
    show Steps p.tables e below (T2.setTop (mkF m 11 #[.val (.ref p0), .val p1, .val .null, .val p3] [.null, (.ref p0)])) _
    refine st5 _ ?_
    refine XS.aloadN X5.here hx rfl (hb hby d2_14) rfl rfl ?_
    refine XS.aloadN X5.here hx rfl (hb hby d2_15) rfl F6_ ?_
    refine st8 _ ?_
    exact Steps.refl _
  subst hA₀
  have c10 : Exa Z h8 p0 "com/example/lintel/lintel/model/TemplatePart" := (c6.wr W8)
  have c11 : Fld Z h8 p0 "com/example/lintel/lintel/model/TemplatePart" "name" "Ljava/lang/String;" .null := (Fw5.other W8 (Or.inr (slot_ne (Or.inr (hw _ (List.mem_of_getElem? (i := 21) rfl))) (Or.inr (hw _ (List.mem_of_getElem? (i := 23) rfl))) (by decide) (t := (.object "java/lang/String")) (t' := (.object "java/lang/String")) (by decide) (by decide))))
  obtain ⟨fs, hr, hrun, hended, hW, hsame⟩ := X8.leave (v := none) (fun _ => rfl)
  refine ⟨_, _, s9.trans ?_, hrun, hended, _, _, rfl, ?_, ⟨_, rfl⟩, hW, hsame.mono (by decide) (by decide)⟩
  · show Steps p.tables e below (T8.setTop (mkF m 19 #[.val (.ref p0), .val p1, .val .null, .val p3] [])) _
    exact X8.returnOut hx Bd.returns (hb hby d2_19) hr
  · show Qi1 Z p0 p1 p3 h0 n0 _ T8.heap _
    rw [e8]
    exact ⟨rfl, N8, K8, c10, c11⟩
theorem pd_rmi0_0 : parseMethodDescriptor "()V" = some ⟨[], none⟩ := by decide +kernel
theorem ef_rmi0 (m : MethodId) (p0 : Addr) (p1 : Value) (p2 : Addr) (p3 : Value) (r_p1 : p1.isRef = true) (r_p3 : p3.isRef = true) : entryFrame m #[(.ref p0), p1, (.ref p2), p3] 4 = mkF m 0 #[.val (.ref p0), .val p1, .val (.ref p2), .val p3] [] := by
  cases p1 <;> cases p3 <;> first | (cases r_p1; done) | (cases r_p3; done) | (simp [entryFrame, mkF, argsToLocals, Value.category]; done) | rfl
def Qi0 (Z : State) (p0 : Addr) (p1 : Value) (p2 : Addr) (p3 : Value) (h0 : Heap) (n0 : Nat) (v : Option Value) (h : Heap) (L : List Loc) : Prop := v = none ∧ Fr n0 L ∧ Keep h0 h [p0] ∧ (Exa Z h p0 "com/example/lintel/lintel/model/TemplatePart") ∧ (Fld Z h p0 "com/example/lintel/lintel/model/TemplatePart" "name" "Ljava/lang/String;" (.ref p2))
set_option maxRecDepth 65536 in
set_option maxHeartbeats 40000000 in
theorem rmi0 (l : Launch) (Z : State) (a0 : Array Value) (hw : ∀ d ∈ tables_1, d.before a0 Z = true) (ws : List Jvm.Cond) (p0 : Addr) (p1 : Value) (p2 : Addr) (p3 : Value) (h0 : Heap) (n0 : Nat) (O0 : Old Z n0 h0) (F0_ : Exa Z h0 p0 "com/example/lintel/lintel/model/TemplatePart") (F1_ : Fld Z h0 p0 "com/example/lintel/lintel/model/TemplatePart" "text" "Ljava/lang/String;" .null) (F2_ : Fld Z h0 p0 "com/example/lintel/lintel/model/TemplatePart" "name" "Ljava/lang/String;" .null) (F3_ : Fld Z h0 p0 "com/example/lintel/lintel/model/TemplatePart" "expression" "Ljava/lang/String;" .null) (F4_ : n0 ≤ p0) (F5_ : p1.isRef = true) (F6_ : p3.isRef = true) :
    MetFree l nm10 (head1 (Jvm.Cond.code nm10 prog_3_method_1_code 4 none :: ws) ({ frames := 2, cells := 0, slots := 0, locals := 24 } : Room)) (fun a U => a = #[(.ref p0), p1, (.ref p2), p3] ∧ Z.Warmed39 U.vm ∧ U.heap = h0) (fun _ _ _ _ _ => True) (fun _ U o U' => ∃ v L, o = .returned v ∧ Qi0 Z p0 p1 p2 p3 h0 n0 v U'.heap L ∧ FrameEnd U o U' L ({ frames := 2, cells := 0, slots := 0, locals := 24 } : Room).cells ({ frames := 2, cells := 0, slots := 0, locals := 24 } : Room).slots) := by
  refine MetFree.of_bodySF (plainFor_of_name pn_2) hisR ?_
  intro p e s m args below meth c s₁ Bd hml0 hP hK
  obtain ⟨rfl, hZ, hh⟩ := hP
  have hx := Bd.exec
  have hby := Bd.bytes
  have hml : c.maxLocals = 4 := hml0
  have hown : s.vm.findClass "com/example/lintel/lintel/model/TemplatePart" = some m.cls := findClass_of_methodNamed Bd.named
  have hnm := (name_of_methodNamed Bd.named Bd.method).1
  have X0 : Stand p l e ({ frames := 2, cells := 0, slots := 0, locals := 24 } : Room) s m #[(.ref p0), p1, (.ref p2), p3] below meth c s₁ [] 0 0 := Stand.of_body Bd
  have e0 : s₁.heap = h0 := by rw [← hh, Bd.state]; rfl
  have N0 := Fr.nil n0
  have s0 : Steps p.tables e below (s₁.setTop (entryFrame m #[(.ref p0), p1, (.ref p2), p3] 4)) (s₁.setTop (mkF m 0 #[.val (.ref p0), .val p1, .val (.ref p2), .val p3] [])) := castTop (ef_rmi0 m p0 p1 p2 p3 F5_ F6_) (Steps.refl _)
  obtain ⟨A₀, hA₀⟩ : ∃ z, z = (s₁.setTop (entryFrame m #[(.ref p0), p1, (.ref p2), p3] 4)) := ⟨_, rfl⟩
  rw [← hA₀] at s0
  obtain ⟨_, _, ⟨T1, L1, k1, n1⟩, -, X1, ⟨Lc1, hQ1, l1, y1, z1⟩, st1⟩ := X0.specialBack hx (y := (⟨"java/lang/Record", "<init>", "()V"⟩ : MethodName)) rfl hown (mvT hZ (hw _ (List.mem_of_getElem? (i := 10) rfl))) (mvT hZ (hw _ (List.mem_of_getElem? (i := 11) rfl))) (mvT hZ (hw _ (List.mem_of_getElem? (i := 14) rfl))) (by decide) (backOf (W := 0) (rm3 l Z a0 hw [] p0 h0 n0 O0 ) hZ (hw _ (List.mem_of_getElem? (i := 14) rfl)) (hw _ (List.mem_of_getElem? (i := 13) rfl)) (by decide) (by decide)) (g := (mkF m 1 #[.val (.ref p0), .val p1, .val (.ref p2), .val p3] [(.ref p0)])) rfl (by rw [hml]; rfl) (Steps.refl _) (a := p0) (argsL := []) (rest := []) (lenOf pd_rmi0_0 rfl) rfl (by show 2 * 0 + _ ≤ _; exact Nat.le_of_eq rfl) (hb hby d2_1) (fun _ _ => ⟨rfl, e0, (by decide : 0 + 0 ≤ _), (by decide : 0 + 0 ≤ _)⟩)
  dsimp only [Pt.U, Pt.locs, Pt.cells, Pt.slots] at X1 l1 y1 z1 st1 hQ1
  subst l1 y1 z1
  obtain ⟨rfl, Nq1, e1⟩ := hQ1
  have N1 := Fr.app N0 Nq1
  obtain ⟨T2, h2, X2, e2, W2, st2⟩ := putF X1 hx hZ hown (host := "") (Or.inl (hw _ (List.mem_of_getElem? (i := 18) rfl))) Via.refl e1 F1_ F0_ (Or.inr ⟨(hw _ (List.mem_of_getElem? (i := 19) rfl)), rfl, hnm⟩) (hw _ (List.mem_of_getElem? (i := 5) rfl)) (ty := (.object "java/lang/String")) (by decide) rfl (fitsV F5_) (g := (mkF m 6 #[.val (.ref p0), .val p1, .val (.ref p2), .val p3] [p1, (.ref p0)])) rfl rfl (hb hby d2_6)
  have Fw2 := F1_.same W2
  have O2 := O0.wr W2 F4_
  have K2 : Keep h0 h2 [p0] := (Keep.refl h0 [p0]).wr W2 (Or.inl (List.mem_of_getElem? (i := 0) rfl))
  have N2 := Fr.snoc X2 N1 F4_
  have c3 : Exa Z h2 p0 "com/example/lintel/lintel/model/TemplatePart" := (F0_.wr W2)
  have c4 : Fld Z h2 p0 "com/example/lintel/lintel/model/TemplatePart" "name" "Ljava/lang/String;" .null := (F2_.other W2 (Or.inr (slot_ne (Or.inr (hw _ (List.mem_of_getElem? (i := 21) rfl))) (Or.inr (hw _ (List.mem_of_getElem? (i := 19) rfl))) (by decide) (t := (.object "java/lang/String")) (t' := (.object "java/lang/String")) (by decide) (by decide))))
  obtain ⟨T5, h5, X5, e5, W5, st5⟩ := putF X2 hx hZ hown (host := "") (Or.inl (hw _ (List.mem_of_getElem? (i := 20) rfl))) Via.refl e2 c4 c3 (Or.inr ⟨(hw _ (List.mem_of_getElem? (i := 21) rfl)), rfl, hnm⟩) (hw _ (List.mem_of_getElem? (i := 5) rfl)) (ty := (.object "java/lang/String")) (by decide) rfl rfl (g := (mkF m 11 #[.val (.ref p0), .val p1, .val (.ref p2), .val p3] [(.ref p2), (.ref p0)])) rfl rfl (hb hby d2_11)
  have Fw5 := c4.same W5
  have O5 := O2.wr W5 F4_
  have K5 : Keep h0 h5 [p0] := K2.wr W5 (Or.inl (List.mem_of_getElem? (i := 0) rfl))
  have N5 := Fr.snoc X5 N2 F4_
  have c6 : Exa Z h5 p0 "com/example/lintel/lintel/model/TemplatePart" := (c3.wr W5)
  have c7 : Fld Z h5 p0 "com/example/lintel/lintel/model/TemplatePart" "expression" "Ljava/lang/String;" .null := ((F3_.other W2 (Or.inr (slot_ne (Or.inr (hw _ (List.mem_of_getElem? (i := 23) rfl))) (Or.inr (hw _ (List.mem_of_getElem? (i := 19) rfl))) (by decide) (t := (.object "java/lang/String")) (t' := (.object "java/lang/String")) (by decide) (by decide)))).other W5 (Or.inr (slot_ne (Or.inr (hw _ (List.mem_of_getElem? (i := 23) rfl))) (Or.inr (hw _ (List.mem_of_getElem? (i := 21) rfl))) (by decide) (t := (.object "java/lang/String")) (t' := (.object "java/lang/String")) (by decide) (by decide))))
  obtain ⟨T8, h8, X8, e8, W8, st8⟩ := putF X5 hx hZ hown (host := "") (Or.inl (hw _ (List.mem_of_getElem? (i := 22) rfl))) Via.refl e5 c7 c6 (Or.inr ⟨(hw _ (List.mem_of_getElem? (i := 23) rfl)), rfl, hnm⟩) (hw _ (List.mem_of_getElem? (i := 5) rfl)) (ty := (.object "java/lang/String")) (by decide) rfl (fitsV F6_) (g := (mkF m 16 #[.val (.ref p0), .val p1, .val (.ref p2), .val p3] [p3, (.ref p0)])) rfl rfl (hb hby d2_16)
  have Fw8 := c7.same W8
  have O8 := O5.wr W8 F4_
  have K8 : Keep h0 h8 [p0] := K5.wr W8 (Or.inl (List.mem_of_getElem? (i := 0) rfl))
  have N8 := Fr.snoc X8 N5 F4_
  have s9 : Steps p.tables e below A₀ (T8.setTop (mkF m 19 #[.val (.ref p0), .val p1, .val (.ref p2), .val p3] [])) := by
    refine s0.trans ?_
    refine XS.aloadN X0.here hx rfl (hb hby d2_0) rfl rfl ?_
    show Steps p.tables e below (s₁.setTop (mkF m 1 #[.val (.ref p0), .val p1, .val (.ref p2), .val p3] [(.ref p0)])) _
    refine st1.trans ?_
    refine XS.aloadN X1.here hx rfl (hb hby d2_4) rfl rfl ?_
    refine XS.aloadN X1.here hx rfl (hb hby d2_5) rfl F5_ ?_
    refine st2 _ ?_
    refine XS.aloadN X2.here hx rfl (hb hby d2_9) rfl rfl ?_
    refine XS.aloadN X2.here hx rfl (hb hby d2_10) rfl rfl ?_
    show Steps p.tables e below (T2.setTop (mkF m 11 #[.val (.ref p0), .val p1, .val (.ref p2), .val p3] [(.ref p2), (.ref p0)])) _
    refine st5 _ ?_
    refine XS.aloadN X5.here hx rfl (hb hby d2_14) rfl rfl ?_
    refine XS.aloadN X5.here hx rfl (hb hby d2_15) rfl F6_ ?_
    refine st8 _ ?_
    exact Steps.refl _
  subst hA₀
  have c10 : Exa Z h8 p0 "com/example/lintel/lintel/model/TemplatePart" := (c6.wr W8)
  have c11 : Fld Z h8 p0 "com/example/lintel/lintel/model/TemplatePart" "name" "Ljava/lang/String;" (.ref p2) := (Fw5.other W8 (Or.inr (slot_ne (Or.inr (hw _ (List.mem_of_getElem? (i := 21) rfl))) (Or.inr (hw _ (List.mem_of_getElem? (i := 23) rfl))) (by decide) (t := (.object "java/lang/String")) (t' := (.object "java/lang/String")) (by decide) (by decide))))
  obtain ⟨fs, hr, hrun, hended, hW, hsame⟩ := X8.leave (v := none) (fun _ => rfl)
  refine ⟨_, _, s9.trans ?_, hrun, hended, _, _, rfl, ?_, ⟨_, rfl⟩, hW, hsame.mono (by decide) (by decide)⟩
  · show Steps p.tables e below (T8.setTop (mkF m 19 #[.val (.ref p0), .val p1, .val (.ref p2), .val p3] [])) _
    exact X8.returnOut hx Bd.returns (hb hby d2_19) hr
  · show Qi0 Z p0 p1 p2 p3 h0 n0 _ T8.heap _
    rw [e8]
    exact ⟨rfl, N8, K8, c10, c11⟩
theorem d5_0 : decode prog_3_method_3_code 0 = .ok (.aload_n 0, 1) := by decide +kernel
theorem d5_1 : decode prog_3_method_3_code 1 = .ok (.getfield 13, 3) := by decide +kernel
theorem d5_4 : decode prog_3_method_3_code 4 = .ok (.ifnull 7, 3) := by decide +kernel
theorem d5_11 : decode prog_3_method_3_code 11 = .ok (.iconst 0, 1) := by decide +kernel
theorem d5_12 : decode prog_3_method_3_code 12 = .ok (.ireturn, 1) := by decide +kernel
theorem ef_rmv1 (m : MethodId) (p0 : Addr) : entryFrame m #[(.ref p0)] 1 = mkF m 0 #[.val (.ref p0)] [] := by first | (simp [entryFrame, mkF, argsToLocals, Value.category]; done) | rfl
def Qv1 (Z : State) (p0 : Addr) (h0 : Heap) (n0 : Nat) (v : Option Value) (h : Heap) (L : List Loc) : Prop := v = some (.int (0 : Int32)) ∧ Fr n0 L ∧ h = h0
set_option maxRecDepth 65536 in
set_option maxHeartbeats 40000000 in
theorem rmv1 (l : Launch) (Z : State) (a0 : Array Value) (hw : ∀ d ∈ tables_1, d.before a0 Z = true) (ws : List Jvm.Cond) (p0 : Addr) (h0 : Heap) (n0 : Nat) (O0 : Old Z n0 h0) (F0_ : Fld Z h0 p0 "com/example/lintel/lintel/model/TemplatePart" "name" "Ljava/lang/String;" .null) :
    MetFree l nm11 (head1 (Jvm.Cond.code nm11 prog_3_method_3_code 1 (some .boolean) :: ws) ({ frames := 0, cells := 0, slots := 0, locals := 0 } : Room)) (fun a U => a = #[(.ref p0)] ∧ Z.Warmed39 U.vm ∧ U.heap = h0) (fun _ _ _ _ _ => True) (fun _ U o U' => ∃ v L, o = .returned v ∧ Qv1 Z p0 h0 n0 v U'.heap L ∧ FrameEnd U o U' L ({ frames := 0, cells := 0, slots := 0, locals := 0 } : Room).cells ({ frames := 0, cells := 0, slots := 0, locals := 0 } : Room).slots) := by
  refine MetFree.of_bodySF (plainFor_of_name pn_2) hisR ?_
  intro p e s m args below meth c s₁ Bd hml0 hP hK
  obtain ⟨rfl, hZ, hh⟩ := hP
  have hx := Bd.exec
  have hby := Bd.bytes
  have hml : c.maxLocals = 1 := hml0
  have hown : s.vm.findClass "com/example/lintel/lintel/model/TemplatePart" = some m.cls := findClass_of_methodNamed Bd.named
  have hnm := (name_of_methodNamed Bd.named Bd.method).1
  have X0 : Stand p l e ({ frames := 0, cells := 0, slots := 0, locals := 0 } : Room) s m #[(.ref p0)] below meth c s₁ [] 0 0 := Stand.of_body Bd
  have e0 : s₁.heap = h0 := by rw [← hh, Bd.state]; rfl
  have N0 := Fr.nil n0
  have s0 : Steps p.tables e below (s₁.setTop (entryFrame m #[(.ref p0)] 1)) (s₁.setTop (mkF m 0 #[.val (.ref p0)] [])) := castTop (ef_rmv1 m p0) (Steps.refl _)
  obtain ⟨A₀, hA₀⟩ : ∃ z, z = (s₁.setTop (entryFrame m #[(.ref p0)] 1)) := ⟨_, rfl⟩
  rw [← hA₀] at s0
  obtain ⟨T1, X1, e1, st1⟩ := getF X0 hx hZ hown (host := "") (Or.inl (hw _ (List.mem_of_getElem? (i := 20) rfl))) Via.refl e0 F0_ (g := (mkF m 1 #[.val (.ref p0)] [(.ref p0)])) rfl rfl (hb hby d5_1)
  have s2 : Steps p.tables e below A₀ (T1.setTop (mkF m 12 #[.val (.ref p0)] [(.int (0 : Int32))])) := by
    refine s0.trans ?_
    refine XS.aloadN X0.here hx rfl (hb hby d5_0) rfl rfl ?_
    show Steps p.tables e below (s₁.setTop (mkF m 1 #[.val (.ref p0)] [(.ref p0)])) _
    refine st1 _ ?_
    refine XS.ifnullYes X1.here hx rfl (pc0 := 4) (pc' := 11) rfl (hb hby d5_4) rfl (by decide) (by decide) ?_
    refine XS.iconst X1.here hx rfl (hb hby d5_11) ?_
    exact Steps.refl _
  subst hA₀
  obtain ⟨fs, hr, hrun, hended, hW, hsame⟩ := X1.leave (v := some (.int (0 : Int32))) (fun h => by rw [Bd.returns] at h; cases h)
  refine ⟨_, _, s2.trans ?_, hrun, hended, _, _, rfl, ?_, ⟨_, rfl⟩, hW, hsame.mono (by decide) (by decide)⟩
  · show Steps p.tables e below (T1.setTop (mkF m 12 #[.val (.ref p0)] [(.int (0 : Int32))])) _
    exact retN X1 hx (t := .boolean) Bd.returns (by simp) (hb hby d5_12) hr
  · show Qv1 Z p0 h0 n0 _ T1.heap _
    rw [e1]
    exact ⟨rfl, N0, rfl⟩
theorem d5_7 : decode prog_3_method_3_code 7 = .ok (.iconst 1, 1) := by decide +kernel
theorem d5_8 : decode prog_3_method_3_code 8 = .ok (.goto 4, 3) := by decide +kernel
theorem ef_rmv0 (m : MethodId) (p0 : Addr) : entryFrame m #[(.ref p0)] 1 = mkF m 0 #[.val (.ref p0)] [] := by first | (simp [entryFrame, mkF, argsToLocals, Value.category]; done) | rfl
def Qv0 (Z : State) (p0 : Addr) (u : Addr) (h0 : Heap) (n0 : Nat) (v : Option Value) (h : Heap) (L : List Loc) : Prop := v = some (.int (1 : Int32)) ∧ Fr n0 L ∧ h = h0
set_option maxRecDepth 65536 in
set_option maxHeartbeats 40000000 in
theorem rmv0 (l : Launch) (Z : State) (a0 : Array Value) (hw : ∀ d ∈ tables_1, d.before a0 Z = true) (ws : List Jvm.Cond) (p0 : Addr) (u : Addr) (h0 : Heap) (n0 : Nat) (O0 : Old Z n0 h0) (F0_ : Fld Z h0 p0 "com/example/lintel/lintel/model/TemplatePart" "name" "Ljava/lang/String;" (.ref u)) :
    MetFree l nm11 (head1 (Jvm.Cond.code nm11 prog_3_method_3_code 1 (some .boolean) :: ws) ({ frames := 0, cells := 0, slots := 0, locals := 0 } : Room)) (fun a U => a = #[(.ref p0)] ∧ Z.Warmed39 U.vm ∧ U.heap = h0) (fun _ _ _ _ _ => True) (fun _ U o U' => ∃ v L, o = .returned v ∧ Qv0 Z p0 u h0 n0 v U'.heap L ∧ FrameEnd U o U' L ({ frames := 0, cells := 0, slots := 0, locals := 0 } : Room).cells ({ frames := 0, cells := 0, slots := 0, locals := 0 } : Room).slots) := by
  refine MetFree.of_bodySF (plainFor_of_name pn_2) hisR ?_
  intro p e s m args below meth c s₁ Bd hml0 hP hK
  obtain ⟨rfl, hZ, hh⟩ := hP
  have hx := Bd.exec
  have hby := Bd.bytes
  have hml : c.maxLocals = 1 := hml0
  have hown : s.vm.findClass "com/example/lintel/lintel/model/TemplatePart" = some m.cls := findClass_of_methodNamed Bd.named
  have hnm := (name_of_methodNamed Bd.named Bd.method).1
  have X0 : Stand p l e ({ frames := 0, cells := 0, slots := 0, locals := 0 } : Room) s m #[(.ref p0)] below meth c s₁ [] 0 0 := Stand.of_body Bd
  have e0 : s₁.heap = h0 := by rw [← hh, Bd.state]; rfl
  have N0 := Fr.nil n0
  have s0 : Steps p.tables e below (s₁.setTop (entryFrame m #[(.ref p0)] 1)) (s₁.setTop (mkF m 0 #[.val (.ref p0)] [])) := castTop (ef_rmv0 m p0) (Steps.refl _)
  obtain ⟨A₀, hA₀⟩ : ∃ z, z = (s₁.setTop (entryFrame m #[(.ref p0)] 1)) := ⟨_, rfl⟩
  rw [← hA₀] at s0
  obtain ⟨T1, X1, e1, st1⟩ := getF X0 hx hZ hown (host := "") (Or.inl (hw _ (List.mem_of_getElem? (i := 20) rfl))) Via.refl e0 F0_ (g := (mkF m 1 #[.val (.ref p0)] [(.ref p0)])) rfl rfl (hb hby d5_1)
  have s2 : Steps p.tables e below A₀ (T1.setTop (mkF m 12 #[.val (.ref p0)] [(.int (1 : Int32))])) := by
    refine s0.trans ?_
    refine XS.aloadN X0.here hx rfl (hb hby d5_0) rfl rfl ?_
    show Steps p.tables e below (s₁.setTop (mkF m 1 #[.val (.ref p0)] [(.ref p0)])) _
    refine st1 _ ?_
    refine XS.ifnullNo X1.here hx rfl (hb hby d5_4) rfl ?_
    refine XS.iconst X1.here hx rfl (hb hby d5_7) ?_
    refine XS.goto X1.here hx rfl (pc0 := 8) (pc' := 12) rfl (hb hby d5_8) (by decide) (by decide) ?_
    exact Steps.refl _
  subst hA₀
  obtain ⟨fs, hr, hrun, hended, hW, hsame⟩ := X1.leave (v := some (.int (1 : Int32))) (fun h => by rw [Bd.returns] at h; cases h)
  refine ⟨_, _, s2.trans ?_, hrun, hended, _, _, rfl, ?_, ⟨_, rfl⟩, hW, hsame.mono (by decide) (by decide)⟩
  · show Steps p.tables e below (T1.setTop (mkF m 12 #[.val (.ref p0)] [(.int (1 : Int32))])) _
    exact retN X1 hx (t := .boolean) Bd.returns (by simp) (hb hby d5_12) hr
  · show Qv0 Z p0 u h0 n0 _ T1.heap _
    rw [e1]
    exact ⟨rfl, N0, rfl⟩
theorem d1_0 : decode method_3_code 0 = .ok (.iload_n 0, 1) := by decide +kernel
theorem d1_1 : decode method_3_code 1 = .ok (.ifCond .ne 5, 3) := by decide +kernel
theorem d1_4 : decode method_3_code 4 = .ok (.aconst_null, 1) := by decide +kernel
theorem d1_5 : decode method_3_code 5 = .ok (.areturn, 1) := by decide +kernel
theorem d1_6 : decode method_3_code 6 = .ok (.iload_n 0, 1) := by decide +kernel
theorem d1_7 : decode method_3_code 7 = .ok (.iconst 1, 1) := by decide +kernel
theorem d1_8 : decode method_3_code 8 = .ok (.if_icmp .ne 14, 3) := by decide +kernel
theorem d1_11 : decode method_3_code 11 = .ok (.new 22, 3) := by decide +kernel
theorem d1_14 : decode method_3_code 14 = .ok (.dup, 1) := by decide +kernel
theorem d1_15 : decode method_3_code 15 = .ok (.iconst 0, 1) := by decide +kernel
theorem d1_16 : decode method_3_code 16 = .ok (.newarray .char, 2) := by decide +kernel
theorem d1_18 : decode method_3_code 18 = .ok (.invokespecial 24, 3) := by decide +kernel
theorem d1_21 : decode method_3_code 21 = .ok (.areturn, 1) := by decide +kernel
theorem d1_22 : decode method_3_code 22 = .ok (.iload_n 0, 1) := by decide +kernel
theorem d1_23 : decode method_3_code 23 = .ok (.iconst 2, 1) := by decide +kernel
theorem d1_24 : decode method_3_code 24 = .ok (.if_icmp .ne 13, 3) := by decide +kernel
theorem d1_27 : decode method_3_code 27 = .ok (.iload_n 1, 1) := by decide +kernel
theorem d1_28 : decode method_3_code 28 = .ok (.sipush 255, 3) := by decide +kernel
theorem d1_31 : decode method_3_code 31 = .ok (.iand, 1) := by decide +kernel
theorem d1_32 : decode method_3_code 32 = .ok (.i2c, 1) := by decide +kernel
theorem d1_33 : decode method_3_code 33 = .ok (.invokestatic 27, 3) := by decide +kernel
theorem d1_36 : decode method_3_code 36 = .ok (.areturn, 1) := by decide +kernel
theorem d1_37 : decode method_3_code 37 = .ok (.iconst 2, 1) := by decide +kernel
theorem d1_38 : decode method_3_code 38 = .ok (.newarray .char, 2) := by decide +kernel
theorem d1_40 : decode method_3_code 40 = .ok (.astore_n 3, 1) := by decide +kernel
theorem d1_41 : decode method_3_code 41 = .ok (.aload_n 3, 1) := by decide +kernel
theorem d1_42 : decode method_3_code 42 = .ok (.iconst 0, 1) := by decide +kernel
theorem d1_43 : decode method_3_code 43 = .ok (.iload_n 1, 1) := by decide +kernel
theorem d1_44 : decode method_3_code 44 = .ok (.sipush 255, 3) := by decide +kernel
theorem d1_47 : decode method_3_code 47 = .ok (.iand, 1) := by decide +kernel
theorem d1_48 : decode method_3_code 48 = .ok (.i2c, 1) := by decide +kernel
theorem d1_49 : decode method_3_code 49 = .ok (.castore, 1) := by decide +kernel
theorem d1_50 : decode method_3_code 50 = .ok (.aload_n 3, 1) := by decide +kernel
theorem d1_51 : decode method_3_code 51 = .ok (.iconst 1, 1) := by decide +kernel
theorem d1_52 : decode method_3_code 52 = .ok (.iload_n 2, 1) := by decide +kernel
theorem d1_53 : decode method_3_code 53 = .ok (.sipush 255, 3) := by decide +kernel
theorem d1_56 : decode method_3_code 56 = .ok (.iand, 1) := by decide +kernel
theorem d1_57 : decode method_3_code 57 = .ok (.i2c, 1) := by decide +kernel
theorem d1_58 : decode method_3_code 58 = .ok (.castore, 1) := by decide +kernel
theorem d1_59 : decode method_3_code 59 = .ok (.new 22, 3) := by decide +kernel
theorem d1_62 : decode method_3_code 62 = .ok (.dup, 1) := by decide +kernel
theorem d1_63 : decode method_3_code 63 = .ok (.aload_n 3, 1) := by decide +kernel
theorem d1_64 : decode method_3_code 64 = .ok (.invokespecial 24, 3) := by decide +kernel
theorem d1_67 : decode method_3_code 67 = .ok (.areturn, 1) := by decide +kernel
theorem pn_1 : plainName "com/example/lintel/lintel/model/TemplatePartIsVariablePinLaw" = true := by first | (simp [plainName, overriddenIn]; done) | decide +kernel
theorem pd_rm1_0 : parseMethodDescriptor "([C)V" = some ⟨[(.array .char)], none⟩ := by decide +kernel
theorem pd_rm1_1 : parseMethodDescriptor "(C)Ljava/lang/String;" = some ⟨[.char], some (.object "java/lang/String")⟩ := by decide +kernel
theorem ef_rm1 (m : MethodId) (p0 : Int32) (p1 : Int32) (p2 : Int32) : entryFrame m #[(.int p0), (.int p1), (.int p2)] 4 = mkF m 0 #[.val (.int p0), .val (.int p1), .val (.int p2), .unset] [] := by first | (simp [entryFrame, mkF, argsToLocals, Value.category]; done) | rfl
def Q1 (Z : State) (p0 : Int32) (p1 : Int32) (p2 : Int32) (wc : Int32) (h0 : Heap) (n0 : Nat) (v : Option Value) (h : Heap) (L : List Loc) : Prop := ∃ u : Value, v = some u ∧ Fr n0 L ∧ Keep h0 h [] ∧ (u.isRef = true) ∧ ((p0 = (0 : Int32) ∧ u = .null) ∨ (¬ (p0 = (0 : Int32)) ∧ ∃ x, u = .ref x))
set_option maxRecDepth 65536 in
set_option maxHeartbeats 40000000 in
theorem rm1 (l : Launch) (Z : State) (a0 : Array Value) (hw : ∀ d ∈ tables_1, d.before a0 Z = true) (ws : List Jvm.Cond) (p0 : Int32) (p1 : Int32) (p2 : Int32) (wc : Int32) (h0 : Heap) (n0 : Nat) (O0 : Old Z n0 h0) (F0_ : Sta Z Z.heap "java/lang/String" "COMPACT_STRINGS" "Z" (.int wc)) (hcs : ¬ (wc = (0 : Int32))) (hheld : Jvm.Lit.constHeld Z "java/lang/String" 7) (hcw : Jvm.Lit.compactW.before a0 Z = true) :
    MetFree l nm12 (head1 (Jvm.Cond.code nm12 method_3_code 4 (some (.object "java/lang/String")) :: ws) ({ frames := 4, cells := 4, slots := 8, locals := 66 } : Room)) (fun a U => a = #[(.int p0), (.int p1), (.int p2)] ∧ Z.Warmed39 U.vm ∧ U.heap = h0 ∧ own_R Z h0 U.vm) (fun _ _ _ _ _ => True) (fun _ U o U' => ∃ v L, o = .returned v ∧ (Q1 Z p0 p1 p2 wc h0 n0 v U'.heap L ∧ own_R Z U'.heap U'.vm) ∧ ReturnedEndW U o U' L ({ frames := 4, cells := 4, slots := 8, locals := 66 } : Room).cells ({ frames := 4, cells := 4, slots := 8, locals := 66 } : Room).slots) := by
  refine MetFree.of_bodySF (plainFor_of_name pn_1) hisR ?_
  intro p e s m args below meth c s₁ Bd hml0 hP hK
  obtain ⟨rfl, hZ, hh, hR⟩ := hP
  have hx := Bd.exec
  have hby := Bd.bytes
  have hml : c.maxLocals = 4 := hml0
  have hown : s.vm.findClass "com/example/lintel/lintel/model/TemplatePartIsVariablePinLaw" = some m.cls := findClass_of_methodNamed Bd.named
  have hnm := (name_of_methodNamed Bd.named Bd.method).1
  have X0 : Stand p l e ({ frames := 4, cells := 4, slots := 8, locals := 66 } : Room) (s.setVm s.vm) m #[(.int p0), (.int p1), (.int p2)] below meth c s₁ [] 0 0 := Stand.of_body Bd
  have e0 : s₁.heap = h0 := by rw [← hh, Bd.state]; rfl
  have N0 := Fr.nil n0
  have hS0 : s.Since s.vm s.heap.size := (State.WarmedH.refl s).since _
  have hk0 : s.heap.size ≤ h0.size := Nat.le_of_eq (congrArg Array.size hh)
  have s0 : Steps p.tables e below (s₁.setTop (entryFrame m #[(.int p0), (.int p1), (.int p2)] 4)) (s₁.setTop (mkF m 0 #[.val (.int p0), .val (.int p1), .val (.int p2), .unset] [])) := castTop (ef_rm1 m p0 p1 p2) (Steps.refl _)
  obtain ⟨A₀, hA₀⟩ : ∃ z, z = (s₁.setTop (entryFrame m #[(.int p0), (.int p1), (.int p2)] 4)) := ⟨_, rfl⟩
  rw [← hA₀] at s0
  have s1 : Steps p.tables e below A₀ (s₁.setTop (mkF m 1 #[.val (.int p0), .val (.int p1), .val (.int p2), .unset] [(.int p0)])) := by
    refine s0.trans ?_
    refine XS.iloadN X0.here hx rfl (hb hby d1_0) rfl ?_
    exact Steps.refl _
  by_cases hc2 : p0 = (0 : Int32)
  · have s3 : Steps p.tables e below A₀ (s₁.setTop (mkF m 5 #[.val (.int p0), .val (.int p1), .val (.int p2), .unset] [.null])) := by
      refine s1.trans ?_
      refine XS.ifNo X0.here hx rfl (hb hby d1_1) rfl ((if0 _ _).trans (teq hc2).2) ?_
      show Steps p.tables e below (s₁.setTop (mkF m 4 #[.val (.int p0), .val (.int p1), .val (.int p2), .unset] [])) _
      refine XS.aconstNull X0.here hx rfl (hb hby d1_4) ?_
      exact Steps.refl _
    subst hA₀
    obtain ⟨fs, hr, hrun, hended, -, hW, hIn, hsame⟩ := X0.leaveW hS0 (by rw [e0]; exact hk0) (v := some .null) (fun h => by rw [Bd.returns] at h; cases h)
    refine ⟨_, _, s3.trans ?_, hrun, hended, _, _, rfl, ?_, ⟨_, rfl⟩, hW, hIn, hsame.mono (by decide) (by decide)⟩
    · show Steps p.tables e below (s₁.setTop (mkF m 5 #[.val (.int p0), .val (.int p1), .val (.int p2), .unset] [.null])) _
      jvm_step X0.here [X0.here.top, hx, (hb hby d1_5), X0.method', Bd.returns, Value.isRef, FieldType.isReference]
      first | (intro acts; rw [hr _ acts rfl rfl rfl]) | rw [hr _ _ rfl rfl rfl]
      exact Steps.refl _
    · refine ⟨?_, ?_⟩
      · show Q1 Z p0 p1 p2 wc h0 n0 _ s₁.heap _
        rw [e0]
        exact ⟨.null, rfl, N0, (Keep.refl h0 []), rfl, (Or.inl ⟨hc2, rfl⟩)⟩
      · show own_R Z s₁.heap s₁.vm
        rw [e0]
        exact own_R_warm X0.warmed hR
  · have s4 : Steps p.tables e below A₀ (s₁.setTop (mkF m 8 #[.val (.int p0), .val (.int p1), .val (.int p2), .unset] [(.int (1 : Int32)), (.int p0)])) := by
      refine s1.trans ?_
      refine XS.ifYes X0.here hx rfl (pc0 := 1) (pc' := 6) rfl (hb hby d1_1) rfl ((if0 _ _).trans (feq hc2).2) (by decide) (by decide) ?_
      show Steps p.tables e below (s₁.setTop (mkF m 6 #[.val (.int p0), .val (.int p1), .val (.int p2), .unset] [])) _
      refine XS.iloadN X0.here hx rfl (hb hby d1_6) rfl ?_
      refine XS.iconst X0.here hx rfl (hb hby d1_7) ?_
      exact Steps.refl _
    by_cases hc5 : p0 = (1 : Int32)
    · obtain ⟨T6, h6, X6, e6, E6, A6, D6, -, st6⟩ := newO X0 hx hZ hown (hw _ (List.mem_of_getElem? (i := 30) rfl)) (hw _ (List.mem_of_getElem? (i := 31) rfl)) (hw _ (List.mem_of_getElem? (i := 32) rfl)) e0 (g := (mkF m 11 #[.val (.int p0), .val (.int p1), .val (.int p2), .unset] [])) rfl (hb hby d1_11) (by decide) (by decide)
      obtain ⟨b6, g6⟩ : ∃ z, z = h0.size := ⟨_, rfl⟩
      rw [← g6] at A6 D6 st6
      have g_b6 : n0 ≤ b6 := Nat.le_trans (Nat.le_of_eq O0.1.symm) (Nat.le_trans O0.2.1 (Nat.le_of_eq g6.symm))
      have sz_b6 : h0.size ≤ b6 := Nat.le_trans (Keep.refl h0 []).1 (Nat.le_of_eq g6.symm)
      have O6 := O0.ext E6
      have hkk6 := Nat.le_trans hk0 E6.1
      have K6 : Keep h0 h6 [] := (Keep.refl h0 []).ext E6
      have F6_coder : Fld Z h6 b6 "java/lang/String" "coder" "B" (.int (0 : Int32)) := D6 (Or.inr (hw _ (List.mem_of_getElem? (i := 54) rfl))) (ty := .byte) (by decide)
      have F6_value : Fld Z h6 b6 "java/lang/String" "value" "[B" .null := D6 (Or.inr (hw _ (List.mem_of_getElem? (i := 56) rfl))) (ty := (.array .byte)) (by decide)
      obtain ⟨T7, h7, k7, X7, e7, E7, A7, st7⟩ := newP X6 hx hZ (hw _ (List.mem_of_getElem? (i := 29) rfl)) e6 (g := (mkF m 16 #[.val (.int p0), .val (.int p1), .val (.int p2), .unset] [(.int (0 : Int32)), (.ref b6), (.ref b6)])) rfl (hb hby d1_16) rfl (by decide) (cap := 0) (by decide) (by decide) (by decide) (by decide)
      obtain ⟨b7, g7⟩ : ∃ z, z = h6.size := ⟨_, rfl⟩
      rw [← g7] at A7 st7
      have ne_b6_b7 : b6 ≠ b7 := Nat.ne_of_lt (Nat.lt_of_lt_of_le A6.lt (Nat.le_of_eq g7.symm))
      have g_b7 : n0 ≤ b7 := Nat.le_trans (Nat.le_of_eq O6.1.symm) (Nat.le_trans O6.2.1 (Nat.le_of_eq g7.symm))
      have sz_b7 : h0.size ≤ b7 := Nat.le_trans K6.1 (Nat.le_of_eq g7.symm)
      have O7 := O6.ext E7
      have hkk7 := Nat.le_trans hkk6 E7.1
      have K7 : Keep h0 h7 [] := K6.ext E7
      have V7 : Arv Z h7 b7 k7 .char (0 : Int32) [] (.int (0 : Int32)) := (Arv.new A7 (by decide)).pad (pad_rep [] (.int (0 : Int32)) 0)
      have s8 : Steps p.tables e below A₀ (T7.setTop (mkF m 18 #[.val (.int p0), .val (.int p1), .val (.int p2), .unset] [(.ref b7), (.ref b6), (.ref b6)])) := by
        refine s4.trans ?_
        refine XS.icmpNo X0.here hx rfl (hb hby d1_8) rfl (teq hc5).2 ?_
        show Steps p.tables e below (s₁.setTop (mkF m 11 #[.val (.int p0), .val (.int p1), .val (.int p2), .unset] [])) _
        refine st6 _ ?_
        refine XS.dup X6.here hx rfl (hb hby d1_14) rfl rfl ?_
        refine XS.iconst X6.here hx rfl (hb hby d1_15) ?_
        refine st7 _ ?_
        exact Steps.refl _
      have c9 : Exa Z h7 b6 "java/lang/String" := (A6.ext E7)
      have c10 : Fld Z h7 b6 "java/lang/String" "value" "[B" .null := (F6_value.ext E7)
      have c11 : Fld Z h7 b6 "java/lang/String" "coder" "B" (.int (0 : Int32)) := (F6_coder.ext E7)
      obtain ⟨_, _, ⟨T12, L12, k12, n12⟩, -, Xa12, hSa12, hga12, ⟨Lc12, hQ12, hR12, l12, y12, z12⟩, st12⟩ := X7.specialBackS hx (y := (⟨"java/lang/String", "<init>", "([C)V"⟩ : MethodName)) rfl hown (mvT hZ (hw _ (List.mem_of_getElem? (i := 33) rfl))) (mvT hZ (hw _ (List.mem_of_getElem? (i := 34) rfl))) (mvT hZ (hw _ (List.mem_of_getElem? (i := 35) rfl))) (by decide) (own_backW (W := 1) (rms1_0 l Z a0 hw [] b6 b7 k7 h7 n0 O7 c9 c10 c11 g_b6 V7 hheld hcw) hZ (hw _ (List.mem_of_getElem? (i := 35) rfl)) (hw _ (List.mem_of_getElem? (i := 32) rfl)) (by decide) (by decide)) (g := (mkF m 18 #[.val (.int p0), .val (.int p1), .val (.int p2), .unset] [(.ref b7), (.ref b6), (.ref b6)])) rfl (by rw [hml]; rfl) (Steps.refl _) (a := b6) (argsL := [(.ref b7)]) (rest := [(.ref b6)]) (lenOf pd_rm1_0 rfl) rfl (by show 2 * 0 + _ ≤ _; exact Nat.le_of_eq rfl) (hb hby d1_18) (fun vm₁ hv => ⟨rfl, e7, own_R_warm hv (own_R_keep hR K7), (by decide : 2 + 2 ≤ _), (by decide : 4 + 4 ≤ _)⟩)
      dsimp only [Pt.U, Pt.locs, Pt.cells, Pt.slots] at Xa12 hSa12 hga12 l12 y12 z12 st12 hQ12 hR12
      subst l12 y12 z12
      obtain ⟨X12, hS12, hZ12, hown12⟩ := rebS hS0 (by rw [e7]; exact hkk7) Xa12 hSa12 hga12 hZ hown
      obtain ⟨u13, u14, rfl, Nq12, Kc12, f12_0, f12_1, f12_2, f12_3, f12_4⟩ := hQ12
      have N12 := Fr.app N0 Nq12
      have K12 : Keep h0 T12.heap [] := K7.trans Kc12 (allS (Or.inr sz_b6) all0)
      have O12 := O7.keep Kc12 (allS g_b6 all0)
      have s15 : Steps p.tables e below A₀ (T12.setTop (mkF m 21 #[.val (.int p0), .val (.int p1), .val (.int p2), .unset] [(.ref b6)])) := by
        refine s8.trans ?_
        show Steps p.tables e below (T7.setTop (mkF m 18 #[.val (.int p0), .val (.int p1), .val (.int p2), .unset] [(.ref b7), (.ref b6), (.ref b6)])) _
        refine st12.trans ?_
        exact Steps.refl _
      subst hA₀
      obtain ⟨fs, hr, hrun, hended, -, hW, hIn, hsame⟩ := X12.leaveW hS12 (by rw [(rfl : T12.heap = T12.heap)]; exact (Nat.le_refl T12.heap.size)) (v := some (.ref b6)) (fun h => by rw [Bd.returns] at h; cases h)
      refine ⟨_, _, s15.trans ?_, hrun, hended, _, _, rfl, ?_, ⟨_, rfl⟩, hW, hIn, hsame.mono (by decide) (by decide)⟩
      · show Steps p.tables e below (T12.setTop (mkF m 21 #[.val (.int p0), .val (.int p1), .val (.int p2), .unset] [(.ref b6)])) _
        jvm_step X12.here [X12.here.top, hx, (hb hby d1_21), X12.method', Bd.returns, Value.isRef, FieldType.isReference]
        first | (intro acts; rw [hr _ acts rfl rfl rfl]) | rw [hr _ _ rfl rfl rfl]
        exact Steps.refl _
      · refine ⟨?_, ?_⟩
        · show Q1 Z p0 p1 p2 wc h0 n0 _ T12.heap _
          exact ⟨(.ref b6), rfl, N12, K12, rfl, (Or.inr ⟨hc2, _, rfl⟩)⟩
        · show own_R Z T12.heap T12.vm
          exact own_R_warm X12.warmed hR12
    · have s16 : Steps p.tables e below A₀ (s₁.setTop (mkF m 24 #[.val (.int p0), .val (.int p1), .val (.int p2), .unset] [(.int (2 : Int32)), (.int p0)])) := by
        refine s4.trans ?_
        refine XS.icmpYes X0.here hx rfl (pc0 := 8) (pc' := 22) rfl (hb hby d1_8) rfl (feq hc5).2 (by decide) (by decide) ?_
        show Steps p.tables e below (s₁.setTop (mkF m 22 #[.val (.int p0), .val (.int p1), .val (.int p2), .unset] [])) _
        refine XS.iloadN X0.here hx rfl (hb hby d1_22) rfl ?_
        refine XS.iconst X0.here hx rfl (hb hby d1_23) ?_
        exact Steps.refl _
      by_cases hc17 : p0 = (2 : Int32)
      · have s18 : Steps p.tables e below A₀ (s₁.setTop (mkF m 33 #[.val (.int p0), .val (.int p1), .val (.int p2), .unset] [(.int ((p1 &&& (255 : Int32)).toUInt32.toUInt16.toUInt32.toInt32))])) := by
          refine s16.trans ?_
          refine XS.icmpNo X0.here hx rfl (hb hby d1_24) rfl (teq hc17).2 ?_
          show Steps p.tables e below (s₁.setTop (mkF m 27 #[.val (.int p0), .val (.int p1), .val (.int p2), .unset] [])) _
          refine XS.iloadN X0.here hx rfl (hb hby d1_27) rfl ?_
          refine XS.sipush X0.here hx rfl (hb hby d1_28) ?_
          refine XS.iand X0.here hx rfl (hb hby d1_31) rfl ?_
          refine XS.i2c X0.here hx rfl (hb hby d1_32) rfl ?_
          exact Steps.refl _
        obtain ⟨_, _, ⟨T19, L19, k19, n19⟩, -, X19, ⟨Lc19, hQ19, l19, y19, z19⟩, st19⟩ := Jvm.LawKit.callS X0 hx (y := (⟨"java/lang/String", "valueOf", "(C)Ljava/lang/String;"⟩ : MethodName)) hown (mvT hZ (hw _ (List.mem_of_getElem? (i := 57) rfl))) (mvT hZ (hw _ (List.mem_of_getElem? (i := 58) rfl))) (mvT hZ (hw _ (List.mem_of_getElem? (i := 32) rfl))) (mvT hZ (hw _ (List.mem_of_getElem? (i := 59) rfl))) (by decide) (backOf (W := 0) (rm11 l Z a0 hw [] ((p1 &&& (255 : Int32)).toUInt32.toUInt16.toUInt32.toInt32) wc h0 n0 O0 F0_ hcs (own_ch1 p1)) hZ (hw _ (List.mem_of_getElem? (i := 59) rfl)) (hw _ (List.mem_of_getElem? (i := 32) rfl)) (by decide) (by decide)) (g := (mkF m 33 #[.val (.int p0), .val (.int p1), .val (.int p2), .unset] [(.int ((p1 &&& (255 : Int32)).toUInt32.toUInt16.toUInt32.toInt32))])) rfl (by rw [hml]; rfl) (argsL := [(.int ((p1 &&& (255 : Int32)).toUInt32.toUInt16.toUInt32.toInt32))]) (rest := []) (lenOf pd_rm1_1 rfl) rfl (by show 2 * 0 + _ ≤ _; exact Nat.le_of_eq rfl) (hb hby d1_33) (fun _ _ => ⟨rfl, e0, (by decide : 0 + 2 ≤ _), (by decide : 0 + 5 ≤ _)⟩)
        dsimp only [Pt.U, Pt.locs, Pt.cells, Pt.slots] at X19 l19 y19 z19 st19 hQ19
        subst l19 y19 z19
        obtain ⟨u20, rfl, Nq19, Kc19, f19_0⟩ := hQ19
        have N19 := Fr.app N0 Nq19
        have K19 : Keep h0 T19.heap [] := (Keep.refl h0 []).trans Kc19 all0
        have O19 := O0.keep Kc19 all0
        have hkk19 := Nat.le_trans hk0 Kc19.1
        have s21 : Steps p.tables e below A₀ (T19.setTop (mkF m 36 #[.val (.int p0), .val (.int p1), .val (.int p2), .unset] [(.ref u20)])) := by
          refine s18.trans ?_
          show Steps p.tables e below (s₁.setTop (mkF m 33 #[.val (.int p0), .val (.int p1), .val (.int p2), .unset] [(.int ((p1 &&& (255 : Int32)).toUInt32.toUInt16.toUInt32.toInt32))])) _
          refine st19 _ ?_
          exact Steps.refl _
        subst hA₀
        obtain ⟨fs, hr, hrun, hended, -, hW, hIn, hsame⟩ := X19.leaveW hS0 (by rw [(rfl : T19.heap = T19.heap)]; exact hkk19) (v := some (.ref u20)) (fun h => by rw [Bd.returns] at h; cases h)
        refine ⟨_, _, s21.trans ?_, hrun, hended, _, _, rfl, ?_, ⟨_, rfl⟩, hW, hIn, hsame.mono (by decide) (by decide)⟩
        · show Steps p.tables e below (T19.setTop (mkF m 36 #[.val (.int p0), .val (.int p1), .val (.int p2), .unset] [(.ref u20)])) _
          jvm_step X19.here [X19.here.top, hx, (hb hby d1_36), X19.method', Bd.returns, Value.isRef, FieldType.isReference]
          first | (intro acts; rw [hr _ acts rfl rfl rfl]) | rw [hr _ _ rfl rfl rfl]
          exact Steps.refl _
        · refine ⟨?_, ?_⟩
          · show Q1 Z p0 p1 p2 wc h0 n0 _ T19.heap _
            exact ⟨(.ref u20), rfl, N19, K19, rfl, (Or.inr ⟨hc2, _, rfl⟩)⟩
          · show own_R Z T19.heap T19.vm
            exact own_R_warm X19.warmed (own_R_keep hR K19)
      · obtain ⟨T22, h22, k22, X22, e22, E22, A22, st22⟩ := newP X0 hx hZ (hw _ (List.mem_of_getElem? (i := 29) rfl)) e0 (g := (mkF m 38 #[.val (.int p0), .val (.int p1), .val (.int p2), .unset] [(.int (2 : Int32))])) rfl (hb hby d1_38) rfl (by decide) (cap := 2) (by decide) (by decide) (by decide) (by decide)
        obtain ⟨b22, g22⟩ : ∃ z, z = h0.size := ⟨_, rfl⟩
        rw [← g22] at A22 st22
        have g_b22 : n0 ≤ b22 := Nat.le_trans (Nat.le_of_eq O0.1.symm) (Nat.le_trans O0.2.1 (Nat.le_of_eq g22.symm))
        have sz_b22 : h0.size ≤ b22 := Nat.le_trans (Keep.refl h0 []).1 (Nat.le_of_eq g22.symm)
        have O22 := O0.ext E22
        have hkk22 := Nat.le_trans hk0 E22.1
        have K22 : Keep h0 h22 [] := (Keep.refl h0 []).ext E22
        have V22 : Arv Z h22 b22 k22 .char (2 : Int32) [(.int (0 : Int32)), (.int (0 : Int32))] (.int (0 : Int32)) := (Arv.new A22 (by decide)).pad (pad_rep [] (.int (0 : Int32)) 2)
        obtain ⟨cla23, Ara23, qa23, Sa23, Za23, Ha23, Ga23⟩ := id V22
        have hin24 : ¬ ((0 : Int32) < 0 ∨ cla23.slots.size ≤ ((0 : Int32)).toNatClampNeg) := inb_of Sa23 ⟨by decide, by decide⟩
        obtain ⟨T25, h25, X25, e25, W25, st25⟩ := stC X22 hx hZ e22 Ara23 (j := (0 : Int32)) hin24 (g := (mkF m 49 #[.val (.int p0), .val (.int p1), .val (.int p2), .val (.ref b22)] [(.int ((p1 &&& (255 : Int32)).toUInt32.toUInt16.toUInt32.toInt32)), (.int (0 : Int32)), (.ref b22)])) rfl rfl (hb hby d1_49)
        have O25 := O22.wr W25 g_b22
        have hkk25 := Nat.le_trans hkk22 (Keep.of_wr W25).1
        have K25 : Keep h0 h25 [] := K22.wr W25 (Or.inr sz_b22)
        have N25 := Fr.snoc X25 N0 g_b22
        have V25 : Arv Z h25 b22 k22 .char (2 : Int32) [(.int (nar .char ((p1 &&& (255 : Int32)).toUInt32.toUInt16.toUInt32.toInt32))), (.int (0 : Int32))] (.int (0 : Int32)) := Arv.set Ara23 qa23 Sa23 Za23 Ha23 Ga23 (fits_nar_char _) W25 0 rfl (Nat.le_of_ble_eq_true rfl)
        obtain ⟨cla26, Ara26, qa26, Sa26, Za26, Ha26, Ga26⟩ := id V25
        have hin27 : ¬ ((1 : Int32) < 0 ∨ cla26.slots.size ≤ ((1 : Int32)).toNatClampNeg) := inb_of Sa26 ⟨by decide, by decide⟩
        obtain ⟨T28, h28, X28, e28, W28, st28⟩ := stC X25 hx hZ e25 Ara26 (j := (1 : Int32)) hin27 (g := (mkF m 58 #[.val (.int p0), .val (.int p1), .val (.int p2), .val (.ref b22)] [(.int ((p2 &&& (255 : Int32)).toUInt32.toUInt16.toUInt32.toInt32)), (.int (1 : Int32)), (.ref b22)])) rfl rfl (hb hby d1_58)
        have O28 := O25.wr W28 g_b22
        have hkk28 := Nat.le_trans hkk25 (Keep.of_wr W28).1
        have K28 : Keep h0 h28 [] := K25.wr W28 (Or.inr sz_b22)
        have N28 := Fr.snoc X28 N25 g_b22
        have V28 : Arv Z h28 b22 k22 .char (2 : Int32) [(.int (nar .char ((p1 &&& (255 : Int32)).toUInt32.toUInt16.toUInt32.toInt32))), (.int (nar .char ((p2 &&& (255 : Int32)).toUInt32.toUInt16.toUInt32.toInt32)))] (.int (0 : Int32)) := Arv.set Ara26 qa26 Sa26 Za26 Ha26 Ga26 (fits_nar_char _) W28 1 rfl (Nat.le_of_ble_eq_true rfl)
        obtain ⟨T29, h29, X29, e29, E29, A29, D29, -, st29⟩ := newO X28 hx hZ hown (hw _ (List.mem_of_getElem? (i := 30) rfl)) (hw _ (List.mem_of_getElem? (i := 31) rfl)) (hw _ (List.mem_of_getElem? (i := 32) rfl)) e28 (g := (mkF m 59 #[.val (.int p0), .val (.int p1), .val (.int p2), .val (.ref b22)] [])) rfl (hb hby d1_59) (by decide) (by decide)
        obtain ⟨b29, g29⟩ : ∃ z, z = h28.size := ⟨_, rfl⟩
        rw [← g29] at A29 D29 st29
        have ne_b22_b29 : b22 ≠ b29 := Nat.ne_of_lt (Nat.lt_of_lt_of_le V28.lt (Nat.le_of_eq g29.symm))
        have g_b29 : n0 ≤ b29 := Nat.le_trans (Nat.le_of_eq O28.1.symm) (Nat.le_trans O28.2.1 (Nat.le_of_eq g29.symm))
        have sz_b29 : h0.size ≤ b29 := Nat.le_trans K28.1 (Nat.le_of_eq g29.symm)
        have O29 := O28.ext E29
        have hkk29 := Nat.le_trans hkk28 E29.1
        have K29 : Keep h0 h29 [] := K28.ext E29
        have F29_coder : Fld Z h29 b29 "java/lang/String" "coder" "B" (.int (0 : Int32)) := D29 (Or.inr (hw _ (List.mem_of_getElem? (i := 54) rfl))) (ty := .byte) (by decide)
        have F29_value : Fld Z h29 b29 "java/lang/String" "value" "[B" .null := D29 (Or.inr (hw _ (List.mem_of_getElem? (i := 56) rfl))) (ty := (.array .byte)) (by decide)
        have s30 : Steps p.tables e below A₀ (T29.setTop (mkF m 64 #[.val (.int p0), .val (.int p1), .val (.int p2), .val (.ref b22)] [(.ref b22), (.ref b29), (.ref b29)])) := by
          refine s16.trans ?_
          refine XS.icmpYes X0.here hx rfl (pc0 := 24) (pc' := 37) rfl (hb hby d1_24) rfl (feq hc17).2 (by decide) (by decide) ?_
          show Steps p.tables e below (s₁.setTop (mkF m 37 #[.val (.int p0), .val (.int p1), .val (.int p2), .unset] [])) _
          refine XS.iconst X0.here hx rfl (hb hby d1_37) ?_
          refine st22 _ ?_
          refine XS.astoreN X22.here hx rfl (hb hby d1_40) rfl rfl (l' := #[.val (.int p0), .val (.int p1), .val (.int p2), .val (.ref b22)]) rfl ?_
          refine XS.aloadN X22.here hx rfl (hb hby d1_41) rfl rfl ?_
          refine XS.iconst X22.here hx rfl (hb hby d1_42) ?_
          refine XS.iloadN X22.here hx rfl (hb hby d1_43) rfl ?_
          show Steps p.tables e below (T22.setTop (mkF m 44 #[.val (.int p0), .val (.int p1), .val (.int p2), .val (.ref b22)] [(.int p1), (.int (0 : Int32)), (.ref b22)])) _
          refine XS.sipush X22.here hx rfl (hb hby d1_44) ?_
          refine XS.iand X22.here hx rfl (hb hby d1_47) rfl ?_
          refine XS.i2c X22.here hx rfl (hb hby d1_48) rfl ?_
          refine st25 _ ?_
          refine XS.aloadN X25.here hx rfl (hb hby d1_50) rfl rfl ?_
          refine XS.iconst X25.here hx rfl (hb hby d1_51) ?_
          show Steps p.tables e below (T25.setTop (mkF m 52 #[.val (.int p0), .val (.int p1), .val (.int p2), .val (.ref b22)] [(.int (1 : Int32)), (.ref b22)])) _
          refine XS.iloadN X25.here hx rfl (hb hby d1_52) rfl ?_
          refine XS.sipush X25.here hx rfl (hb hby d1_53) ?_
          refine XS.iand X25.here hx rfl (hb hby d1_56) rfl ?_
          refine XS.i2c X25.here hx rfl (hb hby d1_57) rfl ?_
          refine st28 _ ?_
          refine st29 _ ?_
          show Steps p.tables e below (T29.setTop (mkF m 62 #[.val (.int p0), .val (.int p1), .val (.int p2), .val (.ref b22)] [(.ref b29)])) _
          refine XS.dup X29.here hx rfl (hb hby d1_62) rfl rfl ?_
          refine XS.aloadN X29.here hx rfl (hb hby d1_63) rfl rfl ?_
          exact Steps.refl _
        have c31 : Arv Z h29 b22 k22 .char (2 : Int32) [(.int (nar .char ((p1 &&& (255 : Int32)).toUInt32.toUInt16.toUInt32.toInt32))), (.int (nar .char ((p2 &&& (255 : Int32)).toUInt32.toUInt16.toUInt32.toInt32)))] (.int (0 : Int32)) := (V28.ext E29)
        obtain ⟨_, _, ⟨T32, L32, k32, n32⟩, -, X32, ⟨Lc32, hQ32, l32, y32, z32⟩, st32⟩ := X29.specialBack hx (y := (⟨"java/lang/String", "<init>", "([C)V"⟩ : MethodName)) rfl hown (mvT hZ (hw _ (List.mem_of_getElem? (i := 33) rfl))) (mvT hZ (hw _ (List.mem_of_getElem? (i := 34) rfl))) (mvT hZ (hw _ (List.mem_of_getElem? (i := 35) rfl))) (by decide) (backOf (W := 1) (rms1_2 l Z a0 hw [] b29 b22 wc k22 (nar .char ((p1 &&& (255 : Int32)).toUInt32.toUInt16.toUInt32.toInt32)) (nar .char ((p2 &&& (255 : Int32)).toUInt32.toUInt16.toUInt32.toInt32)) h29 n0 O29 A29 F29_value F29_coder g_b29 c31 F0_ (Ne.symm ne_b22_b29) hcs (own_ch p1) (own_ch p2)) hZ (hw _ (List.mem_of_getElem? (i := 35) rfl)) (hw _ (List.mem_of_getElem? (i := 32) rfl)) (by decide) (by decide)) (g := (mkF m 64 #[.val (.int p0), .val (.int p1), .val (.int p2), .val (.ref b22)] [(.ref b22), (.ref b29), (.ref b29)])) rfl (by rw [hml]; rfl) (Steps.refl _) (a := b29) (argsL := [(.ref b22)]) (rest := [(.ref b29)]) (lenOf pd_rm1_0 rfl) rfl (by show 2 * 0 + _ ≤ _; exact Nat.le_of_eq rfl) (hb hby d1_64) (fun _ _ => ⟨rfl, e29, (by decide : 2 + 1 ≤ _), (by decide : 6 + 2 ≤ _)⟩)
        dsimp only [Pt.U, Pt.locs, Pt.cells, Pt.slots] at X32 l32 y32 z32 st32 hQ32
        subst l32 y32 z32
        obtain ⟨u33, u34, rfl, Nq32, Kc32, f32_0, f32_1, f32_2, f32_3, f32_4⟩ := hQ32
        have N32 := Fr.app N28 Nq32
        have ne_b22_u33 : b22 ≠ u33 := Nat.ne_of_lt (Nat.lt_of_lt_of_le c31.lt f32_4)
        have ne_b29_u33 : b29 ≠ u33 := Nat.ne_of_lt (Nat.lt_of_lt_of_le A29.lt f32_4)
        have g_u33 : n0 ≤ u33 := Nat.le_trans (Nat.le_of_eq O29.1.symm) (Nat.le_trans O29.2.1 f32_4)
        have sz_u33 : h0.size ≤ u33 := Nat.le_trans K29.1 f32_4
        have K32 : Keep h0 T32.heap [] := K29.trans Kc32 (allS (Or.inr sz_b29) all0)
        have O32 := O29.keep Kc32 (allS g_b29 all0)
        have hkk32 := Nat.le_trans hkk29 Kc32.1
        have s35 : Steps p.tables e below A₀ (T32.setTop (mkF m 67 #[.val (.int p0), .val (.int p1), .val (.int p2), .val (.ref b22)] [(.ref b29)])) := by
          refine s30.trans ?_
          show Steps p.tables e below (T29.setTop (mkF m 64 #[.val (.int p0), .val (.int p1), .val (.int p2), .val (.ref b22)] [(.ref b22), (.ref b29), (.ref b29)])) _
          refine st32.trans ?_
          exact Steps.refl _
        subst hA₀
        obtain ⟨fs, hr, hrun, hended, -, hW, hIn, hsame⟩ := X32.leaveW hS0 (by rw [(rfl : T32.heap = T32.heap)]; exact hkk32) (v := some (.ref b29)) (fun h => by rw [Bd.returns] at h; cases h)
        refine ⟨_, _, s35.trans ?_, hrun, hended, _, _, rfl, ?_, ⟨_, rfl⟩, hW, hIn, hsame.mono (by decide) (by decide)⟩
        · show Steps p.tables e below (T32.setTop (mkF m 67 #[.val (.int p0), .val (.int p1), .val (.int p2), .val (.ref b22)] [(.ref b29)])) _
          jvm_step X32.here [X32.here.top, hx, (hb hby d1_67), X32.method', Bd.returns, Value.isRef, FieldType.isReference]
          first | (intro acts; rw [hr _ acts rfl rfl rfl]) | rw [hr _ _ rfl rfl rfl]
          exact Steps.refl _
        · refine ⟨?_, ?_⟩
          · show Q1 Z p0 p1 p2 wc h0 n0 _ T32.heap _
            exact ⟨(.ref b29), rfl, N32, K32, rfl, (Or.inr ⟨hc2, _, rfl⟩)⟩
          · show own_R Z T32.heap T32.vm
            exact own_R_warm X32.warmed (own_R_keep hR K32)
theorem pd_rm0_0 : parseMethodDescriptor "(III)Ljava/lang/String;" = some ⟨[.int, .int, .int], some (.object "java/lang/String")⟩ := by decide +kernel
theorem pd_rm0_1 : parseMethodDescriptor "(Ljava/lang/String;Ljava/lang/String;Ljava/lang/String;)V" = some ⟨[(.object "java/lang/String"), (.object "java/lang/String"), (.object "java/lang/String")], none⟩ := by decide +kernel
theorem pd_rm0_2 : parseMethodDescriptor "()Z" = some ⟨[], some .boolean⟩ := by decide +kernel
theorem ef_rm0 (m : MethodId) (p0 : Int32) (p1 : Int32) (p2 : Int32) (p3 : Int32) : entryFrame m #[(.int p0), (.int p1), (.int p2), (.int p3)] maxLocals = mkF m 0 #[.val (.int p0), .val (.int p1), .val (.int p2), .val (.int p3), .unset, .unset, .unset, .unset, .unset, .unset] [] := by first | (simp [entryFrame, mkF, argsToLocals, Value.category, maxLocals]; done) | rfl
def Q0 (Z : State) (p0 : Int32) (p1 : Int32) (p2 : Int32) (p3 : Int32) (wc : Int32) (h0 : Heap) (n0 : Nat) (v : Option Value) (h : Heap) (L : List Loc) : Prop := v = some (.int (1 : Int32)) ∧ Fr n0 L
set_option maxRecDepth 65536 in
set_option maxHeartbeats 40000000 in
theorem rm0 (l : Launch) (Z : State) (a0 : Array Value) (hw : ∀ d ∈ tables_1, d.before a0 Z = true) (ws : List Jvm.Cond) (p0 : Int32) (p1 : Int32) (p2 : Int32) (p3 : Int32) (wc : Int32) (h0 : Heap) (n0 : Nat) (O0 : Old Z n0 h0) (F0_ : Sta Z Z.heap "java/lang/String" "COMPACT_STRINGS" "Z" (.int wc)) (hcs : ¬ (wc = (0 : Int32))) (hheld : Jvm.Lit.constHeld Z "java/lang/String" 7) (hcw : Jvm.Lit.compactW.before a0 Z = true) :
    MetFree l x (head1 (Jvm.Cond.code x code maxLocals ret :: ws) room_1) (fun a U => a = #[(.int p0), (.int p1), (.int p2), (.int p3)] ∧ Z.Warmed39 U.vm ∧ U.heap = h0 ∧ own_R Z h0 U.vm) (fun _ _ _ _ _ => True) (fun _ U o U' => ∃ v L, o = .returned v ∧ Q0 Z p0 p1 p2 p3 wc h0 n0 v U'.heap L ∧ ReturnedEndW U o U' L room_1.cells room_1.slots) := by
  refine MetFree.of_bodySF (plainFor_of_name pn_1) hisR ?_
  intro p e s m args below meth c s₁ Bd hml0 hP hK
  obtain ⟨rfl, hZ, hh, hR⟩ := hP
  have hx := Bd.exec
  have hby := Bd.bytes
  have hml : c.maxLocals = 10 := hml0
  have hown : s.vm.findClass "com/example/lintel/lintel/model/TemplatePartIsVariablePinLaw" = some m.cls := findClass_of_methodNamed Bd.named
  have hnm := (name_of_methodNamed Bd.named Bd.method).1
  have X0 : Stand p l e room_1 (s.setVm s.vm) m #[(.int p0), (.int p1), (.int p2), (.int p3)] below meth c s₁ [] 0 0 := Stand.of_body Bd
  have e0 : s₁.heap = h0 := by rw [← hh, Bd.state]; rfl
  have N0 := Fr.nil n0
  have hS0 : s.Since s.vm s.heap.size := (State.WarmedH.refl s).since _
  have hk0 : s.heap.size ≤ h0.size := Nat.le_of_eq (congrArg Array.size hh)
  have s0 : Steps p.tables e below (s₁.setTop (entryFrame m #[(.int p0), (.int p1), (.int p2), (.int p3)] maxLocals)) (s₁.setTop (mkF m 0 #[.val (.int p0), .val (.int p1), .val (.int p2), .val (.int p3), .unset, .unset, .unset, .unset, .unset, .unset] [])) := castTop (ef_rm0 m p0 p1 p2 p3) (Steps.refl _)
  obtain ⟨A₀, hA₀⟩ : ∃ z, z = (s₁.setTop (entryFrame m #[(.int p0), (.int p1), (.int p2), (.int p3)] maxLocals)) := ⟨_, rfl⟩
  rw [← hA₀] at s0
  have s1 : Steps p.tables e below A₀ (s₁.setTop (mkF m 12 #[.val (.int p0), .val (.int p1), .val (.int p2), .val (.int p3), .val (.int (((p0.toUInt32 >>> ((2 : Int32) &&& 31).toUInt32).toInt32) &&& (3 : Int32))), .unset, .unset, .unset, .unset, .unset] [(.int p2), (.int p1), (.int (p0 &&& (3 : Int32)))])) := by
    refine s0.trans ?_
    refine XS.iloadN X0.here hx rfl (hb hby at_0) rfl ?_
    show Steps p.tables e below (s₁.setTop (mkF m 1 #[.val (.int p0), .val (.int p1), .val (.int p2), .val (.int p3), .unset, .unset, .unset, .unset, .unset, .unset] [(.int p0)])) _
    refine XS.iconst X0.here hx rfl (hb hby at_1) ?_
    refine XS.iushr X0.here hx rfl (hb hby at_2) rfl ?_
    refine XS.iconst X0.here hx rfl (hb hby at_3) ?_
    refine XS.iand X0.here hx rfl (hb hby at_4) rfl ?_
    refine XS.istore X0.here hx rfl (hb hby at_5) rfl (l' := #[.val (.int p0), .val (.int p1), .val (.int p2), .val (.int p3), .val (.int (((p0.toUInt32 >>> ((2 : Int32) &&& 31).toUInt32).toInt32) &&& (3 : Int32))), .unset, .unset, .unset, .unset, .unset]) rfl ?_
    refine XS.iloadN X0.here hx rfl (hb hby at_7) rfl ?_
    show Steps p.tables e below (s₁.setTop (mkF m 8 #[.val (.int p0), .val (.int p1), .val (.int p2), .val (.int p3), .val (.int (((p0.toUInt32 >>> ((2 : Int32) &&& 31).toUInt32).toInt32) &&& (3 : Int32))), .unset, .unset, .unset, .unset, .unset] [(.int p0)])) _
    refine XS.iconst X0.here hx rfl (hb hby at_8) ?_
    refine XS.iand X0.here hx rfl (hb hby at_9) rfl ?_
    refine XS.iloadN X0.here hx rfl (hb hby at_10) rfl ?_
    refine XS.iloadN X0.here hx rfl (hb hby at_11) rfl ?_
    exact Steps.refl _
  obtain ⟨_, _, ⟨T2, L2, k2, n2⟩, -, Xa2, hSa2, hga2, ⟨Lc2, hQ2, hR2, l2, y2, z2⟩, st2⟩ := callSS X0 hx (y := (⟨"com/example/lintel/lintel/model/TemplatePartIsVariablePinLaw", "pick", "(III)Ljava/lang/String;"⟩ : MethodName)) hown (mvT hZ (hw _ (List.mem_of_getElem? (i := 0) rfl))) (mvT hZ (hw _ (List.mem_of_getElem? (i := 1) rfl))) (mvT hZ (hw _ (List.mem_of_getElem? (i := 2) rfl))) (mvT hZ (hw _ (List.mem_of_getElem? (i := 3) rfl))) (by decide) (own_backW (W := 0) (rm1 l Z a0 hw [] (p0 &&& (3 : Int32)) p1 p2 wc h0 n0 O0 F0_ hcs hheld hcw) hZ (hw _ (List.mem_of_getElem? (i := 3) rfl)) (hw _ (List.mem_of_getElem? (i := 2) rfl)) (by decide) (by decide)) (g := (mkF m 12 #[.val (.int p0), .val (.int p1), .val (.int p2), .val (.int p3), .val (.int (((p0.toUInt32 >>> ((2 : Int32) &&& 31).toUInt32).toInt32) &&& (3 : Int32))), .unset, .unset, .unset, .unset, .unset] [(.int p2), (.int p1), (.int (p0 &&& (3 : Int32)))])) rfl (by rw [hml]; rfl) (argsL := [(.int (p0 &&& (3 : Int32))), (.int p1), (.int p2)]) (rest := []) (lenOf pd_rm0_0 rfl) rfl (by show 2 * 0 + _ ≤ _; exact Nat.le_of_eq rfl) (hb hby at_12) (fun vm₁ hv => ⟨rfl, e0, own_R_warm hv hR, (by decide : 0 + 4 ≤ _), (by decide : 0 + 8 ≤ _)⟩)
  dsimp only [Pt.U, Pt.locs, Pt.cells, Pt.slots] at Xa2 hSa2 hga2 l2 y2 z2 st2 hQ2 hR2
  subst l2 y2 z2
  obtain ⟨X2, hS2, hZ2, hown2⟩ := rebS hS0 (by rw [e0]; exact hk0) Xa2 hSa2 hga2 hZ hown
  obtain ⟨u3, rfl, Nq2, Kc2, f2_0, f2_1⟩ := hQ2
  have N2 := Fr.app N0 Nq2
  have O2 := O0.keep Kc2 all0
  have s4 : Steps p.tables e below A₀ (T2.setTop (mkF m 21 #[.val (.int p0), .val (.int p1), .val (.int p2), .val (.int p3), .val (.int (((p0.toUInt32 >>> ((2 : Int32) &&& 31).toUInt32).toInt32) &&& (3 : Int32))), .val u3, .unset, .unset, .unset, .unset] [(.int p3), (.int p2), (.int (((p0.toUInt32 >>> ((2 : Int32) &&& 31).toUInt32).toInt32) &&& (3 : Int32)))])) := by
    refine s1.trans ?_
    show Steps p.tables e below (s₁.setTop (mkF m 12 #[.val (.int p0), .val (.int p1), .val (.int p2), .val (.int p3), .val (.int (((p0.toUInt32 >>> ((2 : Int32) &&& 31).toUInt32).toInt32) &&& (3 : Int32))), .unset, .unset, .unset, .unset, .unset] [(.int p2), (.int p1), (.int (p0 &&& (3 : Int32)))])) _
    refine st2.trans ?_
    refine XS.astore X2.here hx rfl (hb hby at_15) rfl f2_0 (l' := #[.val (.int p0), .val (.int p1), .val (.int p2), .val (.int p3), .val (.int (((p0.toUInt32 >>> ((2 : Int32) &&& 31).toUInt32).toInt32) &&& (3 : Int32))), .val u3, .unset, .unset, .unset, .unset]) (by exact XS.store1 (o := .unset) rfl (Or.inl rfl) (catV f2_0)) ?_
    refine XS.iload X2.here hx rfl (hb hby at_17) rfl ?_
    refine XS.iloadN X2.here hx rfl (hb hby at_19) rfl ?_
    refine XS.iloadN X2.here hx rfl (hb hby at_20) rfl ?_
    exact Steps.refl _
  obtain ⟨_, _, ⟨T5, L5, k5, n5⟩, -, Xa5, hSa5, hga5, ⟨Lc5, hQ5, hR5, l5, y5, z5⟩, st5⟩ := callSS X2 hx (y := (⟨"com/example/lintel/lintel/model/TemplatePartIsVariablePinLaw", "pick", "(III)Ljava/lang/String;"⟩ : MethodName)) hown2 (mvT hZ2 (hw _ (List.mem_of_getElem? (i := 0) rfl))) (mvT hZ2 (hw _ (List.mem_of_getElem? (i := 1) rfl))) (mvT hZ2 (hw _ (List.mem_of_getElem? (i := 2) rfl))) (mvT hZ2 (hw _ (List.mem_of_getElem? (i := 3) rfl))) (by decide) (own_backW (W := 0) (rm1 l Z a0 hw [] (((p0.toUInt32 >>> ((2 : Int32) &&& 31).toUInt32).toInt32) &&& (3 : Int32)) p2 p3 wc T2.heap n0 O2 F0_ hcs hheld hcw) hZ2 (hw _ (List.mem_of_getElem? (i := 3) rfl)) (hw _ (List.mem_of_getElem? (i := 2) rfl)) (by decide) (by decide)) (g := (mkF m 21 #[.val (.int p0), .val (.int p1), .val (.int p2), .val (.int p3), .val (.int (((p0.toUInt32 >>> ((2 : Int32) &&& 31).toUInt32).toInt32) &&& (3 : Int32))), .val u3, .unset, .unset, .unset, .unset] [(.int p3), (.int p2), (.int (((p0.toUInt32 >>> ((2 : Int32) &&& 31).toUInt32).toInt32) &&& (3 : Int32)))])) rfl (by rw [hml]; rfl) (argsL := [(.int (((p0.toUInt32 >>> ((2 : Int32) &&& 31).toUInt32).toInt32) &&& (3 : Int32))), (.int p2), (.int p3)]) (rest := []) (lenOf pd_rm0_0 rfl) rfl (by show 2 * 0 + _ ≤ _; exact Nat.le_of_eq rfl) (hb hby at_21) (fun vm₁ hv => ⟨rfl, (rfl : T2.heap = T2.heap), own_R_warm hv hR2, (by decide : 4 + 4 ≤ _), (by decide : 8 + 8 ≤ _)⟩)
  dsimp only [Pt.U, Pt.locs, Pt.cells, Pt.slots] at Xa5 hSa5 hga5 l5 y5 z5 st5 hQ5 hR5
  subst l5 y5 z5
  obtain ⟨X5, hS5, hZ5, hown5⟩ := rebS hS2 (by rw [(rfl : T2.heap = T2.heap)]; exact (Nat.le_refl T2.heap.size)) Xa5 hSa5 hga5 hZ2 hown2
  obtain ⟨u6, rfl, Nq5, Kc5, f5_0, f5_1⟩ := hQ5
  have N5 := Fr.app N2 Nq5
  have O5 := O2.keep Kc5 all0
  have s7 : Steps p.tables e below A₀ (T5.setTop (mkF m 33 #[.val (.int p0), .val (.int p1), .val (.int p2), .val (.int p3), .val (.int (((p0.toUInt32 >>> ((2 : Int32) &&& 31).toUInt32).toInt32) &&& (3 : Int32))), .val u3, .val u6, .unset, .unset, .unset] [(.int p1), (.int p3), (.int (((p0.toUInt32 >>> ((4 : Int32) &&& 31).toUInt32).toInt32) &&& (3 : Int32)))])) := by
    refine s4.trans ?_
    show Steps p.tables e below (T2.setTop (mkF m 21 #[.val (.int p0), .val (.int p1), .val (.int p2), .val (.int p3), .val (.int (((p0.toUInt32 >>> ((2 : Int32) &&& 31).toUInt32).toInt32) &&& (3 : Int32))), .val u3, .unset, .unset, .unset, .unset] [(.int p3), (.int p2), (.int (((p0.toUInt32 >>> ((2 : Int32) &&& 31).toUInt32).toInt32) &&& (3 : Int32)))])) _
    refine st5.trans ?_
    refine XS.astore X5.here hx rfl (hb hby at_24) rfl f5_0 (l' := #[.val (.int p0), .val (.int p1), .val (.int p2), .val (.int p3), .val (.int (((p0.toUInt32 >>> ((2 : Int32) &&& 31).toUInt32).toInt32) &&& (3 : Int32))), .val u3, .val u6, .unset, .unset, .unset]) (by exact XS.store1 (o := .unset) rfl (Or.inl rfl) (catV f5_0)) ?_
    refine XS.iloadN X5.here hx rfl (hb hby at_26) rfl ?_
    refine XS.iconst X5.here hx rfl (hb hby at_27) ?_
    refine XS.iushr X5.here hx rfl (hb hby at_28) rfl ?_
    refine XS.iconst X5.here hx rfl (hb hby at_29) ?_
    show Steps p.tables e below (T5.setTop (mkF m 30 #[.val (.int p0), .val (.int p1), .val (.int p2), .val (.int p3), .val (.int (((p0.toUInt32 >>> ((2 : Int32) &&& 31).toUInt32).toInt32) &&& (3 : Int32))), .val u3, .val u6, .unset, .unset, .unset] [(.int (3 : Int32)), (.int ((p0.toUInt32 >>> ((4 : Int32) &&& 31).toUInt32).toInt32))])) _
    refine XS.iand X5.here hx rfl (hb hby at_30) rfl ?_
    refine XS.iloadN X5.here hx rfl (hb hby at_31) rfl ?_
    refine XS.iloadN X5.here hx rfl (hb hby at_32) rfl ?_
    exact Steps.refl _
  obtain ⟨_, _, ⟨T8, L8, k8, n8⟩, -, Xa8, hSa8, hga8, ⟨Lc8, hQ8, hR8, l8, y8, z8⟩, st8⟩ := callSS X5 hx (y := (⟨"com/example/lintel/lintel/model/TemplatePartIsVariablePinLaw", "pick", "(III)Ljava/lang/String;"⟩ : MethodName)) hown5 (mvT hZ5 (hw _ (List.mem_of_getElem? (i := 0) rfl))) (mvT hZ5 (hw _ (List.mem_of_getElem? (i := 1) rfl))) (mvT hZ5 (hw _ (List.mem_of_getElem? (i := 2) rfl))) (mvT hZ5 (hw _ (List.mem_of_getElem? (i := 3) rfl))) (by decide) (own_backW (W := 0) (rm1 l Z a0 hw [] (((p0.toUInt32 >>> ((4 : Int32) &&& 31).toUInt32).toInt32) &&& (3 : Int32)) p3 p1 wc T5.heap n0 O5 F0_ hcs hheld hcw) hZ5 (hw _ (List.mem_of_getElem? (i := 3) rfl)) (hw _ (List.mem_of_getElem? (i := 2) rfl)) (by decide) (by decide)) (g := (mkF m 33 #[.val (.int p0), .val (.int p1), .val (.int p2), .val (.int p3), .val (.int (((p0.toUInt32 >>> ((2 : Int32) &&& 31).toUInt32).toInt32) &&& (3 : Int32))), .val u3, .val u6, .unset, .unset, .unset] [(.int p1), (.int p3), (.int (((p0.toUInt32 >>> ((4 : Int32) &&& 31).toUInt32).toInt32) &&& (3 : Int32)))])) rfl (by rw [hml]; rfl) (argsL := [(.int (((p0.toUInt32 >>> ((4 : Int32) &&& 31).toUInt32).toInt32) &&& (3 : Int32))), (.int p3), (.int p1)]) (rest := []) (lenOf pd_rm0_0 rfl) rfl (by show 2 * 0 + _ ≤ _; exact Nat.le_of_eq rfl) (hb hby at_33) (fun vm₁ hv => ⟨rfl, (rfl : T5.heap = T5.heap), own_R_warm hv hR5, (by decide : 8 + 4 ≤ _), (by decide : 16 + 8 ≤ _)⟩)
  dsimp only [Pt.U, Pt.locs, Pt.cells, Pt.slots] at Xa8 hSa8 hga8 l8 y8 z8 st8 hQ8 hR8
  subst l8 y8 z8
  obtain ⟨X8, hS8, hZ8, hown8⟩ := rebS hS5 (by rw [(rfl : T5.heap = T5.heap)]; exact (Nat.le_refl T5.heap.size)) Xa8 hSa8 hga8 hZ5 hown5
  obtain ⟨u9, rfl, Nq8, Kc8, f8_0, f8_1⟩ := hQ8
  have N8 := Fr.app N5 Nq8
  have O8 := O5.keep Kc8 all0
  have s10 : Steps p.tables e below A₀ (T8.setTop (mkF m 38 #[.val (.int p0), .val (.int p1), .val (.int p2), .val (.int p3), .val (.int (((p0.toUInt32 >>> ((2 : Int32) &&& 31).toUInt32).toInt32) &&& (3 : Int32))), .val u3, .val u6, .val u9, .unset, .unset] [])) := by
    refine s7.trans ?_
    show Steps p.tables e below (T5.setTop (mkF m 33 #[.val (.int p0), .val (.int p1), .val (.int p2), .val (.int p3), .val (.int (((p0.toUInt32 >>> ((2 : Int32) &&& 31).toUInt32).toInt32) &&& (3 : Int32))), .val u3, .val u6, .unset, .unset, .unset] [(.int p1), (.int p3), (.int (((p0.toUInt32 >>> ((4 : Int32) &&& 31).toUInt32).toInt32) &&& (3 : Int32)))])) _
    refine st8.trans ?_
    refine XS.astore X8.here hx rfl (hb hby at_36) rfl f8_0 (l' := #[.val (.int p0), .val (.int p1), .val (.int p2), .val (.int p3), .val (.int (((p0.toUInt32 >>> ((2 : Int32) &&& 31).toUInt32).toInt32) &&& (3 : Int32))), .val u3, .val u6, .val u9, .unset, .unset]) (by exact XS.store1 (o := .unset) rfl (Or.inl rfl) (catV f8_0)) ?_
    exact Steps.refl _
  rcases f5_1 with ⟨hk1, hk2⟩ | ⟨hk1, xn, hk2⟩
  · have s11 := s10
    rw [hk2] at s11
    obtain ⟨T12, h12, X12, e12, E12, A12, D12, -, st12⟩ := newO X8 hx hZ8 hown8 (hw _ (List.mem_of_getElem? (i := 4) rfl)) (hw _ (List.mem_of_getElem? (i := 5) rfl)) (hw _ (List.mem_of_getElem? (i := 6) rfl)) (rfl : T8.heap = T8.heap) (g := (mkF m 38 #[.val (.int p0), .val (.int p1), .val (.int p2), .val (.int p3), .val (.int (((p0.toUInt32 >>> ((2 : Int32) &&& 31).toUInt32).toInt32) &&& (3 : Int32))), .val u3, .val .null, .val u9, .unset, .unset] [])) rfl (hb hby at_38) (by decide) (by decide)
    obtain ⟨b12, g12⟩ : ∃ z, z = T8.heap.size := ⟨_, rfl⟩
    rw [← g12] at A12 D12 st12
    have g_b12 : n0 ≤ b12 := Nat.le_trans (Nat.le_of_eq O8.1.symm) (Nat.le_trans O8.2.1 (Nat.le_of_eq g12.symm))
    have O12 := O8.ext E12
    have hkk12 := Nat.le_trans (Nat.le_refl T8.heap.size) E12.1
    have F12_text : Fld Z h12 b12 "com/example/lintel/lintel/model/TemplatePart" "text" "Ljava/lang/String;" .null := D12 (Or.inr (hw _ (List.mem_of_getElem? (i := 19) rfl))) (ty := (.object "java/lang/String")) (by decide)
    have F12_name : Fld Z h12 b12 "com/example/lintel/lintel/model/TemplatePart" "name" "Ljava/lang/String;" .null := D12 (Or.inr (hw _ (List.mem_of_getElem? (i := 21) rfl))) (ty := (.object "java/lang/String")) (by decide)
    have F12_expression : Fld Z h12 b12 "com/example/lintel/lintel/model/TemplatePart" "expression" "Ljava/lang/String;" .null := D12 (Or.inr (hw _ (List.mem_of_getElem? (i := 23) rfl))) (ty := (.object "java/lang/String")) (by decide)
    have s13 : Steps p.tables e below A₀ (T12.setTop (mkF m 48 #[.val (.int p0), .val (.int p1), .val (.int p2), .val (.int p3), .val (.int (((p0.toUInt32 >>> ((2 : Int32) &&& 31).toUInt32).toInt32) &&& (3 : Int32))), .val u3, .val .null, .val u9, .unset, .unset] [u9, .null, u3, (.ref b12), (.ref b12)])) := by
      refine s11.trans ?_
      refine st12 _ ?_
      show Steps p.tables e below (T12.setTop (mkF m 41 #[.val (.int p0), .val (.int p1), .val (.int p2), .val (.int p3), .val (.int (((p0.toUInt32 >>> ((2 : Int32) &&& 31).toUInt32).toInt32) &&& (3 : Int32))), .val u3, .val .null, .val u9, .unset, .unset] [(.ref b12)])) _
      refine XS.dup X12.here hx rfl (hb hby at_41) rfl rfl ?_
      refine XS.aload X12.here hx rfl (hb hby at_42) rfl f2_0 ?_
      refine XS.aload X12.here hx rfl (hb hby at_44) rfl rfl ?_
      refine XS.aload X12.here hx rfl (hb hby at_46) rfl f8_0 ?_
      exact Steps.refl _
    obtain ⟨_, _, ⟨T14, L14, k14, n14⟩, -, X14, ⟨Lc14, hQ14, l14, y14, z14⟩, st14⟩ := X12.specialBack hx (y := (⟨"com/example/lintel/lintel/model/TemplatePart", "<init>", "(Ljava/lang/String;Ljava/lang/String;Ljava/lang/String;)V"⟩ : MethodName)) rfl hown8 (mvT hZ8 (hw _ (List.mem_of_getElem? (i := 7) rfl))) (mvT hZ8 (hw _ (List.mem_of_getElem? (i := 8) rfl))) (mvT hZ8 (hw _ (List.mem_of_getElem? (i := 9) rfl))) (by decide) (backOf (W := 1) (rmi1 l Z a0 hw [] b12 u3 u9 h12 n0 O12 A12 F12_text F12_name F12_expression g_b12 f2_0 f8_0) hZ8 (hw _ (List.mem_of_getElem? (i := 9) rfl)) (hw _ (List.mem_of_getElem? (i := 6) rfl)) (by decide) (by decide)) (g := (mkF m 48 #[.val (.int p0), .val (.int p1), .val (.int p2), .val (.int p3), .val (.int (((p0.toUInt32 >>> ((2 : Int32) &&& 31).toUInt32).toInt32) &&& (3 : Int32))), .val u3, .val .null, .val u9, .unset, .unset] [u9, .null, u3, (.ref b12), (.ref b12)])) rfl (by rw [hml]; rfl) (Steps.refl _) (a := b12) (argsL := [u3, .null, u9]) (rest := [(.ref b12)]) (lenOf pd_rm0_1 rfl) rfl (by show 2 * 0 + _ ≤ _; exact Nat.le_of_eq rfl) (hb hby at_48) (fun _ _ => ⟨rfl, e12, (by decide : 13 + 0 ≤ _), (by decide : 27 + 0 ≤ _)⟩)
    dsimp only [Pt.U, Pt.locs, Pt.cells, Pt.slots] at X14 l14 y14 z14 st14 hQ14
    subst l14 y14 z14
    obtain ⟨rfl, Nq14, Kc14, f14_0, f14_1⟩ := hQ14
    have N14 := Fr.app N8 Nq14
    have O14 := O12.keep Kc14 (allS g_b12 all0)
    have hkk14 := Nat.le_trans hkk12 Kc14.1
    have s15 : Steps p.tables e below A₀ (T14.setTop (mkF m 67 #[.val (.int p0), .val (.int p1), .val (.int p2), .val (.int p3), .val (.int (((p0.toUInt32 >>> ((2 : Int32) &&& 31).toUInt32).toInt32) &&& (3 : Int32))), .val u3, .val .null, .val u9, .val (.ref b12), .val (.int (0 : Int32))] [(.ref b12)])) := by
      refine s13.trans ?_
      show Steps p.tables e below (T12.setTop (mkF m 48 #[.val (.int p0), .val (.int p1), .val (.int p2), .val (.int p3), .val (.int (((p0.toUInt32 >>> ((2 : Int32) &&& 31).toUInt32).toInt32) &&& (3 : Int32))), .val u3, .val .null, .val u9, .unset, .unset] [u9, .null, u3, (.ref b12), (.ref b12)])) _
      refine st14.trans ?_
      refine XS.astore X14.here hx rfl (hb hby at_51) rfl rfl (l' := #[.val (.int p0), .val (.int p1), .val (.int p2), .val (.int p3), .val (.int (((p0.toUInt32 >>> ((2 : Int32) &&& 31).toUInt32).toInt32) &&& (3 : Int32))), .val u3, .val .null, .val u9, .val (.ref b12), .unset]) rfl ?_
      refine XS.iload X14.here hx rfl (hb hby at_53) rfl ?_
      refine XS.ifYes X14.here hx rfl (pc0 := 55) (pc' := 62) rfl (hb hby at_55) rfl ((if0 _ _).trans (teq hk1).1) (by decide) (by decide) ?_
      refine XS.iconst X14.here hx rfl (hb hby at_62) ?_
      refine XS.istore X14.here hx rfl (hb hby at_63) rfl (l' := #[.val (.int p0), .val (.int p1), .val (.int p2), .val (.int p3), .val (.int (((p0.toUInt32 >>> ((2 : Int32) &&& 31).toUInt32).toInt32) &&& (3 : Int32))), .val u3, .val .null, .val u9, .val (.ref b12), .val (.int (0 : Int32))]) rfl ?_
      show Steps p.tables e below (T14.setTop (mkF m 65 #[.val (.int p0), .val (.int p1), .val (.int p2), .val (.int p3), .val (.int (((p0.toUInt32 >>> ((2 : Int32) &&& 31).toUInt32).toInt32) &&& (3 : Int32))), .val u3, .val .null, .val u9, .val (.ref b12), .val (.int (0 : Int32))] [])) _
      refine XS.aload X14.here hx rfl (hb hby at_65) rfl rfl ?_
      exact Steps.refl _
    obtain ⟨cq16, kq16, q16a, q16b, q16c⟩ := isOf hZ8 (rfl : T14.heap = T14.heap) f14_0
    obtain ⟨_, _, ⟨T16, L16, k16, n16⟩, -, X16, ⟨Lc16, hQ16, l16, y16, z16⟩, st16⟩ := X14.virtualBack hx (y := (⟨"com/example/lintel/lintel/model/TemplatePart", "isVariable", "()Z"⟩ : MethodName)) (z := (⟨"com/example/lintel/lintel/model/TemplatePart", "isVariable", "()Z"⟩ : MethodName)) hown8 (mvT hZ8 (hw _ (List.mem_of_getElem? (i := 24) rfl))) (mvT hZ8 (hw _ (List.mem_of_getElem? (i := 25) rfl))) (notFace_of_selects (args := #[]) (mvT hZ8 (hw _ (List.mem_of_getElem? (i := 27) rfl)))) (mvT hZ8 (hw _ (List.mem_of_getElem? (i := 27) rfl))) (mvT hZ8 (hw _ (List.mem_of_getElem? (i := 26) rfl))) (by decide) (backOf (W := 0) (rmv1 l Z a0 hw [] b12 T14.heap n0 O14 f14_1) hZ8 (hw _ (List.mem_of_getElem? (i := 28) rfl)) (hw _ (List.mem_of_getElem? (i := 6) rfl)) (by decide) (by decide)) q16a q16c (g := (mkF m 67 #[.val (.int p0), .val (.int p1), .val (.int p2), .val (.int p3), .val (.int (((p0.toUInt32 >>> ((2 : Int32) &&& 31).toUInt32).toInt32) &&& (3 : Int32))), .val u3, .val .null, .val u9, .val (.ref b12), .val (.int (0 : Int32))] [(.ref b12)])) rfl (by rw [hml]; rfl) (Steps.refl _) (argsL := []) (rest := []) (lenOf pd_rm0_2 rfl) rfl (by show 2 * 0 + _ ≤ _; exact Nat.le_of_eq rfl) (hb hby at_67) (fun _ _ => ⟨rfl, (rfl : T14.heap = T14.heap), (by decide : 13 + 0 ≤ _), (by decide : 27 + 0 ≤ _)⟩)
    dsimp only [Pt.U, Pt.locs, Pt.cells, Pt.slots] at X16 l16 y16 z16 st16 hQ16
    subst l16 y16 z16
    obtain ⟨rfl, Nq16, e16⟩ := hQ16
    have N16 := Fr.app N14 Nq16
    have s17 : Steps p.tables e below A₀ (T16.setTop (mkF m 80 #[.val (.int p0), .val (.int p1), .val (.int p2), .val (.int p3), .val (.int (((p0.toUInt32 >>> ((2 : Int32) &&& 31).toUInt32).toInt32) &&& (3 : Int32))), .val u3, .val .null, .val u9, .val (.ref b12), .val (.int (0 : Int32))] [(.int (1 : Int32))])) := by
      refine s15.trans ?_
      show Steps p.tables e below (T14.setTop (mkF m 67 #[.val (.int p0), .val (.int p1), .val (.int p2), .val (.int p3), .val (.int (((p0.toUInt32 >>> ((2 : Int32) &&& 31).toUInt32).toInt32) &&& (3 : Int32))), .val u3, .val .null, .val u9, .val (.ref b12), .val (.int (0 : Int32))] [(.ref b12)])) _
      refine st16.trans ?_
      refine XS.iload X16.here hx rfl (hb hby at_70) rfl ?_
      refine XS.icmpNo X16.here hx rfl (hb hby at_72) rfl (teq (by decide)).2 ?_
      refine XS.iconst X16.here hx rfl (hb hby at_75) ?_
      refine XS.goto X16.here hx rfl (pc0 := 76) (pc' := 80) rfl (hb hby at_76) (by decide) (by decide) ?_
      exact Steps.refl _
    subst hA₀
    obtain ⟨fs, hr, hrun, hended, -, hW, hIn, hsame⟩ := X16.leaveW hS8 (by rw [e16]; exact hkk14) (v := some (.int (1 : Int32))) (fun h => by rw [Bd.returns] at h; cases h)
    refine ⟨_, _, s17.trans ?_, hrun, hended, _, _, rfl, ?_, ⟨_, rfl⟩, hW, hIn, hsame.mono (by decide) (by decide)⟩
    · show Steps p.tables e below (T16.setTop (mkF m 80 #[.val (.int p0), .val (.int p1), .val (.int p2), .val (.int p3), .val (.int (((p0.toUInt32 >>> ((2 : Int32) &&& 31).toUInt32).toInt32) &&& (3 : Int32))), .val u3, .val .null, .val u9, .val (.ref b12), .val (.int (0 : Int32))] [(.int (1 : Int32))])) _
      exact retN X16 hx (t := .boolean) Bd.returns (by simp) (hb hby at_80) hr
    · show Q0 Z p0 p1 p2 p3 wc h0 n0 _ T16.heap _
      rw [e16]
      exact ⟨rfl, N16⟩
  · have s18 := s10
    rw [hk2] at s18
    obtain ⟨T19, h19, X19, e19, E19, A19, D19, -, st19⟩ := newO X8 hx hZ8 hown8 (hw _ (List.mem_of_getElem? (i := 4) rfl)) (hw _ (List.mem_of_getElem? (i := 5) rfl)) (hw _ (List.mem_of_getElem? (i := 6) rfl)) (rfl : T8.heap = T8.heap) (g := (mkF m 38 #[.val (.int p0), .val (.int p1), .val (.int p2), .val (.int p3), .val (.int (((p0.toUInt32 >>> ((2 : Int32) &&& 31).toUInt32).toInt32) &&& (3 : Int32))), .val u3, .val (.ref xn), .val u9, .unset, .unset] [])) rfl (hb hby at_38) (by decide) (by decide)
    obtain ⟨b19, g19⟩ : ∃ z, z = T8.heap.size := ⟨_, rfl⟩
    rw [← g19] at A19 D19 st19
    have g_b19 : n0 ≤ b19 := Nat.le_trans (Nat.le_of_eq O8.1.symm) (Nat.le_trans O8.2.1 (Nat.le_of_eq g19.symm))
    have O19 := O8.ext E19
    have hkk19 := Nat.le_trans (Nat.le_refl T8.heap.size) E19.1
    have F19_text : Fld Z h19 b19 "com/example/lintel/lintel/model/TemplatePart" "text" "Ljava/lang/String;" .null := D19 (Or.inr (hw _ (List.mem_of_getElem? (i := 19) rfl))) (ty := (.object "java/lang/String")) (by decide)
    have F19_name : Fld Z h19 b19 "com/example/lintel/lintel/model/TemplatePart" "name" "Ljava/lang/String;" .null := D19 (Or.inr (hw _ (List.mem_of_getElem? (i := 21) rfl))) (ty := (.object "java/lang/String")) (by decide)
    have F19_expression : Fld Z h19 b19 "com/example/lintel/lintel/model/TemplatePart" "expression" "Ljava/lang/String;" .null := D19 (Or.inr (hw _ (List.mem_of_getElem? (i := 23) rfl))) (ty := (.object "java/lang/String")) (by decide)
    have s20 : Steps p.tables e below A₀ (T19.setTop (mkF m 48 #[.val (.int p0), .val (.int p1), .val (.int p2), .val (.int p3), .val (.int (((p0.toUInt32 >>> ((2 : Int32) &&& 31).toUInt32).toInt32) &&& (3 : Int32))), .val u3, .val (.ref xn), .val u9, .unset, .unset] [u9, (.ref xn), u3, (.ref b19), (.ref b19)])) := by
      refine s18.trans ?_
      refine st19 _ ?_
      show Steps p.tables e below (T19.setTop (mkF m 41 #[.val (.int p0), .val (.int p1), .val (.int p2), .val (.int p3), .val (.int (((p0.toUInt32 >>> ((2 : Int32) &&& 31).toUInt32).toInt32) &&& (3 : Int32))), .val u3, .val (.ref xn), .val u9, .unset, .unset] [(.ref b19)])) _
      refine XS.dup X19.here hx rfl (hb hby at_41) rfl rfl ?_
      refine XS.aload X19.here hx rfl (hb hby at_42) rfl f2_0 ?_
      refine XS.aload X19.here hx rfl (hb hby at_44) rfl rfl ?_
      refine XS.aload X19.here hx rfl (hb hby at_46) rfl f8_0 ?_
      exact Steps.refl _
    obtain ⟨_, _, ⟨T21, L21, k21, n21⟩, -, X21, ⟨Lc21, hQ21, l21, y21, z21⟩, st21⟩ := X19.specialBack hx (y := (⟨"com/example/lintel/lintel/model/TemplatePart", "<init>", "(Ljava/lang/String;Ljava/lang/String;Ljava/lang/String;)V"⟩ : MethodName)) rfl hown8 (mvT hZ8 (hw _ (List.mem_of_getElem? (i := 7) rfl))) (mvT hZ8 (hw _ (List.mem_of_getElem? (i := 8) rfl))) (mvT hZ8 (hw _ (List.mem_of_getElem? (i := 9) rfl))) (by decide) (backOf (W := 1) (rmi0 l Z a0 hw [] b19 u3 xn u9 h19 n0 O19 A19 F19_text F19_name F19_expression g_b19 f2_0 f8_0) hZ8 (hw _ (List.mem_of_getElem? (i := 9) rfl)) (hw _ (List.mem_of_getElem? (i := 6) rfl)) (by decide) (by decide)) (g := (mkF m 48 #[.val (.int p0), .val (.int p1), .val (.int p2), .val (.int p3), .val (.int (((p0.toUInt32 >>> ((2 : Int32) &&& 31).toUInt32).toInt32) &&& (3 : Int32))), .val u3, .val (.ref xn), .val u9, .unset, .unset] [u9, (.ref xn), u3, (.ref b19), (.ref b19)])) rfl (by rw [hml]; rfl) (Steps.refl _) (a := b19) (argsL := [u3, (.ref xn), u9]) (rest := [(.ref b19)]) (lenOf pd_rm0_1 rfl) rfl (by show 2 * 0 + _ ≤ _; exact Nat.le_of_eq rfl) (hb hby at_48) (fun _ _ => ⟨rfl, e19, (by decide : 13 + 0 ≤ _), (by decide : 27 + 0 ≤ _)⟩)
    dsimp only [Pt.U, Pt.locs, Pt.cells, Pt.slots] at X21 l21 y21 z21 st21 hQ21
    subst l21 y21 z21
    obtain ⟨rfl, Nq21, Kc21, f21_0, f21_1⟩ := hQ21
    have N21 := Fr.app N8 Nq21
    have O21 := O19.keep Kc21 (allS g_b19 all0)
    have hkk21 := Nat.le_trans hkk19 Kc21.1
    have s22 : Steps p.tables e below A₀ (T21.setTop (mkF m 67 #[.val (.int p0), .val (.int p1), .val (.int p2), .val (.int p3), .val (.int (((p0.toUInt32 >>> ((2 : Int32) &&& 31).toUInt32).toInt32) &&& (3 : Int32))), .val u3, .val (.ref xn), .val u9, .val (.ref b19), .val (.int (1 : Int32))] [(.ref b19)])) := by
      refine s20.trans ?_
      show Steps p.tables e below (T19.setTop (mkF m 48 #[.val (.int p0), .val (.int p1), .val (.int p2), .val (.int p3), .val (.int (((p0.toUInt32 >>> ((2 : Int32) &&& 31).toUInt32).toInt32) &&& (3 : Int32))), .val u3, .val (.ref xn), .val u9, .unset, .unset] [u9, (.ref xn), u3, (.ref b19), (.ref b19)])) _
      refine st21.trans ?_
      refine XS.astore X21.here hx rfl (hb hby at_51) rfl rfl (l' := #[.val (.int p0), .val (.int p1), .val (.int p2), .val (.int p3), .val (.int (((p0.toUInt32 >>> ((2 : Int32) &&& 31).toUInt32).toInt32) &&& (3 : Int32))), .val u3, .val (.ref xn), .val u9, .val (.ref b19), .unset]) rfl ?_
      refine XS.iload X21.here hx rfl (hb hby at_53) rfl ?_
      refine XS.ifNo X21.here hx rfl (hb hby at_55) rfl ((if0 _ _).trans (feq hk1).1) ?_
      refine XS.iconst X21.here hx rfl (hb hby at_58) ?_
      refine XS.goto X21.here hx rfl (pc0 := 59) (pc' := 63) rfl (hb hby at_59) (by decide) (by decide) ?_
      show Steps p.tables e below (T21.setTop (mkF m 63 #[.val (.int p0), .val (.int p1), .val (.int p2), .val (.int p3), .val (.int (((p0.toUInt32 >>> ((2 : Int32) &&& 31).toUInt32).toInt32) &&& (3 : Int32))), .val u3, .val (.ref xn), .val u9, .val (.ref b19), .unset] [(.int (1 : Int32))])) _
      refine XS.istore X21.here hx rfl (hb hby at_63) rfl (l' := #[.val (.int p0), .val (.int p1), .val (.int p2), .val (.int p3), .val (.int (((p0.toUInt32 >>> ((2 : Int32) &&& 31).toUInt32).toInt32) &&& (3 : Int32))), .val u3, .val (.ref xn), .val u9, .val (.ref b19), .val (.int (1 : Int32))]) rfl ?_
      refine XS.aload X21.here hx rfl (hb hby at_65) rfl rfl ?_
      exact Steps.refl _
    obtain ⟨cq23, kq23, q23a, q23b, q23c⟩ := isOf hZ8 (rfl : T21.heap = T21.heap) f21_0
    obtain ⟨_, _, ⟨T23, L23, k23, n23⟩, -, X23, ⟨Lc23, hQ23, l23, y23, z23⟩, st23⟩ := X21.virtualBack hx (y := (⟨"com/example/lintel/lintel/model/TemplatePart", "isVariable", "()Z"⟩ : MethodName)) (z := (⟨"com/example/lintel/lintel/model/TemplatePart", "isVariable", "()Z"⟩ : MethodName)) hown8 (mvT hZ8 (hw _ (List.mem_of_getElem? (i := 24) rfl))) (mvT hZ8 (hw _ (List.mem_of_getElem? (i := 25) rfl))) (notFace_of_selects (args := #[]) (mvT hZ8 (hw _ (List.mem_of_getElem? (i := 27) rfl)))) (mvT hZ8 (hw _ (List.mem_of_getElem? (i := 27) rfl))) (mvT hZ8 (hw _ (List.mem_of_getElem? (i := 26) rfl))) (by decide) (backOf (W := 0) (rmv0 l Z a0 hw [] b19 xn T21.heap n0 O21 f21_1) hZ8 (hw _ (List.mem_of_getElem? (i := 28) rfl)) (hw _ (List.mem_of_getElem? (i := 6) rfl)) (by decide) (by decide)) q23a q23c (g := (mkF m 67 #[.val (.int p0), .val (.int p1), .val (.int p2), .val (.int p3), .val (.int (((p0.toUInt32 >>> ((2 : Int32) &&& 31).toUInt32).toInt32) &&& (3 : Int32))), .val u3, .val (.ref xn), .val u9, .val (.ref b19), .val (.int (1 : Int32))] [(.ref b19)])) rfl (by rw [hml]; rfl) (Steps.refl _) (argsL := []) (rest := []) (lenOf pd_rm0_2 rfl) rfl (by show 2 * 0 + _ ≤ _; exact Nat.le_of_eq rfl) (hb hby at_67) (fun _ _ => ⟨rfl, (rfl : T21.heap = T21.heap), (by decide : 13 + 0 ≤ _), (by decide : 27 + 0 ≤ _)⟩)
    dsimp only [Pt.U, Pt.locs, Pt.cells, Pt.slots] at X23 l23 y23 z23 st23 hQ23
    subst l23 y23 z23
    obtain ⟨rfl, Nq23, e23⟩ := hQ23
    have N23 := Fr.app N21 Nq23
    have s24 : Steps p.tables e below A₀ (T23.setTop (mkF m 80 #[.val (.int p0), .val (.int p1), .val (.int p2), .val (.int p3), .val (.int (((p0.toUInt32 >>> ((2 : Int32) &&& 31).toUInt32).toInt32) &&& (3 : Int32))), .val u3, .val (.ref xn), .val u9, .val (.ref b19), .val (.int (1 : Int32))] [(.int (1 : Int32))])) := by
      refine s22.trans ?_
      show Steps p.tables e below (T21.setTop (mkF m 67 #[.val (.int p0), .val (.int p1), .val (.int p2), .val (.int p3), .val (.int (((p0.toUInt32 >>> ((2 : Int32) &&& 31).toUInt32).toInt32) &&& (3 : Int32))), .val u3, .val (.ref xn), .val u9, .val (.ref b19), .val (.int (1 : Int32))] [(.ref b19)])) _
      refine st23.trans ?_
      refine XS.iload X23.here hx rfl (hb hby at_70) rfl ?_
      refine XS.icmpNo X23.here hx rfl (hb hby at_72) rfl (teq (by decide)).2 ?_
      refine XS.iconst X23.here hx rfl (hb hby at_75) ?_
      refine XS.goto X23.here hx rfl (pc0 := 76) (pc' := 80) rfl (hb hby at_76) (by decide) (by decide) ?_
      exact Steps.refl _
    subst hA₀
    obtain ⟨fs, hr, hrun, hended, -, hW, hIn, hsame⟩ := X23.leaveW hS8 (by rw [e23]; exact hkk21) (v := some (.int (1 : Int32))) (fun h => by rw [Bd.returns] at h; cases h)
    refine ⟨_, _, s24.trans ?_, hrun, hended, _, _, rfl, ?_, ⟨_, rfl⟩, hW, hIn, hsame.mono (by decide) (by decide)⟩
    · show Steps p.tables e below (T23.setTop (mkF m 80 #[.val (.int p0), .val (.int p1), .val (.int p2), .val (.int p3), .val (.int (((p0.toUInt32 >>> ((2 : Int32) &&& 31).toUInt32).toInt32) &&& (3 : Int32))), .val u3, .val (.ref xn), .val u9, .val (.ref b19), .val (.int (1 : Int32))] [(.int (1 : Int32))])) _
      exact retN X23 hx (t := .boolean) Bd.returns (by simp) (hb hby at_80) hr
    · show Q0 Z p0 p1 p2 p3 wc h0 n0 _ T23.heap _
      rw [e23]
      exact ⟨rfl, N23⟩
set_option maxRecDepth 65536 in
set_option maxHeartbeats 40000000 in
theorem comes_1 {Post : Tables → Env → Array Value → State → Outcome → State → Prop} (hpost : ∀ tb e args s v u, (limb_1_1.after args s (.returned v) u = true ∧ limb_1_2.after args s (.returned v) u = true ∧ True) → ReturnedEndW s (.returned v) u (Jvm.fieldLocs frame_1_writes args s ++ Jvm.arrayLocs frame_1_arrays args s ++ Jvm.staticLocs frame_1_statics s) 32 1152 → Post tb e args s (.returned v) u) :
    ArmFor flags0 classFile x code maxLocals ret World_1 tables_1 room_1 Calls_1 rest_1 Pre_1 Post := by
  intro l hfl _ _ p e ha hc hk s m args below hf hA hF happ hP
  obtain ⟨hcalls, hrest, hpre⟩ := hP
  obtain ⟨-, -, -, hnamed, -, -, -, hat⟩ := (Spec.applies_iff hf).mp happ
  obtain ⟨hg, hn⟩ := and_e (Cond.before_iff.mp (show (Jvm.Cond.and given_1 narrow_1).before args s = true from hpre))
  obtain ⟨gc, gk0⟩ := and_e hg
  obtain ⟨ga0, gk1⟩ := and_e gk0
  obtain ⟨ga1, gk2⟩ := and_e gk1
  obtain ⟨ga2, gk3⟩ := and_e gk2
  obtain ⟨w0, w1, w2, w3, rfl⟩ : ∃ w0 w1 w2 w3 : Value, args = #[w0, w1, w2, w3] := by
    have hs : args.size = 4 := by simpa [Cond.value, given_1] using gc
    obtain ⟨L⟩ := args
    match L, hs with
    | [w0, w1, w2, w3], _ => exact ⟨w0, w1, w2, w3, rfl⟩
  have hw := fun d (hd : d ∈ tables_1) => atoms_spec (ws := Jvm.Cond.code x code maxLocals ret :: tables_1) hat d (List.mem_cons_of_mem _ hd)
  have hfit : Fit s := fun {y c} hc i hi => by
    obtain ⟨ha, rfl⟩ := Array.getElem?_eq_some_iff.mp hc
    have q := List.all_eq_true.mp ((Array.all_eq_true_iff_forall_mem.mp hF) _ (Array.getElem_mem ha)) i (List.mem_range.mpr hi)
    simpa [Array.getElem?_eq_getElem hi] using q
  obtain ⟨hsets, hown0⟩ := atoms_of _ (rest_1_c_eq ▸ (show rest_1_c.before _ s = true from hrest))
  have hr0 := Cond.before_iff.mp hown0
  obtain ⟨i0, ei0⟩ := is_v ga0
  obtain rfl : w0 = (.int i0) := Option.some.inj ei0
  obtain ⟨i1, ei1⟩ := is_v ga1
  obtain rfl : w1 = (.int i1) := Option.some.inj ei1
  obtain ⟨i2, ei2⟩ := is_v ga2
  obtain rfl : w2 = (.int i2) := Option.some.inj ei2
  obtain ⟨i3, ei3⟩ := is_v gk3
  obtain rfl : w3 = (.int i3) := Option.some.inj ei3
  obtain ⟨wc, ewc⟩ := is_v (Cond.before_iff.mp (hsets _ (List.mem_of_getElem? (i := 1) rfl)))
  have Sc := Sta.start ewc (Or.inl (hsets _ (List.mem_of_getElem? (i := 0) rfl)))
  have hcs : ¬ (wc = (0 : Int32)) := gotF (Cond.eq_ints ewc (Term.int_eval 0)) (not_v (r := true) (Cond.before_iff.mp (hsets _ (List.mem_of_getElem? (i := 2) rfl))))
  have hheld : Jvm.Lit.constHeld s "java/lang/String" 7 := hcalls.1 ("java/lang/String", 7) (List.mem_of_getElem? (i := 0) rfl)
  have hcw := hsets _ (List.mem_of_getElem? (i := 2) rfl)
  obtain ⟨n, o, h1, h2, h3, _, L, rfl, ⟨rfl, N⟩, hq⟩ := rm0 l s _ hw tables_1 i0 i1 i2 i3 wc s.heap s.heap.size (Old.start s) Sc hcs hheld hcw p e ha hc hk s m _ below hf ((Spec.applies_iff_loose hf).mp happ).1 ⟨rfl, State.Warmed39.refl s, rfl, Or.inl IB.start⟩ trivial
  refine ⟨n, _, h1, h2, h3, hpost _ _ _ _ _ _ ⟨Cond.after_iff.mpr rfl, Cond.after_iff.mpr (eq_i res_at (Term.int_eval (1)) rfl), trivial⟩ ⟨hq.1, hq.2.1, hq.2.2.1, (hq.2.2.2.sift fun y hy => Or.inr (N y hy)).mono (by decide) (by decide)⟩⟩
theorem main_1_1 : Claimed_1_1 := comes_1 fun _ _ _ _ _ _ h hF => ⟨h.1, hF⟩
theorem main_1_2 : Claimed_1_2 := comes_1 fun _ _ _ _ _ _ h hF => ⟨h.2.1, hF⟩
end Jvm.Pilot.@@N@@
namespace Jvm.Pilot.@@N@@
open Jvm Jvm.ClassFile Sem Op Lib Jvm.Free Jvm.Stand Jvm.Pilot.@@N@@.Jvm.D
/-! MADE BY PROGRAM (witnessworld.py) out of the Statement's table words and the real class files: 21 classes; the members and pool entries that the words name. The judged class is class 1, her method 1. -/
namespace start1
open Jvm.ClassFile
def u (s : String) : CpInfo := .utf8 (stringToUtf16 s)
/-- a pool by its gaps: so many unusable entries, then the entry; so many at the end -/
def gap : Nat → List CpInfo → List CpInfo
  | 0, r => r
  | n + 1, r => .unusable :: gap n r
def poolList (es : List (Nat × CpInfo)) (last : Nat) : List CpInfo := es.foldr (fun e r => gap e.1 (e.2 :: r)) (gap last [])
def pool (es : List (Nat × CpInfo)) (last : Nat) : Array CpInfo := ⟨poolList es last⟩
def fileOf (pool : Array CpInfo) (this : Nat) (attrs : Array Attribute := #[]) (ms : Array MethodInfo := #[]) (fl : Nat := 33) (sup : Nat := 0) (ifs : Array Nat := #[]) (fds : Array FieldInfo := #[]) : ClassFile where
  minorVersion := 0
  majorVersion := 65
  constantPool := pool
  accessFlags := fl
  thisClass := this
  superClass := sup
  interfaces := ifs
  fields := fds
  methods := ms
  attributes := attrs
def plain (name : String) (sup : Option ClassId) : Class where
  name := name
  kind := .ordinary
  loader := none
  accessFlags := 33
  super := sup
  interfaces := #[]
  cf := none
  fields := #[]
  methods := #[]
  instanceTypes := #[]
  staticTypes := #[]
  resolved := #[]
  callSites := []
  init := .initialized
  statics := none
  mirror := none

def pool0 : Array CpInfo := pool [(5, u "<init>"), (0, u "()V"), (1, .class_ 10), (1, u "java/lang/Object")] 113

def k0c0 : Code := { maxStack := 0, maxLocals := 1, code := object_method_1_code, exceptionTable := #[], attributes := #[] }
def k0m0 : Method := { name := "<init>", desc := "()V", sig := { parameters := [], returnType := none }, accessFlags := 1, code := some k0c0 }
/-- java/lang/Object -/
def k0 : Class := { plain "java/lang/Object" none with
  accessFlags := 33
  interfaces := #[]
  cf := some (fileOf pool0 8 #[] #[{ accessFlags := 1, nameIndex := 5, descriptorIndex := 6, attributes := #[] }] 33 0 #[] #[])
  fields := #[]
  methods := #[k0m0]
  instanceTypes := #[]
  staticTypes := #[]
  resolved := Array.replicate 124 none
  statics := none }

def pool1 : Array CpInfo := pool [(2, .class_ 4), (1, u "java/lang/Object"), (0, u "<init>"), (0, u "()V"), (0, .methodref 8 9), (0, .class_ 10), (0, .nameAndType 11 12), (0, u "com/example/lintel/lintel/model/TemplatePartIsVariablePinLaw"), (0, u "pick"), (0, u "(III)Ljava/lang/String;"), (0, .class_ 14), (0, u "com/example/lintel/lintel/model/TemplatePart"), (0, .methodref 13 16), (0, .nameAndType 5 17), (0, u "(Ljava/lang/String;Ljava/lang/String;Ljava/lang/String;)V"), (0, .methodref 13 19), (0, .nameAndType 20 21), (0, u "isVariable"), (0, u "()Z"), (0, .class_ 23), (0, u "java/lang/String"), (0, .methodref 22 25), (0, .nameAndType 5 26), (0, u "([C)V"), (0, .methodref 22 28), (0, .nameAndType 29 30), (0, u "valueOf"), (0, u "(C)Ljava/lang/String;"), (2, u "law"), (0, u "(IIII)Z")] 3

def k1m0 : Method := { name := "<init>", desc := "()V", sig := { parameters := [], returnType := none }, accessFlags := 1, code := none }
def k1c1 : Code := { maxStack := 5, maxLocals := 10, code := code, exceptionTable := #[], attributes := #[] }
def k1m1 : Method := { name := "law", desc := "(IIII)Z", sig := { parameters := [.int, .int, .int, .int], returnType := some .boolean }, accessFlags := 9, code := some k1c1 }
def k1c2 : Code := { maxStack := 4, maxLocals := 4, code := method_3_code, exceptionTable := #[], attributes := #[] }
def k1m2 : Method := { name := "pick", desc := "(III)Ljava/lang/String;", sig := { parameters := [.int, .int, .int], returnType := some (.object "java/lang/String") }, accessFlags := 10, code := some k1c2 }
/-- com/example/lintel/lintel/model/TemplatePartIsVariablePinLaw -/
def k1 : Class := { plain "com/example/lintel/lintel/model/TemplatePartIsVariablePinLaw" (some 0) with
  accessFlags := 49
  interfaces := #[]
  cf := some (fileOf pool1 8 #[] #[{ accessFlags := 1, nameIndex := 5, descriptorIndex := 6, attributes := #[] }, { accessFlags := 9, nameIndex := 33, descriptorIndex := 34, attributes := #[] }, { accessFlags := 10, nameIndex := 11, descriptorIndex := 12, attributes := #[] }] 49 2 #[] #[])
  fields := #[]
  methods := #[k1m0, k1m1, k1m2]
  instanceTypes := #[]
  staticTypes := #[]
  resolved := Array.replicate 38 none
  statics := none }

def pool2 : Array CpInfo := pool [(1, .methodref 2 3), (0, .class_ 4), (0, .nameAndType 5 6), (0, u "java/lang/Object"), (0, u "<init>"), (0, u "()V"), (0, .class_ 8), (0, u "java/lang/Record")] 13

def k2c0 : Code := { maxStack := 1, maxLocals := 1, code := jdk_30_method_1_code, exceptionTable := #[], attributes := #[] }
def k2m0 : Method := { name := "<init>", desc := "()V", sig := { parameters := [], returnType := none }, accessFlags := 4, code := some k2c0 }
/-- java/lang/Record -/
def k2 : Class := { plain "java/lang/Record" (some 0) with
  accessFlags := 1057
  interfaces := #[]
  cf := some (fileOf pool2 7 #[] #[{ accessFlags := 4, nameIndex := 5, descriptorIndex := 6, attributes := #[] }] 1057 2 #[] #[])
  fields := #[]
  methods := #[k2m0]
  instanceTypes := #[]
  staticTypes := #[]
  resolved := Array.replicate 22 none
  statics := none }

def pool3 : Array CpInfo := pool [(1, .methodref 2 3), (0, .class_ 4), (0, .nameAndType 5 6), (0, u "java/lang/Record"), (0, u "<init>"), (0, u "()V"), (0, .fieldref 8 9), (0, .class_ 10), (0, .nameAndType 11 12), (0, u "com/example/lintel/lintel/model/TemplatePart"), (0, u "text"), (0, u "Ljava/lang/String;"), (0, .fieldref 8 14), (0, .nameAndType 15 12), (0, u "name"), (0, .fieldref 8 17), (0, .nameAndType 18 12), (0, u "expression"), (34, u "()Z"), (16, u "(Ljava/lang/String;Ljava/lang/String;Ljava/lang/String;)V"), (32, u "isVariable")] 32

def k3c0 : Code := { maxStack := 2, maxLocals := 4, code := prog_3_method_1_code, exceptionTable := #[], attributes := #[] }
def k3m0 : Method := { name := "<init>", desc := "(Ljava/lang/String;Ljava/lang/String;Ljava/lang/String;)V", sig := { parameters := [(.object "java/lang/String"), (.object "java/lang/String"), (.object "java/lang/String")], returnType := none }, accessFlags := 1, code := some k3c0 }
def k3c1 : Code := { maxStack := 1, maxLocals := 1, code := prog_3_method_3_code, exceptionTable := #[], attributes := #[] }
def k3m1 : Method := { name := "isVariable", desc := "()Z", sig := { parameters := [], returnType := some .boolean }, accessFlags := 1, code := some k3c1 }
/-- com/example/lintel/lintel/model/TemplatePart -/
def k3 : Class := { plain "com/example/lintel/lintel/model/TemplatePart" (some 2) with
  accessFlags := 49
  interfaces := #[]
  cf := some (fileOf pool3 8 #[] #[{ accessFlags := 1, nameIndex := 5, descriptorIndex := 70, attributes := #[] }, { accessFlags := 1, nameIndex := 103, descriptorIndex := 53, attributes := #[] }] 49 2 #[] #[{ accessFlags := 18, nameIndex := 11, descriptorIndex := 12, attributes := #[] }, { accessFlags := 18, nameIndex := 15, descriptorIndex := 12, attributes := #[] }, { accessFlags := 18, nameIndex := 18, descriptorIndex := 12, attributes := #[] }])
  fields := #[{ name := "text", type := (.object "java/lang/String"), accessFlags := 18, slot := 0, constantValue := 0 }, { name := "name", type := (.object "java/lang/String"), accessFlags := 18, slot := 1, constantValue := 0 }, { name := "expression", type := (.object "java/lang/String"), accessFlags := 18, slot := 2, constantValue := 0 }]
  methods := #[k3m0, k3m1]
  instanceTypes := #[(.object "java/lang/String"), (.object "java/lang/String"), (.object "java/lang/String")]
  staticTypes := #[]
  resolved := Array.replicate 136 none
  statics := none }

def pool4 : Array CpInfo := pool [(1, .class_ 2), (0, u "java/io/Serializable"), (0, .class_ 4), (0, u "java/lang/Object")] 2

/-- java/io/Serializable -/
def k4 : Class := { plain "java/io/Serializable" (some 0) with
  accessFlags := 1537
  interfaces := #[]
  cf := some (fileOf pool4 1 #[] #[] 1537 3 #[] #[])
  fields := #[]
  methods := #[]
  instanceTypes := #[]
  staticTypes := #[]
  resolved := Array.replicate 7 none
  statics := none }

def pool5 : Array CpInfo := pool [(1, .class_ 2), (0, u "java/lang/Comparable"), (0, .class_ 4), (0, u "java/lang/Object")] 7

/-- java/lang/Comparable -/
def k5 : Class := { plain "java/lang/Comparable" (some 0) with
  accessFlags := 1537
  interfaces := #[]
  cf := some (fileOf pool5 1 #[] #[] 1537 3 #[] #[])
  fields := #[]
  methods := #[]
  instanceTypes := #[]
  staticTypes := #[]
  resolved := Array.replicate 12 none
  statics := none }

def pool6 : Array CpInfo := pool [(2, .class_ 4), (1, u "java/lang/CharSequence"), (42, .class_ 48), (0, u "java/lang/CharSequence$1CodePointIterator"), (10, .class_ 60), (0, u "java/lang/CharSequence$1CharIterator"), (5, .class_ 67), (0, u "java/lang/Object")] 63

/-- java/lang/CharSequence -/
def k6 : Class := { plain "java/lang/CharSequence" (some 0) with
  accessFlags := 1537
  interfaces := #[]
  cf := some (fileOf pool6 2 #[.nestMembers #[47, 59]] #[] 1537 66 #[] #[])
  fields := #[]
  methods := #[]
  instanceTypes := #[]
  staticTypes := #[]
  resolved := Array.replicate 131 none
  statics := none }

def pool7 : Array CpInfo := pool [(1, .class_ 2), (0, u "java/lang/constant/Constable"), (0, .class_ 4), (0, u "java/lang/Object")] 6

/-- java/lang/constant/Constable -/
def k7 : Class := { plain "java/lang/constant/Constable" (some 0) with
  accessFlags := 1537
  interfaces := #[]
  cf := some (fileOf pool7 1 #[] #[] 1537 3 #[] #[])
  fields := #[]
  methods := #[]
  instanceTypes := #[]
  staticTypes := #[]
  resolved := Array.replicate 11 none
  statics := none }

def pool8 : Array CpInfo := pool [(1, .class_ 2), (0, u "java/lang/constant/ConstantDesc"), (0, .class_ 4), (0, u "java/lang/Object")] 32

/-- java/lang/constant/ConstantDesc -/
def k8 : Class := { plain "java/lang/constant/ConstantDesc" (some 0) with
  accessFlags := 1537
  interfaces := #[]
  cf := some (fileOf pool8 1 #[] #[] 1537 3 #[] #[])
  fields := #[]
  methods := #[]
  instanceTypes := #[]
  staticTypes := #[]
  resolved := Array.replicate 37 none
  statics := none }

def pool9 : Array CpInfo := pool [(1, .methodref 2 3), (0, .class_ 4), (0, .nameAndType 5 6), (0, u "java/lang/Object"), (0, u "<init>"), (0, u "()V"), (0, .string 8), (0, u ""), (0, .fieldref 10 11), (0, .class_ 12), (0, .nameAndType 13 14), (0, u "java/lang/String"), (0, u "value"), (0, u "[B"), (0, .fieldref 10 16), (0, .nameAndType 17 18), (0, u "coder"), (0, u "B"), (2, u "hash"), (0, u "I"), (2, u "hashIsZero"), (0, u "Z"), (0, .methodref 10 28), (0, .nameAndType 5 29), (0, u "([CIILjava/lang/Void;)V"), (8, .fieldref 10 39), (0, .nameAndType 40 26), (0, u "COMPACT_STRINGS"), (1, .class_ 44), (1, u "java/lang/StringUTF16"), (0, u "compress"), (1, .methodref 42 48), (0, .nameAndType 49 50), (0, u "coderFromArrayLen"), (0, u "([BI)B"), (2, u "toBytes"), (53, .class_ 109), (1, u "java/lang/StringLatin1"), (67, .methodref 42 178), (0, .nameAndType 45 179), (0, u "([CII)[B"), (29, .methodref 10 210), (0, .nameAndType 5 211), (0, u "([BB)V"), (157, u "(C)Z"), (205, .class_ 576), (0, u "java/lang/CharSequence"), (22, u "CASE_INSENSITIVE_ORDER"), (0, u "Ljava/util/Comparator;"), (181, u "valueOf"), (0, u "(C)Ljava/lang/String;"), (226, u "([C)V"), (4, .methodref 107 1016), (0, .nameAndType 1017 369), (0, u "canEncode"), (0, .methodref 107 1019), (0, .nameAndType 53 1020), (0, u "(C)[B"), (80, u "serialPersistentFields"), (0, u "[Ljava/io/ObjectStreamField;"), (0, .class_ 1104), (0, u "java/lang/String$CaseInsensitiveComparator"), (1, .class_ 1107), (0, u "java/io/Serializable"), (0, .class_ 1109), (0, u "java/lang/Comparable"), (0, .class_ 1111), (0, u "java/lang/constant/Constable"), (0, .class_ 1113), (0, u "java/lang/constant/ConstantDesc"), (2, u "serialVersionUID"), (0, u "J"), (3, u "REPL"), (0, u "C"), (2, u "LATIN1"), (1, u "UTF16")] 323

def k9m0 : Method := { name := "<init>", desc := "()V", sig := { parameters := [], returnType := none }, accessFlags := 1, code := none }
def k9c1 : Code := { maxStack := 5, maxLocals := 2, code := jdk_42_method_3_code, exceptionTable := #[], attributes := #[] }
def k9m1 : Method := { name := "<init>", desc := "([C)V", sig := { parameters := [(.array .char)], returnType := none }, accessFlags := 1, code := some k9c1 }
def k9c2 : Code := { maxStack := 4, maxLocals := 1, code := jdk_42_method_139_code, exceptionTable := #[], attributes := #[] }
def k9m2 : Method := { name := "valueOf", desc := "(C)Ljava/lang/String;", sig := { parameters := [.char], returnType := some (.object "java/lang/String") }, accessFlags := 9, code := some k9c2 }
def k9c3 : Code := { maxStack := 4, maxLocals := 6, code := jdk_42_method_149_code, exceptionTable := #[], attributes := #[] }
def k9m3 : Method := { name := "<init>", desc := "([CIILjava/lang/Void;)V", sig := { parameters := [(.array .char), .int, .int, (.object "java/lang/Void")], returnType := none }, accessFlags := 2, code := some k9c3 }
def k9c4 : Code := { maxStack := 2, maxLocals := 3, code := jdk_42_method_151_code, exceptionTable := #[], attributes := #[] }
def k9m4 : Method := { name := "<init>", desc := "([BB)V", sig := { parameters := [(.array .byte), .byte], returnType := none }, accessFlags := 0, code := some k9c4 }
/-- java/lang/String -/
def k9 : Class := { plain "java/lang/String" (some 0) with
  accessFlags := 49
  interfaces := #[4, 5, 6, 7, 8]
  cf := some (fileOf pool9 10 #[.nestMembers #[1103]] #[{ accessFlags := 1, nameIndex := 5, descriptorIndex := 6, attributes := #[] }, { accessFlags := 1, nameIndex := 5, descriptorIndex := 1010, attributes := #[] }, { accessFlags := 9, nameIndex := 782, descriptorIndex := 783, attributes := #[] }, { accessFlags := 2, nameIndex := 5, descriptorIndex := 29, attributes := #[] }, { accessFlags := 0, nameIndex := 5, descriptorIndex := 211, attributes := #[] }] 49 2 #[1106, 1108, 575, 1110, 1112] #[{ accessFlags := 18, nameIndex := 13, descriptorIndex := 14, attributes := #[] }, { accessFlags := 18, nameIndex := 17, descriptorIndex := 18, attributes := #[] }, { accessFlags := 2, nameIndex := 21, descriptorIndex := 22, attributes := #[] }, { accessFlags := 2, nameIndex := 25, descriptorIndex := 26, attributes := #[] }, { accessFlags := 26, nameIndex := 1116, descriptorIndex := 1117, attributes := #[] }, { accessFlags := 24, nameIndex := 40, descriptorIndex := 26, attributes := #[] }, { accessFlags := 26, nameIndex := 1101, descriptorIndex := 1102, attributes := #[] }, { accessFlags := 26, nameIndex := 1121, descriptorIndex := 1122, attributes := #[] }, { accessFlags := 25, nameIndex := 599, descriptorIndex := 600, attributes := #[] }, { accessFlags := 24, nameIndex := 1125, descriptorIndex := 18, attributes := #[] }, { accessFlags := 24, nameIndex := 1127, descriptorIndex := 18, attributes := #[] }])
  fields := #[{ name := "value", type := (.array .byte), accessFlags := 18, slot := 0, constantValue := 0 }, { name := "coder", type := .byte, accessFlags := 18, slot := 1, constantValue := 0 }, { name := "hash", type := .int, accessFlags := 2, slot := 2, constantValue := 0 }, { name := "hashIsZero", type := .boolean, accessFlags := 2, slot := 3, constantValue := 0 }, { name := "serialVersionUID", type := .long, accessFlags := 26, slot := 0, constantValue := 0 }, { name := "COMPACT_STRINGS", type := .boolean, accessFlags := 24, slot := 1, constantValue := 0 }, { name := "serialPersistentFields", type := (.array (.object "java/io/ObjectStreamField")), accessFlags := 26, slot := 2, constantValue := 0 }, { name := "REPL", type := .char, accessFlags := 26, slot := 3, constantValue := 0 }, { name := "CASE_INSENSITIVE_ORDER", type := (.object "java/util/Comparator"), accessFlags := 25, slot := 4, constantValue := 0 }, { name := "LATIN1", type := .byte, accessFlags := 24, slot := 5, constantValue := 0 }, { name := "UTF16", type := .byte, accessFlags := 24, slot := 6, constantValue := 0 }]
  methods := #[k9m0, k9m1, k9m2, k9m3, k9m4]
  instanceTypes := #[(.array .byte), .byte, .int, .boolean]
  staticTypes := #[.long, .boolean, (.array (.object "java/io/ObjectStreamField")), .char, (.object "java/util/Comparator"), .byte, .byte]
  resolved := Array.replicate 1451 none
  statics := some 0 }

def pool10 : Array CpInfo := pool [(6, .class_ 8), (1, u "java/lang/Object"), (0, u "<init>"), (0, u "()V"), (1, .class_ 14), (1, u "java/lang/StringUTF16"), (31, u "$assertionsDisabled"), (0, u "Z"), (13, u "HI_BYTE_SHIFT"), (0, u "I"), (2, u "LO_BYTE_SHIFT"), (49, .methodref 12 116), (0, .nameAndType 117 118), (0, u "compress"), (0, u "([CI[BII)I"), (3, u "([CII)[B"), (138, u "coderFromArrayLen"), (0, u "([BI)B"), (106, .class_ 371), (1, u "java/lang/StringUTF16$LinesSpliterator"), (58, u "MAX_LENGTH"), (196, .class_ 628), (0, u "java/lang/StringUTF16$CodePointsSpliterator"), (0, .class_ 630), (0, u "java/lang/StringUTF16$CharsSpliterator")] 4

def k10m0 : Method := { name := "<init>", desc := "()V", sig := { parameters := [], returnType := none }, accessFlags := 0, code := none }
def k10c1 : Code := { maxStack := 2, maxLocals := 2, code := jdk_52_method_15_code, exceptionTable := #[], attributes := #[] }
def k10m1 : Method := { name := "coderFromArrayLen", desc := "([BI)B", sig := { parameters := [(.array .byte), .int], returnType := some .byte }, accessFlags := 8, code := some k10c1 }
def k10c2 : Code := { maxStack := 5, maxLocals := 6, code := jdk_52_method_16_code, exceptionTable := #[], attributes := #[] }
def k10m2 : Method := { name := "compress", desc := "([CII)[B", sig := { parameters := [(.array .char), .int, .int], returnType := some (.array .byte) }, accessFlags := 9, code := some k10c2 }
def k10c3 : Code := { maxStack := 3, maxLocals := 7, code := jdk_52_method_21_code, exceptionTable := #[], attributes := #[] }
def k10m3 : Method := { name := "compress", desc := "([CI[BII)I", sig := { parameters := [(.array .char), .int, (.array .byte), .int, .int], returnType := some .int }, accessFlags := 9, code := some k10c3 }
/-- java/lang/StringUTF16 -/
def k10 : Class := { plain "java/lang/StringUTF16" (some 0) with
  accessFlags := 48
  interfaces := #[]
  cf := some (fileOf pool10 12 #[.nestMembers #[627, 629, 369]] #[{ accessFlags := 0, nameIndex := 9, descriptorIndex := 10, attributes := #[] }, { accessFlags := 8, nameIndex := 261, descriptorIndex := 262, attributes := #[] }, { accessFlags := 9, nameIndex := 117, descriptorIndex := 122, attributes := #[] }, { accessFlags := 9, nameIndex := 117, descriptorIndex := 118, attributes := #[] }] 48 6 #[] #[{ accessFlags := 26, nameIndex := 61, descriptorIndex := 62, attributes := #[] }, { accessFlags := 26, nameIndex := 65, descriptorIndex := 62, attributes := #[] }, { accessFlags := 24, nameIndex := 430, descriptorIndex := 62, attributes := #[] }, { accessFlags := 4120, nameIndex := 46, descriptorIndex := 47, attributes := #[] }])
  fields := #[{ name := "HI_BYTE_SHIFT", type := .int, accessFlags := 26, slot := 0, constantValue := 0 }, { name := "LO_BYTE_SHIFT", type := .int, accessFlags := 26, slot := 1, constantValue := 0 }, { name := "MAX_LENGTH", type := .int, accessFlags := 24, slot := 2, constantValue := 0 }, { name := "$assertionsDisabled", type := .boolean, accessFlags := 4120, slot := 3, constantValue := 0 }]
  methods := #[k10m0, k10m1, k10m2, k10m3]
  instanceTypes := #[]
  staticTypes := #[.int, .int, .int, .boolean]
  resolved := Array.replicate 635 none
  statics := none }

def pool11 : Array CpInfo := pool [(4, .class_ 6), (1, u "java/lang/Object"), (0, u "<init>"), (0, u "()V"), (5, .class_ 16), (1, u "java/lang/StringLatin1"), (73, u "canEncode"), (14, u "(C)Z"), (15, u "$assertionsDisabled"), (0, u "Z"), (98, .class_ 223), (1, u "java/lang/StringLatin1$LinesSpliterator"), (156, u "toBytes"), (1, u "(C)[B"), (7, .class_ 391), (0, u "java/lang/StringLatin1$CharsSpliterator")] 3

def k11m0 : Method := { name := "<init>", desc := "()V", sig := { parameters := [], returnType := none }, accessFlags := 0, code := none }
def k11c1 : Code := { maxStack := 2, maxLocals := 1, code := jdk_43_method_3_code, exceptionTable := #[], attributes := #[] }
def k11m1 : Method := { name := "canEncode", desc := "(C)Z", sig := { parameters := [.char], returnType := some .boolean }, accessFlags := 9, code := some k11c1 }
def k11c2 : Code := { maxStack := 4, maxLocals := 1, code := jdk_43_method_46_code, exceptionTable := #[], attributes := #[] }
def k11m2 : Method := { name := "toBytes", desc := "(C)[B", sig := { parameters := [.char], returnType := some (.array .byte) }, accessFlags := 9, code := some k11c2 }
/-- java/lang/StringLatin1 -/
def k11 : Class := { plain "java/lang/StringLatin1" (some 0) with
  accessFlags := 48
  interfaces := #[]
  cf := some (fileOf pool11 14 #[.nestMembers #[390, 221]] #[{ accessFlags := 0, nameIndex := 7, descriptorIndex := 8, attributes := #[] }, { accessFlags := 9, nameIndex := 90, descriptorIndex := 105, attributes := #[] }, { accessFlags := 9, nameIndex := 380, descriptorIndex := 382, attributes := #[] }] 48 4 #[] #[{ accessFlags := 4120, nameIndex := 121, descriptorIndex := 122, attributes := #[] }])
  fields := #[{ name := "$assertionsDisabled", type := .boolean, accessFlags := 4120, slot := 0, constantValue := 0 }]
  methods := #[k11m0, k11m1, k11m2]
  instanceTypes := #[]
  staticTypes := #[.boolean]
  resolved := Array.replicate 395 none
  statics := none }

def pool12 : Array CpInfo := pool [(2, .class_ 4), (1, u "java/lang/Object"), (0, u "<init>"), (0, u "()V"), (17, .class_ 26), (1, u "jdk/internal/util/Preconditions"), (28, .class_ 56), (0, u "jdk/internal/util/Preconditions$4"), (57, .class_ 115), (0, u "jdk/internal/util/Preconditions$1"), (7, u "SIOOBE_FORMATTER"), (0, u "Ljava/util/function/BiFunction;"), (0, .class_ 126), (0, u "jdk/internal/util/Preconditions$2"), (3, u "AIOOBE_FORMATTER"), (0, .class_ 132), (0, u "jdk/internal/util/Preconditions$3"), (3, u "IOOBE_FORMATTER")] 57

def k12m0 : Method := { name := "<init>", desc := "()V", sig := { parameters := [], returnType := none }, accessFlags := 1, code := none }
/-- jdk/internal/util/Preconditions -/
def k12 : Class := { plain "jdk/internal/util/Preconditions" (some 0) with
  accessFlags := 33
  interfaces := #[]
  cf := some (fileOf pool12 24 #[.nestMembers #[55, 131, 125, 114]] #[{ accessFlags := 1, nameIndex := 5, descriptorIndex := 6, attributes := #[] }] 33 2 #[] #[{ accessFlags := 25, nameIndex := 123, descriptorIndex := 124, attributes := #[] }, { accessFlags := 25, nameIndex := 130, descriptorIndex := 124, attributes := #[] }, { accessFlags := 25, nameIndex := 136, descriptorIndex := 124, attributes := #[] }])
  fields := #[{ name := "SIOOBE_FORMATTER", type := (.object "java/util/function/BiFunction"), accessFlags := 25, slot := 0, constantValue := 0 }, { name := "AIOOBE_FORMATTER", type := (.object "java/util/function/BiFunction"), accessFlags := 25, slot := 1, constantValue := 0 }, { name := "IOOBE_FORMATTER", type := (.object "java/util/function/BiFunction"), accessFlags := 25, slot := 2, constantValue := 0 }]
  methods := #[k12m0]
  instanceTypes := #[]
  staticTypes := #[(.object "java/util/function/BiFunction"), (.object "java/util/function/BiFunction"), (.object "java/util/function/BiFunction")]
  resolved := Array.replicate 194 none
  statics := some 1 }

def pool13 : Array CpInfo := pool [(9, u "<init>"), (6, .class_ 18), (1, u "java/lang/Object"), (0, u "()V"), (1, .class_ 23), (1, u "jdk/internal/util/ArraysSupport"), (0, u "LOG2_ARRAY_LONG_INDEX_SCALE"), (0, u "I"), (2, u "U"), (0, u "Ljdk/internal/misc/Unsafe;"), (8, u "BIG_ENDIAN"), (0, u "Z"), (8, u "LOG2_BYTE_BIT_SIZE"), (4, u "LOG2_ARRAY_INT_INDEX_SCALE"), (54, u "JLA"), (0, u "Ljdk/internal/access/JavaLangAccess;"), (11, u "LOG2_ARRAY_BOOLEAN_INDEX_SCALE"), (9, u "LOG2_ARRAY_BYTE_INDEX_SCALE"), (5, u "LOG2_ARRAY_CHAR_INDEX_SCALE"), (5, u "LOG2_ARRAY_SHORT_INDEX_SCALE"), (18, u "LOG2_ARRAY_FLOAT_INDEX_SCALE"), (24, u "LOG2_ARRAY_DOUBLE_INDEX_SCALE"), (89, u "T_BOOLEAN"), (2, u "T_CHAR"), (1, u "T_FLOAT"), (1, u "T_DOUBLE"), (1, u "T_BYTE"), (1, u "T_SHORT"), (1, u "T_INT"), (1, u "T_LONG"), (1, u "SOFT_MAX_ARRAY_LENGTH")] 83

def k13m0 : Method := { name := "<init>", desc := "()V", sig := { parameters := [], returnType := none }, accessFlags := 2, code := none }
/-- jdk/internal/util/ArraysSupport -/
def k13 : Class := { plain "jdk/internal/util/ArraysSupport" (some 0) with
  accessFlags := 33
  interfaces := #[]
  cf := some (fileOf pool13 21 #[] #[{ accessFlags := 2, nameIndex := 9, descriptorIndex := 19, attributes := #[] }] 33 16 #[] #[{ accessFlags := 24, nameIndex := 28, descriptorIndex := 29, attributes := #[] }, { accessFlags := 26, nameIndex := 38, descriptorIndex := 39, attributes := #[] }, { accessFlags := 25, nameIndex := 121, descriptorIndex := 25, attributes := #[] }, { accessFlags := 25, nameIndex := 131, descriptorIndex := 25, attributes := #[] }, { accessFlags := 25, nameIndex := 137, descriptorIndex := 25, attributes := #[] }, { accessFlags := 25, nameIndex := 143, descriptorIndex := 25, attributes := #[] }, { accessFlags := 25, nameIndex := 53, descriptorIndex := 25, attributes := #[] }, { accessFlags := 25, nameIndex := 24, descriptorIndex := 25, attributes := #[] }, { accessFlags := 25, nameIndex := 162, descriptorIndex := 25, attributes := #[] }, { accessFlags := 25, nameIndex := 187, descriptorIndex := 25, attributes := #[] }, { accessFlags := 26, nameIndex := 48, descriptorIndex := 25, attributes := #[] }, { accessFlags := 25, nameIndex := 277, descriptorIndex := 25, attributes := #[] }, { accessFlags := 25, nameIndex := 280, descriptorIndex := 25, attributes := #[] }, { accessFlags := 25, nameIndex := 282, descriptorIndex := 25, attributes := #[] }, { accessFlags := 25, nameIndex := 284, descriptorIndex := 25, attributes := #[] }, { accessFlags := 25, nameIndex := 286, descriptorIndex := 25, attributes := #[] }, { accessFlags := 25, nameIndex := 288, descriptorIndex := 25, attributes := #[] }, { accessFlags := 25, nameIndex := 290, descriptorIndex := 25, attributes := #[] }, { accessFlags := 25, nameIndex := 292, descriptorIndex := 25, attributes := #[] }, { accessFlags := 26, nameIndex := 108, descriptorIndex := 109, attributes := #[] }, { accessFlags := 25, nameIndex := 294, descriptorIndex := 25, attributes := #[] }])
  fields := #[{ name := "U", type := (.object "jdk/internal/misc/Unsafe"), accessFlags := 24, slot := 0, constantValue := 0 }, { name := "BIG_ENDIAN", type := .boolean, accessFlags := 26, slot := 1, constantValue := 0 }, { name := "LOG2_ARRAY_BOOLEAN_INDEX_SCALE", type := .int, accessFlags := 25, slot := 2, constantValue := 0 }, { name := "LOG2_ARRAY_BYTE_INDEX_SCALE", type := .int, accessFlags := 25, slot := 3, constantValue := 0 }, { name := "LOG2_ARRAY_CHAR_INDEX_SCALE", type := .int, accessFlags := 25, slot := 4, constantValue := 0 }, { name := "LOG2_ARRAY_SHORT_INDEX_SCALE", type := .int, accessFlags := 25, slot := 5, constantValue := 0 }, { name := "LOG2_ARRAY_INT_INDEX_SCALE", type := .int, accessFlags := 25, slot := 6, constantValue := 0 }, { name := "LOG2_ARRAY_LONG_INDEX_SCALE", type := .int, accessFlags := 25, slot := 7, constantValue := 0 }, { name := "LOG2_ARRAY_FLOAT_INDEX_SCALE", type := .int, accessFlags := 25, slot := 8, constantValue := 0 }, { name := "LOG2_ARRAY_DOUBLE_INDEX_SCALE", type := .int, accessFlags := 25, slot := 9, constantValue := 0 }, { name := "LOG2_BYTE_BIT_SIZE", type := .int, accessFlags := 26, slot := 10, constantValue := 0 }, { name := "T_BOOLEAN", type := .int, accessFlags := 25, slot := 11, constantValue := 0 }, { name := "T_CHAR", type := .int, accessFlags := 25, slot := 12, constantValue := 0 }, { name := "T_FLOAT", type := .int, accessFlags := 25, slot := 13, constantValue := 0 }, { name := "T_DOUBLE", type := .int, accessFlags := 25, slot := 14, constantValue := 0 }, { name := "T_BYTE", type := .int, accessFlags := 25, slot := 15, constantValue := 0 }, { name := "T_SHORT", type := .int, accessFlags := 25, slot := 16, constantValue := 0 }, { name := "T_INT", type := .int, accessFlags := 25, slot := 17, constantValue := 0 }, { name := "T_LONG", type := .int, accessFlags := 25, slot := 18, constantValue := 0 }, { name := "JLA", type := (.object "jdk/internal/access/JavaLangAccess"), accessFlags := 26, slot := 19, constantValue := 0 }, { name := "SOFT_MAX_ARRAY_LENGTH", type := .int, accessFlags := 25, slot := 20, constantValue := 0 }]
  methods := #[k13m0]
  instanceTypes := #[]
  staticTypes := #[(.object "jdk/internal/misc/Unsafe"), .boolean, .int, .int, .int, .int, .int, .int, .int, .int, .int, .int, .int, .int, .int, .int, .int, .int, .int, (.object "jdk/internal/access/JavaLangAccess"), .int]
  resolved := Array.replicate 378 none
  statics := none }

def pool14 : Array CpInfo := pool [(1, u "java/lang/Cloneable"), (0, .class_ 1), (0, u "java/lang/Object"), (0, .class_ 3)] 3

/-- java/lang/Cloneable -/
def k14 : Class := { plain "java/lang/Cloneable" (some 0) with
  accessFlags := 1537
  interfaces := #[]
  cf := some (fileOf pool14 2 #[] #[] 1537 4 #[] #[])
  fields := #[]
  methods := #[]
  instanceTypes := #[]
  staticTypes := #[]
  resolved := Array.replicate 8 none
  statics := none }

/-- the primitive byte -/
def k15 : Class := { plain "byte" none with kind := .primitive 'B', accessFlags := 0x411 }
/-- [B -/
def k16 : Class := { plain "[B" (some 0) with kind := .array 15 .byte, interfaces := #[14, 4], accessFlags := 1041 }

/-- the primitive char -/
def k17 : Class := { plain "char" none with kind := .primitive 'C', accessFlags := 0x411 }
/-- [C -/
def k18 : Class := { plain "[C" (some 0) with kind := .array 17 .char, interfaces := #[14, 4], accessFlags := 1041 }

/-- the primitive int -/
def k19 : Class := { plain "int" none with kind := .primitive 'I', accessFlags := 0x411 }
/-- [I -/
def k20 : Class := { plain "[I" (some 0) with kind := .array 19 .int, interfaces := #[14, 4], accessFlags := 1041 }

def heap : Heap := #[{ cls := 9, slots := #[.long 0, .int 1, .null, .int 0, .null, .int 0, .int 0], vm := .statics 9 },
  { cls := 12, slots := #[.null, .null, .null], vm := .statics 12 }]
def classes : Array Class := #[k0, k1, k2, k3, k4, k5, k6, k7, k8, k9, k10, k11, k12, k13, k14, k15, k16, k17, k18, k19, k20]
def interned : List (Array UInt16 × Addr) := []
def slotsUsed : Nat := 10
def theMethod : MethodId := ⟨1, 1⟩
def args0 : Array Value := #[.int 37, .int 65, .int 66, .int 67]
def aboutOver (below : List Frame) : State where
  vm := { classes := classes, interned := interned.toArray }
  heap := heap
  slotsUsed := slotsUsed
  threads := #[{ frames := .invoking theMethod args0 :: below }]
def below0 : List Frame := [.native { method := ⟨0, 0⟩, args := #[] }]
def about1 : State := aboutOver below0
def p0 : Program := .bare "" "" ""
def e0 : Env := launch0.env 0 0 0
theorem w_frames : about1.frames = Frame.invoking theMethod args0 :: below0 := rfl
set_option maxRecDepth 65536 in
theorem w_args : argsFit about1.vm theMethod args0 = true := by decide +kernel
set_option maxRecDepth 65536 in
theorem w_heap : heapFits about1 = true := by decide +kernel
set_option maxRecDepth 65536 in
theorem w_runnable : about1.curStatus? = some .runnable := by decide +kernel
set_option maxRecDepth 65536 in
theorem w_alone : about1.alone = true := by decide +kernel
set_option maxRecDepth 65536 in
theorem w_named : about1.methodNamed? x = some theMethod := by decide +kernel
set_option maxRecDepth 65536 in
theorem w_hears : about1.hears theMethod below0 = true := by decide +kernel
set_option maxRecDepth 65536 in
theorem w_ripe : about1.ripe theMethod args0 below0 = true := by decide +kernel
theorem w_running : about1.status = .running := rfl
set_option maxRecDepth 65536 in
theorem w_room : about1.hasRoom e0.platform room_1 = true :=
  launch0.hasRoom_least _ room_1 (by decide +kernel) (by decide +kernel) (by decide +kernel) (by decide +kernel) (by decide +kernel) (by decide +kernel)
theorem allAtoms_all (ts : List Jvm.Cond) (a : Array Jvm.Value) (st : Jvm.State) : (allAtoms ts).before a st = ts.all (fun c => c.before a st) := by
  induction ts with
  | nil => rfl
  | cons c t ih =>
    show (Jvm.Cond.and c (allAtoms t)).before a st = _
    rw [Jvm.Cond.before_and, ih, List.all_cons]
def words1 : List Jvm.Cond := Jvm.Cond.code x code maxLocals ret :: tables_1
/-- a 'code' word, met by the world's own term for the bytes: nothing is compared byte by byte -/
theorem code_word {y : MethodName} {bytes : ByteArray} {mx : Nat} {rt : Option FieldType} {a : Array Value} {s : State} {m : MethodId} {meth : Method} {c : Code} (h1 : s.methodNamed? y = some m) (h2 : s.vm.method? m = some meth) (h3 : meth.code = some c) (h4 : c.code = bytes)
    (h5 : (c.maxLocals == mx && c.exceptionTable.isEmpty && decide (c.maxStack ≤ mostOperands) && decide (meth.sig.returnType = rt) && !meth.locks && decide (parseMethodDescriptor y.desc = some meth.sig)) = true) : (Jvm.Cond.code y bytes mx rt).before a s = true := by
  simp only [Bool.and_eq_true, beq_iff_eq, Bool.not_eq_true', decide_eq_true_eq] at h5
  obtain ⟨⟨⟨⟨⟨g1, g2⟩, g3⟩, g4⟩, g5⟩, g6⟩ := h5
  simp [Cond.before, Cond.holds, Cond.value, h1, h2, h3, h4, g1, g2, g3, g4, g5, g6]
def isCode : Jvm.Cond → Bool
  | .code _ _ _ _ => true
  | _ => false
theorem all_split {L : List Jvm.Cond} {P : Jvm.Cond → Bool} (h1 : L.all (fun c => isCode c || P c) = true) (h2 : ∀ c ∈ L.filter isCode, P c = true) : L.all P = true := by
  refine List.all_eq_true.mpr fun c hc => ?_
  have h := List.all_eq_true.mp h1 c hc
  rcases Bool.eq_false_or_eq_true (isCode c) with hi | hi
  · exact h2 c (List.mem_filter.mpr ⟨hc, hi⟩)
  · simpa [hi] using h
set_option maxRecDepth 65536 in
theorem w_c0 : (Jvm.Cond.code x code maxLocals ret).before args0 about1 = true := code_word (m := ⟨1, 1⟩) (meth := k1m1) (c := k1c1) (by decide +kernel) rfl rfl rfl (by decide +kernel)
set_option maxRecDepth 65536 in
theorem w_c1 : (Jvm.Cond.code ({ cls := "com/example/lintel/lintel/model/TemplatePartIsVariablePinLaw", name := "pick", desc := "(III)Ljava/lang/String;" } : Jvm.MethodName) method_3_code (4 : Nat) (Option.some (Jvm.ClassFile.FieldType.object "java/lang/String"))).before args0 about1 = true := code_word (m := ⟨1, 2⟩) (meth := k1m2) (c := k1c2) (by decide +kernel) rfl rfl rfl (by decide +kernel)
set_option maxRecDepth 65536 in
theorem w_c2 : (Jvm.Cond.code ({ cls := "com/example/lintel/lintel/model/TemplatePart", name := "<init>", desc := "(Ljava/lang/String;Ljava/lang/String;Ljava/lang/String;)V" } : Jvm.MethodName) prog_3_method_1_code (4 : Nat) (Option.none : Option Jvm.ClassFile.FieldType)).before args0 about1 = true := code_word (m := ⟨3, 0⟩) (meth := k3m0) (c := k3c0) (by decide +kernel) rfl rfl rfl (by decide +kernel)
set_option maxRecDepth 65536 in
theorem w_c3 : (Jvm.Cond.code ({ cls := "java/lang/Record", name := "<init>", desc := "()V" } : Jvm.MethodName) jdk_30_method_1_code (1 : Nat) (Option.none : Option Jvm.ClassFile.FieldType)).before args0 about1 = true := code_word (m := ⟨2, 0⟩) (meth := k2m0) (c := k2c0) (by decide +kernel) rfl rfl rfl (by decide +kernel)
set_option maxRecDepth 65536 in
theorem w_c4 : (Jvm.Cond.code ({ cls := "java/lang/Object", name := "<init>", desc := "()V" } : Jvm.MethodName) object_method_1_code (1 : Nat) (Option.none : Option Jvm.ClassFile.FieldType)).before args0 about1 = true := code_word (m := ⟨0, 0⟩) (meth := k0m0) (c := k0c0) (by decide +kernel) rfl rfl rfl (by decide +kernel)
set_option maxRecDepth 65536 in
theorem w_c5 : (Jvm.Cond.code ({ cls := "com/example/lintel/lintel/model/TemplatePart", name := "isVariable", desc := "()Z" } : Jvm.MethodName) prog_3_method_3_code (1 : Nat) (Option.some Jvm.ClassFile.FieldType.boolean)).before args0 about1 = true := code_word (m := ⟨3, 1⟩) (meth := k3m1) (c := k3c1) (by decide +kernel) rfl rfl rfl (by decide +kernel)
set_option maxRecDepth 65536 in
theorem w_c6 : (Jvm.Cond.code ({ cls := "java/lang/String", name := "<init>", desc := "([C)V" } : Jvm.MethodName) jdk_42_method_3_code (2 : Nat) (Option.none : Option Jvm.ClassFile.FieldType)).before args0 about1 = true := code_word (m := ⟨9, 1⟩) (meth := k9m1) (c := k9c1) (by decide +kernel) rfl rfl rfl (by decide +kernel)
set_option maxRecDepth 65536 in
theorem w_c7 : (Jvm.Cond.code ({ cls := "java/lang/String", name := "<init>", desc := "([CIILjava/lang/Void;)V" } : Jvm.MethodName) jdk_42_method_149_code (6 : Nat) (Option.none : Option Jvm.ClassFile.FieldType)).before args0 about1 = true := code_word (m := ⟨9, 3⟩) (meth := k9m3) (c := k9c3) (by decide +kernel) rfl rfl rfl (by decide +kernel)
set_option maxRecDepth 65536 in
theorem w_c8 : (Jvm.Cond.code ({ cls := "java/lang/StringUTF16", name := "compress", desc := "([CII)[B" } : Jvm.MethodName) jdk_52_method_16_code (6 : Nat) (Option.some (Jvm.ClassFile.FieldType.array Jvm.ClassFile.FieldType.byte))).before args0 about1 = true := code_word (m := ⟨10, 2⟩) (meth := k10m2) (c := k10c2) (by decide +kernel) rfl rfl rfl (by decide +kernel)
set_option maxRecDepth 65536 in
theorem w_c9 : (Jvm.Cond.code ({ cls := "java/lang/StringUTF16", name := "compress", desc := "([CI[BII)I" } : Jvm.MethodName) jdk_52_method_21_code (7 : Nat) (Option.some Jvm.ClassFile.FieldType.int)).before args0 about1 = true := code_word (m := ⟨10, 3⟩) (meth := k10m3) (c := k10c3) (by decide +kernel) rfl rfl rfl (by decide +kernel)
set_option maxRecDepth 65536 in
theorem w_c10 : (Jvm.Cond.code ({ cls := "java/lang/StringUTF16", name := "coderFromArrayLen", desc := "([BI)B" } : Jvm.MethodName) jdk_52_method_15_code (2 : Nat) (Option.some Jvm.ClassFile.FieldType.byte)).before args0 about1 = true := code_word (m := ⟨10, 1⟩) (meth := k10m1) (c := k10c1) (by decide +kernel) rfl rfl rfl (by decide +kernel)
set_option maxRecDepth 65536 in
theorem w_c11 : (Jvm.Cond.code ({ cls := "java/lang/String", name := "valueOf", desc := "(C)Ljava/lang/String;" } : Jvm.MethodName) jdk_42_method_139_code (1 : Nat) (Option.some (Jvm.ClassFile.FieldType.object "java/lang/String"))).before args0 about1 = true := code_word (m := ⟨9, 2⟩) (meth := k9m2) (c := k9c2) (by decide +kernel) rfl rfl rfl (by decide +kernel)
set_option maxRecDepth 65536 in
theorem w_c12 : (Jvm.Cond.code ({ cls := "java/lang/StringLatin1", name := "canEncode", desc := "(C)Z" } : Jvm.MethodName) jdk_43_method_3_code (1 : Nat) (Option.some Jvm.ClassFile.FieldType.boolean)).before args0 about1 = true := code_word (m := ⟨11, 1⟩) (meth := k11m1) (c := k11c1) (by decide +kernel) rfl rfl rfl (by decide +kernel)
set_option maxRecDepth 65536 in
theorem w_c13 : (Jvm.Cond.code ({ cls := "java/lang/StringLatin1", name := "toBytes", desc := "(C)[B" } : Jvm.MethodName) jdk_43_method_46_code (1 : Nat) (Option.some (Jvm.ClassFile.FieldType.array Jvm.ClassFile.FieldType.byte))).before args0 about1 = true := code_word (m := ⟨11, 2⟩) (meth := k11m2) (c := k11c2) (by decide +kernel) rfl rfl rfl (by decide +kernel)
set_option maxRecDepth 65536 in
theorem w_c14 : (Jvm.Cond.code ({ cls := "java/lang/String", name := "<init>", desc := "([BB)V" } : Jvm.MethodName) jdk_42_method_151_code (3 : Nat) (Option.none : Option Jvm.ClassFile.FieldType)).before args0 about1 = true := code_word (m := ⟨9, 4⟩) (meth := k9m4) (c := k9c4) (by decide +kernel) rfl rfl rfl (by decide +kernel)
def codes1 : List Jvm.Cond := [Jvm.Cond.code x code maxLocals ret, Jvm.Cond.code ({ cls := "com/example/lintel/lintel/model/TemplatePartIsVariablePinLaw", name := "pick", desc := "(III)Ljava/lang/String;" } : Jvm.MethodName) method_3_code (4 : Nat) (Option.some (Jvm.ClassFile.FieldType.object "java/lang/String")), Jvm.Cond.code ({ cls := "com/example/lintel/lintel/model/TemplatePart", name := "<init>", desc := "(Ljava/lang/String;Ljava/lang/String;Ljava/lang/String;)V" } : Jvm.MethodName) prog_3_method_1_code (4 : Nat) (Option.none : Option Jvm.ClassFile.FieldType), Jvm.Cond.code ({ cls := "java/lang/Record", name := "<init>", desc := "()V" } : Jvm.MethodName) jdk_30_method_1_code (1 : Nat) (Option.none : Option Jvm.ClassFile.FieldType), Jvm.Cond.code ({ cls := "java/lang/Object", name := "<init>", desc := "()V" } : Jvm.MethodName) object_method_1_code (1 : Nat) (Option.none : Option Jvm.ClassFile.FieldType), Jvm.Cond.code ({ cls := "com/example/lintel/lintel/model/TemplatePart", name := "isVariable", desc := "()Z" } : Jvm.MethodName) prog_3_method_3_code (1 : Nat) (Option.some Jvm.ClassFile.FieldType.boolean), Jvm.Cond.code ({ cls := "java/lang/String", name := "<init>", desc := "([C)V" } : Jvm.MethodName) jdk_42_method_3_code (2 : Nat) (Option.none : Option Jvm.ClassFile.FieldType), Jvm.Cond.code ({ cls := "java/lang/String", name := "<init>", desc := "([CIILjava/lang/Void;)V" } : Jvm.MethodName) jdk_42_method_149_code (6 : Nat) (Option.none : Option Jvm.ClassFile.FieldType), Jvm.Cond.code ({ cls := "java/lang/StringUTF16", name := "compress", desc := "([CII)[B" } : Jvm.MethodName) jdk_52_method_16_code (6 : Nat) (Option.some (Jvm.ClassFile.FieldType.array Jvm.ClassFile.FieldType.byte)), Jvm.Cond.code ({ cls := "java/lang/StringUTF16", name := "compress", desc := "([CI[BII)I" } : Jvm.MethodName) jdk_52_method_21_code (7 : Nat) (Option.some Jvm.ClassFile.FieldType.int), Jvm.Cond.code ({ cls := "java/lang/StringUTF16", name := "coderFromArrayLen", desc := "([BI)B" } : Jvm.MethodName) jdk_52_method_15_code (2 : Nat) (Option.some Jvm.ClassFile.FieldType.byte), Jvm.Cond.code ({ cls := "java/lang/String", name := "valueOf", desc := "(C)Ljava/lang/String;" } : Jvm.MethodName) jdk_42_method_139_code (1 : Nat) (Option.some (Jvm.ClassFile.FieldType.object "java/lang/String")), Jvm.Cond.code ({ cls := "java/lang/StringLatin1", name := "canEncode", desc := "(C)Z" } : Jvm.MethodName) jdk_43_method_3_code (1 : Nat) (Option.some Jvm.ClassFile.FieldType.boolean), Jvm.Cond.code ({ cls := "java/lang/StringLatin1", name := "toBytes", desc := "(C)[B" } : Jvm.MethodName) jdk_43_method_46_code (1 : Nat) (Option.some (Jvm.ClassFile.FieldType.array Jvm.ClassFile.FieldType.byte)), Jvm.Cond.code ({ cls := "java/lang/String", name := "<init>", desc := "([BB)V" } : Jvm.MethodName) jdk_42_method_151_code (3 : Nat) (Option.none : Option Jvm.ClassFile.FieldType)]
set_option maxRecDepth 65536 in
theorem codes_eq : words1.filter isCode = codes1 := rfl
theorem w_codes : ∀ c ∈ words1.filter isCode, c.before args0 about1 = true := by
  rw [codes_eq]
  intro c hc
  simp only [codes1, List.mem_cons, List.not_mem_nil, or_false] at hc
  rcases hc with rfl | rfl | rfl | rfl | rfl | rfl | rfl | rfl | rfl | rfl | rfl | rfl | rfl | rfl | rfl
  · exact w_c0
  · exact w_c1
  · exact w_c2
  · exact w_c3
  · exact w_c4
  · exact w_c5
  · exact w_c6
  · exact w_c7
  · exact w_c8
  · exact w_c9
  · exact w_c10
  · exact w_c11
  · exact w_c12
  · exact w_c13
  · exact w_c14
set_option maxRecDepth 65536 in
theorem w_t1 : (words1.take 24).all (fun c => isCode c || c.before args0 about1) = true := by decide +kernel
set_option maxRecDepth 65536 in
theorem w_t2 : ((words1.drop 24).take 24).all (fun c => isCode c || c.before args0 about1) = true := by decide +kernel
set_option maxRecDepth 65536 in
theorem w_t3 : (((words1.drop 24).drop 24).take 24).all (fun c => isCode c || c.before args0 about1) = true := by decide +kernel
set_option maxRecDepth 65536 in
theorem w_t4 : (((words1.drop 24).drop 24).drop 24).all (fun c => isCode c || c.before args0 about1) = true := by decide +kernel
theorem w_tables : (allAtoms (Jvm.Cond.code x code maxLocals ret :: tables_1)).before args0 about1 = true := by
  rw [allAtoms_all]
  show words1.all (fun c => c.before args0 about1) = true
  refine all_split ?_ w_codes
  rw [← List.take_append_drop 24 words1, List.all_append, w_t1, ← List.take_append_drop 24 (words1.drop 24), List.all_append, w_t2, ← List.take_append_drop 24 ((words1.drop 24).drop 24), List.all_append, w_t3, w_t4]
  rfl
set_option maxRecDepth 65536 in
theorem w_rest : rest_1_c.before args0 about1 = true := by decide +kernel
set_option maxRecDepth 65536 in
theorem w_case : (Jvm.Cond.and given_1 narrow_1).before args0 about1 = true := by decide +kernel
set_option maxRecDepth 65536 in
theorem w_consts : constsHeld consts_1 about1 := Jvm.Lit.constsHeldB_iff.mp (by decide +kernel)
theorem w_applies : (headSpec (Jvm.Cond.code x code maxLocals ret :: tables_1) room_1).applies x e0.platform about1 = true :=
  (Spec.applies_iff w_frames).mpr ⟨w_running, w_runnable, w_alone, w_named, w_hears, w_ripe, w_room, w_tables⟩
theorem atStart : AtStart classFile x code maxLocals ret World_1 tables_1 room_1 Calls_1 rest_1 Pre_1 launch0 p0 e0 about1 theMethod args0 below0 :=
  ⟨lists_1, trivial, launch0.admits_env _ _ _, launch0.least_env, fairChoices_fair.cas, fairChoices_fair.clock, w_frames, w_args, w_heap, w_applies, ⟨w_consts, trivial⟩, w_rest, w_case⟩
end start1
theorem witness_1 : WitnessClaimed_1 := ⟨start1.p0, start1.e0, start1.about1, start1.theMethod, start1.args0, start1.below0, start1.atStart⟩
end Jvm.Pilot.@@N@@
