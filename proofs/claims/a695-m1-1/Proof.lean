import JvmDerived
import JvmDerived.Pilot.@@N@@Statement
import JvmDerived.Pilot.@@N@@Code
set_option linter.unusedVariables false
set_option linter.unusedSimpArgs false
namespace Jvm.RoadKit
open Sem ClassFile Op Lib Jvm.Stand Jvm.Free Jvm.LawKit
section New
variable {p : Program} {l : Launch} {e : Env} {R : Room} {s : State} {m : MethodId} {args : Array Value} {below : List Frame} {meth : Method} {c : Code} {T : State} {locs : List Loc} {cells slots : Nat}
theorem retI (X : Stand p l e R s m args below meth c T locs cells slots) (hx : p.tables.exec = Jvm.exec) {pc : Nat} {Ls : Array Slot} {z : Int32} {rest : List Value} (hret : meth.sig.returnType = some .int) (hd : decode c.code pc = .ok (.ireturn, 1)) {fs : List Frame}
    (hl : ∀ (f : JFrame) (acts : List Action), f.method = m → f.locked = none → f.entered = [] → (doReturn e (T.setTop f) acts (some (.int z))).1 = T.setFrames fs) : Steps p.tables e below (T.setTop (mkF m pc Ls (.int z :: rest))) (T.setFrames fs) := by
  have hm' : T.vm.method? m = some meth := X.method'
  have hn : narrow .int (.int z) = .int z := rfl
  show Steps p.tables e below (T.setTop { method := m, pc := pc, locals := Ls, stack := _ :: rest, locked := none }) _
  jvm_step X.here [X.here.top, hx, hd, hm', hret, hn]
  first | (intro acts; rw [hl _ acts rfl rfl rfl]) | rw [hl _ _ rfl rfl rfl]
  exact Steps.refl _
end New
end Jvm.RoadKit
namespace Jvm.Pilot.@@N@@
open Jvm Jvm.ClassFile Sem Op Lib Jvm.Free Jvm.Stand Jvm.LawKit Jvm.RoadKit Bundle Jvm.Pilot.@@N@@.Jvm.D
abbrev nm0 : MethodName := ⟨"java/lang/Math", "max", "(II)I"⟩
abbrev nm1 : MethodName := ⟨"com/example/libprox/libprox/Cpe$1", "<init>", "([I[I)V"⟩
abbrev nm2 : MethodName := ⟨"com/example/libprox/libprox/CpeTiedStopWordsPinLaw", "other", "([ZII)Z"⟩
abbrev nm3 : MethodName := ⟨"com/example/libprox/libprox/CpeTiedStopWordsPinLaw", "refFrom", "([ZII)I"⟩
abbrev nm4 : MethodName := ⟨"com/example/libprox/libprox/CpeTiedStopWordsPinLaw", "refTo", "([ZII)I"⟩
abbrev nm5 : MethodName := ⟨"com/example/libprox/libprox/Cpe$1", "tiedFrom", "(I)I"⟩
abbrev nm6 : MethodName := ⟨"com/example/libprox/libprox/Cpe$1", "tiedTo", "(I)I"⟩
abbrev nm7 : MethodName := ⟨"java/util/Arrays", "fill", "([II)V"⟩
abbrev nm8 : MethodName := ⟨"com/example/libprox/libprox/Cpe", "tiedStopWords", "([Z)Lcom/example/libprox/libprox/Combinations$Rule;"⟩
theorem wk7 {a0 : Array Value} {Z : State} (hw : ∀ d ∈ tables_1, d.before a0 Z = true) : (Jvm.Cond.methodLink "com/example/libprox/libprox/Cpe" (59 : Nat) ({ cls := "java/lang/Math", name := "max", desc := "(II)I" } : Jvm.MethodName)).before a0 Z = true := hw _ (List.mem_of_getElem? (i := 7) rfl)
theorem wk8 {a0 : Array Value} {Z : State} (hw : ∀ d ∈ tables_1, d.before a0 Z = true) : (Jvm.Cond.static ({ cls := "java/lang/Math", name := "max", desc := "(II)I" } : Jvm.MethodName)).before a0 Z = true := hw _ (List.mem_of_getElem? (i := 8) rfl)
theorem wk9 {a0 : Array Value} {Z : State} (hw : ∀ d ∈ tables_1, d.before a0 Z = true) : (Jvm.Cond.initialized "java/lang/Math").before a0 Z = true := hw _ (List.mem_of_getElem? (i := 9) rfl)
theorem wk10 {a0 : Array Value} {Z : State} (hw : ∀ d ∈ tables_1, d.before a0 Z = true) : (Jvm.Cond.code ({ cls := "java/lang/Math", name := "max", desc := "(II)I" } : Jvm.MethodName) jdk_29_method_65_code (2 : Nat) (Option.some Jvm.ClassFile.FieldType.int)).before a0 Z = true := hw _ (List.mem_of_getElem? (i := 10) rfl)
theorem wk41 {a0 : Array Value} {Z : State} (hw : ∀ d ∈ tables_1, d.before a0 Z = true) : (Jvm.Cond.methodLink "com/example/libprox/libprox/CpeTiedStopWordsPinLaw" (29 : Nat) ({ cls := "com/example/libprox/libprox/CpeTiedStopWordsPinLaw", name := "refFrom", desc := "([ZII)I" } : Jvm.MethodName)).before a0 Z = true := hw _ (List.mem_of_getElem? (i := 41) rfl)
theorem wk42 {a0 : Array Value} {Z : State} (hw : ∀ d ∈ tables_1, d.before a0 Z = true) : (Jvm.Cond.static ({ cls := "com/example/libprox/libprox/CpeTiedStopWordsPinLaw", name := "refFrom", desc := "([ZII)I" } : Jvm.MethodName)).before a0 Z = true := hw _ (List.mem_of_getElem? (i := 42) rfl)
theorem wk43 {a0 : Array Value} {Z : State} (hw : ∀ d ∈ tables_1, d.before a0 Z = true) : (Jvm.Cond.initialized "com/example/libprox/libprox/CpeTiedStopWordsPinLaw").before a0 Z = true := hw _ (List.mem_of_getElem? (i := 43) rfl)
theorem wk44 {a0 : Array Value} {Z : State} (hw : ∀ d ∈ tables_1, d.before a0 Z = true) : (Jvm.Cond.code ({ cls := "com/example/libprox/libprox/CpeTiedStopWordsPinLaw", name := "refFrom", desc := "([ZII)I" } : Jvm.MethodName) method_3_code (4 : Nat) (Option.some Jvm.ClassFile.FieldType.int)).before a0 Z = true := hw _ (List.mem_of_getElem? (i := 44) rfl)
theorem wk45 {a0 : Array Value} {Z : State} (hw : ∀ d ∈ tables_1, d.before a0 Z = true) : (Jvm.Cond.methodLink "com/example/libprox/libprox/CpeTiedStopWordsPinLaw" (7 : Nat) ({ cls := "com/example/libprox/libprox/CpeTiedStopWordsPinLaw", name := "other", desc := "([ZII)Z" } : Jvm.MethodName)).before a0 Z = true := hw _ (List.mem_of_getElem? (i := 45) rfl)
theorem wk46 {a0 : Array Value} {Z : State} (hw : ∀ d ∈ tables_1, d.before a0 Z = true) : (Jvm.Cond.static ({ cls := "com/example/libprox/libprox/CpeTiedStopWordsPinLaw", name := "other", desc := "([ZII)Z" } : Jvm.MethodName)).before a0 Z = true := hw _ (List.mem_of_getElem? (i := 46) rfl)
theorem wk47 {a0 : Array Value} {Z : State} (hw : ∀ d ∈ tables_1, d.before a0 Z = true) : (Jvm.Cond.code ({ cls := "com/example/libprox/libprox/CpeTiedStopWordsPinLaw", name := "other", desc := "([ZII)Z" } : Jvm.MethodName) method_2_code (3 : Nat) (Option.some Jvm.ClassFile.FieldType.boolean)).before a0 Z = true := hw _ (List.mem_of_getElem? (i := 47) rfl)
theorem wk48 {a0 : Array Value} {Z : State} (hw : ∀ d ∈ tables_1, d.before a0 Z = true) : (Jvm.Cond.methodLink "com/example/libprox/libprox/CpeTiedStopWordsPinLaw" (33 : Nat) ({ cls := "com/example/libprox/libprox/CpeTiedStopWordsPinLaw", name := "refTo", desc := "([ZII)I" } : Jvm.MethodName)).before a0 Z = true := hw _ (List.mem_of_getElem? (i := 48) rfl)
theorem wk49 {a0 : Array Value} {Z : State} (hw : ∀ d ∈ tables_1, d.before a0 Z = true) : (Jvm.Cond.static ({ cls := "com/example/libprox/libprox/CpeTiedStopWordsPinLaw", name := "refTo", desc := "([ZII)I" } : Jvm.MethodName)).before a0 Z = true := hw _ (List.mem_of_getElem? (i := 49) rfl)
theorem wk50 {a0 : Array Value} {Z : State} (hw : ∀ d ∈ tables_1, d.before a0 Z = true) : (Jvm.Cond.code ({ cls := "com/example/libprox/libprox/CpeTiedStopWordsPinLaw", name := "refTo", desc := "([ZII)I" } : Jvm.MethodName) method_4_code (3 : Nat) (Option.some Jvm.ClassFile.FieldType.int)).before a0 Z = true := hw _ (List.mem_of_getElem? (i := 50) rfl)
theorem own_callP {p : Program} {l : Launch} {e : Env} {R : Room} {s : State} {m : MethodId} {args : Array Value} {below : List Frame} {meth : Method} {c : Code} {T Z : State} {locs : List Loc} {cells slots : Nat} {a0 : Array Value} {h : Heap} {n0 : Nat} (X : Stand p l e R s m args below meth c T locs cells slots) (hx : p.tables.exec = Jvm.exec) (hZ : Z.Warmed39 s.vm) {own : String} {index : Nat} {y : MethodName} {bytes : ByteArray} {maxL : Nat} {ret : Option FieldType} {rm : Room} {rv : Value} {argsL rest : List Value} {W : Nat}
    (hown : s.vm.findClass own = some m.cls) (w1 : (Jvm.Cond.methodLink own index y).before a0 Z = true) (w2 : (Jvm.Cond.static y).before a0 Z = true) (w3 : (Jvm.Cond.initialized y.cls).before a0 Z = true) (w4 : (Jvm.Cond.code y bytes maxL ret).before a0 Z = true) (hy : y.cls ≠ "java/lang/invoke/MethodHandle" ∧ y.cls ≠ "java/lang/invoke/VarHandle")
    (hM : MetFree l y (head1 [Jvm.Cond.code y bytes maxL ret] rm) (fun a U => a = argsL.toArray ∧ Z.Warmed39 U.vm ∧ U.heap = h) (fun _ _ _ _ _ => True) (fun _ U o U' => ∃ v L, o = .returned v ∧ (v = some rv ∧ Fr n0 L ∧ U'.heap = h) ∧ FrameEnd U o U' L rm.cells rm.slots))
    (eT : T.heap = h) (N : Fr n0 locs) (hf : rm.frames + 1 ≤ R.frames) (hl : W + (maxL + 11) + rm.locals ≤ R.locals) (hc : cells + rm.cells ≤ R.cells) (hsl : slots + rm.slots ≤ R.slots)
    {g : JFrame} (hg : g.method = m) (hsize : g.locals.size = c.maxLocals) (hlen : ∀ sig, parseMethodDescriptor y.desc = some sig → argsL.length = sig.parameters.length) (hstack : g.stack = argsL.reverse ++ rest) (hW : 2 * g.monitorRoom + (rest.map fun v => v.category).sum ≤ W) (hdg : decode c.code g.pc = .ok (.invokestatic index, 3)) :
    ∃ T' L, Stand p l e R s m args below meth c T' L (cells + rm.cells) (slots + rm.slots) ∧ T'.heap = h ∧ Fr n0 L ∧ ∀ target, Steps p.tables e below (T'.setTop { g with pc := g.pc + 3, stack := rv :: rest }) target → Steps p.tables e below (T.setTop g) target := by
  obtain ⟨_, _, ⟨T', L', k', n'⟩, -, X', ⟨Lc, hQ, l1, y1, z1⟩, st⟩ := Jvm.LawKit.callS X hx (y := y) hown (mvT hZ w1) (mvT hZ w2) (mvT hZ w3) (mvT hZ w4) hy (backOf (W := W) (Q := fun v hh L => v = some rv ∧ Fr n0 L ∧ hh = h) hM hZ w4 w3 hf hl) hg hsize (argsL := argsL) (rest := rest) hlen hstack hW hdg (fun _ _ => ⟨rfl, eT, hc, hsl⟩)
  dsimp only [Pt.U, Pt.locs, Pt.cells, Pt.slots] at X' l1 y1 z1 st hQ
  subst l1 y1 z1
  obtain ⟨rfl, Nq, e'⟩ := hQ
  exact ⟨T', _, X', e', Fr.app N Nq, st⟩
theorem own_k0 : (0 : Int32).toInt = 0 := rfl
theorem own_k1 : (1 : Int32).toInt = 1 := rfl
theorem own_k2 : (2 : Int32).toInt = 2 := rfl
theorem own_k3 : (3 : Int32).toInt = 3 := rfl
theorem own_k4 : (4 : Int32).toInt = 4 := rfl
theorem own_k5 : (5 : Int32).toInt = 5 := rfl
theorem own_k6 : (6 : Int32).toInt = 6 := rfl
theorem own_mod1 (p : Int32) : ((p &&& (2147483647 : Int32)) % (1 : Int32)) = (0 : Int32) := by
  have h1 := c_mask p 2147483647 31 (by decide) (by decide)
  have h2 := (c_irem (p &&& 2147483647) 1 1 rfl).1 (by omega)
  simp only [← Int32.toInt_inj, own_k0]
  omega
theorem own_mod2 (p : Int32) : ((p &&& (2147483647 : Int32)) % (2 : Int32)) = (0 : Int32) ∨ ((p &&& (2147483647 : Int32)) % (2 : Int32)) = (1 : Int32) := by
  have h1 := c_mask p 2147483647 31 (by decide) (by decide)
  have h2 := (c_irem (p &&& 2147483647) 2 2 rfl).1 (by omega)
  simp only [← Int32.toInt_inj, own_k0, own_k1]
  omega
theorem own_mod3 (p : Int32) : ((p &&& (2147483647 : Int32)) % (3 : Int32)) = (0 : Int32) ∨ ((p &&& (2147483647 : Int32)) % (3 : Int32)) = (1 : Int32) ∨ ((p &&& (2147483647 : Int32)) % (3 : Int32)) = (2 : Int32) := by
  have h1 := c_mask p 2147483647 31 (by decide) (by decide)
  have h2 := (c_irem (p &&& 2147483647) 3 3 rfl).1 (by omega)
  simp only [← Int32.toInt_inj, own_k0, own_k1, own_k2]
  omega
theorem own_mod4 (p : Int32) : ((p &&& (2147483647 : Int32)) % (4 : Int32)) = (0 : Int32) ∨ ((p &&& (2147483647 : Int32)) % (4 : Int32)) = (1 : Int32) ∨ ((p &&& (2147483647 : Int32)) % (4 : Int32)) = (2 : Int32) ∨ ((p &&& (2147483647 : Int32)) % (4 : Int32)) = (3 : Int32) := by
  have h1 := c_mask p 2147483647 31 (by decide) (by decide)
  have h2 := (c_irem (p &&& 2147483647) 4 4 rfl).1 (by omega)
  simp only [← Int32.toInt_inj, own_k0, own_k1, own_k2, own_k3]
  omega
theorem own_mod5 (p : Int32) : ((p &&& (2147483647 : Int32)) % (5 : Int32)) = (0 : Int32) ∨ ((p &&& (2147483647 : Int32)) % (5 : Int32)) = (1 : Int32) ∨ ((p &&& (2147483647 : Int32)) % (5 : Int32)) = (2 : Int32) ∨ ((p &&& (2147483647 : Int32)) % (5 : Int32)) = (3 : Int32) ∨ ((p &&& (2147483647 : Int32)) % (5 : Int32)) = (4 : Int32) := by
  have h1 := c_mask p 2147483647 31 (by decide) (by decide)
  have h2 := (c_irem (p &&& 2147483647) 5 5 rfl).1 (by omega)
  simp only [← Int32.toInt_inj, own_k0, own_k1, own_k2, own_k3, own_k4]
  omega
theorem own_mod6 (p : Int32) : ((p &&& (2147483647 : Int32)) % (6 : Int32)) = (0 : Int32) ∨ ((p &&& (2147483647 : Int32)) % (6 : Int32)) = (1 : Int32) ∨ ((p &&& (2147483647 : Int32)) % (6 : Int32)) = (2 : Int32) ∨ ((p &&& (2147483647 : Int32)) % (6 : Int32)) = (3 : Int32) ∨ ((p &&& (2147483647 : Int32)) % (6 : Int32)) = (4 : Int32) ∨ ((p &&& (2147483647 : Int32)) % (6 : Int32)) = (5 : Int32) := by
  have h1 := c_mask p 2147483647 31 (by decide) (by decide)
  have h2 := (c_irem (p &&& 2147483647) 6 6 rfl).1 (by omega)
  simp only [← Int32.toInt_inj, own_k0, own_k1, own_k2, own_k3, own_k4, own_k5]
  omega
def own_at (xs : List Int32) (j : Int32) : Int32 := xs.getD j.toNatClampNeg 0
theorem own_getD (xs : List Int32) (i : Nat) : (xs.map Value.int).getD i (.int (0 : Int32)) = .int (xs.getD i 0) := by
  induction xs generalizing i with
  | nil => rfl
  | cons a t ih => cases i with
    | zero => rfl
    | succ n => exact ih n
def own_oth (xs : List Int32) (n i : Int32) : Int32 := (if i < (0 : Int32) then (0 : Int32) else (if i < n then (if (own_at xs i) = (0 : Int32) then (1 : Int32) else (0 : Int32)) else (0 : Int32)))
def own_max (p0 p1 : Int32) : Int32 := (if p0 < p1 then p1 else p0)
def own_refFrom (xs : List Int32) (p1 p2 : Int32) : Int32 := (if (if (own_oth xs p1 (0 : Int32)) = (0 : Int32) then (if (own_oth xs p1 (1 : Int32)) = (0 : Int32) then (if (own_oth xs p1 (2 : Int32)) = (0 : Int32) then (if (own_oth xs p1 (3 : Int32)) = (0 : Int32) then (if (own_oth xs p1 (4 : Int32)) = (0 : Int32) then (0 : Int32) else (1 : Int32)) else (1 : Int32)) else (1 : Int32)) else (1 : Int32)) else (1 : Int32)) = (0 : Int32) then (-1 : Int32) else (if (own_oth xs p1 p2) = (0 : Int32) then (if (own_oth xs p1 (p2 - (1 : Int32))) = (0 : Int32) then (if (own_oth xs p1 (p2 - (2 : Int32))) = (0 : Int32) then (if (own_oth xs p1 (p2 - (3 : Int32))) = (0 : Int32) then (if (own_oth xs p1 (p2 - (4 : Int32))) = (0 : Int32) then (0 : Int32) else (p2 - (4 : Int32))) else (p2 - (3 : Int32))) else (p2 - (2 : Int32))) else (p2 - (1 : Int32))) else p2))
def own_refTo (xs : List Int32) (p1 p2 : Int32) : Int32 := (if (own_oth xs p1 p2) = (0 : Int32) then (if (own_oth xs p1 (p2 + (1 : Int32))) = (0 : Int32) then (if (own_oth xs p1 (p2 + (2 : Int32))) = (0 : Int32) then (if (own_oth xs p1 (p2 + (3 : Int32))) = (0 : Int32) then (if (own_oth xs p1 (p2 + (4 : Int32))) = (0 : Int32) then (p1 - (1 : Int32)) else (p2 + (4 : Int32))) else (p2 + (3 : Int32))) else (p2 + (2 : Int32))) else (p2 + (1 : Int32))) else p2)
def own_F1_0 (y0 : Int32) : Int32 := (if y0 = (0 : Int32) then (0 : Int32) else (-1 : Int32))
def own_T1_0 (y0 : Int32) : Int32 := (if y0 = (0 : Int32) then (0 : Int32) else (0 : Int32))
def own_F2_0 (y0 y1 : Int32) : Int32 := (if y0 = (0 : Int32) then (0 : Int32) else (if y1 = (0 : Int32) then (0 : Int32) else (-1 : Int32)))
def own_T2_0 (y0 y1 : Int32) : Int32 := (if y0 = (0 : Int32) then (0 : Int32) else (if y1 = (0 : Int32) then (1 : Int32) else (1 : Int32)))
def own_F2_1 (y0 y1 : Int32) : Int32 := (if y1 = (0 : Int32) then (1 : Int32) else (if y0 = (0 : Int32) then (0 : Int32) else (-1 : Int32)))
def own_T2_1 (y0 y1 : Int32) : Int32 := (if y1 = (0 : Int32) then (1 : Int32) else (1 : Int32))
def own_F3_0 (y0 y1 y2 : Int32) : Int32 := (if y0 = (0 : Int32) then (0 : Int32) else (if y1 = (0 : Int32) then (0 : Int32) else (if y2 = (0 : Int32) then (0 : Int32) else (-1 : Int32))))
def own_T3_0 (y0 y1 y2 : Int32) : Int32 := (if y0 = (0 : Int32) then (0 : Int32) else (if y1 = (0 : Int32) then (1 : Int32) else (if y2 = (0 : Int32) then (2 : Int32) else (2 : Int32))))
def own_F3_1 (y0 y1 y2 : Int32) : Int32 := (if y1 = (0 : Int32) then (1 : Int32) else (if y0 = (0 : Int32) then (0 : Int32) else (if y2 = (0 : Int32) then (0 : Int32) else (-1 : Int32))))
def own_T3_1 (y0 y1 y2 : Int32) : Int32 := (if y1 = (0 : Int32) then (1 : Int32) else (if y2 = (0 : Int32) then (2 : Int32) else (2 : Int32)))
def own_F3_2 (y0 y1 y2 : Int32) : Int32 := (if y2 = (0 : Int32) then (2 : Int32) else (if y1 = (0 : Int32) then (1 : Int32) else (if y0 = (0 : Int32) then (0 : Int32) else (-1 : Int32))))
def own_T3_2 (y0 y1 y2 : Int32) : Int32 := (if y2 = (0 : Int32) then (2 : Int32) else (2 : Int32))
def own_F4_0 (y0 y1 y2 y3 : Int32) : Int32 := (if y0 = (0 : Int32) then (0 : Int32) else (if y1 = (0 : Int32) then (0 : Int32) else (if y2 = (0 : Int32) then (0 : Int32) else (if y3 = (0 : Int32) then (0 : Int32) else (-1 : Int32)))))
def own_T4_0 (y0 y1 y2 y3 : Int32) : Int32 := (if y0 = (0 : Int32) then (0 : Int32) else (if y1 = (0 : Int32) then (1 : Int32) else (if y2 = (0 : Int32) then (2 : Int32) else (if y3 = (0 : Int32) then (3 : Int32) else (3 : Int32)))))
def own_F4_1 (y0 y1 y2 y3 : Int32) : Int32 := (if y1 = (0 : Int32) then (1 : Int32) else (if y0 = (0 : Int32) then (0 : Int32) else (if y2 = (0 : Int32) then (0 : Int32) else (if y3 = (0 : Int32) then (0 : Int32) else (-1 : Int32)))))
def own_T4_1 (y0 y1 y2 y3 : Int32) : Int32 := (if y1 = (0 : Int32) then (1 : Int32) else (if y2 = (0 : Int32) then (2 : Int32) else (if y3 = (0 : Int32) then (3 : Int32) else (3 : Int32))))
def own_F4_2 (y0 y1 y2 y3 : Int32) : Int32 := (if y2 = (0 : Int32) then (2 : Int32) else (if y1 = (0 : Int32) then (1 : Int32) else (if y0 = (0 : Int32) then (0 : Int32) else (if y3 = (0 : Int32) then (0 : Int32) else (-1 : Int32)))))
def own_T4_2 (y0 y1 y2 y3 : Int32) : Int32 := (if y2 = (0 : Int32) then (2 : Int32) else (if y3 = (0 : Int32) then (3 : Int32) else (3 : Int32)))
def own_F4_3 (y0 y1 y2 y3 : Int32) : Int32 := (if y3 = (0 : Int32) then (3 : Int32) else (if y2 = (0 : Int32) then (2 : Int32) else (if y1 = (0 : Int32) then (1 : Int32) else (if y0 = (0 : Int32) then (0 : Int32) else (-1 : Int32)))))
def own_T4_3 (y0 y1 y2 y3 : Int32) : Int32 := (if y3 = (0 : Int32) then (3 : Int32) else (3 : Int32))
def own_F5_0 (y0 y1 y2 y3 y4 : Int32) : Int32 := (if y0 = (0 : Int32) then (0 : Int32) else (if y1 = (0 : Int32) then (0 : Int32) else (if y2 = (0 : Int32) then (0 : Int32) else (if y3 = (0 : Int32) then (0 : Int32) else (if y4 = (0 : Int32) then (0 : Int32) else (-1 : Int32))))))
def own_T5_0 (y0 y1 y2 y3 y4 : Int32) : Int32 := (if y0 = (0 : Int32) then (0 : Int32) else (if y1 = (0 : Int32) then (1 : Int32) else (if y2 = (0 : Int32) then (2 : Int32) else (if y3 = (0 : Int32) then (3 : Int32) else (if y4 = (0 : Int32) then (4 : Int32) else (4 : Int32))))))
def own_F5_1 (y0 y1 y2 y3 y4 : Int32) : Int32 := (if y1 = (0 : Int32) then (1 : Int32) else (if y0 = (0 : Int32) then (0 : Int32) else (if y2 = (0 : Int32) then (0 : Int32) else (if y3 = (0 : Int32) then (0 : Int32) else (if y4 = (0 : Int32) then (0 : Int32) else (-1 : Int32))))))
def own_T5_1 (y0 y1 y2 y3 y4 : Int32) : Int32 := (if y1 = (0 : Int32) then (1 : Int32) else (if y2 = (0 : Int32) then (2 : Int32) else (if y3 = (0 : Int32) then (3 : Int32) else (if y4 = (0 : Int32) then (4 : Int32) else (4 : Int32)))))
def own_F5_2 (y0 y1 y2 y3 y4 : Int32) : Int32 := (if y2 = (0 : Int32) then (2 : Int32) else (if y1 = (0 : Int32) then (1 : Int32) else (if y0 = (0 : Int32) then (0 : Int32) else (if y3 = (0 : Int32) then (0 : Int32) else (if y4 = (0 : Int32) then (0 : Int32) else (-1 : Int32))))))
def own_T5_2 (y0 y1 y2 y3 y4 : Int32) : Int32 := (if y2 = (0 : Int32) then (2 : Int32) else (if y3 = (0 : Int32) then (3 : Int32) else (if y4 = (0 : Int32) then (4 : Int32) else (4 : Int32))))
def own_F5_3 (y0 y1 y2 y3 y4 : Int32) : Int32 := (if y3 = (0 : Int32) then (3 : Int32) else (if y2 = (0 : Int32) then (2 : Int32) else (if y1 = (0 : Int32) then (1 : Int32) else (if y0 = (0 : Int32) then (0 : Int32) else (if y4 = (0 : Int32) then (0 : Int32) else (-1 : Int32))))))
def own_T5_3 (y0 y1 y2 y3 y4 : Int32) : Int32 := (if y3 = (0 : Int32) then (3 : Int32) else (if y4 = (0 : Int32) then (4 : Int32) else (4 : Int32)))
def own_F5_4 (y0 y1 y2 y3 y4 : Int32) : Int32 := (if y4 = (0 : Int32) then (4 : Int32) else (if y3 = (0 : Int32) then (3 : Int32) else (if y2 = (0 : Int32) then (2 : Int32) else (if y1 = (0 : Int32) then (1 : Int32) else (if y0 = (0 : Int32) then (0 : Int32) else (-1 : Int32))))))
def own_T5_4 (y0 y1 y2 y3 y4 : Int32) : Int32 := (if y4 = (0 : Int32) then (4 : Int32) else (4 : Int32))
theorem own_finF1_0 (y0 : Int32) : own_F1_0 y0 = own_refFrom [y0] (1 : Int32) (0 : Int32) := by
  have e0 : own_oth [y0] (1 : Int32) (0 : Int32) = (if y0 = (0 : Int32) then (1 : Int32) else (0 : Int32)) := rfl
  have e1 : own_oth [y0] (1 : Int32) (1 : Int32) = (0 : Int32) := rfl
  have e2 : own_oth [y0] (1 : Int32) (2 : Int32) = (0 : Int32) := rfl
  have e3 : own_oth [y0] (1 : Int32) (3 : Int32) = (0 : Int32) := rfl
  have e4 : own_oth [y0] (1 : Int32) (4 : Int32) = (0 : Int32) := rfl
  have e5 : own_oth [y0] (1 : Int32) ((0 : Int32) - (1 : Int32)) = (0 : Int32) := rfl
  have e6 : own_oth [y0] (1 : Int32) ((0 : Int32) - (2 : Int32)) = (0 : Int32) := rfl
  have e7 : own_oth [y0] (1 : Int32) ((0 : Int32) - (3 : Int32)) = (0 : Int32) := rfl
  have e8 : own_oth [y0] (1 : Int32) ((0 : Int32) - (4 : Int32)) = (0 : Int32) := rfl
  unfold own_F1_0 own_refFrom
  simp only [e0, e1, e2, e3, e4, e5, e6, e7, e8]
  by_cases q0 : y0 = (0 : Int32) <;> simp [q0]
theorem own_finT1_0 (y0 : Int32) : own_T1_0 y0 = own_refTo [y0] (1 : Int32) (0 : Int32) := by
  have e0 : own_oth [y0] (1 : Int32) (0 : Int32) = (if y0 = (0 : Int32) then (1 : Int32) else (0 : Int32)) := rfl
  have e1 : own_oth [y0] (1 : Int32) ((0 : Int32) + (1 : Int32)) = (0 : Int32) := rfl
  have e2 : own_oth [y0] (1 : Int32) ((0 : Int32) + (2 : Int32)) = (0 : Int32) := rfl
  have e3 : own_oth [y0] (1 : Int32) ((0 : Int32) + (3 : Int32)) = (0 : Int32) := rfl
  have e4 : own_oth [y0] (1 : Int32) ((0 : Int32) + (4 : Int32)) = (0 : Int32) := rfl
  unfold own_T1_0 own_refTo
  simp only [e0, e1, e2, e3, e4]
  by_cases q0 : y0 = (0 : Int32) <;> simp [q0]
theorem own_finF2_0 (y0 y1 : Int32) : own_F2_0 y0 y1 = own_refFrom [y0, y1] (2 : Int32) (0 : Int32) := by
  have e0 : own_oth [y0, y1] (2 : Int32) (0 : Int32) = (if y0 = (0 : Int32) then (1 : Int32) else (0 : Int32)) := rfl
  have e1 : own_oth [y0, y1] (2 : Int32) (1 : Int32) = (if y1 = (0 : Int32) then (1 : Int32) else (0 : Int32)) := rfl
  have e2 : own_oth [y0, y1] (2 : Int32) (2 : Int32) = (0 : Int32) := rfl
  have e3 : own_oth [y0, y1] (2 : Int32) (3 : Int32) = (0 : Int32) := rfl
  have e4 : own_oth [y0, y1] (2 : Int32) (4 : Int32) = (0 : Int32) := rfl
  have e5 : own_oth [y0, y1] (2 : Int32) ((0 : Int32) - (1 : Int32)) = (0 : Int32) := rfl
  have e6 : own_oth [y0, y1] (2 : Int32) ((0 : Int32) - (2 : Int32)) = (0 : Int32) := rfl
  have e7 : own_oth [y0, y1] (2 : Int32) ((0 : Int32) - (3 : Int32)) = (0 : Int32) := rfl
  have e8 : own_oth [y0, y1] (2 : Int32) ((0 : Int32) - (4 : Int32)) = (0 : Int32) := rfl
  unfold own_F2_0 own_refFrom
  simp only [e0, e1, e2, e3, e4, e5, e6, e7, e8]
  by_cases q0 : y0 = (0 : Int32) <;> by_cases q1 : y1 = (0 : Int32) <;> simp [q0, q1]
theorem own_finT2_0 (y0 y1 : Int32) : own_T2_0 y0 y1 = own_refTo [y0, y1] (2 : Int32) (0 : Int32) := by
  have e0 : own_oth [y0, y1] (2 : Int32) (0 : Int32) = (if y0 = (0 : Int32) then (1 : Int32) else (0 : Int32)) := rfl
  have e1 : own_oth [y0, y1] (2 : Int32) ((0 : Int32) + (1 : Int32)) = (if y1 = (0 : Int32) then (1 : Int32) else (0 : Int32)) := rfl
  have e2 : own_oth [y0, y1] (2 : Int32) ((0 : Int32) + (2 : Int32)) = (0 : Int32) := rfl
  have e3 : own_oth [y0, y1] (2 : Int32) ((0 : Int32) + (3 : Int32)) = (0 : Int32) := rfl
  have e4 : own_oth [y0, y1] (2 : Int32) ((0 : Int32) + (4 : Int32)) = (0 : Int32) := rfl
  unfold own_T2_0 own_refTo
  simp only [e0, e1, e2, e3, e4]
  by_cases q0 : y0 = (0 : Int32) <;> by_cases q1 : y1 = (0 : Int32) <;> simp [q0, q1]
theorem own_finF2_1 (y0 y1 : Int32) : own_F2_1 y0 y1 = own_refFrom [y0, y1] (2 : Int32) (1 : Int32) := by
  have e0 : own_oth [y0, y1] (2 : Int32) (0 : Int32) = (if y0 = (0 : Int32) then (1 : Int32) else (0 : Int32)) := rfl
  have e1 : own_oth [y0, y1] (2 : Int32) (1 : Int32) = (if y1 = (0 : Int32) then (1 : Int32) else (0 : Int32)) := rfl
  have e2 : own_oth [y0, y1] (2 : Int32) (2 : Int32) = (0 : Int32) := rfl
  have e3 : own_oth [y0, y1] (2 : Int32) (3 : Int32) = (0 : Int32) := rfl
  have e4 : own_oth [y0, y1] (2 : Int32) (4 : Int32) = (0 : Int32) := rfl
  have e5 : own_oth [y0, y1] (2 : Int32) ((1 : Int32) - (1 : Int32)) = (if y0 = (0 : Int32) then (1 : Int32) else (0 : Int32)) := rfl
  have e6 : own_oth [y0, y1] (2 : Int32) ((1 : Int32) - (2 : Int32)) = (0 : Int32) := rfl
  have e7 : own_oth [y0, y1] (2 : Int32) ((1 : Int32) - (3 : Int32)) = (0 : Int32) := rfl
  have e8 : own_oth [y0, y1] (2 : Int32) ((1 : Int32) - (4 : Int32)) = (0 : Int32) := rfl
  unfold own_F2_1 own_refFrom
  simp only [e0, e1, e2, e3, e4, e5, e6, e7, e8]
  by_cases q0 : y0 = (0 : Int32) <;> by_cases q1 : y1 = (0 : Int32) <;> simp [q0, q1]
theorem own_finT2_1 (y0 y1 : Int32) : own_T2_1 y0 y1 = own_refTo [y0, y1] (2 : Int32) (1 : Int32) := by
  have e0 : own_oth [y0, y1] (2 : Int32) (1 : Int32) = (if y1 = (0 : Int32) then (1 : Int32) else (0 : Int32)) := rfl
  have e1 : own_oth [y0, y1] (2 : Int32) ((1 : Int32) + (1 : Int32)) = (0 : Int32) := rfl
  have e2 : own_oth [y0, y1] (2 : Int32) ((1 : Int32) + (2 : Int32)) = (0 : Int32) := rfl
  have e3 : own_oth [y0, y1] (2 : Int32) ((1 : Int32) + (3 : Int32)) = (0 : Int32) := rfl
  have e4 : own_oth [y0, y1] (2 : Int32) ((1 : Int32) + (4 : Int32)) = (0 : Int32) := rfl
  unfold own_T2_1 own_refTo
  simp only [e0, e1, e2, e3, e4]
  by_cases q0 : y0 = (0 : Int32) <;> by_cases q1 : y1 = (0 : Int32) <;> simp [q0, q1]
theorem own_finF3_0 (y0 y1 y2 : Int32) : own_F3_0 y0 y1 y2 = own_refFrom [y0, y1, y2] (3 : Int32) (0 : Int32) := by
  have e0 : own_oth [y0, y1, y2] (3 : Int32) (0 : Int32) = (if y0 = (0 : Int32) then (1 : Int32) else (0 : Int32)) := rfl
  have e1 : own_oth [y0, y1, y2] (3 : Int32) (1 : Int32) = (if y1 = (0 : Int32) then (1 : Int32) else (0 : Int32)) := rfl
  have e2 : own_oth [y0, y1, y2] (3 : Int32) (2 : Int32) = (if y2 = (0 : Int32) then (1 : Int32) else (0 : Int32)) := rfl
  have e3 : own_oth [y0, y1, y2] (3 : Int32) (3 : Int32) = (0 : Int32) := rfl
  have e4 : own_oth [y0, y1, y2] (3 : Int32) (4 : Int32) = (0 : Int32) := rfl
  have e5 : own_oth [y0, y1, y2] (3 : Int32) ((0 : Int32) - (1 : Int32)) = (0 : Int32) := rfl
  have e6 : own_oth [y0, y1, y2] (3 : Int32) ((0 : Int32) - (2 : Int32)) = (0 : Int32) := rfl
  have e7 : own_oth [y0, y1, y2] (3 : Int32) ((0 : Int32) - (3 : Int32)) = (0 : Int32) := rfl
  have e8 : own_oth [y0, y1, y2] (3 : Int32) ((0 : Int32) - (4 : Int32)) = (0 : Int32) := rfl
  unfold own_F3_0 own_refFrom
  simp only [e0, e1, e2, e3, e4, e5, e6, e7, e8]
  by_cases q0 : y0 = (0 : Int32) <;> by_cases q1 : y1 = (0 : Int32) <;> by_cases q2 : y2 = (0 : Int32) <;> simp [q0, q1, q2]
theorem own_finT3_0 (y0 y1 y2 : Int32) : own_T3_0 y0 y1 y2 = own_refTo [y0, y1, y2] (3 : Int32) (0 : Int32) := by
  have e0 : own_oth [y0, y1, y2] (3 : Int32) (0 : Int32) = (if y0 = (0 : Int32) then (1 : Int32) else (0 : Int32)) := rfl
  have e1 : own_oth [y0, y1, y2] (3 : Int32) ((0 : Int32) + (1 : Int32)) = (if y1 = (0 : Int32) then (1 : Int32) else (0 : Int32)) := rfl
  have e2 : own_oth [y0, y1, y2] (3 : Int32) ((0 : Int32) + (2 : Int32)) = (if y2 = (0 : Int32) then (1 : Int32) else (0 : Int32)) := rfl
  have e3 : own_oth [y0, y1, y2] (3 : Int32) ((0 : Int32) + (3 : Int32)) = (0 : Int32) := rfl
  have e4 : own_oth [y0, y1, y2] (3 : Int32) ((0 : Int32) + (4 : Int32)) = (0 : Int32) := rfl
  unfold own_T3_0 own_refTo
  simp only [e0, e1, e2, e3, e4]
  by_cases q0 : y0 = (0 : Int32) <;> by_cases q1 : y1 = (0 : Int32) <;> by_cases q2 : y2 = (0 : Int32) <;> simp [q0, q1, q2]
theorem own_finF3_1 (y0 y1 y2 : Int32) : own_F3_1 y0 y1 y2 = own_refFrom [y0, y1, y2] (3 : Int32) (1 : Int32) := by
  have e0 : own_oth [y0, y1, y2] (3 : Int32) (0 : Int32) = (if y0 = (0 : Int32) then (1 : Int32) else (0 : Int32)) := rfl
  have e1 : own_oth [y0, y1, y2] (3 : Int32) (1 : Int32) = (if y1 = (0 : Int32) then (1 : Int32) else (0 : Int32)) := rfl
  have e2 : own_oth [y0, y1, y2] (3 : Int32) (2 : Int32) = (if y2 = (0 : Int32) then (1 : Int32) else (0 : Int32)) := rfl
  have e3 : own_oth [y0, y1, y2] (3 : Int32) (3 : Int32) = (0 : Int32) := rfl
  have e4 : own_oth [y0, y1, y2] (3 : Int32) (4 : Int32) = (0 : Int32) := rfl
  have e5 : own_oth [y0, y1, y2] (3 : Int32) ((1 : Int32) - (1 : Int32)) = (if y0 = (0 : Int32) then (1 : Int32) else (0 : Int32)) := rfl
  have e6 : own_oth [y0, y1, y2] (3 : Int32) ((1 : Int32) - (2 : Int32)) = (0 : Int32) := rfl
  have e7 : own_oth [y0, y1, y2] (3 : Int32) ((1 : Int32) - (3 : Int32)) = (0 : Int32) := rfl
  have e8 : own_oth [y0, y1, y2] (3 : Int32) ((1 : Int32) - (4 : Int32)) = (0 : Int32) := rfl
  unfold own_F3_1 own_refFrom
  simp only [e0, e1, e2, e3, e4, e5, e6, e7, e8]
  by_cases q0 : y0 = (0 : Int32) <;> by_cases q1 : y1 = (0 : Int32) <;> by_cases q2 : y2 = (0 : Int32) <;> simp [q0, q1, q2]
theorem own_finT3_1 (y0 y1 y2 : Int32) : own_T3_1 y0 y1 y2 = own_refTo [y0, y1, y2] (3 : Int32) (1 : Int32) := by
  have e0 : own_oth [y0, y1, y2] (3 : Int32) (1 : Int32) = (if y1 = (0 : Int32) then (1 : Int32) else (0 : Int32)) := rfl
  have e1 : own_oth [y0, y1, y2] (3 : Int32) ((1 : Int32) + (1 : Int32)) = (if y2 = (0 : Int32) then (1 : Int32) else (0 : Int32)) := rfl
  have e2 : own_oth [y0, y1, y2] (3 : Int32) ((1 : Int32) + (2 : Int32)) = (0 : Int32) := rfl
  have e3 : own_oth [y0, y1, y2] (3 : Int32) ((1 : Int32) + (3 : Int32)) = (0 : Int32) := rfl
  have e4 : own_oth [y0, y1, y2] (3 : Int32) ((1 : Int32) + (4 : Int32)) = (0 : Int32) := rfl
  unfold own_T3_1 own_refTo
  simp only [e0, e1, e2, e3, e4]
  by_cases q0 : y0 = (0 : Int32) <;> by_cases q1 : y1 = (0 : Int32) <;> by_cases q2 : y2 = (0 : Int32) <;> simp [q0, q1, q2]
theorem own_finF3_2 (y0 y1 y2 : Int32) : own_F3_2 y0 y1 y2 = own_refFrom [y0, y1, y2] (3 : Int32) (2 : Int32) := by
  have e0 : own_oth [y0, y1, y2] (3 : Int32) (0 : Int32) = (if y0 = (0 : Int32) then (1 : Int32) else (0 : Int32)) := rfl
  have e1 : own_oth [y0, y1, y2] (3 : Int32) (1 : Int32) = (if y1 = (0 : Int32) then (1 : Int32) else (0 : Int32)) := rfl
  have e2 : own_oth [y0, y1, y2] (3 : Int32) (2 : Int32) = (if y2 = (0 : Int32) then (1 : Int32) else (0 : Int32)) := rfl
  have e3 : own_oth [y0, y1, y2] (3 : Int32) (3 : Int32) = (0 : Int32) := rfl
  have e4 : own_oth [y0, y1, y2] (3 : Int32) (4 : Int32) = (0 : Int32) := rfl
  have e5 : own_oth [y0, y1, y2] (3 : Int32) ((2 : Int32) - (1 : Int32)) = (if y1 = (0 : Int32) then (1 : Int32) else (0 : Int32)) := rfl
  have e6 : own_oth [y0, y1, y2] (3 : Int32) ((2 : Int32) - (2 : Int32)) = (if y0 = (0 : Int32) then (1 : Int32) else (0 : Int32)) := rfl
  have e7 : own_oth [y0, y1, y2] (3 : Int32) ((2 : Int32) - (3 : Int32)) = (0 : Int32) := rfl
  have e8 : own_oth [y0, y1, y2] (3 : Int32) ((2 : Int32) - (4 : Int32)) = (0 : Int32) := rfl
  unfold own_F3_2 own_refFrom
  simp only [e0, e1, e2, e3, e4, e5, e6, e7, e8]
  by_cases q0 : y0 = (0 : Int32) <;> by_cases q1 : y1 = (0 : Int32) <;> by_cases q2 : y2 = (0 : Int32) <;> simp [q0, q1, q2]
theorem own_finT3_2 (y0 y1 y2 : Int32) : own_T3_2 y0 y1 y2 = own_refTo [y0, y1, y2] (3 : Int32) (2 : Int32) := by
  have e0 : own_oth [y0, y1, y2] (3 : Int32) (2 : Int32) = (if y2 = (0 : Int32) then (1 : Int32) else (0 : Int32)) := rfl
  have e1 : own_oth [y0, y1, y2] (3 : Int32) ((2 : Int32) + (1 : Int32)) = (0 : Int32) := rfl
  have e2 : own_oth [y0, y1, y2] (3 : Int32) ((2 : Int32) + (2 : Int32)) = (0 : Int32) := rfl
  have e3 : own_oth [y0, y1, y2] (3 : Int32) ((2 : Int32) + (3 : Int32)) = (0 : Int32) := rfl
  have e4 : own_oth [y0, y1, y2] (3 : Int32) ((2 : Int32) + (4 : Int32)) = (0 : Int32) := rfl
  unfold own_T3_2 own_refTo
  simp only [e0, e1, e2, e3, e4]
  by_cases q0 : y0 = (0 : Int32) <;> by_cases q1 : y1 = (0 : Int32) <;> by_cases q2 : y2 = (0 : Int32) <;> simp [q0, q1, q2]
theorem own_finF4_0 (y0 y1 y2 y3 : Int32) : own_F4_0 y0 y1 y2 y3 = own_refFrom [y0, y1, y2, y3] (4 : Int32) (0 : Int32) := by
  have e0 : own_oth [y0, y1, y2, y3] (4 : Int32) (0 : Int32) = (if y0 = (0 : Int32) then (1 : Int32) else (0 : Int32)) := rfl
  have e1 : own_oth [y0, y1, y2, y3] (4 : Int32) (1 : Int32) = (if y1 = (0 : Int32) then (1 : Int32) else (0 : Int32)) := rfl
  have e2 : own_oth [y0, y1, y2, y3] (4 : Int32) (2 : Int32) = (if y2 = (0 : Int32) then (1 : Int32) else (0 : Int32)) := rfl
  have e3 : own_oth [y0, y1, y2, y3] (4 : Int32) (3 : Int32) = (if y3 = (0 : Int32) then (1 : Int32) else (0 : Int32)) := rfl
  have e4 : own_oth [y0, y1, y2, y3] (4 : Int32) (4 : Int32) = (0 : Int32) := rfl
  have e5 : own_oth [y0, y1, y2, y3] (4 : Int32) ((0 : Int32) - (1 : Int32)) = (0 : Int32) := rfl
  have e6 : own_oth [y0, y1, y2, y3] (4 : Int32) ((0 : Int32) - (2 : Int32)) = (0 : Int32) := rfl
  have e7 : own_oth [y0, y1, y2, y3] (4 : Int32) ((0 : Int32) - (3 : Int32)) = (0 : Int32) := rfl
  have e8 : own_oth [y0, y1, y2, y3] (4 : Int32) ((0 : Int32) - (4 : Int32)) = (0 : Int32) := rfl
  unfold own_F4_0 own_refFrom
  simp only [e0, e1, e2, e3, e4, e5, e6, e7, e8]
  by_cases q0 : y0 = (0 : Int32) <;> by_cases q1 : y1 = (0 : Int32) <;> by_cases q2 : y2 = (0 : Int32) <;> by_cases q3 : y3 = (0 : Int32) <;> simp [q0, q1, q2, q3]
theorem own_finT4_0 (y0 y1 y2 y3 : Int32) : own_T4_0 y0 y1 y2 y3 = own_refTo [y0, y1, y2, y3] (4 : Int32) (0 : Int32) := by
  have e0 : own_oth [y0, y1, y2, y3] (4 : Int32) (0 : Int32) = (if y0 = (0 : Int32) then (1 : Int32) else (0 : Int32)) := rfl
  have e1 : own_oth [y0, y1, y2, y3] (4 : Int32) ((0 : Int32) + (1 : Int32)) = (if y1 = (0 : Int32) then (1 : Int32) else (0 : Int32)) := rfl
  have e2 : own_oth [y0, y1, y2, y3] (4 : Int32) ((0 : Int32) + (2 : Int32)) = (if y2 = (0 : Int32) then (1 : Int32) else (0 : Int32)) := rfl
  have e3 : own_oth [y0, y1, y2, y3] (4 : Int32) ((0 : Int32) + (3 : Int32)) = (if y3 = (0 : Int32) then (1 : Int32) else (0 : Int32)) := rfl
  have e4 : own_oth [y0, y1, y2, y3] (4 : Int32) ((0 : Int32) + (4 : Int32)) = (0 : Int32) := rfl
  unfold own_T4_0 own_refTo
  simp only [e0, e1, e2, e3, e4]
  by_cases q0 : y0 = (0 : Int32) <;> by_cases q1 : y1 = (0 : Int32) <;> by_cases q2 : y2 = (0 : Int32) <;> by_cases q3 : y3 = (0 : Int32) <;> simp [q0, q1, q2, q3]
theorem own_finF4_1 (y0 y1 y2 y3 : Int32) : own_F4_1 y0 y1 y2 y3 = own_refFrom [y0, y1, y2, y3] (4 : Int32) (1 : Int32) := by
  have e0 : own_oth [y0, y1, y2, y3] (4 : Int32) (0 : Int32) = (if y0 = (0 : Int32) then (1 : Int32) else (0 : Int32)) := rfl
  have e1 : own_oth [y0, y1, y2, y3] (4 : Int32) (1 : Int32) = (if y1 = (0 : Int32) then (1 : Int32) else (0 : Int32)) := rfl
  have e2 : own_oth [y0, y1, y2, y3] (4 : Int32) (2 : Int32) = (if y2 = (0 : Int32) then (1 : Int32) else (0 : Int32)) := rfl
  have e3 : own_oth [y0, y1, y2, y3] (4 : Int32) (3 : Int32) = (if y3 = (0 : Int32) then (1 : Int32) else (0 : Int32)) := rfl
  have e4 : own_oth [y0, y1, y2, y3] (4 : Int32) (4 : Int32) = (0 : Int32) := rfl
  have e5 : own_oth [y0, y1, y2, y3] (4 : Int32) ((1 : Int32) - (1 : Int32)) = (if y0 = (0 : Int32) then (1 : Int32) else (0 : Int32)) := rfl
  have e6 : own_oth [y0, y1, y2, y3] (4 : Int32) ((1 : Int32) - (2 : Int32)) = (0 : Int32) := rfl
  have e7 : own_oth [y0, y1, y2, y3] (4 : Int32) ((1 : Int32) - (3 : Int32)) = (0 : Int32) := rfl
  have e8 : own_oth [y0, y1, y2, y3] (4 : Int32) ((1 : Int32) - (4 : Int32)) = (0 : Int32) := rfl
  unfold own_F4_1 own_refFrom
  simp only [e0, e1, e2, e3, e4, e5, e6, e7, e8]
  by_cases q0 : y0 = (0 : Int32) <;> by_cases q1 : y1 = (0 : Int32) <;> by_cases q2 : y2 = (0 : Int32) <;> by_cases q3 : y3 = (0 : Int32) <;> simp [q0, q1, q2, q3]
theorem own_finT4_1 (y0 y1 y2 y3 : Int32) : own_T4_1 y0 y1 y2 y3 = own_refTo [y0, y1, y2, y3] (4 : Int32) (1 : Int32) := by
  have e0 : own_oth [y0, y1, y2, y3] (4 : Int32) (1 : Int32) = (if y1 = (0 : Int32) then (1 : Int32) else (0 : Int32)) := rfl
  have e1 : own_oth [y0, y1, y2, y3] (4 : Int32) ((1 : Int32) + (1 : Int32)) = (if y2 = (0 : Int32) then (1 : Int32) else (0 : Int32)) := rfl
  have e2 : own_oth [y0, y1, y2, y3] (4 : Int32) ((1 : Int32) + (2 : Int32)) = (if y3 = (0 : Int32) then (1 : Int32) else (0 : Int32)) := rfl
  have e3 : own_oth [y0, y1, y2, y3] (4 : Int32) ((1 : Int32) + (3 : Int32)) = (0 : Int32) := rfl
  have e4 : own_oth [y0, y1, y2, y3] (4 : Int32) ((1 : Int32) + (4 : Int32)) = (0 : Int32) := rfl
  unfold own_T4_1 own_refTo
  simp only [e0, e1, e2, e3, e4]
  by_cases q0 : y0 = (0 : Int32) <;> by_cases q1 : y1 = (0 : Int32) <;> by_cases q2 : y2 = (0 : Int32) <;> by_cases q3 : y3 = (0 : Int32) <;> simp [q0, q1, q2, q3]
theorem own_finF4_2 (y0 y1 y2 y3 : Int32) : own_F4_2 y0 y1 y2 y3 = own_refFrom [y0, y1, y2, y3] (4 : Int32) (2 : Int32) := by
  have e0 : own_oth [y0, y1, y2, y3] (4 : Int32) (0 : Int32) = (if y0 = (0 : Int32) then (1 : Int32) else (0 : Int32)) := rfl
  have e1 : own_oth [y0, y1, y2, y3] (4 : Int32) (1 : Int32) = (if y1 = (0 : Int32) then (1 : Int32) else (0 : Int32)) := rfl
  have e2 : own_oth [y0, y1, y2, y3] (4 : Int32) (2 : Int32) = (if y2 = (0 : Int32) then (1 : Int32) else (0 : Int32)) := rfl
  have e3 : own_oth [y0, y1, y2, y3] (4 : Int32) (3 : Int32) = (if y3 = (0 : Int32) then (1 : Int32) else (0 : Int32)) := rfl
  have e4 : own_oth [y0, y1, y2, y3] (4 : Int32) (4 : Int32) = (0 : Int32) := rfl
  have e5 : own_oth [y0, y1, y2, y3] (4 : Int32) ((2 : Int32) - (1 : Int32)) = (if y1 = (0 : Int32) then (1 : Int32) else (0 : Int32)) := rfl
  have e6 : own_oth [y0, y1, y2, y3] (4 : Int32) ((2 : Int32) - (2 : Int32)) = (if y0 = (0 : Int32) then (1 : Int32) else (0 : Int32)) := rfl
  have e7 : own_oth [y0, y1, y2, y3] (4 : Int32) ((2 : Int32) - (3 : Int32)) = (0 : Int32) := rfl
  have e8 : own_oth [y0, y1, y2, y3] (4 : Int32) ((2 : Int32) - (4 : Int32)) = (0 : Int32) := rfl
  unfold own_F4_2 own_refFrom
  simp only [e0, e1, e2, e3, e4, e5, e6, e7, e8]
  by_cases q0 : y0 = (0 : Int32) <;> by_cases q1 : y1 = (0 : Int32) <;> by_cases q2 : y2 = (0 : Int32) <;> by_cases q3 : y3 = (0 : Int32) <;> simp [q0, q1, q2, q3]
theorem own_finT4_2 (y0 y1 y2 y3 : Int32) : own_T4_2 y0 y1 y2 y3 = own_refTo [y0, y1, y2, y3] (4 : Int32) (2 : Int32) := by
  have e0 : own_oth [y0, y1, y2, y3] (4 : Int32) (2 : Int32) = (if y2 = (0 : Int32) then (1 : Int32) else (0 : Int32)) := rfl
  have e1 : own_oth [y0, y1, y2, y3] (4 : Int32) ((2 : Int32) + (1 : Int32)) = (if y3 = (0 : Int32) then (1 : Int32) else (0 : Int32)) := rfl
  have e2 : own_oth [y0, y1, y2, y3] (4 : Int32) ((2 : Int32) + (2 : Int32)) = (0 : Int32) := rfl
  have e3 : own_oth [y0, y1, y2, y3] (4 : Int32) ((2 : Int32) + (3 : Int32)) = (0 : Int32) := rfl
  have e4 : own_oth [y0, y1, y2, y3] (4 : Int32) ((2 : Int32) + (4 : Int32)) = (0 : Int32) := rfl
  unfold own_T4_2 own_refTo
  simp only [e0, e1, e2, e3, e4]
  by_cases q0 : y0 = (0 : Int32) <;> by_cases q1 : y1 = (0 : Int32) <;> by_cases q2 : y2 = (0 : Int32) <;> by_cases q3 : y3 = (0 : Int32) <;> simp [q0, q1, q2, q3]
theorem own_finF4_3 (y0 y1 y2 y3 : Int32) : own_F4_3 y0 y1 y2 y3 = own_refFrom [y0, y1, y2, y3] (4 : Int32) (3 : Int32) := by
  have e0 : own_oth [y0, y1, y2, y3] (4 : Int32) (0 : Int32) = (if y0 = (0 : Int32) then (1 : Int32) else (0 : Int32)) := rfl
  have e1 : own_oth [y0, y1, y2, y3] (4 : Int32) (1 : Int32) = (if y1 = (0 : Int32) then (1 : Int32) else (0 : Int32)) := rfl
  have e2 : own_oth [y0, y1, y2, y3] (4 : Int32) (2 : Int32) = (if y2 = (0 : Int32) then (1 : Int32) else (0 : Int32)) := rfl
  have e3 : own_oth [y0, y1, y2, y3] (4 : Int32) (3 : Int32) = (if y3 = (0 : Int32) then (1 : Int32) else (0 : Int32)) := rfl
  have e4 : own_oth [y0, y1, y2, y3] (4 : Int32) (4 : Int32) = (0 : Int32) := rfl
  have e5 : own_oth [y0, y1, y2, y3] (4 : Int32) ((3 : Int32) - (1 : Int32)) = (if y2 = (0 : Int32) then (1 : Int32) else (0 : Int32)) := rfl
  have e6 : own_oth [y0, y1, y2, y3] (4 : Int32) ((3 : Int32) - (2 : Int32)) = (if y1 = (0 : Int32) then (1 : Int32) else (0 : Int32)) := rfl
  have e7 : own_oth [y0, y1, y2, y3] (4 : Int32) ((3 : Int32) - (3 : Int32)) = (if y0 = (0 : Int32) then (1 : Int32) else (0 : Int32)) := rfl
  have e8 : own_oth [y0, y1, y2, y3] (4 : Int32) ((3 : Int32) - (4 : Int32)) = (0 : Int32) := rfl
  unfold own_F4_3 own_refFrom
  simp only [e0, e1, e2, e3, e4, e5, e6, e7, e8]
  by_cases q0 : y0 = (0 : Int32) <;> by_cases q1 : y1 = (0 : Int32) <;> by_cases q2 : y2 = (0 : Int32) <;> by_cases q3 : y3 = (0 : Int32) <;> simp [q0, q1, q2, q3]
theorem own_finT4_3 (y0 y1 y2 y3 : Int32) : own_T4_3 y0 y1 y2 y3 = own_refTo [y0, y1, y2, y3] (4 : Int32) (3 : Int32) := by
  have e0 : own_oth [y0, y1, y2, y3] (4 : Int32) (3 : Int32) = (if y3 = (0 : Int32) then (1 : Int32) else (0 : Int32)) := rfl
  have e1 : own_oth [y0, y1, y2, y3] (4 : Int32) ((3 : Int32) + (1 : Int32)) = (0 : Int32) := rfl
  have e2 : own_oth [y0, y1, y2, y3] (4 : Int32) ((3 : Int32) + (2 : Int32)) = (0 : Int32) := rfl
  have e3 : own_oth [y0, y1, y2, y3] (4 : Int32) ((3 : Int32) + (3 : Int32)) = (0 : Int32) := rfl
  have e4 : own_oth [y0, y1, y2, y3] (4 : Int32) ((3 : Int32) + (4 : Int32)) = (0 : Int32) := rfl
  unfold own_T4_3 own_refTo
  simp only [e0, e1, e2, e3, e4]
  by_cases q0 : y0 = (0 : Int32) <;> by_cases q1 : y1 = (0 : Int32) <;> by_cases q2 : y2 = (0 : Int32) <;> by_cases q3 : y3 = (0 : Int32) <;> simp [q0, q1, q2, q3]
theorem own_finF5_0 (y0 y1 y2 y3 y4 : Int32) : own_F5_0 y0 y1 y2 y3 y4 = own_refFrom [y0, y1, y2, y3, y4] (5 : Int32) (0 : Int32) := by
  have e0 : own_oth [y0, y1, y2, y3, y4] (5 : Int32) (0 : Int32) = (if y0 = (0 : Int32) then (1 : Int32) else (0 : Int32)) := rfl
  have e1 : own_oth [y0, y1, y2, y3, y4] (5 : Int32) (1 : Int32) = (if y1 = (0 : Int32) then (1 : Int32) else (0 : Int32)) := rfl
  have e2 : own_oth [y0, y1, y2, y3, y4] (5 : Int32) (2 : Int32) = (if y2 = (0 : Int32) then (1 : Int32) else (0 : Int32)) := rfl
  have e3 : own_oth [y0, y1, y2, y3, y4] (5 : Int32) (3 : Int32) = (if y3 = (0 : Int32) then (1 : Int32) else (0 : Int32)) := rfl
  have e4 : own_oth [y0, y1, y2, y3, y4] (5 : Int32) (4 : Int32) = (if y4 = (0 : Int32) then (1 : Int32) else (0 : Int32)) := rfl
  have e5 : own_oth [y0, y1, y2, y3, y4] (5 : Int32) ((0 : Int32) - (1 : Int32)) = (0 : Int32) := rfl
  have e6 : own_oth [y0, y1, y2, y3, y4] (5 : Int32) ((0 : Int32) - (2 : Int32)) = (0 : Int32) := rfl
  have e7 : own_oth [y0, y1, y2, y3, y4] (5 : Int32) ((0 : Int32) - (3 : Int32)) = (0 : Int32) := rfl
  have e8 : own_oth [y0, y1, y2, y3, y4] (5 : Int32) ((0 : Int32) - (4 : Int32)) = (0 : Int32) := rfl
  unfold own_F5_0 own_refFrom
  simp only [e0, e1, e2, e3, e4, e5, e6, e7, e8]
  by_cases q0 : y0 = (0 : Int32) <;> by_cases q1 : y1 = (0 : Int32) <;> by_cases q2 : y2 = (0 : Int32) <;> by_cases q3 : y3 = (0 : Int32) <;> by_cases q4 : y4 = (0 : Int32) <;> simp [q0, q1, q2, q3, q4]
theorem own_finT5_0 (y0 y1 y2 y3 y4 : Int32) : own_T5_0 y0 y1 y2 y3 y4 = own_refTo [y0, y1, y2, y3, y4] (5 : Int32) (0 : Int32) := by
  have e0 : own_oth [y0, y1, y2, y3, y4] (5 : Int32) (0 : Int32) = (if y0 = (0 : Int32) then (1 : Int32) else (0 : Int32)) := rfl
  have e1 : own_oth [y0, y1, y2, y3, y4] (5 : Int32) ((0 : Int32) + (1 : Int32)) = (if y1 = (0 : Int32) then (1 : Int32) else (0 : Int32)) := rfl
  have e2 : own_oth [y0, y1, y2, y3, y4] (5 : Int32) ((0 : Int32) + (2 : Int32)) = (if y2 = (0 : Int32) then (1 : Int32) else (0 : Int32)) := rfl
  have e3 : own_oth [y0, y1, y2, y3, y4] (5 : Int32) ((0 : Int32) + (3 : Int32)) = (if y3 = (0 : Int32) then (1 : Int32) else (0 : Int32)) := rfl
  have e4 : own_oth [y0, y1, y2, y3, y4] (5 : Int32) ((0 : Int32) + (4 : Int32)) = (if y4 = (0 : Int32) then (1 : Int32) else (0 : Int32)) := rfl
  unfold own_T5_0 own_refTo
  simp only [e0, e1, e2, e3, e4]
  by_cases q0 : y0 = (0 : Int32) <;> by_cases q1 : y1 = (0 : Int32) <;> by_cases q2 : y2 = (0 : Int32) <;> by_cases q3 : y3 = (0 : Int32) <;> by_cases q4 : y4 = (0 : Int32) <;> simp [q0, q1, q2, q3, q4]
theorem own_finF5_1 (y0 y1 y2 y3 y4 : Int32) : own_F5_1 y0 y1 y2 y3 y4 = own_refFrom [y0, y1, y2, y3, y4] (5 : Int32) (1 : Int32) := by
  have e0 : own_oth [y0, y1, y2, y3, y4] (5 : Int32) (0 : Int32) = (if y0 = (0 : Int32) then (1 : Int32) else (0 : Int32)) := rfl
  have e1 : own_oth [y0, y1, y2, y3, y4] (5 : Int32) (1 : Int32) = (if y1 = (0 : Int32) then (1 : Int32) else (0 : Int32)) := rfl
  have e2 : own_oth [y0, y1, y2, y3, y4] (5 : Int32) (2 : Int32) = (if y2 = (0 : Int32) then (1 : Int32) else (0 : Int32)) := rfl
  have e3 : own_oth [y0, y1, y2, y3, y4] (5 : Int32) (3 : Int32) = (if y3 = (0 : Int32) then (1 : Int32) else (0 : Int32)) := rfl
  have e4 : own_oth [y0, y1, y2, y3, y4] (5 : Int32) (4 : Int32) = (if y4 = (0 : Int32) then (1 : Int32) else (0 : Int32)) := rfl
  have e5 : own_oth [y0, y1, y2, y3, y4] (5 : Int32) ((1 : Int32) - (1 : Int32)) = (if y0 = (0 : Int32) then (1 : Int32) else (0 : Int32)) := rfl
  have e6 : own_oth [y0, y1, y2, y3, y4] (5 : Int32) ((1 : Int32) - (2 : Int32)) = (0 : Int32) := rfl
  have e7 : own_oth [y0, y1, y2, y3, y4] (5 : Int32) ((1 : Int32) - (3 : Int32)) = (0 : Int32) := rfl
  have e8 : own_oth [y0, y1, y2, y3, y4] (5 : Int32) ((1 : Int32) - (4 : Int32)) = (0 : Int32) := rfl
  unfold own_F5_1 own_refFrom
  simp only [e0, e1, e2, e3, e4, e5, e6, e7, e8]
  by_cases q0 : y0 = (0 : Int32) <;> by_cases q1 : y1 = (0 : Int32) <;> by_cases q2 : y2 = (0 : Int32) <;> by_cases q3 : y3 = (0 : Int32) <;> by_cases q4 : y4 = (0 : Int32) <;> simp [q0, q1, q2, q3, q4]
theorem own_finT5_1 (y0 y1 y2 y3 y4 : Int32) : own_T5_1 y0 y1 y2 y3 y4 = own_refTo [y0, y1, y2, y3, y4] (5 : Int32) (1 : Int32) := by
  have e0 : own_oth [y0, y1, y2, y3, y4] (5 : Int32) (1 : Int32) = (if y1 = (0 : Int32) then (1 : Int32) else (0 : Int32)) := rfl
  have e1 : own_oth [y0, y1, y2, y3, y4] (5 : Int32) ((1 : Int32) + (1 : Int32)) = (if y2 = (0 : Int32) then (1 : Int32) else (0 : Int32)) := rfl
  have e2 : own_oth [y0, y1, y2, y3, y4] (5 : Int32) ((1 : Int32) + (2 : Int32)) = (if y3 = (0 : Int32) then (1 : Int32) else (0 : Int32)) := rfl
  have e3 : own_oth [y0, y1, y2, y3, y4] (5 : Int32) ((1 : Int32) + (3 : Int32)) = (if y4 = (0 : Int32) then (1 : Int32) else (0 : Int32)) := rfl
  have e4 : own_oth [y0, y1, y2, y3, y4] (5 : Int32) ((1 : Int32) + (4 : Int32)) = (0 : Int32) := rfl
  unfold own_T5_1 own_refTo
  simp only [e0, e1, e2, e3, e4]
  by_cases q0 : y0 = (0 : Int32) <;> by_cases q1 : y1 = (0 : Int32) <;> by_cases q2 : y2 = (0 : Int32) <;> by_cases q3 : y3 = (0 : Int32) <;> by_cases q4 : y4 = (0 : Int32) <;> simp [q0, q1, q2, q3, q4]
theorem own_finF5_2 (y0 y1 y2 y3 y4 : Int32) : own_F5_2 y0 y1 y2 y3 y4 = own_refFrom [y0, y1, y2, y3, y4] (5 : Int32) (2 : Int32) := by
  have e0 : own_oth [y0, y1, y2, y3, y4] (5 : Int32) (0 : Int32) = (if y0 = (0 : Int32) then (1 : Int32) else (0 : Int32)) := rfl
  have e1 : own_oth [y0, y1, y2, y3, y4] (5 : Int32) (1 : Int32) = (if y1 = (0 : Int32) then (1 : Int32) else (0 : Int32)) := rfl
  have e2 : own_oth [y0, y1, y2, y3, y4] (5 : Int32) (2 : Int32) = (if y2 = (0 : Int32) then (1 : Int32) else (0 : Int32)) := rfl
  have e3 : own_oth [y0, y1, y2, y3, y4] (5 : Int32) (3 : Int32) = (if y3 = (0 : Int32) then (1 : Int32) else (0 : Int32)) := rfl
  have e4 : own_oth [y0, y1, y2, y3, y4] (5 : Int32) (4 : Int32) = (if y4 = (0 : Int32) then (1 : Int32) else (0 : Int32)) := rfl
  have e5 : own_oth [y0, y1, y2, y3, y4] (5 : Int32) ((2 : Int32) - (1 : Int32)) = (if y1 = (0 : Int32) then (1 : Int32) else (0 : Int32)) := rfl
  have e6 : own_oth [y0, y1, y2, y3, y4] (5 : Int32) ((2 : Int32) - (2 : Int32)) = (if y0 = (0 : Int32) then (1 : Int32) else (0 : Int32)) := rfl
  have e7 : own_oth [y0, y1, y2, y3, y4] (5 : Int32) ((2 : Int32) - (3 : Int32)) = (0 : Int32) := rfl
  have e8 : own_oth [y0, y1, y2, y3, y4] (5 : Int32) ((2 : Int32) - (4 : Int32)) = (0 : Int32) := rfl
  unfold own_F5_2 own_refFrom
  simp only [e0, e1, e2, e3, e4, e5, e6, e7, e8]
  by_cases q0 : y0 = (0 : Int32) <;> by_cases q1 : y1 = (0 : Int32) <;> by_cases q2 : y2 = (0 : Int32) <;> by_cases q3 : y3 = (0 : Int32) <;> by_cases q4 : y4 = (0 : Int32) <;> simp [q0, q1, q2, q3, q4]
theorem own_finT5_2 (y0 y1 y2 y3 y4 : Int32) : own_T5_2 y0 y1 y2 y3 y4 = own_refTo [y0, y1, y2, y3, y4] (5 : Int32) (2 : Int32) := by
  have e0 : own_oth [y0, y1, y2, y3, y4] (5 : Int32) (2 : Int32) = (if y2 = (0 : Int32) then (1 : Int32) else (0 : Int32)) := rfl
  have e1 : own_oth [y0, y1, y2, y3, y4] (5 : Int32) ((2 : Int32) + (1 : Int32)) = (if y3 = (0 : Int32) then (1 : Int32) else (0 : Int32)) := rfl
  have e2 : own_oth [y0, y1, y2, y3, y4] (5 : Int32) ((2 : Int32) + (2 : Int32)) = (if y4 = (0 : Int32) then (1 : Int32) else (0 : Int32)) := rfl
  have e3 : own_oth [y0, y1, y2, y3, y4] (5 : Int32) ((2 : Int32) + (3 : Int32)) = (0 : Int32) := rfl
  have e4 : own_oth [y0, y1, y2, y3, y4] (5 : Int32) ((2 : Int32) + (4 : Int32)) = (0 : Int32) := rfl
  unfold own_T5_2 own_refTo
  simp only [e0, e1, e2, e3, e4]
  by_cases q0 : y0 = (0 : Int32) <;> by_cases q1 : y1 = (0 : Int32) <;> by_cases q2 : y2 = (0 : Int32) <;> by_cases q3 : y3 = (0 : Int32) <;> by_cases q4 : y4 = (0 : Int32) <;> simp [q0, q1, q2, q3, q4]
theorem own_finF5_3 (y0 y1 y2 y3 y4 : Int32) : own_F5_3 y0 y1 y2 y3 y4 = own_refFrom [y0, y1, y2, y3, y4] (5 : Int32) (3 : Int32) := by
  have e0 : own_oth [y0, y1, y2, y3, y4] (5 : Int32) (0 : Int32) = (if y0 = (0 : Int32) then (1 : Int32) else (0 : Int32)) := rfl
  have e1 : own_oth [y0, y1, y2, y3, y4] (5 : Int32) (1 : Int32) = (if y1 = (0 : Int32) then (1 : Int32) else (0 : Int32)) := rfl
  have e2 : own_oth [y0, y1, y2, y3, y4] (5 : Int32) (2 : Int32) = (if y2 = (0 : Int32) then (1 : Int32) else (0 : Int32)) := rfl
  have e3 : own_oth [y0, y1, y2, y3, y4] (5 : Int32) (3 : Int32) = (if y3 = (0 : Int32) then (1 : Int32) else (0 : Int32)) := rfl
  have e4 : own_oth [y0, y1, y2, y3, y4] (5 : Int32) (4 : Int32) = (if y4 = (0 : Int32) then (1 : Int32) else (0 : Int32)) := rfl
  have e5 : own_oth [y0, y1, y2, y3, y4] (5 : Int32) ((3 : Int32) - (1 : Int32)) = (if y2 = (0 : Int32) then (1 : Int32) else (0 : Int32)) := rfl
  have e6 : own_oth [y0, y1, y2, y3, y4] (5 : Int32) ((3 : Int32) - (2 : Int32)) = (if y1 = (0 : Int32) then (1 : Int32) else (0 : Int32)) := rfl
  have e7 : own_oth [y0, y1, y2, y3, y4] (5 : Int32) ((3 : Int32) - (3 : Int32)) = (if y0 = (0 : Int32) then (1 : Int32) else (0 : Int32)) := rfl
  have e8 : own_oth [y0, y1, y2, y3, y4] (5 : Int32) ((3 : Int32) - (4 : Int32)) = (0 : Int32) := rfl
  unfold own_F5_3 own_refFrom
  simp only [e0, e1, e2, e3, e4, e5, e6, e7, e8]
  by_cases q0 : y0 = (0 : Int32) <;> by_cases q1 : y1 = (0 : Int32) <;> by_cases q2 : y2 = (0 : Int32) <;> by_cases q3 : y3 = (0 : Int32) <;> by_cases q4 : y4 = (0 : Int32) <;> simp [q0, q1, q2, q3, q4]
theorem own_finT5_3 (y0 y1 y2 y3 y4 : Int32) : own_T5_3 y0 y1 y2 y3 y4 = own_refTo [y0, y1, y2, y3, y4] (5 : Int32) (3 : Int32) := by
  have e0 : own_oth [y0, y1, y2, y3, y4] (5 : Int32) (3 : Int32) = (if y3 = (0 : Int32) then (1 : Int32) else (0 : Int32)) := rfl
  have e1 : own_oth [y0, y1, y2, y3, y4] (5 : Int32) ((3 : Int32) + (1 : Int32)) = (if y4 = (0 : Int32) then (1 : Int32) else (0 : Int32)) := rfl
  have e2 : own_oth [y0, y1, y2, y3, y4] (5 : Int32) ((3 : Int32) + (2 : Int32)) = (0 : Int32) := rfl
  have e3 : own_oth [y0, y1, y2, y3, y4] (5 : Int32) ((3 : Int32) + (3 : Int32)) = (0 : Int32) := rfl
  have e4 : own_oth [y0, y1, y2, y3, y4] (5 : Int32) ((3 : Int32) + (4 : Int32)) = (0 : Int32) := rfl
  unfold own_T5_3 own_refTo
  simp only [e0, e1, e2, e3, e4]
  by_cases q0 : y0 = (0 : Int32) <;> by_cases q1 : y1 = (0 : Int32) <;> by_cases q2 : y2 = (0 : Int32) <;> by_cases q3 : y3 = (0 : Int32) <;> by_cases q4 : y4 = (0 : Int32) <;> simp [q0, q1, q2, q3, q4]
theorem own_finF5_4 (y0 y1 y2 y3 y4 : Int32) : own_F5_4 y0 y1 y2 y3 y4 = own_refFrom [y0, y1, y2, y3, y4] (5 : Int32) (4 : Int32) := by
  have e0 : own_oth [y0, y1, y2, y3, y4] (5 : Int32) (0 : Int32) = (if y0 = (0 : Int32) then (1 : Int32) else (0 : Int32)) := rfl
  have e1 : own_oth [y0, y1, y2, y3, y4] (5 : Int32) (1 : Int32) = (if y1 = (0 : Int32) then (1 : Int32) else (0 : Int32)) := rfl
  have e2 : own_oth [y0, y1, y2, y3, y4] (5 : Int32) (2 : Int32) = (if y2 = (0 : Int32) then (1 : Int32) else (0 : Int32)) := rfl
  have e3 : own_oth [y0, y1, y2, y3, y4] (5 : Int32) (3 : Int32) = (if y3 = (0 : Int32) then (1 : Int32) else (0 : Int32)) := rfl
  have e4 : own_oth [y0, y1, y2, y3, y4] (5 : Int32) (4 : Int32) = (if y4 = (0 : Int32) then (1 : Int32) else (0 : Int32)) := rfl
  have e5 : own_oth [y0, y1, y2, y3, y4] (5 : Int32) ((4 : Int32) - (1 : Int32)) = (if y3 = (0 : Int32) then (1 : Int32) else (0 : Int32)) := rfl
  have e6 : own_oth [y0, y1, y2, y3, y4] (5 : Int32) ((4 : Int32) - (2 : Int32)) = (if y2 = (0 : Int32) then (1 : Int32) else (0 : Int32)) := rfl
  have e7 : own_oth [y0, y1, y2, y3, y4] (5 : Int32) ((4 : Int32) - (3 : Int32)) = (if y1 = (0 : Int32) then (1 : Int32) else (0 : Int32)) := rfl
  have e8 : own_oth [y0, y1, y2, y3, y4] (5 : Int32) ((4 : Int32) - (4 : Int32)) = (if y0 = (0 : Int32) then (1 : Int32) else (0 : Int32)) := rfl
  unfold own_F5_4 own_refFrom
  simp only [e0, e1, e2, e3, e4, e5, e6, e7, e8]
  by_cases q0 : y0 = (0 : Int32) <;> by_cases q1 : y1 = (0 : Int32) <;> by_cases q2 : y2 = (0 : Int32) <;> by_cases q3 : y3 = (0 : Int32) <;> by_cases q4 : y4 = (0 : Int32) <;> simp [q0, q1, q2, q3, q4]
theorem own_finT5_4 (y0 y1 y2 y3 y4 : Int32) : own_T5_4 y0 y1 y2 y3 y4 = own_refTo [y0, y1, y2, y3, y4] (5 : Int32) (4 : Int32) := by
  have e0 : own_oth [y0, y1, y2, y3, y4] (5 : Int32) (4 : Int32) = (if y4 = (0 : Int32) then (1 : Int32) else (0 : Int32)) := rfl
  have e1 : own_oth [y0, y1, y2, y3, y4] (5 : Int32) ((4 : Int32) + (1 : Int32)) = (0 : Int32) := rfl
  have e2 : own_oth [y0, y1, y2, y3, y4] (5 : Int32) ((4 : Int32) + (2 : Int32)) = (0 : Int32) := rfl
  have e3 : own_oth [y0, y1, y2, y3, y4] (5 : Int32) ((4 : Int32) + (3 : Int32)) = (0 : Int32) := rfl
  have e4 : own_oth [y0, y1, y2, y3, y4] (5 : Int32) ((4 : Int32) + (4 : Int32)) = (0 : Int32) := rfl
  unfold own_T5_4 own_refTo
  simp only [e0, e1, e2, e3, e4]
  by_cases q0 : y0 = (0 : Int32) <;> by_cases q1 : y1 = (0 : Int32) <;> by_cases q2 : y2 = (0 : Int32) <;> by_cases q3 : y3 = (0 : Int32) <;> by_cases q4 : y4 = (0 : Int32) <;> simp [q0, q1, q2, q3, q4]
theorem d2_0 : decode jdk_29_method_65_code 0 = .ok (.iload_n 0, 1) := by decide +kernel
theorem d2_1 : decode jdk_29_method_65_code 1 = .ok (.iload_n 1, 1) := by decide +kernel
theorem d2_2 : decode jdk_29_method_65_code 2 = .ok (.if_icmp .lt 7, 3) := by decide +kernel
theorem d2_5 : decode jdk_29_method_65_code 5 = .ok (.iload_n 0, 1) := by decide +kernel
theorem d2_6 : decode jdk_29_method_65_code 6 = .ok (.goto 4, 3) := by decide +kernel
theorem d2_9 : decode jdk_29_method_65_code 9 = .ok (.iload_n 1, 1) := by decide +kernel
theorem d2_10 : decode jdk_29_method_65_code 10 = .ok (.ireturn, 1) := by decide +kernel
theorem ef_rm2 (m : MethodId) (p0 : Int32) (p1 : Int32) : entryFrame m #[(.int p0), (.int p1)] 2 = mkF m 0 #[.val (.int p0), .val (.int p1)] [] := by first | (simp [entryFrame, mkF, argsToLocals, Value.category]; done) | rfl
def Q2 (Z : State) (p0 : Int32) (p1 : Int32) (h0 : Heap) (n0 : Nat) (v : Option Value) (h : Heap) (L : List Loc) : Prop := v = some (.int (own_max p0 p1)) ∧ Fr n0 L ∧ h = h0
set_option maxRecDepth 65536 in
set_option maxHeartbeats 40000000 in
theorem rm2 (l : Launch) (Z : State) (a0 : Array Value) (hw : ∀ d ∈ tables_1, d.before a0 Z = true) (ws : List Jvm.Cond) (p0 : Int32) (p1 : Int32) (h0 : Heap) (n0 : Nat) (O0 : Old Z n0 h0) :
    MetFree l nm0 (head1 (Jvm.Cond.code nm0 jdk_29_method_65_code 2 (some .int) :: ws) ({ frames := 0, cells := 0, slots := 0, locals := 0 } : Room)) (fun a U => a = #[(.int p0), (.int p1)] ∧ Z.Warmed39 U.vm ∧ U.heap = h0) (fun _ _ _ _ _ => True) (fun _ U o U' => ∃ v L, o = .returned v ∧ Q2 Z p0 p1 h0 n0 v U'.heap L ∧ FrameEnd U o U' L ({ frames := 0, cells := 0, slots := 0, locals := 0 } : Room).cells ({ frames := 0, cells := 0, slots := 0, locals := 0 } : Room).slots) := by
  refine MetFree.of_bodySF (Jvm.Free.JP.mathPlain rfl (by decide +kernel)) hisR ?_
  intro p e s m args below meth c s₁ Bd hml0 hP hK
  obtain ⟨rfl, hZ, hh⟩ := hP
  have hx := Bd.exec
  have hby := Bd.bytes
  have hml : c.maxLocals = 2 := hml0
  have hown : s.vm.findClass "java/lang/Math" = some m.cls := findClass_of_methodNamed Bd.named
  have hnm := (name_of_methodNamed Bd.named Bd.method).1
  have X0 : Stand p l e ({ frames := 0, cells := 0, slots := 0, locals := 0 } : Room) s m #[(.int p0), (.int p1)] below meth c s₁ [] 0 0 := Stand.of_body Bd
  have e0 : s₁.heap = h0 := by rw [← hh, Bd.state]; rfl
  have N0 := Fr.nil n0
  have s0 : Steps p.tables e below (s₁.setTop (entryFrame m #[(.int p0), (.int p1)] 2)) (s₁.setTop (mkF m 0 #[.val (.int p0), .val (.int p1)] [])) := castTop (ef_rm2 m p0 p1) (Steps.refl _)
  obtain ⟨A₀, hA₀⟩ : ∃ z, z = (s₁.setTop (entryFrame m #[(.int p0), (.int p1)] 2)) := ⟨_, rfl⟩
  rw [← hA₀] at s0
  have s1 : Steps p.tables e below A₀ (s₁.setTop (mkF m 2 #[.val (.int p0), .val (.int p1)] [(.int p1), (.int p0)])) := by
    refine s0.trans ?_
    refine XS.iloadN X0.here hx rfl (hb hby d2_0) rfl ?_
    show Steps p.tables e below (s₁.setTop (mkF m 1 #[.val (.int p0), .val (.int p1)] [(.int p0)])) _
    refine XS.iloadN X0.here hx rfl (hb hby d2_1) rfl ?_
    exact Steps.refl _
  have s3 : Steps p.tables e below A₀ (s₁.setTop (mkF m 10 #[.val (.int p0), .val (.int p1)] [(.int (if p0 < p1 then p1 else p0))])) := by
    by_cases hm2 : p0 < p1
    · simp only [if_pos hm2]
      refine s1.trans ?_
      refine XS.icmpYes X0.here hx rfl (pc0 := 2) (pc' := 9) rfl (hb hby d2_2) rfl (tlt hm2).1 (by decide) (by decide) ?_
      show Steps p.tables e below (s₁.setTop (mkF m 9 #[.val (.int p0), .val (.int p1)] [])) _
      refine XS.iloadN X0.here hx rfl (hb hby d2_9) rfl ?_
      exact Steps.refl _
    · simp only [if_neg hm2]
      refine s1.trans ?_
      refine XS.icmpNo X0.here hx rfl (hb hby d2_2) rfl (flt hm2).1 ?_
      show Steps p.tables e below (s₁.setTop (mkF m 5 #[.val (.int p0), .val (.int p1)] [])) _
      refine XS.iloadN X0.here hx rfl (hb hby d2_5) rfl ?_
      refine XS.goto X0.here hx rfl (pc0 := 6) (pc' := 10) rfl (hb hby d2_6) (by decide) (by decide) ?_
      exact Steps.refl _
  obtain ⟨zz, hzz⟩ : ∃ z, z = (if p0 < p1 then p1 else p0) := ⟨_, rfl⟩
  rw [← hzz] at s3
  subst hA₀
  obtain ⟨fs, hr, hrun, hended, hW, hsame⟩ := X0.leave (v := some (.int zz)) (fun h => by rw [Bd.returns] at h; cases h)
  refine ⟨_, _, s3.trans ?_, hrun, hended, _, _, rfl, ?_, ⟨_, rfl⟩, hW, hsame.mono (by decide) (by decide)⟩
  · show Steps p.tables e below (s₁.setTop (mkF m 10 #[.val (.int p0), .val (.int p1)] [(.int zz)])) _
    exact retI X0 hx Bd.returns (hb hby d2_10) hr
  · show Q2 Z p0 p1 h0 n0 _ s₁.heap _
    rw [e0]
    exact ⟨(by rw [hzz]; rfl), N0, rfl⟩
theorem d3_0 : decode prog_9_method_1_code 0 = .ok (.aload_n 0, 1) := by decide +kernel
theorem d3_1 : decode prog_9_method_1_code 1 = .ok (.aload_n 1, 1) := by decide +kernel
theorem d3_2 : decode prog_9_method_1_code 2 = .ok (.putfield 1, 3) := by decide +kernel
theorem d3_5 : decode prog_9_method_1_code 5 = .ok (.aload_n 0, 1) := by decide +kernel
theorem d3_6 : decode prog_9_method_1_code 6 = .ok (.aload_n 2, 1) := by decide +kernel
theorem d3_7 : decode prog_9_method_1_code 7 = .ok (.putfield 7, 3) := by decide +kernel
theorem d3_10 : decode prog_9_method_1_code 10 = .ok (.aload_n 0, 1) := by decide +kernel
theorem d3_11 : decode prog_9_method_1_code 11 = .ok (.invokespecial 10, 3) := by decide +kernel
theorem d3_14 : decode prog_9_method_1_code 14 = .ok (.return_, 1) := by decide +kernel
theorem pn_3 : plainName "com/example/libprox/libprox/Cpe$1" = true := by first | (simp [plainName, overriddenIn]; done) | decide +kernel
theorem ef_rm3 (m : MethodId) (p0 : Addr) (p1 : Addr) (p2 : Addr) : entryFrame m #[(.ref p0), (.ref p1), (.ref p2)] 3 = mkF m 0 #[.val (.ref p0), .val (.ref p1), .val (.ref p2)] [] := by first | (simp [entryFrame, mkF, argsToLocals, Value.category]; done) | rfl
def Q3 (Z : State) (p0 : Addr) (p1 : Addr) (p2 : Addr) (h0 : Heap) (n0 : Nat) (v : Option Value) (h : Heap) (L : List Loc) : Prop := v = none ∧ Fr n0 L ∧ Keep h0 h [p0] ∧ (Exa Z h p0 "com/example/libprox/libprox/Cpe$1") ∧ (Fld Z h p0 "com/example/libprox/libprox/Cpe$1" "val$from" "[I" (.ref p1)) ∧ (Fld Z h p0 "com/example/libprox/libprox/Cpe$1" "val$to" "[I" (.ref p2))
set_option maxRecDepth 65536 in
set_option maxHeartbeats 40000000 in
theorem rm3 (l : Launch) (Z : State) (a0 : Array Value) (hw : ∀ d ∈ tables_1, d.before a0 Z = true) (ws : List Jvm.Cond) (p0 : Addr) (p1 : Addr) (p2 : Addr) (h0 : Heap) (n0 : Nat) (O0 : Old Z n0 h0) (F0_ : Exa Z h0 p0 "com/example/libprox/libprox/Cpe$1") (F1_ : Fld Z h0 p0 "com/example/libprox/libprox/Cpe$1" "val$from" "[I" .null) (F2_ : Fld Z h0 p0 "com/example/libprox/libprox/Cpe$1" "val$to" "[I" .null) (F3_ : n0 ≤ p0) :
    MetFree l nm1 (head1 (Jvm.Cond.code nm1 prog_9_method_1_code 3 none :: ws) ({ frames := 1, cells := 0, slots := 0, locals := 12 } : Room)) (fun a U => a = #[(.ref p0), (.ref p1), (.ref p2)] ∧ Z.Warmed39 U.vm ∧ U.heap = h0) (fun _ _ _ _ _ => True) (fun _ U o U' => ∃ v L, o = .returned v ∧ Q3 Z p0 p1 p2 h0 n0 v U'.heap L ∧ FrameEnd U o U' L ({ frames := 1, cells := 0, slots := 0, locals := 12 } : Room).cells ({ frames := 1, cells := 0, slots := 0, locals := 12 } : Room).slots) := by
  refine MetFree.of_bodySF (plainFor_of_name pn_3) hisR ?_
  intro p e s m args below meth c s₁ Bd hml0 hP hK
  obtain ⟨rfl, hZ, hh⟩ := hP
  have hx := Bd.exec
  have hby := Bd.bytes
  have hml : c.maxLocals = 3 := hml0
  have hown : s.vm.findClass "com/example/libprox/libprox/Cpe$1" = some m.cls := findClass_of_methodNamed Bd.named
  have hnm := (name_of_methodNamed Bd.named Bd.method).1
  have X0 : Stand p l e ({ frames := 1, cells := 0, slots := 0, locals := 12 } : Room) s m #[(.ref p0), (.ref p1), (.ref p2)] below meth c s₁ [] 0 0 := Stand.of_body Bd
  have e0 : s₁.heap = h0 := by rw [← hh, Bd.state]; rfl
  have N0 := Fr.nil n0
  have s0 : Steps p.tables e below (s₁.setTop (entryFrame m #[(.ref p0), (.ref p1), (.ref p2)] 3)) (s₁.setTop (mkF m 0 #[.val (.ref p0), .val (.ref p1), .val (.ref p2)] [])) := castTop (ef_rm3 m p0 p1 p2) (Steps.refl _)
  obtain ⟨A₀, hA₀⟩ : ∃ z, z = (s₁.setTop (entryFrame m #[(.ref p0), (.ref p1), (.ref p2)] 3)) := ⟨_, rfl⟩
  rw [← hA₀] at s0
  obtain ⟨T1, h1, X1, e1, W1, st1⟩ := putF X0 hx hZ hown (host := "") (Or.inl (hw _ (List.mem_of_getElem? (i := 17) rfl))) Via.refl e0 F1_ F0_ (Or.inr ⟨(hw _ (List.mem_of_getElem? (i := 18) rfl)), rfl, hnm⟩) (hw _ (List.mem_of_getElem? (i := 12) rfl)) (ty := (.array .int)) (by decide) rfl rfl (g := (mkF m 2 #[.val (.ref p0), .val (.ref p1), .val (.ref p2)] [(.ref p1), (.ref p0)])) rfl rfl (hb hby d3_2)
  have Fw1 := F1_.same W1
  have O1 := O0.wr W1 F3_
  have K1 : Keep h0 h1 [p0] := (Keep.refl h0 [p0]).wr W1 (Or.inl (List.mem_of_getElem? (i := 0) rfl))
  have N1 := Fr.snoc X1 N0 F3_
  have c2 : Exa Z h1 p0 "com/example/libprox/libprox/Cpe$1" := (F0_.wr W1)
  have c3 : Fld Z h1 p0 "com/example/libprox/libprox/Cpe$1" "val$to" "[I" .null := (F2_.other W1 (Or.inr (slot_ne (Or.inr (hw _ (List.mem_of_getElem? (i := 20) rfl))) (Or.inr (hw _ (List.mem_of_getElem? (i := 18) rfl))) (by decide) (t := (.array .int)) (t' := (.array .int)) (by decide) (by decide))))
  obtain ⟨T4, h4, X4, e4, W4, st4⟩ := putF X1 hx hZ hown (host := "") (Or.inl (hw _ (List.mem_of_getElem? (i := 19) rfl))) Via.refl e1 c3 c2 (Or.inr ⟨(hw _ (List.mem_of_getElem? (i := 20) rfl)), rfl, hnm⟩) (hw _ (List.mem_of_getElem? (i := 12) rfl)) (ty := (.array .int)) (by decide) rfl rfl (g := (mkF m 7 #[.val (.ref p0), .val (.ref p1), .val (.ref p2)] [(.ref p2), (.ref p0)])) rfl rfl (hb hby d3_7)
  have Fw4 := c3.same W4
  have O4 := O1.wr W4 F3_
  have K4 : Keep h0 h4 [p0] := K1.wr W4 (Or.inl (List.mem_of_getElem? (i := 0) rfl))
  have N4 := Fr.snoc X4 N1 F3_
  obtain ⟨T5, X5, e5, st5⟩ := initO X4 hx hZ hown (hw _ (List.mem_of_getElem? (i := 21) rfl)) (hw _ (List.mem_of_getElem? (i := 22) rfl)) (hw _ (List.mem_of_getElem? (i := 23) rfl)) e4 (g := (mkF m 11 #[.val (.ref p0), .val (.ref p1), .val (.ref p2)] [(.ref p0)])) rfl (by rw [hml]; rfl) rfl (hb hby d3_11) (by decide) (W := 0) (by show 2 * 0 + _ ≤ _; exact Nat.le_of_eq rfl) (by decide)
  have s6 : Steps p.tables e below A₀ (T5.setTop (mkF m 14 #[.val (.ref p0), .val (.ref p1), .val (.ref p2)] [])) := by
    refine s0.trans ?_
    refine XS.aloadN X0.here hx rfl (hb hby d3_0) rfl rfl ?_
    show Steps p.tables e below (s₁.setTop (mkF m 1 #[.val (.ref p0), .val (.ref p1), .val (.ref p2)] [(.ref p0)])) _
    refine XS.aloadN X0.here hx rfl (hb hby d3_1) rfl rfl ?_
    refine st1 _ ?_
    refine XS.aloadN X1.here hx rfl (hb hby d3_5) rfl rfl ?_
    refine XS.aloadN X1.here hx rfl (hb hby d3_6) rfl rfl ?_
    refine st4 _ ?_
    refine XS.aloadN X4.here hx rfl (hb hby d3_10) rfl rfl ?_
    show Steps p.tables e below (T4.setTop (mkF m 11 #[.val (.ref p0), .val (.ref p1), .val (.ref p2)] [(.ref p0)])) _
    refine st5 _ ?_
    exact Steps.refl _
  subst hA₀
  have c7 : Exa Z h4 p0 "com/example/libprox/libprox/Cpe$1" := (c2.wr W4)
  have c8 : Fld Z h4 p0 "com/example/libprox/libprox/Cpe$1" "val$from" "[I" (.ref p1) := (Fw1.other W4 (Or.inr (slot_ne (Or.inr (hw _ (List.mem_of_getElem? (i := 18) rfl))) (Or.inr (hw _ (List.mem_of_getElem? (i := 20) rfl))) (by decide) (t := (.array .int)) (t' := (.array .int)) (by decide) (by decide))))
  obtain ⟨fs, hr, hrun, hended, hW, hsame⟩ := X5.leave (v := none) (fun _ => rfl)
  refine ⟨_, _, s6.trans ?_, hrun, hended, _, _, rfl, ?_, ⟨_, rfl⟩, hW, hsame.mono (by decide) (by decide)⟩
  · show Steps p.tables e below (T5.setTop (mkF m 14 #[.val (.ref p0), .val (.ref p1), .val (.ref p2)] [])) _
    exact X5.returnOut hx Bd.returns (hb hby d3_14) hr
  · show Q3 Z p0 p1 p2 h0 n0 _ T5.heap _
    rw [e5]
    exact ⟨rfl, N4, K4, c7, c8, Fw4⟩
theorem d8_0 : decode method_2_code 0 = .ok (.iload_n 2, 1) := by decide +kernel
theorem d8_1 : decode method_2_code 1 = .ok (.ifCond .lt 18, 3) := by decide +kernel
theorem d8_4 : decode method_2_code 4 = .ok (.iload_n 2, 1) := by decide +kernel
theorem d8_5 : decode method_2_code 5 = .ok (.iload_n 1, 1) := by decide +kernel
theorem d8_6 : decode method_2_code 6 = .ok (.if_icmp .ge 13, 3) := by decide +kernel
theorem d8_9 : decode method_2_code 9 = .ok (.aload_n 0, 1) := by decide +kernel
theorem d8_10 : decode method_2_code 10 = .ok (.iload_n 2, 1) := by decide +kernel
theorem d8_11 : decode method_2_code 11 = .ok (.baload, 1) := by decide +kernel
theorem d8_12 : decode method_2_code 12 = .ok (.ifCond .ne 7, 3) := by decide +kernel
theorem d8_15 : decode method_2_code 15 = .ok (.iconst 1, 1) := by decide +kernel
theorem d8_16 : decode method_2_code 16 = .ok (.goto 4, 3) := by decide +kernel
theorem d8_19 : decode method_2_code 19 = .ok (.iconst 0, 1) := by decide +kernel
theorem d8_20 : decode method_2_code 20 = .ok (.ireturn, 1) := by decide +kernel
theorem pn_8 : plainName "com/example/libprox/libprox/CpeTiedStopWordsPinLaw" = true := by first | (simp [plainName, overriddenIn]; done) | decide +kernel
theorem ef_rmx (m : MethodId) (p0 : Addr) (p1 : Int32) (p2 : Int32) : entryFrame m #[(.ref p0), (.int p1), (.int p2)] 3 = mkF m 0 #[.val (.ref p0), .val (.int p1), .val (.int p2)] [] := by first | (simp [entryFrame, mkF, argsToLocals, Value.category]; done) | rfl
def Qx (Z : State) (p0 : Addr) (p1 : Int32) (p2 : Int32) (kz : ClassId) (xs : List Int32) (h0 : Heap) (n0 : Nat) (v : Option Value) (h : Heap) (L : List Loc) : Prop := v = some (.int (own_oth xs p1 p2)) ∧ Fr n0 L ∧ h = h0
set_option maxRecDepth 65536 in
set_option maxHeartbeats 40000000 in
theorem rmx (l : Launch) (Z : State) (a0 : Array Value) (hw : ∀ d ∈ tables_1, d.before a0 Z = true) (ws : List Jvm.Cond) (p0 : Addr) (p1 : Int32) (p2 : Int32) (kz : ClassId) (xs : List Int32) (h0 : Heap) (n0 : Nat) (O0 : Old Z n0 h0) (F0_ : Arv Z h0 p0 kz .boolean p1 (xs.map Value.int) (.int (0 : Int32))) :
    MetFree l nm2 (head1 (Jvm.Cond.code nm2 method_2_code 3 (some .boolean) :: ws) ({ frames := 0, cells := 0, slots := 0, locals := 0 } : Room)) (fun a U => a = #[(.ref p0), (.int p1), (.int p2)] ∧ Z.Warmed39 U.vm ∧ U.heap = h0) (fun _ _ _ _ _ => True) (fun _ U o U' => ∃ v L, o = .returned v ∧ Qx Z p0 p1 p2 kz xs h0 n0 v U'.heap L ∧ FrameEnd U o U' L ({ frames := 0, cells := 0, slots := 0, locals := 0 } : Room).cells ({ frames := 0, cells := 0, slots := 0, locals := 0 } : Room).slots) := by
  refine MetFree.of_bodySF (plainFor_of_name pn_8) hisR ?_
  intro p e s m args below meth c s₁ Bd hml0 hP hK
  obtain ⟨rfl, hZ, hh⟩ := hP
  have hx := Bd.exec
  have hby := Bd.bytes
  have hml : c.maxLocals = 3 := hml0
  have hown : s.vm.findClass "com/example/libprox/libprox/CpeTiedStopWordsPinLaw" = some m.cls := findClass_of_methodNamed Bd.named
  have hnm := (name_of_methodNamed Bd.named Bd.method).1
  have X0 : Stand p l e ({ frames := 0, cells := 0, slots := 0, locals := 0 } : Room) s m #[(.ref p0), (.int p1), (.int p2)] below meth c s₁ [] 0 0 := Stand.of_body Bd
  have e0 : s₁.heap = h0 := by rw [← hh, Bd.state]; rfl
  have N0 := Fr.nil n0
  have s0 : Steps p.tables e below (s₁.setTop (entryFrame m #[(.ref p0), (.int p1), (.int p2)] 3)) (s₁.setTop (mkF m 0 #[.val (.ref p0), .val (.int p1), .val (.int p2)] [])) := castTop (ef_rmx m p0 p1 p2) (Steps.refl _)
  obtain ⟨A₀, hA₀⟩ : ∃ z, z = (s₁.setTop (entryFrame m #[(.ref p0), (.int p1), (.int p2)] 3)) := ⟨_, rfl⟩
  rw [← hA₀] at s0
  have s1 : Steps p.tables e below A₀ (s₁.setTop (mkF m 1 #[.val (.ref p0), .val (.int p1), .val (.int p2)] [(.int p2)])) := by
    refine s0.trans ?_
    refine XS.iloadN X0.here hx rfl (hb hby d8_0) rfl ?_
    exact Steps.refl _
  by_cases hc2 : p2 < (0 : Int32)
  · have s3 : Steps p.tables e below A₀ (s₁.setTop (mkF m 20 #[.val (.ref p0), .val (.int p1), .val (.int p2)] [(.int (0 : Int32))])) := by
      refine s1.trans ?_
      refine XS.ifYes X0.here hx rfl (pc0 := 1) (pc' := 19) rfl (hb hby d8_1) rfl ((if0 _ _).trans (tlt hc2).1) (by decide) (by decide) ?_
      show Steps p.tables e below (s₁.setTop (mkF m 19 #[.val (.ref p0), .val (.int p1), .val (.int p2)] [])) _
      refine XS.iconst X0.here hx rfl (hb hby d8_19) ?_
      exact Steps.refl _
    subst hA₀
    obtain ⟨fs, hr, hrun, hended, hW, hsame⟩ := X0.leave (v := some (.int (0 : Int32))) (fun h => by rw [Bd.returns] at h; cases h)
    refine ⟨_, _, s3.trans ?_, hrun, hended, _, _, rfl, ?_, ⟨_, rfl⟩, hW, hsame.mono (by decide) (by decide)⟩
    · show Steps p.tables e below (s₁.setTop (mkF m 20 #[.val (.ref p0), .val (.int p1), .val (.int p2)] [(.int (0 : Int32))])) _
      exact retN X0 hx (t := .boolean) Bd.returns (by simp) (hb hby d8_20) hr
    · show Qx Z p0 p1 p2 kz xs h0 n0 _ s₁.heap _
      rw [e0]
      exact ⟨(by unfold own_oth; rw [if_pos hc2]), N0, rfl⟩
  · have s4 : Steps p.tables e below A₀ (s₁.setTop (mkF m 6 #[.val (.ref p0), .val (.int p1), .val (.int p2)] [(.int p1), (.int p2)])) := by
      refine s1.trans ?_
      refine XS.ifNo X0.here hx rfl (hb hby d8_1) rfl ((if0 _ _).trans (flt hc2).1) ?_
      show Steps p.tables e below (s₁.setTop (mkF m 4 #[.val (.ref p0), .val (.int p1), .val (.int p2)] [])) _
      refine XS.iloadN X0.here hx rfl (hb hby d8_4) rfl ?_
      refine XS.iloadN X0.here hx rfl (hb hby d8_5) rfl ?_
      exact Steps.refl _
    by_cases hc5 : p2 < p1
    · obtain ⟨cla6, Ara6, qa6, Sa6, Za6, Ha6, Ga6⟩ := id F0_
      have hin7 : ¬ (p2 < 0 ∨ cla6.slots.size ≤ (p2).toNatClampNeg) := inb_of Sa6 ⟨hc2, hc5⟩
      have hat8 : cla6.slots[(p2).toNatClampNeg]? = some (.int (own_at xs p2)) := Has.at Ha6 hin7 (own_getD xs _)
      have s9 : Steps p.tables e below A₀ (s₁.setTop (mkF m 12 #[.val (.ref p0), .val (.int p1), .val (.int p2)] [(.int (own_at xs p2))])) := by
        refine s4.trans ?_
        refine XS.icmpNo X0.here hx rfl (hb hby d8_6) rfl (tlt hc5).2.1 ?_
        show Steps p.tables e below (s₁.setTop (mkF m 9 #[.val (.ref p0), .val (.int p1), .val (.int p2)] [])) _
        refine XS.aloadN X0.here hx rfl (hb hby d8_9) rfl rfl ?_
        refine XS.iloadN X0.here hx rfl (hb hby d8_10) rfl ?_
        refine X0.baloadBooleans hx (j := p2) (v := (.int (own_at xs p2))) (by rw [e0]; exact Ara6.1) (State.isArrayOf_alike hZ.alike Ara6.2.1) Ara6.2.2 hin7 hat8 (g := (mkF m 11 #[.val (.ref p0), .val (.int p1), .val (.int p2)] [(.int p2), (.ref p0)])) rfl rfl (hb hby d8_11) _ ?_
        exact Steps.refl _
      by_cases hc10 : (own_at xs p2) = (0 : Int32)
      · have s11 : Steps p.tables e below A₀ (s₁.setTop (mkF m 20 #[.val (.ref p0), .val (.int p1), .val (.int p2)] [(.int (1 : Int32))])) := by
          refine s9.trans ?_
          refine XS.ifNo X0.here hx rfl (hb hby d8_12) rfl ((if0 _ _).trans (teq hc10).2) ?_
          show Steps p.tables e below (s₁.setTop (mkF m 15 #[.val (.ref p0), .val (.int p1), .val (.int p2)] [])) _
          refine XS.iconst X0.here hx rfl (hb hby d8_15) ?_
          refine XS.goto X0.here hx rfl (pc0 := 16) (pc' := 20) rfl (hb hby d8_16) (by decide) (by decide) ?_
          exact Steps.refl _
        subst hA₀
        obtain ⟨fs, hr, hrun, hended, hW, hsame⟩ := X0.leave (v := some (.int (1 : Int32))) (fun h => by rw [Bd.returns] at h; cases h)
        refine ⟨_, _, s11.trans ?_, hrun, hended, _, _, rfl, ?_, ⟨_, rfl⟩, hW, hsame.mono (by decide) (by decide)⟩
        · show Steps p.tables e below (s₁.setTop (mkF m 20 #[.val (.ref p0), .val (.int p1), .val (.int p2)] [(.int (1 : Int32))])) _
          exact retN X0 hx (t := .boolean) Bd.returns (by simp) (hb hby d8_20) hr
        · show Qx Z p0 p1 p2 kz xs h0 n0 _ s₁.heap _
          rw [e0]
          exact ⟨(by unfold own_oth; rw [if_neg hc2, if_pos hc5, if_pos hc10]), N0, rfl⟩
      · have s12 : Steps p.tables e below A₀ (s₁.setTop (mkF m 20 #[.val (.ref p0), .val (.int p1), .val (.int p2)] [(.int (0 : Int32))])) := by
          refine s9.trans ?_
          refine XS.ifYes X0.here hx rfl (pc0 := 12) (pc' := 19) rfl (hb hby d8_12) rfl ((if0 _ _).trans (feq hc10).2) (by decide) (by decide) ?_
          show Steps p.tables e below (s₁.setTop (mkF m 19 #[.val (.ref p0), .val (.int p1), .val (.int p2)] [])) _
          refine XS.iconst X0.here hx rfl (hb hby d8_19) ?_
          exact Steps.refl _
        subst hA₀
        obtain ⟨fs, hr, hrun, hended, hW, hsame⟩ := X0.leave (v := some (.int (0 : Int32))) (fun h => by rw [Bd.returns] at h; cases h)
        refine ⟨_, _, s12.trans ?_, hrun, hended, _, _, rfl, ?_, ⟨_, rfl⟩, hW, hsame.mono (by decide) (by decide)⟩
        · show Steps p.tables e below (s₁.setTop (mkF m 20 #[.val (.ref p0), .val (.int p1), .val (.int p2)] [(.int (0 : Int32))])) _
          exact retN X0 hx (t := .boolean) Bd.returns (by simp) (hb hby d8_20) hr
        · show Qx Z p0 p1 p2 kz xs h0 n0 _ s₁.heap _
          rw [e0]
          exact ⟨(by unfold own_oth; rw [if_neg hc2, if_pos hc5, if_neg hc10]), N0, rfl⟩
    · have s13 : Steps p.tables e below A₀ (s₁.setTop (mkF m 20 #[.val (.ref p0), .val (.int p1), .val (.int p2)] [(.int (0 : Int32))])) := by
        refine s4.trans ?_
        refine XS.icmpYes X0.here hx rfl (pc0 := 6) (pc' := 19) rfl (hb hby d8_6) rfl (flt hc5).2.1 (by decide) (by decide) ?_
        show Steps p.tables e below (s₁.setTop (mkF m 19 #[.val (.ref p0), .val (.int p1), .val (.int p2)] [])) _
        refine XS.iconst X0.here hx rfl (hb hby d8_19) ?_
        exact Steps.refl _
      subst hA₀
      obtain ⟨fs, hr, hrun, hended, hW, hsame⟩ := X0.leave (v := some (.int (0 : Int32))) (fun h => by rw [Bd.returns] at h; cases h)
      refine ⟨_, _, s13.trans ?_, hrun, hended, _, _, rfl, ?_, ⟨_, rfl⟩, hW, hsame.mono (by decide) (by decide)⟩
      · show Steps p.tables e below (s₁.setTop (mkF m 20 #[.val (.ref p0), .val (.int p1), .val (.int p2)] [(.int (0 : Int32))])) _
        exact retN X0 hx (t := .boolean) Bd.returns (by simp) (hb hby d8_20) hr
      · show Qx Z p0 p1 p2 kz xs h0 n0 _ s₁.heap _
        rw [e0]
        exact ⟨(by unfold own_oth; rw [if_neg hc2, if_neg hc5]), N0, rfl⟩
theorem d7_0 : decode method_3_code 0 = .ok (.aload_n 0, 1) := by decide +kernel
theorem d7_1 : decode method_3_code 1 = .ok (.iload_n 1, 1) := by decide +kernel
theorem d7_2 : decode method_3_code 2 = .ok (.iconst 0, 1) := by decide +kernel
theorem d7_3 : decode method_3_code 3 = .ok (.invokestatic 7, 3) := by decide +kernel
theorem d7_6 : decode method_3_code 6 = .ok (.ifCond .ne 39, 3) := by decide +kernel
theorem d7_9 : decode method_3_code 9 = .ok (.aload_n 0, 1) := by decide +kernel
theorem d7_10 : decode method_3_code 10 = .ok (.iload_n 1, 1) := by decide +kernel
theorem d7_11 : decode method_3_code 11 = .ok (.iconst 1, 1) := by decide +kernel
theorem d7_12 : decode method_3_code 12 = .ok (.invokestatic 7, 3) := by decide +kernel
theorem d7_15 : decode method_3_code 15 = .ok (.ifCond .ne 30, 3) := by decide +kernel
theorem d7_18 : decode method_3_code 18 = .ok (.aload_n 0, 1) := by decide +kernel
theorem d7_19 : decode method_3_code 19 = .ok (.iload_n 1, 1) := by decide +kernel
theorem d7_20 : decode method_3_code 20 = .ok (.iconst 2, 1) := by decide +kernel
theorem d7_21 : decode method_3_code 21 = .ok (.invokestatic 7, 3) := by decide +kernel
theorem d7_24 : decode method_3_code 24 = .ok (.ifCond .ne 21, 3) := by decide +kernel
theorem d7_27 : decode method_3_code 27 = .ok (.aload_n 0, 1) := by decide +kernel
theorem d7_28 : decode method_3_code 28 = .ok (.iload_n 1, 1) := by decide +kernel
theorem d7_29 : decode method_3_code 29 = .ok (.iconst 3, 1) := by decide +kernel
theorem d7_30 : decode method_3_code 30 = .ok (.invokestatic 7, 3) := by decide +kernel
theorem d7_33 : decode method_3_code 33 = .ok (.ifCond .ne 12, 3) := by decide +kernel
theorem d7_36 : decode method_3_code 36 = .ok (.aload_n 0, 1) := by decide +kernel
theorem d7_37 : decode method_3_code 37 = .ok (.iload_n 1, 1) := by decide +kernel
theorem d7_38 : decode method_3_code 38 = .ok (.iconst 4, 1) := by decide +kernel
theorem d7_39 : decode method_3_code 39 = .ok (.invokestatic 7, 3) := by decide +kernel
theorem d7_42 : decode method_3_code 42 = .ok (.ifCond .eq 7, 3) := by decide +kernel
theorem d7_45 : decode method_3_code 45 = .ok (.iconst 1, 1) := by decide +kernel
theorem d7_46 : decode method_3_code 46 = .ok (.goto 4, 3) := by decide +kernel
theorem d7_49 : decode method_3_code 49 = .ok (.iconst 0, 1) := by decide +kernel
theorem d7_50 : decode method_3_code 50 = .ok (.istore_n 3, 1) := by decide +kernel
theorem d7_51 : decode method_3_code 51 = .ok (.iload_n 3, 1) := by decide +kernel
theorem d7_52 : decode method_3_code 52 = .ok (.ifCond .ne 5, 3) := by decide +kernel
theorem d7_55 : decode method_3_code 55 = .ok (.iconst (-1), 1) := by decide +kernel
theorem d7_56 : decode method_3_code 56 = .ok (.ireturn, 1) := by decide +kernel
theorem d7_57 : decode method_3_code 57 = .ok (.aload_n 0, 1) := by decide +kernel
theorem d7_58 : decode method_3_code 58 = .ok (.iload_n 1, 1) := by decide +kernel
theorem d7_59 : decode method_3_code 59 = .ok (.iload_n 2, 1) := by decide +kernel
theorem d7_60 : decode method_3_code 60 = .ok (.invokestatic 7, 3) := by decide +kernel
theorem d7_63 : decode method_3_code 63 = .ok (.ifCond .eq 5, 3) := by decide +kernel
theorem d7_66 : decode method_3_code 66 = .ok (.iload_n 2, 1) := by decide +kernel
theorem d7_67 : decode method_3_code 67 = .ok (.ireturn, 1) := by decide +kernel
theorem d7_68 : decode method_3_code 68 = .ok (.aload_n 0, 1) := by decide +kernel
theorem d7_69 : decode method_3_code 69 = .ok (.iload_n 1, 1) := by decide +kernel
theorem d7_70 : decode method_3_code 70 = .ok (.iload_n 2, 1) := by decide +kernel
theorem d7_71 : decode method_3_code 71 = .ok (.iconst 1, 1) := by decide +kernel
theorem d7_72 : decode method_3_code 72 = .ok (.isub, 1) := by decide +kernel
theorem d7_73 : decode method_3_code 73 = .ok (.invokestatic 7, 3) := by decide +kernel
theorem d7_76 : decode method_3_code 76 = .ok (.ifCond .eq 7, 3) := by decide +kernel
theorem d7_79 : decode method_3_code 79 = .ok (.iload_n 2, 1) := by decide +kernel
theorem d7_80 : decode method_3_code 80 = .ok (.iconst 1, 1) := by decide +kernel
theorem d7_81 : decode method_3_code 81 = .ok (.isub, 1) := by decide +kernel
theorem d7_82 : decode method_3_code 82 = .ok (.ireturn, 1) := by decide +kernel
theorem d7_83 : decode method_3_code 83 = .ok (.aload_n 0, 1) := by decide +kernel
theorem d7_84 : decode method_3_code 84 = .ok (.iload_n 1, 1) := by decide +kernel
theorem d7_85 : decode method_3_code 85 = .ok (.iload_n 2, 1) := by decide +kernel
theorem d7_86 : decode method_3_code 86 = .ok (.iconst 2, 1) := by decide +kernel
theorem d7_87 : decode method_3_code 87 = .ok (.isub, 1) := by decide +kernel
theorem d7_88 : decode method_3_code 88 = .ok (.invokestatic 7, 3) := by decide +kernel
theorem d7_91 : decode method_3_code 91 = .ok (.ifCond .eq 7, 3) := by decide +kernel
theorem d7_94 : decode method_3_code 94 = .ok (.iload_n 2, 1) := by decide +kernel
theorem d7_95 : decode method_3_code 95 = .ok (.iconst 2, 1) := by decide +kernel
theorem d7_96 : decode method_3_code 96 = .ok (.isub, 1) := by decide +kernel
theorem d7_97 : decode method_3_code 97 = .ok (.ireturn, 1) := by decide +kernel
theorem d7_98 : decode method_3_code 98 = .ok (.aload_n 0, 1) := by decide +kernel
theorem d7_99 : decode method_3_code 99 = .ok (.iload_n 1, 1) := by decide +kernel
theorem d7_100 : decode method_3_code 100 = .ok (.iload_n 2, 1) := by decide +kernel
theorem d7_101 : decode method_3_code 101 = .ok (.iconst 3, 1) := by decide +kernel
theorem d7_102 : decode method_3_code 102 = .ok (.isub, 1) := by decide +kernel
theorem d7_103 : decode method_3_code 103 = .ok (.invokestatic 7, 3) := by decide +kernel
theorem d7_106 : decode method_3_code 106 = .ok (.ifCond .eq 7, 3) := by decide +kernel
theorem d7_109 : decode method_3_code 109 = .ok (.iload_n 2, 1) := by decide +kernel
theorem d7_110 : decode method_3_code 110 = .ok (.iconst 3, 1) := by decide +kernel
theorem d7_111 : decode method_3_code 111 = .ok (.isub, 1) := by decide +kernel
theorem d7_112 : decode method_3_code 112 = .ok (.ireturn, 1) := by decide +kernel
theorem d7_113 : decode method_3_code 113 = .ok (.aload_n 0, 1) := by decide +kernel
theorem d7_114 : decode method_3_code 114 = .ok (.iload_n 1, 1) := by decide +kernel
theorem d7_115 : decode method_3_code 115 = .ok (.iload_n 2, 1) := by decide +kernel
theorem d7_116 : decode method_3_code 116 = .ok (.iconst 4, 1) := by decide +kernel
theorem d7_117 : decode method_3_code 117 = .ok (.isub, 1) := by decide +kernel
theorem d7_118 : decode method_3_code 118 = .ok (.invokestatic 7, 3) := by decide +kernel
theorem d7_121 : decode method_3_code 121 = .ok (.ifCond .eq 7, 3) := by decide +kernel
theorem d7_124 : decode method_3_code 124 = .ok (.iload_n 2, 1) := by decide +kernel
theorem d7_125 : decode method_3_code 125 = .ok (.iconst 4, 1) := by decide +kernel
theorem d7_126 : decode method_3_code 126 = .ok (.isub, 1) := by decide +kernel
theorem d7_127 : decode method_3_code 127 = .ok (.ireturn, 1) := by decide +kernel
theorem d7_128 : decode method_3_code 128 = .ok (.iconst 0, 1) := by decide +kernel
theorem d7_129 : decode method_3_code 129 = .ok (.ireturn, 1) := by decide +kernel
theorem pd_rmrefFrom_0 : parseMethodDescriptor "([ZII)Z" = some ⟨[(.array .boolean), .int, .int], some .boolean⟩ := by decide +kernel
theorem ef_rmrefFrom (m : MethodId) (p0 : Addr) (p1 : Int32) (p2 : Int32) : entryFrame m #[(.ref p0), (.int p1), (.int p2)] 4 = mkF m 0 #[.val (.ref p0), .val (.int p1), .val (.int p2), .unset] [] := by first | (simp [entryFrame, mkF, argsToLocals, Value.category]; done) | rfl
def QrefFrom (Z : State) (p0 : Addr) (p1 : Int32) (p2 : Int32) (kz : ClassId) (xs : List Int32) (h0 : Heap) (n0 : Nat) (v : Option Value) (h : Heap) (L : List Loc) : Prop := v = some (.int (own_refFrom xs p1 p2)) ∧ Fr n0 L ∧ h = h0
set_option maxRecDepth 65536 in
set_option maxHeartbeats 40000000 in
theorem rmrefFrom (l : Launch) (Z : State) (a0 : Array Value) (hw : ∀ d ∈ tables_1, d.before a0 Z = true) (ws : List Jvm.Cond) (p0 : Addr) (p1 : Int32) (p2 : Int32) (kz : ClassId) (xs : List Int32) (h0 : Heap) (n0 : Nat) (O0 : Old Z n0 h0) (F0_ : Arv Z h0 p0 kz .boolean p1 (xs.map Value.int) (.int (0 : Int32))) :
    MetFree l nm3 (head1 (Jvm.Cond.code nm3 method_3_code 4 (some .int) :: ws) ({ frames := 1, cells := 0, slots := 0, locals := 14 } : Room)) (fun a U => a = #[(.ref p0), (.int p1), (.int p2)] ∧ Z.Warmed39 U.vm ∧ U.heap = h0) (fun _ _ _ _ _ => True) (fun _ U o U' => ∃ v L, o = .returned v ∧ QrefFrom Z p0 p1 p2 kz xs h0 n0 v U'.heap L ∧ FrameEnd U o U' L ({ frames := 1, cells := 0, slots := 0, locals := 14 } : Room).cells ({ frames := 1, cells := 0, slots := 0, locals := 14 } : Room).slots) := by
  refine MetFree.of_bodySF (plainFor_of_name pn_8) hisR ?_
  intro p e s m args below meth c s₁ Bd hml0 hP hK
  obtain ⟨rfl, hZ, hh⟩ := hP
  have hx := Bd.exec
  have hby := Bd.bytes
  have hml : c.maxLocals = 4 := hml0
  have hown : s.vm.findClass "com/example/libprox/libprox/CpeTiedStopWordsPinLaw" = some m.cls := findClass_of_methodNamed Bd.named
  have hnm := (name_of_methodNamed Bd.named Bd.method).1
  have X0 : Stand p l e ({ frames := 1, cells := 0, slots := 0, locals := 14 } : Room) s m #[(.ref p0), (.int p1), (.int p2)] below meth c s₁ [] 0 0 := Stand.of_body Bd
  have e0 : s₁.heap = h0 := by rw [← hh, Bd.state]; rfl
  have N0 := Fr.nil n0
  have s0 : Steps p.tables e below (s₁.setTop (entryFrame m #[(.ref p0), (.int p1), (.int p2)] 4)) (s₁.setTop (mkF m 0 #[.val (.ref p0), .val (.int p1), .val (.int p2), .unset] [])) := castTop (ef_rmrefFrom m p0 p1 p2) (Steps.refl _)
  obtain ⟨A₀, hA₀⟩ : ∃ z, z = (s₁.setTop (entryFrame m #[(.ref p0), (.int p1), (.int p2)] 4)) := ⟨_, rfl⟩
  rw [← hA₀] at s0
  obtain ⟨T1, L1, X1, e1, N1, st1⟩ := own_callP X0 hx hZ hown (wk45 hw) (wk46 hw) (wk43 hw) (wk47 hw) (by decide) (rmx l Z a0 hw [] p0 p1 (0 : Int32) kz xs h0 n0 O0 F0_) e0 N0 (W := 0) (by decide) (by decide) (by decide) (by decide) (g := (mkF m 3 #[.val (.ref p0), .val (.int p1), .val (.int p2), .unset] [(.int (0 : Int32)), (.int p1), (.ref p0)])) rfl (by rw [hml]; rfl) (argsL := [(.ref p0), (.int p1), (.int (0 : Int32))]) (rest := []) (lenOf pd_rmrefFrom_0 rfl) rfl (by show 2 * 0 + _ ≤ _; exact Nat.le_of_eq rfl) (hb hby d7_3)
  have s2 : Steps p.tables e below A₀ (T1.setTop (mkF m 6 #[.val (.ref p0), .val (.int p1), .val (.int p2), .unset] [(.int (own_oth xs p1 (0 : Int32)))])) := by
    refine s0.trans ?_
    refine XS.aloadN X0.here hx rfl (hb hby d7_0) rfl rfl ?_
    show Steps p.tables e below (s₁.setTop (mkF m 1 #[.val (.ref p0), .val (.int p1), .val (.int p2), .unset] [(.ref p0)])) _
    refine XS.iloadN X0.here hx rfl (hb hby d7_1) rfl ?_
    refine XS.iconst X0.here hx rfl (hb hby d7_2) ?_
    refine st1 _ ?_
    exact Steps.refl _
  obtain ⟨T22, L22, X22, e22, N22, s22⟩ : ∃ (T : State) (L : List Loc), (Stand p l e ({ frames := 1, cells := 0, slots := 0, locals := 14 } : Room) s m #[(.ref p0), (.int p1), (.int p2)] below meth c T L 0 0) ∧ (T.heap = h0) ∧ (Fr n0 L) ∧ (Steps p.tables e below A₀ (T.setTop (mkF m 50 #[.val (.ref p0), .val (.int p1), .val (.int p2), .unset] [(.int (if (own_oth xs p1 (0 : Int32)) = (0 : Int32) then (if (own_oth xs p1 (1 : Int32)) = (0 : Int32) then (if (own_oth xs p1 (2 : Int32)) = (0 : Int32) then (if (own_oth xs p1 (3 : Int32)) = (0 : Int32) then (if (own_oth xs p1 (4 : Int32)) = (0 : Int32) then (0 : Int32) else (1 : Int32)) else (1 : Int32)) else (1 : Int32)) else (1 : Int32)) else (1 : Int32)))]))) := by
    by_cases hc3 : (own_oth xs p1 (0 : Int32)) = (0 : Int32)
    · obtain ⟨T4, L4, X4, e4, N4, st4⟩ := own_callP X1 hx hZ hown (wk45 hw) (wk46 hw) (wk43 hw) (wk47 hw) (by decide) (rmx l Z a0 hw [] p0 p1 (1 : Int32) kz xs h0 n0 O0 F0_) e1 N1 (W := 0) (by decide) (by decide) (by decide) (by decide) (g := (mkF m 12 #[.val (.ref p0), .val (.int p1), .val (.int p2), .unset] [(.int (1 : Int32)), (.int p1), (.ref p0)])) rfl (by rw [hml]; rfl) (argsL := [(.ref p0), (.int p1), (.int (1 : Int32))]) (rest := []) (lenOf pd_rmrefFrom_0 rfl) rfl (by show 2 * 0 + _ ≤ _; exact Nat.le_of_eq rfl) (hb hby d7_12)
      have s5 : Steps p.tables e below A₀ (T4.setTop (mkF m 15 #[.val (.ref p0), .val (.int p1), .val (.int p2), .unset] [(.int (own_oth xs p1 (1 : Int32)))])) := by
        refine s2.trans ?_
        refine XS.ifNo X1.here hx rfl (hb hby d7_6) rfl ((if0 _ _).trans (teq hc3).2) ?_
        show Steps p.tables e below (T1.setTop (mkF m 9 #[.val (.ref p0), .val (.int p1), .val (.int p2), .unset] [])) _
        refine XS.aloadN X1.here hx rfl (hb hby d7_9) rfl rfl ?_
        refine XS.iloadN X1.here hx rfl (hb hby d7_10) rfl ?_
        refine XS.iconst X1.here hx rfl (hb hby d7_11) ?_
        refine st4 _ ?_
        exact Steps.refl _
      by_cases hc6 : (own_oth xs p1 (1 : Int32)) = (0 : Int32)
      · obtain ⟨T7, L7, X7, e7, N7, st7⟩ := own_callP X4 hx hZ hown (wk45 hw) (wk46 hw) (wk43 hw) (wk47 hw) (by decide) (rmx l Z a0 hw [] p0 p1 (2 : Int32) kz xs h0 n0 O0 F0_) e4 N4 (W := 0) (by decide) (by decide) (by decide) (by decide) (g := (mkF m 21 #[.val (.ref p0), .val (.int p1), .val (.int p2), .unset] [(.int (2 : Int32)), (.int p1), (.ref p0)])) rfl (by rw [hml]; rfl) (argsL := [(.ref p0), (.int p1), (.int (2 : Int32))]) (rest := []) (lenOf pd_rmrefFrom_0 rfl) rfl (by show 2 * 0 + _ ≤ _; exact Nat.le_of_eq rfl) (hb hby d7_21)
        have s8 : Steps p.tables e below A₀ (T7.setTop (mkF m 24 #[.val (.ref p0), .val (.int p1), .val (.int p2), .unset] [(.int (own_oth xs p1 (2 : Int32)))])) := by
          refine s5.trans ?_
          refine XS.ifNo X4.here hx rfl (hb hby d7_15) rfl ((if0 _ _).trans (teq hc6).2) ?_
          show Steps p.tables e below (T4.setTop (mkF m 18 #[.val (.ref p0), .val (.int p1), .val (.int p2), .unset] [])) _
          refine XS.aloadN X4.here hx rfl (hb hby d7_18) rfl rfl ?_
          refine XS.iloadN X4.here hx rfl (hb hby d7_19) rfl ?_
          refine XS.iconst X4.here hx rfl (hb hby d7_20) ?_
          refine st7 _ ?_
          exact Steps.refl _
        by_cases hc9 : (own_oth xs p1 (2 : Int32)) = (0 : Int32)
        · obtain ⟨T10, L10, X10, e10, N10, st10⟩ := own_callP X7 hx hZ hown (wk45 hw) (wk46 hw) (wk43 hw) (wk47 hw) (by decide) (rmx l Z a0 hw [] p0 p1 (3 : Int32) kz xs h0 n0 O0 F0_) e7 N7 (W := 0) (by decide) (by decide) (by decide) (by decide) (g := (mkF m 30 #[.val (.ref p0), .val (.int p1), .val (.int p2), .unset] [(.int (3 : Int32)), (.int p1), (.ref p0)])) rfl (by rw [hml]; rfl) (argsL := [(.ref p0), (.int p1), (.int (3 : Int32))]) (rest := []) (lenOf pd_rmrefFrom_0 rfl) rfl (by show 2 * 0 + _ ≤ _; exact Nat.le_of_eq rfl) (hb hby d7_30)
          have s11 : Steps p.tables e below A₀ (T10.setTop (mkF m 33 #[.val (.ref p0), .val (.int p1), .val (.int p2), .unset] [(.int (own_oth xs p1 (3 : Int32)))])) := by
            refine s8.trans ?_
            refine XS.ifNo X7.here hx rfl (hb hby d7_24) rfl ((if0 _ _).trans (teq hc9).2) ?_
            show Steps p.tables e below (T7.setTop (mkF m 27 #[.val (.ref p0), .val (.int p1), .val (.int p2), .unset] [])) _
            refine XS.aloadN X7.here hx rfl (hb hby d7_27) rfl rfl ?_
            refine XS.iloadN X7.here hx rfl (hb hby d7_28) rfl ?_
            refine XS.iconst X7.here hx rfl (hb hby d7_29) ?_
            refine st10 _ ?_
            exact Steps.refl _
          by_cases hc12 : (own_oth xs p1 (3 : Int32)) = (0 : Int32)
          · obtain ⟨T13, L13, X13, e13, N13, st13⟩ := own_callP X10 hx hZ hown (wk45 hw) (wk46 hw) (wk43 hw) (wk47 hw) (by decide) (rmx l Z a0 hw [] p0 p1 (4 : Int32) kz xs h0 n0 O0 F0_) e10 N10 (W := 0) (by decide) (by decide) (by decide) (by decide) (g := (mkF m 39 #[.val (.ref p0), .val (.int p1), .val (.int p2), .unset] [(.int (4 : Int32)), (.int p1), (.ref p0)])) rfl (by rw [hml]; rfl) (argsL := [(.ref p0), (.int p1), (.int (4 : Int32))]) (rest := []) (lenOf pd_rmrefFrom_0 rfl) rfl (by show 2 * 0 + _ ≤ _; exact Nat.le_of_eq rfl) (hb hby d7_39)
            have s14 : Steps p.tables e below A₀ (T13.setTop (mkF m 42 #[.val (.ref p0), .val (.int p1), .val (.int p2), .unset] [(.int (own_oth xs p1 (4 : Int32)))])) := by
              refine s11.trans ?_
              refine XS.ifNo X10.here hx rfl (hb hby d7_33) rfl ((if0 _ _).trans (teq hc12).2) ?_
              show Steps p.tables e below (T10.setTop (mkF m 36 #[.val (.ref p0), .val (.int p1), .val (.int p2), .unset] [])) _
              refine XS.aloadN X10.here hx rfl (hb hby d7_36) rfl rfl ?_
              refine XS.iloadN X10.here hx rfl (hb hby d7_37) rfl ?_
              refine XS.iconst X10.here hx rfl (hb hby d7_38) ?_
              refine st13 _ ?_
              exact Steps.refl _
            by_cases hc15 : (own_oth xs p1 (4 : Int32)) = (0 : Int32)
            · have s16 : Steps p.tables e below A₀ (T13.setTop (mkF m 50 #[.val (.ref p0), .val (.int p1), .val (.int p2), .unset] [(.int (0 : Int32))])) := by
                refine s14.trans ?_
                refine XS.ifYes X13.here hx rfl (pc0 := 42) (pc' := 49) rfl (hb hby d7_42) rfl ((if0 _ _).trans (teq hc15).1) (by decide) (by decide) ?_
                show Steps p.tables e below (T13.setTop (mkF m 49 #[.val (.ref p0), .val (.int p1), .val (.int p2), .unset] [])) _
                refine XS.iconst X13.here hx rfl (hb hby d7_49) ?_
                exact Steps.refl _
              simp only [if_pos hc3, if_pos hc6, if_pos hc9, if_pos hc12, if_pos hc15]
              exact ⟨T13, _, X13, e13, N13, s16⟩
            · have s17 : Steps p.tables e below A₀ (T13.setTop (mkF m 50 #[.val (.ref p0), .val (.int p1), .val (.int p2), .unset] [(.int (1 : Int32))])) := by
                refine s14.trans ?_
                refine XS.ifNo X13.here hx rfl (hb hby d7_42) rfl ((if0 _ _).trans (feq hc15).1) ?_
                show Steps p.tables e below (T13.setTop (mkF m 45 #[.val (.ref p0), .val (.int p1), .val (.int p2), .unset] [])) _
                refine XS.iconst X13.here hx rfl (hb hby d7_45) ?_
                refine XS.goto X13.here hx rfl (pc0 := 46) (pc' := 50) rfl (hb hby d7_46) (by decide) (by decide) ?_
                exact Steps.refl _
              simp only [if_pos hc3, if_pos hc6, if_pos hc9, if_pos hc12, if_neg hc15]
              exact ⟨T13, _, X13, e13, N13, s17⟩
          · have s18 : Steps p.tables e below A₀ (T10.setTop (mkF m 50 #[.val (.ref p0), .val (.int p1), .val (.int p2), .unset] [(.int (1 : Int32))])) := by
              refine s11.trans ?_
              refine XS.ifYes X10.here hx rfl (pc0 := 33) (pc' := 45) rfl (hb hby d7_33) rfl ((if0 _ _).trans (feq hc12).2) (by decide) (by decide) ?_
              show Steps p.tables e below (T10.setTop (mkF m 45 #[.val (.ref p0), .val (.int p1), .val (.int p2), .unset] [])) _
              refine XS.iconst X10.here hx rfl (hb hby d7_45) ?_
              refine XS.goto X10.here hx rfl (pc0 := 46) (pc' := 50) rfl (hb hby d7_46) (by decide) (by decide) ?_
              exact Steps.refl _
            simp only [if_pos hc3, if_pos hc6, if_pos hc9, if_neg hc12]
            exact ⟨T10, _, X10, e10, N10, s18⟩
        · have s19 : Steps p.tables e below A₀ (T7.setTop (mkF m 50 #[.val (.ref p0), .val (.int p1), .val (.int p2), .unset] [(.int (1 : Int32))])) := by
            refine s8.trans ?_
            refine XS.ifYes X7.here hx rfl (pc0 := 24) (pc' := 45) rfl (hb hby d7_24) rfl ((if0 _ _).trans (feq hc9).2) (by decide) (by decide) ?_
            show Steps p.tables e below (T7.setTop (mkF m 45 #[.val (.ref p0), .val (.int p1), .val (.int p2), .unset] [])) _
            refine XS.iconst X7.here hx rfl (hb hby d7_45) ?_
            refine XS.goto X7.here hx rfl (pc0 := 46) (pc' := 50) rfl (hb hby d7_46) (by decide) (by decide) ?_
            exact Steps.refl _
          simp only [if_pos hc3, if_pos hc6, if_neg hc9]
          exact ⟨T7, _, X7, e7, N7, s19⟩
      · have s20 : Steps p.tables e below A₀ (T4.setTop (mkF m 50 #[.val (.ref p0), .val (.int p1), .val (.int p2), .unset] [(.int (1 : Int32))])) := by
          refine s5.trans ?_
          refine XS.ifYes X4.here hx rfl (pc0 := 15) (pc' := 45) rfl (hb hby d7_15) rfl ((if0 _ _).trans (feq hc6).2) (by decide) (by decide) ?_
          show Steps p.tables e below (T4.setTop (mkF m 45 #[.val (.ref p0), .val (.int p1), .val (.int p2), .unset] [])) _
          refine XS.iconst X4.here hx rfl (hb hby d7_45) ?_
          refine XS.goto X4.here hx rfl (pc0 := 46) (pc' := 50) rfl (hb hby d7_46) (by decide) (by decide) ?_
          exact Steps.refl _
        simp only [if_pos hc3, if_neg hc6]
        exact ⟨T4, _, X4, e4, N4, s20⟩
    · have s21 : Steps p.tables e below A₀ (T1.setTop (mkF m 50 #[.val (.ref p0), .val (.int p1), .val (.int p2), .unset] [(.int (1 : Int32))])) := by
        refine s2.trans ?_
        refine XS.ifYes X1.here hx rfl (pc0 := 6) (pc' := 45) rfl (hb hby d7_6) rfl ((if0 _ _).trans (feq hc3).2) (by decide) (by decide) ?_
        show Steps p.tables e below (T1.setTop (mkF m 45 #[.val (.ref p0), .val (.int p1), .val (.int p2), .unset] [])) _
        refine XS.iconst X1.here hx rfl (hb hby d7_45) ?_
        refine XS.goto X1.here hx rfl (pc0 := 46) (pc' := 50) rfl (hb hby d7_46) (by decide) (by decide) ?_
        exact Steps.refl _
      simp only [if_neg hc3]
      exact ⟨T1, _, X1, e1, N1, s21⟩
  obtain ⟨zz, hzz⟩ : ∃ z, z = (if (own_oth xs p1 (0 : Int32)) = (0 : Int32) then (if (own_oth xs p1 (1 : Int32)) = (0 : Int32) then (if (own_oth xs p1 (2 : Int32)) = (0 : Int32) then (if (own_oth xs p1 (3 : Int32)) = (0 : Int32) then (if (own_oth xs p1 (4 : Int32)) = (0 : Int32) then (0 : Int32) else (1 : Int32)) else (1 : Int32)) else (1 : Int32)) else (1 : Int32)) else (1 : Int32)) := ⟨_, rfl⟩
  rw [← hzz] at s22
  have s23 : Steps p.tables e below A₀ (T22.setTop (mkF m 52 #[.val (.ref p0), .val (.int p1), .val (.int p2), .val (.int zz)] [(.int zz)])) := by
    refine s22.trans ?_
    refine XS.istoreN X22.here hx rfl (hb hby d7_50) rfl (l' := #[.val (.ref p0), .val (.int p1), .val (.int p2), .val (.int zz)]) rfl ?_
    show Steps p.tables e below (T22.setTop (mkF m 51 #[.val (.ref p0), .val (.int p1), .val (.int p2), .val (.int zz)] [])) _
    refine XS.iloadN X22.here hx rfl (hb hby d7_51) rfl ?_
    exact Steps.refl _
  by_cases hc24 : zz = (0 : Int32)
  · have s25 : Steps p.tables e below A₀ (T22.setTop (mkF m 56 #[.val (.ref p0), .val (.int p1), .val (.int p2), .val (.int zz)] [(.int (-1 : Int32))])) := by
      refine s23.trans ?_
      refine XS.ifNo X22.here hx rfl (hb hby d7_52) rfl ((if0 _ _).trans (teq hc24).2) ?_
      show Steps p.tables e below (T22.setTop (mkF m 55 #[.val (.ref p0), .val (.int p1), .val (.int p2), .val (.int zz)] [])) _
      refine XS.iconst X22.here hx rfl (hb hby d7_55) ?_
      exact Steps.refl _
    subst hA₀
    obtain ⟨fs, hr, hrun, hended, hW, hsame⟩ := X22.leave (v := some (.int (-1 : Int32))) (fun h => by rw [Bd.returns] at h; cases h)
    refine ⟨_, _, s25.trans ?_, hrun, hended, _, _, rfl, ?_, ⟨_, rfl⟩, hW, hsame.mono (by decide) (by decide)⟩
    · show Steps p.tables e below (T22.setTop (mkF m 56 #[.val (.ref p0), .val (.int p1), .val (.int p2), .val (.int zz)] [(.int (-1 : Int32))])) _
      exact retI X22 hx Bd.returns (hb hby d7_56) hr
    · show QrefFrom Z p0 p1 p2 kz xs h0 n0 _ T22.heap _
      rw [e22]
      exact ⟨(by unfold own_refFrom; rw [← hzz]; rw [if_pos hc24]), N22, rfl⟩
  · obtain ⟨T26, L26, X26, e26, N26, st26⟩ := own_callP X22 hx hZ hown (wk45 hw) (wk46 hw) (wk43 hw) (wk47 hw) (by decide) (rmx l Z a0 hw [] p0 p1 p2 kz xs h0 n0 O0 F0_) e22 N22 (W := 0) (by decide) (by decide) (by decide) (by decide) (g := (mkF m 60 #[.val (.ref p0), .val (.int p1), .val (.int p2), .val (.int zz)] [(.int p2), (.int p1), (.ref p0)])) rfl (by rw [hml]; rfl) (argsL := [(.ref p0), (.int p1), (.int p2)]) (rest := []) (lenOf pd_rmrefFrom_0 rfl) rfl (by show 2 * 0 + _ ≤ _; exact Nat.le_of_eq rfl) (hb hby d7_60)
    have s27 : Steps p.tables e below A₀ (T26.setTop (mkF m 63 #[.val (.ref p0), .val (.int p1), .val (.int p2), .val (.int zz)] [(.int (own_oth xs p1 p2))])) := by
      refine s23.trans ?_
      refine XS.ifYes X22.here hx rfl (pc0 := 52) (pc' := 57) rfl (hb hby d7_52) rfl ((if0 _ _).trans (feq hc24).2) (by decide) (by decide) ?_
      show Steps p.tables e below (T22.setTop (mkF m 57 #[.val (.ref p0), .val (.int p1), .val (.int p2), .val (.int zz)] [])) _
      refine XS.aloadN X22.here hx rfl (hb hby d7_57) rfl rfl ?_
      refine XS.iloadN X22.here hx rfl (hb hby d7_58) rfl ?_
      refine XS.iloadN X22.here hx rfl (hb hby d7_59) rfl ?_
      refine st26 _ ?_
      exact Steps.refl _
    by_cases hc28 : (own_oth xs p1 p2) = (0 : Int32)
    · obtain ⟨T29, L29, X29, e29, N29, st29⟩ := own_callP X26 hx hZ hown (wk45 hw) (wk46 hw) (wk43 hw) (wk47 hw) (by decide) (rmx l Z a0 hw [] p0 p1 (p2 - (1 : Int32)) kz xs h0 n0 O0 F0_) e26 N26 (W := 0) (by decide) (by decide) (by decide) (by decide) (g := (mkF m 73 #[.val (.ref p0), .val (.int p1), .val (.int p2), .val (.int zz)] [(.int (p2 - (1 : Int32))), (.int p1), (.ref p0)])) rfl (by rw [hml]; rfl) (argsL := [(.ref p0), (.int p1), (.int (p2 - (1 : Int32)))]) (rest := []) (lenOf pd_rmrefFrom_0 rfl) rfl (by show 2 * 0 + _ ≤ _; exact Nat.le_of_eq rfl) (hb hby d7_73)
      have s30 : Steps p.tables e below A₀ (T29.setTop (mkF m 76 #[.val (.ref p0), .val (.int p1), .val (.int p2), .val (.int zz)] [(.int (own_oth xs p1 (p2 - (1 : Int32))))])) := by
        refine s27.trans ?_
        refine XS.ifYes X26.here hx rfl (pc0 := 63) (pc' := 68) rfl (hb hby d7_63) rfl ((if0 _ _).trans (teq hc28).1) (by decide) (by decide) ?_
        show Steps p.tables e below (T26.setTop (mkF m 68 #[.val (.ref p0), .val (.int p1), .val (.int p2), .val (.int zz)] [])) _
        refine XS.aloadN X26.here hx rfl (hb hby d7_68) rfl rfl ?_
        refine XS.iloadN X26.here hx rfl (hb hby d7_69) rfl ?_
        refine XS.iloadN X26.here hx rfl (hb hby d7_70) rfl ?_
        refine XS.iconst X26.here hx rfl (hb hby d7_71) ?_
        refine XS.isub X26.here hx rfl (hb hby d7_72) rfl ?_
        refine st29 _ ?_
        exact Steps.refl _
      by_cases hc31 : (own_oth xs p1 (p2 - (1 : Int32))) = (0 : Int32)
      · obtain ⟨T32, L32, X32, e32, N32, st32⟩ := own_callP X29 hx hZ hown (wk45 hw) (wk46 hw) (wk43 hw) (wk47 hw) (by decide) (rmx l Z a0 hw [] p0 p1 (p2 - (2 : Int32)) kz xs h0 n0 O0 F0_) e29 N29 (W := 0) (by decide) (by decide) (by decide) (by decide) (g := (mkF m 88 #[.val (.ref p0), .val (.int p1), .val (.int p2), .val (.int zz)] [(.int (p2 - (2 : Int32))), (.int p1), (.ref p0)])) rfl (by rw [hml]; rfl) (argsL := [(.ref p0), (.int p1), (.int (p2 - (2 : Int32)))]) (rest := []) (lenOf pd_rmrefFrom_0 rfl) rfl (by show 2 * 0 + _ ≤ _; exact Nat.le_of_eq rfl) (hb hby d7_88)
        have s33 : Steps p.tables e below A₀ (T32.setTop (mkF m 91 #[.val (.ref p0), .val (.int p1), .val (.int p2), .val (.int zz)] [(.int (own_oth xs p1 (p2 - (2 : Int32))))])) := by
          refine s30.trans ?_
          refine XS.ifYes X29.here hx rfl (pc0 := 76) (pc' := 83) rfl (hb hby d7_76) rfl ((if0 _ _).trans (teq hc31).1) (by decide) (by decide) ?_
          show Steps p.tables e below (T29.setTop (mkF m 83 #[.val (.ref p0), .val (.int p1), .val (.int p2), .val (.int zz)] [])) _
          refine XS.aloadN X29.here hx rfl (hb hby d7_83) rfl rfl ?_
          refine XS.iloadN X29.here hx rfl (hb hby d7_84) rfl ?_
          refine XS.iloadN X29.here hx rfl (hb hby d7_85) rfl ?_
          refine XS.iconst X29.here hx rfl (hb hby d7_86) ?_
          refine XS.isub X29.here hx rfl (hb hby d7_87) rfl ?_
          refine st32 _ ?_
          exact Steps.refl _
        by_cases hc34 : (own_oth xs p1 (p2 - (2 : Int32))) = (0 : Int32)
        · obtain ⟨T35, L35, X35, e35, N35, st35⟩ := own_callP X32 hx hZ hown (wk45 hw) (wk46 hw) (wk43 hw) (wk47 hw) (by decide) (rmx l Z a0 hw [] p0 p1 (p2 - (3 : Int32)) kz xs h0 n0 O0 F0_) e32 N32 (W := 0) (by decide) (by decide) (by decide) (by decide) (g := (mkF m 103 #[.val (.ref p0), .val (.int p1), .val (.int p2), .val (.int zz)] [(.int (p2 - (3 : Int32))), (.int p1), (.ref p0)])) rfl (by rw [hml]; rfl) (argsL := [(.ref p0), (.int p1), (.int (p2 - (3 : Int32)))]) (rest := []) (lenOf pd_rmrefFrom_0 rfl) rfl (by show 2 * 0 + _ ≤ _; exact Nat.le_of_eq rfl) (hb hby d7_103)
          have s36 : Steps p.tables e below A₀ (T35.setTop (mkF m 106 #[.val (.ref p0), .val (.int p1), .val (.int p2), .val (.int zz)] [(.int (own_oth xs p1 (p2 - (3 : Int32))))])) := by
            refine s33.trans ?_
            refine XS.ifYes X32.here hx rfl (pc0 := 91) (pc' := 98) rfl (hb hby d7_91) rfl ((if0 _ _).trans (teq hc34).1) (by decide) (by decide) ?_
            show Steps p.tables e below (T32.setTop (mkF m 98 #[.val (.ref p0), .val (.int p1), .val (.int p2), .val (.int zz)] [])) _
            refine XS.aloadN X32.here hx rfl (hb hby d7_98) rfl rfl ?_
            refine XS.iloadN X32.here hx rfl (hb hby d7_99) rfl ?_
            refine XS.iloadN X32.here hx rfl (hb hby d7_100) rfl ?_
            refine XS.iconst X32.here hx rfl (hb hby d7_101) ?_
            refine XS.isub X32.here hx rfl (hb hby d7_102) rfl ?_
            refine st35 _ ?_
            exact Steps.refl _
          by_cases hc37 : (own_oth xs p1 (p2 - (3 : Int32))) = (0 : Int32)
          · obtain ⟨T38, L38, X38, e38, N38, st38⟩ := own_callP X35 hx hZ hown (wk45 hw) (wk46 hw) (wk43 hw) (wk47 hw) (by decide) (rmx l Z a0 hw [] p0 p1 (p2 - (4 : Int32)) kz xs h0 n0 O0 F0_) e35 N35 (W := 0) (by decide) (by decide) (by decide) (by decide) (g := (mkF m 118 #[.val (.ref p0), .val (.int p1), .val (.int p2), .val (.int zz)] [(.int (p2 - (4 : Int32))), (.int p1), (.ref p0)])) rfl (by rw [hml]; rfl) (argsL := [(.ref p0), (.int p1), (.int (p2 - (4 : Int32)))]) (rest := []) (lenOf pd_rmrefFrom_0 rfl) rfl (by show 2 * 0 + _ ≤ _; exact Nat.le_of_eq rfl) (hb hby d7_118)
            have s39 : Steps p.tables e below A₀ (T38.setTop (mkF m 121 #[.val (.ref p0), .val (.int p1), .val (.int p2), .val (.int zz)] [(.int (own_oth xs p1 (p2 - (4 : Int32))))])) := by
              refine s36.trans ?_
              refine XS.ifYes X35.here hx rfl (pc0 := 106) (pc' := 113) rfl (hb hby d7_106) rfl ((if0 _ _).trans (teq hc37).1) (by decide) (by decide) ?_
              show Steps p.tables e below (T35.setTop (mkF m 113 #[.val (.ref p0), .val (.int p1), .val (.int p2), .val (.int zz)] [])) _
              refine XS.aloadN X35.here hx rfl (hb hby d7_113) rfl rfl ?_
              refine XS.iloadN X35.here hx rfl (hb hby d7_114) rfl ?_
              refine XS.iloadN X35.here hx rfl (hb hby d7_115) rfl ?_
              refine XS.iconst X35.here hx rfl (hb hby d7_116) ?_
              refine XS.isub X35.here hx rfl (hb hby d7_117) rfl ?_
              refine st38 _ ?_
              exact Steps.refl _
            by_cases hc40 : (own_oth xs p1 (p2 - (4 : Int32))) = (0 : Int32)
            · have s41 : Steps p.tables e below A₀ (T38.setTop (mkF m 129 #[.val (.ref p0), .val (.int p1), .val (.int p2), .val (.int zz)] [(.int (0 : Int32))])) := by
                refine s39.trans ?_
                refine XS.ifYes X38.here hx rfl (pc0 := 121) (pc' := 128) rfl (hb hby d7_121) rfl ((if0 _ _).trans (teq hc40).1) (by decide) (by decide) ?_
                show Steps p.tables e below (T38.setTop (mkF m 128 #[.val (.ref p0), .val (.int p1), .val (.int p2), .val (.int zz)] [])) _
                refine XS.iconst X38.here hx rfl (hb hby d7_128) ?_
                exact Steps.refl _
              subst hA₀
              obtain ⟨fs, hr, hrun, hended, hW, hsame⟩ := X38.leave (v := some (.int (0 : Int32))) (fun h => by rw [Bd.returns] at h; cases h)
              refine ⟨_, _, s41.trans ?_, hrun, hended, _, _, rfl, ?_, ⟨_, rfl⟩, hW, hsame.mono (by decide) (by decide)⟩
              · show Steps p.tables e below (T38.setTop (mkF m 129 #[.val (.ref p0), .val (.int p1), .val (.int p2), .val (.int zz)] [(.int (0 : Int32))])) _
                exact retI X38 hx Bd.returns (hb hby d7_129) hr
              · show QrefFrom Z p0 p1 p2 kz xs h0 n0 _ T38.heap _
                rw [e38]
                exact ⟨(by unfold own_refFrom; rw [← hzz]; rw [if_neg hc24, if_pos hc28, if_pos hc31, if_pos hc34, if_pos hc37, if_pos hc40]), N38, rfl⟩
            · have s42 : Steps p.tables e below A₀ (T38.setTop (mkF m 127 #[.val (.ref p0), .val (.int p1), .val (.int p2), .val (.int zz)] [(.int (p2 - (4 : Int32)))])) := by
                refine s39.trans ?_
                refine XS.ifNo X38.here hx rfl (hb hby d7_121) rfl ((if0 _ _).trans (feq hc40).1) ?_
                show Steps p.tables e below (T38.setTop (mkF m 124 #[.val (.ref p0), .val (.int p1), .val (.int p2), .val (.int zz)] [])) _
                refine XS.iloadN X38.here hx rfl (hb hby d7_124) rfl ?_
                refine XS.iconst X38.here hx rfl (hb hby d7_125) ?_
                refine XS.isub X38.here hx rfl (hb hby d7_126) rfl ?_
                exact Steps.refl _
              subst hA₀
              obtain ⟨fs, hr, hrun, hended, hW, hsame⟩ := X38.leave (v := some (.int (p2 - (4 : Int32)))) (fun h => by rw [Bd.returns] at h; cases h)
              refine ⟨_, _, s42.trans ?_, hrun, hended, _, _, rfl, ?_, ⟨_, rfl⟩, hW, hsame.mono (by decide) (by decide)⟩
              · show Steps p.tables e below (T38.setTop (mkF m 127 #[.val (.ref p0), .val (.int p1), .val (.int p2), .val (.int zz)] [(.int (p2 - (4 : Int32)))])) _
                exact retI X38 hx Bd.returns (hb hby d7_127) hr
              · show QrefFrom Z p0 p1 p2 kz xs h0 n0 _ T38.heap _
                rw [e38]
                exact ⟨(by unfold own_refFrom; rw [← hzz]; rw [if_neg hc24, if_pos hc28, if_pos hc31, if_pos hc34, if_pos hc37, if_neg hc40]), N38, rfl⟩
          · have s43 : Steps p.tables e below A₀ (T35.setTop (mkF m 112 #[.val (.ref p0), .val (.int p1), .val (.int p2), .val (.int zz)] [(.int (p2 - (3 : Int32)))])) := by
              refine s36.trans ?_
              refine XS.ifNo X35.here hx rfl (hb hby d7_106) rfl ((if0 _ _).trans (feq hc37).1) ?_
              show Steps p.tables e below (T35.setTop (mkF m 109 #[.val (.ref p0), .val (.int p1), .val (.int p2), .val (.int zz)] [])) _
              refine XS.iloadN X35.here hx rfl (hb hby d7_109) rfl ?_
              refine XS.iconst X35.here hx rfl (hb hby d7_110) ?_
              refine XS.isub X35.here hx rfl (hb hby d7_111) rfl ?_
              exact Steps.refl _
            subst hA₀
            obtain ⟨fs, hr, hrun, hended, hW, hsame⟩ := X35.leave (v := some (.int (p2 - (3 : Int32)))) (fun h => by rw [Bd.returns] at h; cases h)
            refine ⟨_, _, s43.trans ?_, hrun, hended, _, _, rfl, ?_, ⟨_, rfl⟩, hW, hsame.mono (by decide) (by decide)⟩
            · show Steps p.tables e below (T35.setTop (mkF m 112 #[.val (.ref p0), .val (.int p1), .val (.int p2), .val (.int zz)] [(.int (p2 - (3 : Int32)))])) _
              exact retI X35 hx Bd.returns (hb hby d7_112) hr
            · show QrefFrom Z p0 p1 p2 kz xs h0 n0 _ T35.heap _
              rw [e35]
              exact ⟨(by unfold own_refFrom; rw [← hzz]; rw [if_neg hc24, if_pos hc28, if_pos hc31, if_pos hc34, if_neg hc37]), N35, rfl⟩
        · have s44 : Steps p.tables e below A₀ (T32.setTop (mkF m 97 #[.val (.ref p0), .val (.int p1), .val (.int p2), .val (.int zz)] [(.int (p2 - (2 : Int32)))])) := by
            refine s33.trans ?_
            refine XS.ifNo X32.here hx rfl (hb hby d7_91) rfl ((if0 _ _).trans (feq hc34).1) ?_
            show Steps p.tables e below (T32.setTop (mkF m 94 #[.val (.ref p0), .val (.int p1), .val (.int p2), .val (.int zz)] [])) _
            refine XS.iloadN X32.here hx rfl (hb hby d7_94) rfl ?_
            refine XS.iconst X32.here hx rfl (hb hby d7_95) ?_
            refine XS.isub X32.here hx rfl (hb hby d7_96) rfl ?_
            exact Steps.refl _
          subst hA₀
          obtain ⟨fs, hr, hrun, hended, hW, hsame⟩ := X32.leave (v := some (.int (p2 - (2 : Int32)))) (fun h => by rw [Bd.returns] at h; cases h)
          refine ⟨_, _, s44.trans ?_, hrun, hended, _, _, rfl, ?_, ⟨_, rfl⟩, hW, hsame.mono (by decide) (by decide)⟩
          · show Steps p.tables e below (T32.setTop (mkF m 97 #[.val (.ref p0), .val (.int p1), .val (.int p2), .val (.int zz)] [(.int (p2 - (2 : Int32)))])) _
            exact retI X32 hx Bd.returns (hb hby d7_97) hr
          · show QrefFrom Z p0 p1 p2 kz xs h0 n0 _ T32.heap _
            rw [e32]
            exact ⟨(by unfold own_refFrom; rw [← hzz]; rw [if_neg hc24, if_pos hc28, if_pos hc31, if_neg hc34]), N32, rfl⟩
      · have s45 : Steps p.tables e below A₀ (T29.setTop (mkF m 82 #[.val (.ref p0), .val (.int p1), .val (.int p2), .val (.int zz)] [(.int (p2 - (1 : Int32)))])) := by
          refine s30.trans ?_
          refine XS.ifNo X29.here hx rfl (hb hby d7_76) rfl ((if0 _ _).trans (feq hc31).1) ?_
          show Steps p.tables e below (T29.setTop (mkF m 79 #[.val (.ref p0), .val (.int p1), .val (.int p2), .val (.int zz)] [])) _
          refine XS.iloadN X29.here hx rfl (hb hby d7_79) rfl ?_
          refine XS.iconst X29.here hx rfl (hb hby d7_80) ?_
          refine XS.isub X29.here hx rfl (hb hby d7_81) rfl ?_
          exact Steps.refl _
        subst hA₀
        obtain ⟨fs, hr, hrun, hended, hW, hsame⟩ := X29.leave (v := some (.int (p2 - (1 : Int32)))) (fun h => by rw [Bd.returns] at h; cases h)
        refine ⟨_, _, s45.trans ?_, hrun, hended, _, _, rfl, ?_, ⟨_, rfl⟩, hW, hsame.mono (by decide) (by decide)⟩
        · show Steps p.tables e below (T29.setTop (mkF m 82 #[.val (.ref p0), .val (.int p1), .val (.int p2), .val (.int zz)] [(.int (p2 - (1 : Int32)))])) _
          exact retI X29 hx Bd.returns (hb hby d7_82) hr
        · show QrefFrom Z p0 p1 p2 kz xs h0 n0 _ T29.heap _
          rw [e29]
          exact ⟨(by unfold own_refFrom; rw [← hzz]; rw [if_neg hc24, if_pos hc28, if_neg hc31]), N29, rfl⟩
    · have s46 : Steps p.tables e below A₀ (T26.setTop (mkF m 67 #[.val (.ref p0), .val (.int p1), .val (.int p2), .val (.int zz)] [(.int p2)])) := by
        refine s27.trans ?_
        refine XS.ifNo X26.here hx rfl (hb hby d7_63) rfl ((if0 _ _).trans (feq hc28).1) ?_
        show Steps p.tables e below (T26.setTop (mkF m 66 #[.val (.ref p0), .val (.int p1), .val (.int p2), .val (.int zz)] [])) _
        refine XS.iloadN X26.here hx rfl (hb hby d7_66) rfl ?_
        exact Steps.refl _
      subst hA₀
      obtain ⟨fs, hr, hrun, hended, hW, hsame⟩ := X26.leave (v := some (.int p2)) (fun h => by rw [Bd.returns] at h; cases h)
      refine ⟨_, _, s46.trans ?_, hrun, hended, _, _, rfl, ?_, ⟨_, rfl⟩, hW, hsame.mono (by decide) (by decide)⟩
      · show Steps p.tables e below (T26.setTop (mkF m 67 #[.val (.ref p0), .val (.int p1), .val (.int p2), .val (.int zz)] [(.int p2)])) _
        exact retI X26 hx Bd.returns (hb hby d7_67) hr
      · show QrefFrom Z p0 p1 p2 kz xs h0 n0 _ T26.heap _
        rw [e26]
        exact ⟨(by unfold own_refFrom; rw [← hzz]; rw [if_neg hc24, if_neg hc28]), N26, rfl⟩
theorem d9_0 : decode method_4_code 0 = .ok (.aload_n 0, 1) := by decide +kernel
theorem d9_1 : decode method_4_code 1 = .ok (.iload_n 1, 1) := by decide +kernel
theorem d9_2 : decode method_4_code 2 = .ok (.iload_n 2, 1) := by decide +kernel
theorem d9_3 : decode method_4_code 3 = .ok (.invokestatic 7, 3) := by decide +kernel
theorem d9_6 : decode method_4_code 6 = .ok (.ifCond .eq 5, 3) := by decide +kernel
theorem d9_9 : decode method_4_code 9 = .ok (.iload_n 2, 1) := by decide +kernel
theorem d9_10 : decode method_4_code 10 = .ok (.ireturn, 1) := by decide +kernel
theorem d9_11 : decode method_4_code 11 = .ok (.aload_n 0, 1) := by decide +kernel
theorem d9_12 : decode method_4_code 12 = .ok (.iload_n 1, 1) := by decide +kernel
theorem d9_13 : decode method_4_code 13 = .ok (.iload_n 2, 1) := by decide +kernel
theorem d9_14 : decode method_4_code 14 = .ok (.iconst 1, 1) := by decide +kernel
theorem d9_15 : decode method_4_code 15 = .ok (.iadd, 1) := by decide +kernel
theorem d9_16 : decode method_4_code 16 = .ok (.invokestatic 7, 3) := by decide +kernel
theorem d9_19 : decode method_4_code 19 = .ok (.ifCond .eq 7, 3) := by decide +kernel
theorem d9_22 : decode method_4_code 22 = .ok (.iload_n 2, 1) := by decide +kernel
theorem d9_23 : decode method_4_code 23 = .ok (.iconst 1, 1) := by decide +kernel
theorem d9_24 : decode method_4_code 24 = .ok (.iadd, 1) := by decide +kernel
theorem d9_25 : decode method_4_code 25 = .ok (.ireturn, 1) := by decide +kernel
theorem d9_26 : decode method_4_code 26 = .ok (.aload_n 0, 1) := by decide +kernel
theorem d9_27 : decode method_4_code 27 = .ok (.iload_n 1, 1) := by decide +kernel
theorem d9_28 : decode method_4_code 28 = .ok (.iload_n 2, 1) := by decide +kernel
theorem d9_29 : decode method_4_code 29 = .ok (.iconst 2, 1) := by decide +kernel
theorem d9_30 : decode method_4_code 30 = .ok (.iadd, 1) := by decide +kernel
theorem d9_31 : decode method_4_code 31 = .ok (.invokestatic 7, 3) := by decide +kernel
theorem d9_34 : decode method_4_code 34 = .ok (.ifCond .eq 7, 3) := by decide +kernel
theorem d9_37 : decode method_4_code 37 = .ok (.iload_n 2, 1) := by decide +kernel
theorem d9_38 : decode method_4_code 38 = .ok (.iconst 2, 1) := by decide +kernel
theorem d9_39 : decode method_4_code 39 = .ok (.iadd, 1) := by decide +kernel
theorem d9_40 : decode method_4_code 40 = .ok (.ireturn, 1) := by decide +kernel
theorem d9_41 : decode method_4_code 41 = .ok (.aload_n 0, 1) := by decide +kernel
theorem d9_42 : decode method_4_code 42 = .ok (.iload_n 1, 1) := by decide +kernel
theorem d9_43 : decode method_4_code 43 = .ok (.iload_n 2, 1) := by decide +kernel
theorem d9_44 : decode method_4_code 44 = .ok (.iconst 3, 1) := by decide +kernel
theorem d9_45 : decode method_4_code 45 = .ok (.iadd, 1) := by decide +kernel
theorem d9_46 : decode method_4_code 46 = .ok (.invokestatic 7, 3) := by decide +kernel
theorem d9_49 : decode method_4_code 49 = .ok (.ifCond .eq 7, 3) := by decide +kernel
theorem d9_52 : decode method_4_code 52 = .ok (.iload_n 2, 1) := by decide +kernel
theorem d9_53 : decode method_4_code 53 = .ok (.iconst 3, 1) := by decide +kernel
theorem d9_54 : decode method_4_code 54 = .ok (.iadd, 1) := by decide +kernel
theorem d9_55 : decode method_4_code 55 = .ok (.ireturn, 1) := by decide +kernel
theorem d9_56 : decode method_4_code 56 = .ok (.aload_n 0, 1) := by decide +kernel
theorem d9_57 : decode method_4_code 57 = .ok (.iload_n 1, 1) := by decide +kernel
theorem d9_58 : decode method_4_code 58 = .ok (.iload_n 2, 1) := by decide +kernel
theorem d9_59 : decode method_4_code 59 = .ok (.iconst 4, 1) := by decide +kernel
theorem d9_60 : decode method_4_code 60 = .ok (.iadd, 1) := by decide +kernel
theorem d9_61 : decode method_4_code 61 = .ok (.invokestatic 7, 3) := by decide +kernel
theorem d9_64 : decode method_4_code 64 = .ok (.ifCond .eq 7, 3) := by decide +kernel
theorem d9_67 : decode method_4_code 67 = .ok (.iload_n 2, 1) := by decide +kernel
theorem d9_68 : decode method_4_code 68 = .ok (.iconst 4, 1) := by decide +kernel
theorem d9_69 : decode method_4_code 69 = .ok (.iadd, 1) := by decide +kernel
theorem d9_70 : decode method_4_code 70 = .ok (.ireturn, 1) := by decide +kernel
theorem d9_71 : decode method_4_code 71 = .ok (.iload_n 1, 1) := by decide +kernel
theorem d9_72 : decode method_4_code 72 = .ok (.iconst 1, 1) := by decide +kernel
theorem d9_73 : decode method_4_code 73 = .ok (.isub, 1) := by decide +kernel
theorem d9_74 : decode method_4_code 74 = .ok (.ireturn, 1) := by decide +kernel
theorem pd_rmrefTo_0 : parseMethodDescriptor "([ZII)Z" = some ⟨[(.array .boolean), .int, .int], some .boolean⟩ := by decide +kernel
theorem ef_rmrefTo (m : MethodId) (p0 : Addr) (p1 : Int32) (p2 : Int32) : entryFrame m #[(.ref p0), (.int p1), (.int p2)] 3 = mkF m 0 #[.val (.ref p0), .val (.int p1), .val (.int p2)] [] := by first | (simp [entryFrame, mkF, argsToLocals, Value.category]; done) | rfl
def QrefTo (Z : State) (p0 : Addr) (p1 : Int32) (p2 : Int32) (kz : ClassId) (xs : List Int32) (h0 : Heap) (n0 : Nat) (v : Option Value) (h : Heap) (L : List Loc) : Prop := v = some (.int (own_refTo xs p1 p2)) ∧ Fr n0 L ∧ h = h0
set_option maxRecDepth 65536 in
set_option maxHeartbeats 40000000 in
theorem rmrefTo (l : Launch) (Z : State) (a0 : Array Value) (hw : ∀ d ∈ tables_1, d.before a0 Z = true) (ws : List Jvm.Cond) (p0 : Addr) (p1 : Int32) (p2 : Int32) (kz : ClassId) (xs : List Int32) (h0 : Heap) (n0 : Nat) (O0 : Old Z n0 h0) (F0_ : Arv Z h0 p0 kz .boolean p1 (xs.map Value.int) (.int (0 : Int32))) :
    MetFree l nm4 (head1 (Jvm.Cond.code nm4 method_4_code 3 (some .int) :: ws) ({ frames := 1, cells := 0, slots := 0, locals := 14 } : Room)) (fun a U => a = #[(.ref p0), (.int p1), (.int p2)] ∧ Z.Warmed39 U.vm ∧ U.heap = h0) (fun _ _ _ _ _ => True) (fun _ U o U' => ∃ v L, o = .returned v ∧ QrefTo Z p0 p1 p2 kz xs h0 n0 v U'.heap L ∧ FrameEnd U o U' L ({ frames := 1, cells := 0, slots := 0, locals := 14 } : Room).cells ({ frames := 1, cells := 0, slots := 0, locals := 14 } : Room).slots) := by
  refine MetFree.of_bodySF (plainFor_of_name pn_8) hisR ?_
  intro p e s m args below meth c s₁ Bd hml0 hP hK
  obtain ⟨rfl, hZ, hh⟩ := hP
  have hx := Bd.exec
  have hby := Bd.bytes
  have hml : c.maxLocals = 3 := hml0
  have hown : s.vm.findClass "com/example/libprox/libprox/CpeTiedStopWordsPinLaw" = some m.cls := findClass_of_methodNamed Bd.named
  have hnm := (name_of_methodNamed Bd.named Bd.method).1
  have X0 : Stand p l e ({ frames := 1, cells := 0, slots := 0, locals := 14 } : Room) s m #[(.ref p0), (.int p1), (.int p2)] below meth c s₁ [] 0 0 := Stand.of_body Bd
  have e0 : s₁.heap = h0 := by rw [← hh, Bd.state]; rfl
  have N0 := Fr.nil n0
  have s0 : Steps p.tables e below (s₁.setTop (entryFrame m #[(.ref p0), (.int p1), (.int p2)] 3)) (s₁.setTop (mkF m 0 #[.val (.ref p0), .val (.int p1), .val (.int p2)] [])) := castTop (ef_rmrefTo m p0 p1 p2) (Steps.refl _)
  obtain ⟨A₀, hA₀⟩ : ∃ z, z = (s₁.setTop (entryFrame m #[(.ref p0), (.int p1), (.int p2)] 3)) := ⟨_, rfl⟩
  rw [← hA₀] at s0
  obtain ⟨T1, L1, X1, e1, N1, st1⟩ := own_callP X0 hx hZ hown (wk45 hw) (wk46 hw) (wk43 hw) (wk47 hw) (by decide) (rmx l Z a0 hw [] p0 p1 p2 kz xs h0 n0 O0 F0_) e0 N0 (W := 0) (by decide) (by decide) (by decide) (by decide) (g := (mkF m 3 #[.val (.ref p0), .val (.int p1), .val (.int p2)] [(.int p2), (.int p1), (.ref p0)])) rfl (by rw [hml]; rfl) (argsL := [(.ref p0), (.int p1), (.int p2)]) (rest := []) (lenOf pd_rmrefTo_0 rfl) rfl (by show 2 * 0 + _ ≤ _; exact Nat.le_of_eq rfl) (hb hby d9_3)
  have s2 : Steps p.tables e below A₀ (T1.setTop (mkF m 6 #[.val (.ref p0), .val (.int p1), .val (.int p2)] [(.int (own_oth xs p1 p2))])) := by
    refine s0.trans ?_
    refine XS.aloadN X0.here hx rfl (hb hby d9_0) rfl rfl ?_
    show Steps p.tables e below (s₁.setTop (mkF m 1 #[.val (.ref p0), .val (.int p1), .val (.int p2)] [(.ref p0)])) _
    refine XS.iloadN X0.here hx rfl (hb hby d9_1) rfl ?_
    refine XS.iloadN X0.here hx rfl (hb hby d9_2) rfl ?_
    refine st1 _ ?_
    exact Steps.refl _
  by_cases hc3 : (own_oth xs p1 p2) = (0 : Int32)
  · obtain ⟨T4, L4, X4, e4, N4, st4⟩ := own_callP X1 hx hZ hown (wk45 hw) (wk46 hw) (wk43 hw) (wk47 hw) (by decide) (rmx l Z a0 hw [] p0 p1 (p2 + (1 : Int32)) kz xs h0 n0 O0 F0_) e1 N1 (W := 0) (by decide) (by decide) (by decide) (by decide) (g := (mkF m 16 #[.val (.ref p0), .val (.int p1), .val (.int p2)] [(.int (p2 + (1 : Int32))), (.int p1), (.ref p0)])) rfl (by rw [hml]; rfl) (argsL := [(.ref p0), (.int p1), (.int (p2 + (1 : Int32)))]) (rest := []) (lenOf pd_rmrefTo_0 rfl) rfl (by show 2 * 0 + _ ≤ _; exact Nat.le_of_eq rfl) (hb hby d9_16)
    have s5 : Steps p.tables e below A₀ (T4.setTop (mkF m 19 #[.val (.ref p0), .val (.int p1), .val (.int p2)] [(.int (own_oth xs p1 (p2 + (1 : Int32))))])) := by
      refine s2.trans ?_
      refine XS.ifYes X1.here hx rfl (pc0 := 6) (pc' := 11) rfl (hb hby d9_6) rfl ((if0 _ _).trans (teq hc3).1) (by decide) (by decide) ?_
      show Steps p.tables e below (T1.setTop (mkF m 11 #[.val (.ref p0), .val (.int p1), .val (.int p2)] [])) _
      refine XS.aloadN X1.here hx rfl (hb hby d9_11) rfl rfl ?_
      refine XS.iloadN X1.here hx rfl (hb hby d9_12) rfl ?_
      refine XS.iloadN X1.here hx rfl (hb hby d9_13) rfl ?_
      refine XS.iconst X1.here hx rfl (hb hby d9_14) ?_
      refine XS.iadd X1.here hx rfl (hb hby d9_15) rfl ?_
      refine st4 _ ?_
      exact Steps.refl _
    by_cases hc6 : (own_oth xs p1 (p2 + (1 : Int32))) = (0 : Int32)
    · obtain ⟨T7, L7, X7, e7, N7, st7⟩ := own_callP X4 hx hZ hown (wk45 hw) (wk46 hw) (wk43 hw) (wk47 hw) (by decide) (rmx l Z a0 hw [] p0 p1 (p2 + (2 : Int32)) kz xs h0 n0 O0 F0_) e4 N4 (W := 0) (by decide) (by decide) (by decide) (by decide) (g := (mkF m 31 #[.val (.ref p0), .val (.int p1), .val (.int p2)] [(.int (p2 + (2 : Int32))), (.int p1), (.ref p0)])) rfl (by rw [hml]; rfl) (argsL := [(.ref p0), (.int p1), (.int (p2 + (2 : Int32)))]) (rest := []) (lenOf pd_rmrefTo_0 rfl) rfl (by show 2 * 0 + _ ≤ _; exact Nat.le_of_eq rfl) (hb hby d9_31)
      have s8 : Steps p.tables e below A₀ (T7.setTop (mkF m 34 #[.val (.ref p0), .val (.int p1), .val (.int p2)] [(.int (own_oth xs p1 (p2 + (2 : Int32))))])) := by
        refine s5.trans ?_
        refine XS.ifYes X4.here hx rfl (pc0 := 19) (pc' := 26) rfl (hb hby d9_19) rfl ((if0 _ _).trans (teq hc6).1) (by decide) (by decide) ?_
        show Steps p.tables e below (T4.setTop (mkF m 26 #[.val (.ref p0), .val (.int p1), .val (.int p2)] [])) _
        refine XS.aloadN X4.here hx rfl (hb hby d9_26) rfl rfl ?_
        refine XS.iloadN X4.here hx rfl (hb hby d9_27) rfl ?_
        refine XS.iloadN X4.here hx rfl (hb hby d9_28) rfl ?_
        refine XS.iconst X4.here hx rfl (hb hby d9_29) ?_
        refine XS.iadd X4.here hx rfl (hb hby d9_30) rfl ?_
        refine st7 _ ?_
        exact Steps.refl _
      by_cases hc9 : (own_oth xs p1 (p2 + (2 : Int32))) = (0 : Int32)
      · obtain ⟨T10, L10, X10, e10, N10, st10⟩ := own_callP X7 hx hZ hown (wk45 hw) (wk46 hw) (wk43 hw) (wk47 hw) (by decide) (rmx l Z a0 hw [] p0 p1 (p2 + (3 : Int32)) kz xs h0 n0 O0 F0_) e7 N7 (W := 0) (by decide) (by decide) (by decide) (by decide) (g := (mkF m 46 #[.val (.ref p0), .val (.int p1), .val (.int p2)] [(.int (p2 + (3 : Int32))), (.int p1), (.ref p0)])) rfl (by rw [hml]; rfl) (argsL := [(.ref p0), (.int p1), (.int (p2 + (3 : Int32)))]) (rest := []) (lenOf pd_rmrefTo_0 rfl) rfl (by show 2 * 0 + _ ≤ _; exact Nat.le_of_eq rfl) (hb hby d9_46)
        have s11 : Steps p.tables e below A₀ (T10.setTop (mkF m 49 #[.val (.ref p0), .val (.int p1), .val (.int p2)] [(.int (own_oth xs p1 (p2 + (3 : Int32))))])) := by
          refine s8.trans ?_
          refine XS.ifYes X7.here hx rfl (pc0 := 34) (pc' := 41) rfl (hb hby d9_34) rfl ((if0 _ _).trans (teq hc9).1) (by decide) (by decide) ?_
          show Steps p.tables e below (T7.setTop (mkF m 41 #[.val (.ref p0), .val (.int p1), .val (.int p2)] [])) _
          refine XS.aloadN X7.here hx rfl (hb hby d9_41) rfl rfl ?_
          refine XS.iloadN X7.here hx rfl (hb hby d9_42) rfl ?_
          refine XS.iloadN X7.here hx rfl (hb hby d9_43) rfl ?_
          refine XS.iconst X7.here hx rfl (hb hby d9_44) ?_
          refine XS.iadd X7.here hx rfl (hb hby d9_45) rfl ?_
          refine st10 _ ?_
          exact Steps.refl _
        by_cases hc12 : (own_oth xs p1 (p2 + (3 : Int32))) = (0 : Int32)
        · obtain ⟨T13, L13, X13, e13, N13, st13⟩ := own_callP X10 hx hZ hown (wk45 hw) (wk46 hw) (wk43 hw) (wk47 hw) (by decide) (rmx l Z a0 hw [] p0 p1 (p2 + (4 : Int32)) kz xs h0 n0 O0 F0_) e10 N10 (W := 0) (by decide) (by decide) (by decide) (by decide) (g := (mkF m 61 #[.val (.ref p0), .val (.int p1), .val (.int p2)] [(.int (p2 + (4 : Int32))), (.int p1), (.ref p0)])) rfl (by rw [hml]; rfl) (argsL := [(.ref p0), (.int p1), (.int (p2 + (4 : Int32)))]) (rest := []) (lenOf pd_rmrefTo_0 rfl) rfl (by show 2 * 0 + _ ≤ _; exact Nat.le_of_eq rfl) (hb hby d9_61)
          have s14 : Steps p.tables e below A₀ (T13.setTop (mkF m 64 #[.val (.ref p0), .val (.int p1), .val (.int p2)] [(.int (own_oth xs p1 (p2 + (4 : Int32))))])) := by
            refine s11.trans ?_
            refine XS.ifYes X10.here hx rfl (pc0 := 49) (pc' := 56) rfl (hb hby d9_49) rfl ((if0 _ _).trans (teq hc12).1) (by decide) (by decide) ?_
            show Steps p.tables e below (T10.setTop (mkF m 56 #[.val (.ref p0), .val (.int p1), .val (.int p2)] [])) _
            refine XS.aloadN X10.here hx rfl (hb hby d9_56) rfl rfl ?_
            refine XS.iloadN X10.here hx rfl (hb hby d9_57) rfl ?_
            refine XS.iloadN X10.here hx rfl (hb hby d9_58) rfl ?_
            refine XS.iconst X10.here hx rfl (hb hby d9_59) ?_
            refine XS.iadd X10.here hx rfl (hb hby d9_60) rfl ?_
            refine st13 _ ?_
            exact Steps.refl _
          by_cases hc15 : (own_oth xs p1 (p2 + (4 : Int32))) = (0 : Int32)
          · have s16 : Steps p.tables e below A₀ (T13.setTop (mkF m 74 #[.val (.ref p0), .val (.int p1), .val (.int p2)] [(.int (p1 - (1 : Int32)))])) := by
              refine s14.trans ?_
              refine XS.ifYes X13.here hx rfl (pc0 := 64) (pc' := 71) rfl (hb hby d9_64) rfl ((if0 _ _).trans (teq hc15).1) (by decide) (by decide) ?_
              show Steps p.tables e below (T13.setTop (mkF m 71 #[.val (.ref p0), .val (.int p1), .val (.int p2)] [])) _
              refine XS.iloadN X13.here hx rfl (hb hby d9_71) rfl ?_
              refine XS.iconst X13.here hx rfl (hb hby d9_72) ?_
              refine XS.isub X13.here hx rfl (hb hby d9_73) rfl ?_
              exact Steps.refl _
            subst hA₀
            obtain ⟨fs, hr, hrun, hended, hW, hsame⟩ := X13.leave (v := some (.int (p1 - (1 : Int32)))) (fun h => by rw [Bd.returns] at h; cases h)
            refine ⟨_, _, s16.trans ?_, hrun, hended, _, _, rfl, ?_, ⟨_, rfl⟩, hW, hsame.mono (by decide) (by decide)⟩
            · show Steps p.tables e below (T13.setTop (mkF m 74 #[.val (.ref p0), .val (.int p1), .val (.int p2)] [(.int (p1 - (1 : Int32)))])) _
              exact retI X13 hx Bd.returns (hb hby d9_74) hr
            · show QrefTo Z p0 p1 p2 kz xs h0 n0 _ T13.heap _
              rw [e13]
              exact ⟨(by unfold own_refTo; rw [if_pos hc3, if_pos hc6, if_pos hc9, if_pos hc12, if_pos hc15]), N13, rfl⟩
          · have s17 : Steps p.tables e below A₀ (T13.setTop (mkF m 70 #[.val (.ref p0), .val (.int p1), .val (.int p2)] [(.int (p2 + (4 : Int32)))])) := by
              refine s14.trans ?_
              refine XS.ifNo X13.here hx rfl (hb hby d9_64) rfl ((if0 _ _).trans (feq hc15).1) ?_
              show Steps p.tables e below (T13.setTop (mkF m 67 #[.val (.ref p0), .val (.int p1), .val (.int p2)] [])) _
              refine XS.iloadN X13.here hx rfl (hb hby d9_67) rfl ?_
              refine XS.iconst X13.here hx rfl (hb hby d9_68) ?_
              refine XS.iadd X13.here hx rfl (hb hby d9_69) rfl ?_
              exact Steps.refl _
            subst hA₀
            obtain ⟨fs, hr, hrun, hended, hW, hsame⟩ := X13.leave (v := some (.int (p2 + (4 : Int32)))) (fun h => by rw [Bd.returns] at h; cases h)
            refine ⟨_, _, s17.trans ?_, hrun, hended, _, _, rfl, ?_, ⟨_, rfl⟩, hW, hsame.mono (by decide) (by decide)⟩
            · show Steps p.tables e below (T13.setTop (mkF m 70 #[.val (.ref p0), .val (.int p1), .val (.int p2)] [(.int (p2 + (4 : Int32)))])) _
              exact retI X13 hx Bd.returns (hb hby d9_70) hr
            · show QrefTo Z p0 p1 p2 kz xs h0 n0 _ T13.heap _
              rw [e13]
              exact ⟨(by unfold own_refTo; rw [if_pos hc3, if_pos hc6, if_pos hc9, if_pos hc12, if_neg hc15]), N13, rfl⟩
        · have s18 : Steps p.tables e below A₀ (T10.setTop (mkF m 55 #[.val (.ref p0), .val (.int p1), .val (.int p2)] [(.int (p2 + (3 : Int32)))])) := by
            refine s11.trans ?_
            refine XS.ifNo X10.here hx rfl (hb hby d9_49) rfl ((if0 _ _).trans (feq hc12).1) ?_
            show Steps p.tables e below (T10.setTop (mkF m 52 #[.val (.ref p0), .val (.int p1), .val (.int p2)] [])) _
            refine XS.iloadN X10.here hx rfl (hb hby d9_52) rfl ?_
            refine XS.iconst X10.here hx rfl (hb hby d9_53) ?_
            refine XS.iadd X10.here hx rfl (hb hby d9_54) rfl ?_
            exact Steps.refl _
          subst hA₀
          obtain ⟨fs, hr, hrun, hended, hW, hsame⟩ := X10.leave (v := some (.int (p2 + (3 : Int32)))) (fun h => by rw [Bd.returns] at h; cases h)
          refine ⟨_, _, s18.trans ?_, hrun, hended, _, _, rfl, ?_, ⟨_, rfl⟩, hW, hsame.mono (by decide) (by decide)⟩
          · show Steps p.tables e below (T10.setTop (mkF m 55 #[.val (.ref p0), .val (.int p1), .val (.int p2)] [(.int (p2 + (3 : Int32)))])) _
            exact retI X10 hx Bd.returns (hb hby d9_55) hr
          · show QrefTo Z p0 p1 p2 kz xs h0 n0 _ T10.heap _
            rw [e10]
            exact ⟨(by unfold own_refTo; rw [if_pos hc3, if_pos hc6, if_pos hc9, if_neg hc12]), N10, rfl⟩
      · have s19 : Steps p.tables e below A₀ (T7.setTop (mkF m 40 #[.val (.ref p0), .val (.int p1), .val (.int p2)] [(.int (p2 + (2 : Int32)))])) := by
          refine s8.trans ?_
          refine XS.ifNo X7.here hx rfl (hb hby d9_34) rfl ((if0 _ _).trans (feq hc9).1) ?_
          show Steps p.tables e below (T7.setTop (mkF m 37 #[.val (.ref p0), .val (.int p1), .val (.int p2)] [])) _
          refine XS.iloadN X7.here hx rfl (hb hby d9_37) rfl ?_
          refine XS.iconst X7.here hx rfl (hb hby d9_38) ?_
          refine XS.iadd X7.here hx rfl (hb hby d9_39) rfl ?_
          exact Steps.refl _
        subst hA₀
        obtain ⟨fs, hr, hrun, hended, hW, hsame⟩ := X7.leave (v := some (.int (p2 + (2 : Int32)))) (fun h => by rw [Bd.returns] at h; cases h)
        refine ⟨_, _, s19.trans ?_, hrun, hended, _, _, rfl, ?_, ⟨_, rfl⟩, hW, hsame.mono (by decide) (by decide)⟩
        · show Steps p.tables e below (T7.setTop (mkF m 40 #[.val (.ref p0), .val (.int p1), .val (.int p2)] [(.int (p2 + (2 : Int32)))])) _
          exact retI X7 hx Bd.returns (hb hby d9_40) hr
        · show QrefTo Z p0 p1 p2 kz xs h0 n0 _ T7.heap _
          rw [e7]
          exact ⟨(by unfold own_refTo; rw [if_pos hc3, if_pos hc6, if_neg hc9]), N7, rfl⟩
    · have s20 : Steps p.tables e below A₀ (T4.setTop (mkF m 25 #[.val (.ref p0), .val (.int p1), .val (.int p2)] [(.int (p2 + (1 : Int32)))])) := by
        refine s5.trans ?_
        refine XS.ifNo X4.here hx rfl (hb hby d9_19) rfl ((if0 _ _).trans (feq hc6).1) ?_
        show Steps p.tables e below (T4.setTop (mkF m 22 #[.val (.ref p0), .val (.int p1), .val (.int p2)] [])) _
        refine XS.iloadN X4.here hx rfl (hb hby d9_22) rfl ?_
        refine XS.iconst X4.here hx rfl (hb hby d9_23) ?_
        refine XS.iadd X4.here hx rfl (hb hby d9_24) rfl ?_
        exact Steps.refl _
      subst hA₀
      obtain ⟨fs, hr, hrun, hended, hW, hsame⟩ := X4.leave (v := some (.int (p2 + (1 : Int32)))) (fun h => by rw [Bd.returns] at h; cases h)
      refine ⟨_, _, s20.trans ?_, hrun, hended, _, _, rfl, ?_, ⟨_, rfl⟩, hW, hsame.mono (by decide) (by decide)⟩
      · show Steps p.tables e below (T4.setTop (mkF m 25 #[.val (.ref p0), .val (.int p1), .val (.int p2)] [(.int (p2 + (1 : Int32)))])) _
        exact retI X4 hx Bd.returns (hb hby d9_25) hr
      · show QrefTo Z p0 p1 p2 kz xs h0 n0 _ T4.heap _
        rw [e4]
        exact ⟨(by unfold own_refTo; rw [if_pos hc3, if_neg hc6]), N4, rfl⟩
  · have s21 : Steps p.tables e below A₀ (T1.setTop (mkF m 10 #[.val (.ref p0), .val (.int p1), .val (.int p2)] [(.int p2)])) := by
      refine s2.trans ?_
      refine XS.ifNo X1.here hx rfl (hb hby d9_6) rfl ((if0 _ _).trans (feq hc3).1) ?_
      show Steps p.tables e below (T1.setTop (mkF m 9 #[.val (.ref p0), .val (.int p1), .val (.int p2)] [])) _
      refine XS.iloadN X1.here hx rfl (hb hby d9_9) rfl ?_
      exact Steps.refl _
    subst hA₀
    obtain ⟨fs, hr, hrun, hended, hW, hsame⟩ := X1.leave (v := some (.int p2)) (fun h => by rw [Bd.returns] at h; cases h)
    refine ⟨_, _, s21.trans ?_, hrun, hended, _, _, rfl, ?_, ⟨_, rfl⟩, hW, hsame.mono (by decide) (by decide)⟩
    · show Steps p.tables e below (T1.setTop (mkF m 10 #[.val (.ref p0), .val (.int p1), .val (.int p2)] [(.int p2)])) _
      exact retI X1 hx Bd.returns (hb hby d9_10) hr
    · show QrefTo Z p0 p1 p2 kz xs h0 n0 _ T1.heap _
      rw [e1]
      exact ⟨(by unfold own_refTo; rw [if_neg hc3]), N1, rfl⟩
theorem d5_0 : decode prog_9_method_2_code 0 = .ok (.aload_n 0, 1) := by decide +kernel
theorem d5_1 : decode prog_9_method_2_code 1 = .ok (.getfield 1, 3) := by decide +kernel
theorem d5_4 : decode prog_9_method_2_code 4 = .ok (.iload_n 1, 1) := by decide +kernel
theorem d5_5 : decode prog_9_method_2_code 5 = .ok (.iaload, 1) := by decide +kernel
theorem d5_6 : decode prog_9_method_2_code 6 = .ok (.ireturn, 1) := by decide +kernel
theorem ef_rmtiedFrom (m : MethodId) (p0 : Addr) (p1 : Int32) : entryFrame m #[(.ref p0), (.int p1)] 2 = mkF m 0 #[.val (.ref p0), .val (.int p1)] [] := by first | (simp [entryFrame, mkF, argsToLocals, Value.category]; done) | rfl
def QtiedFrom (Z : State) (p0 : Addr) (p1 : Int32) (f : Addr) (kf : ClassId) (nn : Int32) (vs : List Value) (x : Int32) (h0 : Heap) (n0 : Nat) (v : Option Value) (h : Heap) (L : List Loc) : Prop := v = some (.int x) ∧ Fr n0 L ∧ h = h0
set_option maxRecDepth 65536 in
set_option maxHeartbeats 40000000 in
theorem rmtiedFrom (l : Launch) (Z : State) (a0 : Array Value) (hw : ∀ d ∈ tables_1, d.before a0 Z = true) (ws : List Jvm.Cond) (p0 : Addr) (p1 : Int32) (f : Addr) (kf : ClassId) (nn : Int32) (vs : List Value) (x : Int32) (h0 : Heap) (n0 : Nat) (O0 : Old Z n0 h0) (F0_ : Fld Z h0 p0 "com/example/libprox/libprox/Cpe$1" "val$from" "[I" (.ref f)) (F1_ : Arv Z h0 f kf .int nn vs (.int (0 : Int32))) (hi : ¬ p1 < (0 : Int32) ∧ p1 < nn) (hv : vs.getD p1.toNatClampNeg (.int (0 : Int32)) = .int x) :
    MetFree l nm5 (head1 (Jvm.Cond.code nm5 prog_9_method_2_code 2 (some .int) :: ws) ({ frames := 0, cells := 0, slots := 0, locals := 0 } : Room)) (fun a U => a = #[(.ref p0), (.int p1)] ∧ Z.Warmed39 U.vm ∧ U.heap = h0) (fun _ _ _ _ _ => True) (fun _ U o U' => ∃ v L, o = .returned v ∧ QtiedFrom Z p0 p1 f kf nn vs x h0 n0 v U'.heap L ∧ FrameEnd U o U' L ({ frames := 0, cells := 0, slots := 0, locals := 0 } : Room).cells ({ frames := 0, cells := 0, slots := 0, locals := 0 } : Room).slots) := by
  refine MetFree.of_bodySF (plainFor_of_name pn_3) hisR ?_
  intro p e s m args below meth c s₁ Bd hml0 hP hK
  obtain ⟨rfl, hZ, hh⟩ := hP
  have hx := Bd.exec
  have hby := Bd.bytes
  have hml : c.maxLocals = 2 := hml0
  have hown : s.vm.findClass "com/example/libprox/libprox/Cpe$1" = some m.cls := findClass_of_methodNamed Bd.named
  have hnm := (name_of_methodNamed Bd.named Bd.method).1
  have X0 : Stand p l e ({ frames := 0, cells := 0, slots := 0, locals := 0 } : Room) s m #[(.ref p0), (.int p1)] below meth c s₁ [] 0 0 := Stand.of_body Bd
  have e0 : s₁.heap = h0 := by rw [← hh, Bd.state]; rfl
  have N0 := Fr.nil n0
  have s0 : Steps p.tables e below (s₁.setTop (entryFrame m #[(.ref p0), (.int p1)] 2)) (s₁.setTop (mkF m 0 #[.val (.ref p0), .val (.int p1)] [])) := castTop (ef_rmtiedFrom m p0 p1) (Steps.refl _)
  obtain ⟨A₀, hA₀⟩ : ∃ z, z = (s₁.setTop (entryFrame m #[(.ref p0), (.int p1)] 2)) := ⟨_, rfl⟩
  rw [← hA₀] at s0
  obtain ⟨T1, X1, e1, st1⟩ := getF X0 hx hZ hown (host := "") (Or.inl (hw _ (List.mem_of_getElem? (i := 17) rfl))) Via.refl e0 F0_ (g := (mkF m 1 #[.val (.ref p0), .val (.int p1)] [(.ref p0)])) rfl rfl (hb hby d5_1)
  obtain ⟨cla2, Ara2, qa2, Sa2, Za2, Ha2, Ga2⟩ := id F1_
  have hin3 : ¬ (p1 < 0 ∨ cla2.slots.size ≤ (p1).toNatClampNeg) := inb_of Sa2 hi
  have hat4 : cla2.slots[(p1).toNatClampNeg]? = some (.int x) := Has.at Ha2 hin3 hv
  have s5 : Steps p.tables e below A₀ (T1.setTop (mkF m 6 #[.val (.ref p0), .val (.int p1)] [(.int x)])) := by
    refine s0.trans ?_
    refine XS.aloadN X0.here hx rfl (hb hby d5_0) rfl rfl ?_
    show Steps p.tables e below (s₁.setTop (mkF m 1 #[.val (.ref p0), .val (.int p1)] [(.ref p0)])) _
    refine st1 _ ?_
    refine XS.iloadN X1.here hx rfl (hb hby d5_4) rfl ?_
    refine X1.iaload hx (j := p1) (v := (.int x)) (by rw [e1]; exact Ara2.1) (State.isArrayOf_alike hZ.alike Ara2.2.1) Ara2.2.2 hin3 hat4 (g := (mkF m 5 #[.val (.ref p0), .val (.int p1)] [(.int p1), (.ref f)])) rfl rfl (hb hby d5_5) _ ?_
    exact Steps.refl _
  subst hA₀
  obtain ⟨fs, hr, hrun, hended, hW, hsame⟩ := X1.leave (v := some (.int x)) (fun h => by rw [Bd.returns] at h; cases h)
  refine ⟨_, _, s5.trans ?_, hrun, hended, _, _, rfl, ?_, ⟨_, rfl⟩, hW, hsame.mono (by decide) (by decide)⟩
  · show Steps p.tables e below (T1.setTop (mkF m 6 #[.val (.ref p0), .val (.int p1)] [(.int x)])) _
    exact retI X1 hx Bd.returns (hb hby d5_6) hr
  · show QtiedFrom Z p0 p1 f kf nn vs x h0 n0 _ T1.heap _
    rw [e1]
    exact ⟨rfl, N0, rfl⟩
theorem d6_0 : decode prog_9_method_3_code 0 = .ok (.aload_n 0, 1) := by decide +kernel
theorem d6_1 : decode prog_9_method_3_code 1 = .ok (.getfield 7, 3) := by decide +kernel
theorem d6_4 : decode prog_9_method_3_code 4 = .ok (.iload_n 1, 1) := by decide +kernel
theorem d6_5 : decode prog_9_method_3_code 5 = .ok (.iaload, 1) := by decide +kernel
theorem d6_6 : decode prog_9_method_3_code 6 = .ok (.ireturn, 1) := by decide +kernel
theorem ef_rmtiedTo (m : MethodId) (p0 : Addr) (p1 : Int32) : entryFrame m #[(.ref p0), (.int p1)] 2 = mkF m 0 #[.val (.ref p0), .val (.int p1)] [] := by first | (simp [entryFrame, mkF, argsToLocals, Value.category]; done) | rfl
def QtiedTo (Z : State) (p0 : Addr) (p1 : Int32) (f : Addr) (kf : ClassId) (nn : Int32) (vs : List Value) (x : Int32) (h0 : Heap) (n0 : Nat) (v : Option Value) (h : Heap) (L : List Loc) : Prop := v = some (.int x) ∧ Fr n0 L ∧ h = h0
set_option maxRecDepth 65536 in
set_option maxHeartbeats 40000000 in
theorem rmtiedTo (l : Launch) (Z : State) (a0 : Array Value) (hw : ∀ d ∈ tables_1, d.before a0 Z = true) (ws : List Jvm.Cond) (p0 : Addr) (p1 : Int32) (f : Addr) (kf : ClassId) (nn : Int32) (vs : List Value) (x : Int32) (h0 : Heap) (n0 : Nat) (O0 : Old Z n0 h0) (F0_ : Fld Z h0 p0 "com/example/libprox/libprox/Cpe$1" "val$to" "[I" (.ref f)) (F1_ : Arv Z h0 f kf .int nn vs (.int (0 : Int32))) (hi : ¬ p1 < (0 : Int32) ∧ p1 < nn) (hv : vs.getD p1.toNatClampNeg (.int (0 : Int32)) = .int x) :
    MetFree l nm6 (head1 (Jvm.Cond.code nm6 prog_9_method_3_code 2 (some .int) :: ws) ({ frames := 0, cells := 0, slots := 0, locals := 0 } : Room)) (fun a U => a = #[(.ref p0), (.int p1)] ∧ Z.Warmed39 U.vm ∧ U.heap = h0) (fun _ _ _ _ _ => True) (fun _ U o U' => ∃ v L, o = .returned v ∧ QtiedTo Z p0 p1 f kf nn vs x h0 n0 v U'.heap L ∧ FrameEnd U o U' L ({ frames := 0, cells := 0, slots := 0, locals := 0 } : Room).cells ({ frames := 0, cells := 0, slots := 0, locals := 0 } : Room).slots) := by
  refine MetFree.of_bodySF (plainFor_of_name pn_3) hisR ?_
  intro p e s m args below meth c s₁ Bd hml0 hP hK
  obtain ⟨rfl, hZ, hh⟩ := hP
  have hx := Bd.exec
  have hby := Bd.bytes
  have hml : c.maxLocals = 2 := hml0
  have hown : s.vm.findClass "com/example/libprox/libprox/Cpe$1" = some m.cls := findClass_of_methodNamed Bd.named
  have hnm := (name_of_methodNamed Bd.named Bd.method).1
  have X0 : Stand p l e ({ frames := 0, cells := 0, slots := 0, locals := 0 } : Room) s m #[(.ref p0), (.int p1)] below meth c s₁ [] 0 0 := Stand.of_body Bd
  have e0 : s₁.heap = h0 := by rw [← hh, Bd.state]; rfl
  have N0 := Fr.nil n0
  have s0 : Steps p.tables e below (s₁.setTop (entryFrame m #[(.ref p0), (.int p1)] 2)) (s₁.setTop (mkF m 0 #[.val (.ref p0), .val (.int p1)] [])) := castTop (ef_rmtiedTo m p0 p1) (Steps.refl _)
  obtain ⟨A₀, hA₀⟩ : ∃ z, z = (s₁.setTop (entryFrame m #[(.ref p0), (.int p1)] 2)) := ⟨_, rfl⟩
  rw [← hA₀] at s0
  obtain ⟨T1, X1, e1, st1⟩ := getF X0 hx hZ hown (host := "") (Or.inl (hw _ (List.mem_of_getElem? (i := 19) rfl))) Via.refl e0 F0_ (g := (mkF m 1 #[.val (.ref p0), .val (.int p1)] [(.ref p0)])) rfl rfl (hb hby d6_1)
  obtain ⟨cla2, Ara2, qa2, Sa2, Za2, Ha2, Ga2⟩ := id F1_
  have hin3 : ¬ (p1 < 0 ∨ cla2.slots.size ≤ (p1).toNatClampNeg) := inb_of Sa2 hi
  have hat4 : cla2.slots[(p1).toNatClampNeg]? = some (.int x) := Has.at Ha2 hin3 hv
  have s5 : Steps p.tables e below A₀ (T1.setTop (mkF m 6 #[.val (.ref p0), .val (.int p1)] [(.int x)])) := by
    refine s0.trans ?_
    refine XS.aloadN X0.here hx rfl (hb hby d6_0) rfl rfl ?_
    show Steps p.tables e below (s₁.setTop (mkF m 1 #[.val (.ref p0), .val (.int p1)] [(.ref p0)])) _
    refine st1 _ ?_
    refine XS.iloadN X1.here hx rfl (hb hby d6_4) rfl ?_
    refine X1.iaload hx (j := p1) (v := (.int x)) (by rw [e1]; exact Ara2.1) (State.isArrayOf_alike hZ.alike Ara2.2.1) Ara2.2.2 hin3 hat4 (g := (mkF m 5 #[.val (.ref p0), .val (.int p1)] [(.int p1), (.ref f)])) rfl rfl (hb hby d6_5) _ ?_
    exact Steps.refl _
  subst hA₀
  obtain ⟨fs, hr, hrun, hended, hW, hsame⟩ := X1.leave (v := some (.int x)) (fun h => by rw [Bd.returns] at h; cases h)
  refine ⟨_, _, s5.trans ?_, hrun, hended, _, _, rfl, ?_, ⟨_, rfl⟩, hW, hsame.mono (by decide) (by decide)⟩
  · show Steps p.tables e below (T1.setTop (mkF m 6 #[.val (.ref p0), .val (.int p1)] [(.int x)])) _
    exact retI X1 hx Bd.returns (hb hby d6_6) hr
  · show QtiedTo Z p0 p1 f kf nn vs x h0 n0 _ T1.heap _
    rw [e1]
    exact ⟨rfl, N0, rfl⟩
theorem d10_0 : decode jdk_65_method_103_code 0 = .ok (.iconst 0, 1) := by decide +kernel
theorem d10_1 : decode jdk_65_method_103_code 1 = .ok (.istore_n 2, 1) := by decide +kernel
theorem d10_2 : decode jdk_65_method_103_code 2 = .ok (.aload_n 0, 1) := by decide +kernel
theorem d10_3 : decode jdk_65_method_103_code 3 = .ok (.arraylength, 1) := by decide +kernel
theorem d10_4 : decode jdk_65_method_103_code 4 = .ok (.istore_n 3, 1) := by decide +kernel
theorem d10_5 : decode jdk_65_method_103_code 5 = .ok (.iload_n 2, 1) := by decide +kernel
theorem d10_6 : decode jdk_65_method_103_code 6 = .ok (.iload_n 3, 1) := by decide +kernel
theorem d10_7 : decode jdk_65_method_103_code 7 = .ok (.if_icmp .ge 13, 3) := by decide +kernel
theorem d10_20 : decode jdk_65_method_103_code 20 = .ok (.return_, 1) := by decide +kernel
theorem pn_10 : plainName "java/util/Arrays" = true := by first | (simp [plainName, overriddenIn]; done) | decide +kernel
theorem ef_rmfill0 (m : MethodId) (p0 : Addr) : entryFrame m #[(.ref p0), (.int (-1 : Int32))] 4 = mkF m 0 #[.val (.ref p0), .val (.int (-1 : Int32)), .unset, .unset] [] := by first | (simp [entryFrame, mkF, argsToLocals, Value.category]; done) | rfl
def Qfill0 (Z : State) (p0 : Addr) (k1 : ClassId) (h0 : Heap) (n0 : Nat) (v : Option Value) (h : Heap) (L : List Loc) : Prop := v = none ∧ Fr n0 L ∧ Keep h0 h [p0] ∧ (Arv Z h p0 k1 .int (0 : Int32) [] (.int (0 : Int32)))
set_option maxRecDepth 65536 in
set_option maxHeartbeats 40000000 in
theorem rmfill0 (l : Launch) (Z : State) (a0 : Array Value) (hw : ∀ d ∈ tables_1, d.before a0 Z = true) (ws : List Jvm.Cond) (p0 : Addr) (k1 : ClassId) (h0 : Heap) (n0 : Nat) (O0 : Old Z n0 h0) (F0_ : Arv Z h0 p0 k1 .int (0 : Int32) [] (.int (0 : Int32))) (F1_ : n0 ≤ p0) :
    MetFree l nm7 (head1 (Jvm.Cond.code nm7 jdk_65_method_103_code 4 none :: ws) ({ frames := 0, cells := 0, slots := 0, locals := 0 } : Room)) (fun a U => a = #[(.ref p0), (.int (-1 : Int32))] ∧ Z.Warmed39 U.vm ∧ U.heap = h0) (fun _ _ _ _ _ => True) (fun _ U o U' => ∃ v L, o = .returned v ∧ Qfill0 Z p0 k1 h0 n0 v U'.heap L ∧ FrameEnd U o U' L ({ frames := 0, cells := 0, slots := 0, locals := 0 } : Room).cells ({ frames := 0, cells := 0, slots := 0, locals := 0 } : Room).slots) := by
  refine MetFree.of_bodySF (plainFor_of_name pn_10) hisR ?_
  intro p e s m args below meth c s₁ Bd hml0 hP hK
  obtain ⟨rfl, hZ, hh⟩ := hP
  have hx := Bd.exec
  have hby := Bd.bytes
  have hml : c.maxLocals = 4 := hml0
  have hown : s.vm.findClass "java/util/Arrays" = some m.cls := findClass_of_methodNamed Bd.named
  have hnm := (name_of_methodNamed Bd.named Bd.method).1
  have X0 : Stand p l e ({ frames := 0, cells := 0, slots := 0, locals := 0 } : Room) s m #[(.ref p0), (.int (-1 : Int32))] below meth c s₁ [] 0 0 := Stand.of_body Bd
  have e0 : s₁.heap = h0 := by rw [← hh, Bd.state]; rfl
  have N0 := Fr.nil n0
  have s0 : Steps p.tables e below (s₁.setTop (entryFrame m #[(.ref p0), (.int (-1 : Int32))] 4)) (s₁.setTop (mkF m 0 #[.val (.ref p0), .val (.int (-1 : Int32)), .unset, .unset] [])) := castTop (ef_rmfill0 m p0) (Steps.refl _)
  obtain ⟨A₀, hA₀⟩ : ∃ z, z = (s₁.setTop (entryFrame m #[(.ref p0), (.int (-1 : Int32))] 4)) := ⟨_, rfl⟩
  rw [← hA₀] at s0
  obtain ⟨cla1, Ara1, qa1, Sa1, Za1, Ha1, Ga1⟩ := id F0_
  have s2 : Steps p.tables e below A₀ (s₁.setTop (mkF m 20 #[.val (.ref p0), .val (.int (-1 : Int32)), .val (.int (0 : Int32)), .val (.int (0 : Int32))] [])) := by
    refine s0.trans ?_
    refine XS.iconst X0.here hx rfl (hb hby d10_0) ?_
    show Steps p.tables e below (s₁.setTop (mkF m 1 #[.val (.ref p0), .val (.int (-1 : Int32)), .unset, .unset] [(.int (0 : Int32))])) _
    refine XS.istoreN X0.here hx rfl (hb hby d10_1) rfl (l' := #[.val (.ref p0), .val (.int (-1 : Int32)), .val (.int (0 : Int32)), .unset]) rfl ?_
    refine XS.aloadN X0.here hx rfl (hb hby d10_2) rfl rfl ?_
    refine X0.arraylength hx (by rw [e0]; exact Ara1.1) (State.isArrayOf_alike hZ.alike Ara1.2.1) (g := (mkF m 3 #[.val (.ref p0), .val (.int (-1 : Int32)), .val (.int (0 : Int32)), .unset] [(.ref p0)])) rfl rfl (hb hby d10_3) _ ?_
    rw [len_of Sa1 Za1]
    show Steps p.tables e below (s₁.setTop (mkF m 4 #[.val (.ref p0), .val (.int (-1 : Int32)), .val (.int (0 : Int32)), .unset] [(.int (0 : Int32))])) _
    refine XS.istoreN X0.here hx rfl (hb hby d10_4) rfl (l' := #[.val (.ref p0), .val (.int (-1 : Int32)), .val (.int (0 : Int32)), .val (.int (0 : Int32))]) rfl ?_
    refine XS.iloadN X0.here hx rfl (hb hby d10_5) rfl ?_
    refine XS.iloadN X0.here hx rfl (hb hby d10_6) rfl ?_
    refine XS.icmpYes X0.here hx rfl (pc0 := 7) (pc' := 20) rfl (hb hby d10_7) rfl (flt (by decide)).2.1 (by decide) (by decide) ?_
    exact Steps.refl _
  subst hA₀
  obtain ⟨fs, hr, hrun, hended, hW, hsame⟩ := X0.leave (v := none) (fun _ => rfl)
  refine ⟨_, _, s2.trans ?_, hrun, hended, _, _, rfl, ?_, ⟨_, rfl⟩, hW, hsame.mono (by decide) (by decide)⟩
  · show Steps p.tables e below (s₁.setTop (mkF m 20 #[.val (.ref p0), .val (.int (-1 : Int32)), .val (.int (0 : Int32)), .val (.int (0 : Int32))] [])) _
    exact X0.returnOut hx Bd.returns (hb hby d10_20) hr
  · show Qfill0 Z p0 k1 h0 n0 _ s₁.heap _
    rw [e0]
    exact ⟨rfl, N0, (Keep.refl h0 [p0]), F0_⟩
theorem d1_0 : decode prog_8_method_5_code 0 = .ok (.aload_n 0, 1) := by decide +kernel
theorem d1_1 : decode prog_8_method_5_code 1 = .ok (.arraylength, 1) := by decide +kernel
theorem d1_2 : decode prog_8_method_5_code 2 = .ok (.istore_n 1, 1) := by decide +kernel
theorem d1_3 : decode prog_8_method_5_code 3 = .ok (.iload_n 1, 1) := by decide +kernel
theorem d1_4 : decode prog_8_method_5_code 4 = .ok (.newarray .int, 2) := by decide +kernel
theorem d1_6 : decode prog_8_method_5_code 6 = .ok (.astore_n 2, 1) := by decide +kernel
theorem d1_7 : decode prog_8_method_5_code 7 = .ok (.iload_n 1, 1) := by decide +kernel
theorem d1_8 : decode prog_8_method_5_code 8 = .ok (.newarray .int, 2) := by decide +kernel
theorem d1_10 : decode prog_8_method_5_code 10 = .ok (.astore_n 3, 1) := by decide +kernel
theorem d1_11 : decode prog_8_method_5_code 11 = .ok (.iconst (-1), 1) := by decide +kernel
theorem d1_12 : decode prog_8_method_5_code 12 = .ok (.istore 4, 2) := by decide +kernel
theorem d1_14 : decode prog_8_method_5_code 14 = .ok (.iconst 0, 1) := by decide +kernel
theorem d1_15 : decode prog_8_method_5_code 15 = .ok (.istore 5, 2) := by decide +kernel
theorem d1_17 : decode prog_8_method_5_code 17 = .ok (.iload 5, 2) := by decide +kernel
theorem d1_19 : decode prog_8_method_5_code 19 = .ok (.iload_n 1, 1) := by decide +kernel
theorem d1_20 : decode prog_8_method_5_code 20 = .ok (.if_icmp .ge 35, 3) := by decide +kernel
theorem d1_55 : decode prog_8_method_5_code 55 = .ok (.iconst (-1), 1) := by decide +kernel
theorem d1_56 : decode prog_8_method_5_code 56 = .ok (.istore 4, 2) := by decide +kernel
theorem d1_58 : decode prog_8_method_5_code 58 = .ok (.iload_n 1, 1) := by decide +kernel
theorem d1_59 : decode prog_8_method_5_code 59 = .ok (.iconst 1, 1) := by decide +kernel
theorem d1_60 : decode prog_8_method_5_code 60 = .ok (.isub, 1) := by decide +kernel
theorem d1_61 : decode prog_8_method_5_code 61 = .ok (.istore 5, 2) := by decide +kernel
theorem d1_63 : decode prog_8_method_5_code 63 = .ok (.iload 5, 2) := by decide +kernel
theorem d1_65 : decode prog_8_method_5_code 65 = .ok (.ifCond .lt 42, 3) := by decide +kernel
theorem d1_107 : decode prog_8_method_5_code 107 = .ok (.iload 4, 2) := by decide +kernel
theorem d1_109 : decode prog_8_method_5_code 109 = .ok (.ifCond .ge 8, 3) := by decide +kernel
theorem d1_112 : decode prog_8_method_5_code 112 = .ok (.aload_n 2, 1) := by decide +kernel
theorem d1_113 : decode prog_8_method_5_code 113 = .ok (.iconst (-1), 1) := by decide +kernel
theorem d1_114 : decode prog_8_method_5_code 114 = .ok (.invokestatic 65, 3) := by decide +kernel
theorem d1_117 : decode prog_8_method_5_code 117 = .ok (.new 71, 3) := by decide +kernel
theorem d1_120 : decode prog_8_method_5_code 120 = .ok (.dup, 1) := by decide +kernel
theorem d1_121 : decode prog_8_method_5_code 121 = .ok (.aload_n 2, 1) := by decide +kernel
theorem d1_122 : decode prog_8_method_5_code 122 = .ok (.aload_n 3, 1) := by decide +kernel
theorem d1_123 : decode prog_8_method_5_code 123 = .ok (.invokespecial 73, 3) := by decide +kernel
theorem d1_126 : decode prog_8_method_5_code 126 = .ok (.areturn, 1) := by decide +kernel
theorem pn_1 : plainName "com/example/libprox/libprox/Cpe" = true := by first | (simp [plainName, overriddenIn]; done) | decide +kernel
theorem pd_rmt0_0 : parseMethodDescriptor "([II)V" = some ⟨[(.array .int), .int], none⟩ := by decide +kernel
theorem pd_rmt0_1 : parseMethodDescriptor "([I[I)V" = some ⟨[(.array .int), (.array .int)], none⟩ := by decide +kernel
theorem ef_rmt0 (m : MethodId) (p0 : Addr) : entryFrame m #[(.ref p0)] 6 = mkF m 0 #[.val (.ref p0), .unset, .unset, .unset, .unset, .unset] [] := by first | (simp [entryFrame, mkF, argsToLocals, Value.category]; done) | rfl
def Qt0 (Z : State) (p0 : Addr) (kz : ClassId) (h0 : Heap) (n0 : Nat) (v : Option Value) (h : Heap) (L : List Loc) : Prop := ∃ b : Addr, ∃ f : Addr, ∃ t : Addr, ∃ kf : ClassId, ∃ kt : ClassId, v = some (.ref b) ∧ Fr n0 L ∧ Keep h0 h [] ∧ (Exa Z h b "com/example/libprox/libprox/Cpe$1") ∧ (Fld Z h b "com/example/libprox/libprox/Cpe$1" "val$from" "[I" (.ref f)) ∧ (Fld Z h b "com/example/libprox/libprox/Cpe$1" "val$to" "[I" (.ref t)) ∧ (Arv Z h f kf .int (0 : Int32) [] (.int (0 : Int32))) ∧ (Arv Z h t kt .int (0 : Int32) [] (.int (0 : Int32)))
set_option maxRecDepth 65536 in
set_option maxHeartbeats 40000000 in
theorem rmt0 (l : Launch) (Z : State) (a0 : Array Value) (hw : ∀ d ∈ tables_1, d.before a0 Z = true) (ws : List Jvm.Cond) (p0 : Addr) (kz : ClassId) (h0 : Heap) (n0 : Nat) (O0 : Old Z n0 h0) (F0_ : Arv Z h0 p0 kz .boolean (0 : Int32) [] (.int (0 : Int32))) :
    MetFree l nm8 (head1 (Jvm.Cond.code nm8 prog_8_method_5_code 6 (some (.object "com/example/libprox/libprox/Combinations$Rule")) :: ws) ({ frames := 2, cells := 3, slots := 2, locals := 27 } : Room)) (fun a U => a = #[(.ref p0)] ∧ Z.Warmed39 U.vm ∧ U.heap = h0) (fun _ _ _ _ _ => True) (fun _ U o U' => ∃ v L, o = .returned v ∧ Qt0 Z p0 kz h0 n0 v U'.heap L ∧ FrameEnd U o U' L ({ frames := 2, cells := 3, slots := 2, locals := 27 } : Room).cells ({ frames := 2, cells := 3, slots := 2, locals := 27 } : Room).slots) := by
  refine MetFree.of_bodySF (plainFor_of_name pn_1) hisR ?_
  intro p e s m args below meth c s₁ Bd hml0 hP hK
  obtain ⟨rfl, hZ, hh⟩ := hP
  have hx := Bd.exec
  have hby := Bd.bytes
  have hml : c.maxLocals = 6 := hml0
  have hown : s.vm.findClass "com/example/libprox/libprox/Cpe" = some m.cls := findClass_of_methodNamed Bd.named
  have hnm := (name_of_methodNamed Bd.named Bd.method).1
  have X0 : Stand p l e ({ frames := 2, cells := 3, slots := 2, locals := 27 } : Room) s m #[(.ref p0)] below meth c s₁ [] 0 0 := Stand.of_body Bd
  have e0 : s₁.heap = h0 := by rw [← hh, Bd.state]; rfl
  have N0 := Fr.nil n0
  have s0 : Steps p.tables e below (s₁.setTop (entryFrame m #[(.ref p0)] 6)) (s₁.setTop (mkF m 0 #[.val (.ref p0), .unset, .unset, .unset, .unset, .unset] [])) := castTop (ef_rmt0 m p0) (Steps.refl _)
  obtain ⟨A₀, hA₀⟩ : ∃ z, z = (s₁.setTop (entryFrame m #[(.ref p0)] 6)) := ⟨_, rfl⟩
  rw [← hA₀] at s0
  obtain ⟨cla1, Ara1, qa1, Sa1, Za1, Ha1, Ga1⟩ := id F0_
  obtain ⟨T2, h2, k2, X2, e2, E2, A2, st2⟩ := newP X0 hx hZ (hw _ (List.mem_of_getElem? (i := 6) rfl)) e0 (g := (mkF m 4 #[.val (.ref p0), .val (.int (0 : Int32)), .unset, .unset, .unset, .unset] [(.int (0 : Int32))])) rfl (hb hby d1_4) rfl (by decide) (cap := 0) (by decide) (by decide) (by decide) (by decide)
  obtain ⟨b2, g2⟩ : ∃ z, z = h0.size := ⟨_, rfl⟩
  rw [← g2] at A2 st2
  have ne_p0_b2 : p0 ≠ b2 := Nat.ne_of_lt (Nat.lt_of_lt_of_le F0_.lt (Nat.le_of_eq g2.symm))
  have g_b2 : n0 ≤ b2 := Nat.le_trans (Nat.le_of_eq O0.1.symm) (Nat.le_trans O0.2.1 (Nat.le_of_eq g2.symm))
  have sz_b2 : h0.size ≤ b2 := Nat.le_trans (Keep.refl h0 []).1 (Nat.le_of_eq g2.symm)
  have O2 := O0.ext E2
  have K2 : Keep h0 h2 [] := (Keep.refl h0 []).ext E2
  have V2 : Arv Z h2 b2 k2 .int (0 : Int32) [] (.int (0 : Int32)) := (Arv.new A2 (by decide)).pad (pad_rep [] (.int (0 : Int32)) 0)
  obtain ⟨T3, h3, k3, X3, e3, E3, A3, st3⟩ := newP X2 hx hZ (hw _ (List.mem_of_getElem? (i := 6) rfl)) e2 (g := (mkF m 8 #[.val (.ref p0), .val (.int (0 : Int32)), .val (.ref b2), .unset, .unset, .unset] [(.int (0 : Int32))])) rfl (hb hby d1_8) rfl (by decide) (cap := 0) (by decide) (by decide) (by decide) (by decide)
  obtain ⟨b3, g3⟩ : ∃ z, z = h2.size := ⟨_, rfl⟩
  rw [← g3] at A3 st3
  have c4 : Arv Z h2 p0 kz .boolean (0 : Int32) [] (.int (0 : Int32)) := (F0_.ext E2)
  have ne_p0_b3 : p0 ≠ b3 := Nat.ne_of_lt (Nat.lt_of_lt_of_le c4.lt (Nat.le_of_eq g3.symm))
  have ne_b2_b3 : b2 ≠ b3 := Nat.ne_of_lt (Nat.lt_of_lt_of_le V2.lt (Nat.le_of_eq g3.symm))
  have g_b3 : n0 ≤ b3 := Nat.le_trans (Nat.le_of_eq O2.1.symm) (Nat.le_trans O2.2.1 (Nat.le_of_eq g3.symm))
  have sz_b3 : h0.size ≤ b3 := Nat.le_trans K2.1 (Nat.le_of_eq g3.symm)
  have O3 := O2.ext E3
  have K3 : Keep h0 h3 [] := K2.ext E3
  have V3 : Arv Z h3 b3 k3 .int (0 : Int32) [] (.int (0 : Int32)) := (Arv.new A3 (by decide)).pad (pad_rep [] (.int (0 : Int32)) 0)
  have c5 : Arv Z h3 b2 k2 .int (0 : Int32) [] (.int (0 : Int32)) := (V2.ext E3)
  obtain ⟨_, _, ⟨T6, L6, k6, n6⟩, -, X6, ⟨Lc6, hQ6, l6, y6, z6⟩, st6⟩ := Jvm.LawKit.callS X3 hx (y := (⟨"java/util/Arrays", "fill", "([II)V"⟩ : MethodName)) hown (mvT hZ (hw _ (List.mem_of_getElem? (i := 51) rfl))) (mvT hZ (hw _ (List.mem_of_getElem? (i := 52) rfl))) (mvT hZ (hw _ (List.mem_of_getElem? (i := 53) rfl))) (mvT hZ (hw _ (List.mem_of_getElem? (i := 54) rfl))) (by decide) (backOf (W := 0) (rmfill0 l Z a0 hw [] b2 k2 h3 n0 O3 c5 g_b2) hZ (hw _ (List.mem_of_getElem? (i := 54) rfl)) (hw _ (List.mem_of_getElem? (i := 53) rfl)) (by decide) (by decide)) (g := (mkF m 114 #[.val (.ref p0), .val (.int (0 : Int32)), .val (.ref b2), .val (.ref b3), .val (.int (-1 : Int32)), .val (.int (-1 : Int32))] [(.int (-1 : Int32)), (.ref b2)])) rfl (by rw [hml]; rfl) (argsL := [(.ref b2), (.int (-1 : Int32))]) (rest := []) (lenOf pd_rmt0_0 rfl) rfl (by show 2 * 0 + _ ≤ _; exact Nat.le_of_eq rfl) (hb hby d1_114) (fun _ _ => ⟨rfl, e3, (by decide : 2 + 0 ≤ _), (by decide : 0 + 0 ≤ _)⟩)
  dsimp only [Pt.U, Pt.locs, Pt.cells, Pt.slots] at X6 l6 y6 z6 st6 hQ6
  subst l6 y6 z6
  obtain ⟨rfl, Nq6, Kc6, f6_0⟩ := hQ6
  have N6 := Fr.app N0 Nq6
  have K6 : Keep h0 T6.heap [] := K3.trans Kc6 (allS (Or.inr sz_b2) all0)
  have O6 := O3.keep Kc6 (allS g_b2 all0)
  obtain ⟨T7, h7, X7, e7, E7, A7, D7, -, st7⟩ := newO X6 hx hZ hown (hw _ (List.mem_of_getElem? (i := 11) rfl)) (hw _ (List.mem_of_getElem? (i := 12) rfl)) (hw _ (List.mem_of_getElem? (i := 13) rfl)) (rfl : T6.heap = T6.heap) (g := (mkF m 117 #[.val (.ref p0), .val (.int (0 : Int32)), .val (.ref b2), .val (.ref b3), .val (.int (-1 : Int32)), .val (.int (-1 : Int32))] [])) rfl (hb hby d1_117) (by decide) (by decide)
  obtain ⟨b7, g7⟩ : ∃ z, z = T6.heap.size := ⟨_, rfl⟩
  rw [← g7] at A7 D7 st7
  have c8 : Arv Z T6.heap p0 kz .boolean (0 : Int32) [] (.int (0 : Int32)) := ((c4.ext E3).keep Kc6 (ninS ne_p0_b2 nin0))
  have ne_p0_b7 : p0 ≠ b7 := Nat.ne_of_lt (Nat.lt_of_lt_of_le c8.lt (Nat.le_of_eq g7.symm))
  have ne_b2_b7 : b2 ≠ b7 := Nat.ne_of_lt (Nat.lt_of_lt_of_le f6_0.lt (Nat.le_of_eq g7.symm))
  have c9 : Arv Z T6.heap b3 k3 .int (0 : Int32) [] (.int (0 : Int32)) := (V3.keep Kc6 (ninS (Ne.symm ne_b2_b3) nin0))
  have ne_b3_b7 : b3 ≠ b7 := Nat.ne_of_lt (Nat.lt_of_lt_of_le c9.lt (Nat.le_of_eq g7.symm))
  have g_b7 : n0 ≤ b7 := Nat.le_trans (Nat.le_of_eq O6.1.symm) (Nat.le_trans O6.2.1 (Nat.le_of_eq g7.symm))
  have sz_b7 : h0.size ≤ b7 := Nat.le_trans K6.1 (Nat.le_of_eq g7.symm)
  have O7 := O6.ext E7
  have K7 : Keep h0 h7 [] := K6.ext E7
  have F7_val_from : Fld Z h7 b7 "com/example/libprox/libprox/Cpe$1" "val$from" "[I" .null := D7 (Or.inr (hw _ (List.mem_of_getElem? (i := 18) rfl))) (ty := (.array .int)) (by decide)
  have F7_val_to : Fld Z h7 b7 "com/example/libprox/libprox/Cpe$1" "val$to" "[I" .null := D7 (Or.inr (hw _ (List.mem_of_getElem? (i := 20) rfl))) (ty := (.array .int)) (by decide)
  obtain ⟨_, _, ⟨T10, L10, k10, n10⟩, -, X10, ⟨Lc10, hQ10, l10, y10, z10⟩, st10⟩ := X7.specialBack hx (y := (⟨"com/example/libprox/libprox/Cpe$1", "<init>", "([I[I)V"⟩ : MethodName)) rfl hown (mvT hZ (hw _ (List.mem_of_getElem? (i := 14) rfl))) (mvT hZ (hw _ (List.mem_of_getElem? (i := 15) rfl))) (mvT hZ (hw _ (List.mem_of_getElem? (i := 16) rfl))) (by decide) (backOf (W := 1) (rm3 l Z a0 hw [] b7 b2 b3 h7 n0 O7 A7 F7_val_from F7_val_to g_b7) hZ (hw _ (List.mem_of_getElem? (i := 16) rfl)) (hw _ (List.mem_of_getElem? (i := 13) rfl)) (by decide) (by decide)) (g := (mkF m 123 #[.val (.ref p0), .val (.int (0 : Int32)), .val (.ref b2), .val (.ref b3), .val (.int (-1 : Int32)), .val (.int (-1 : Int32))] [(.ref b3), (.ref b2), (.ref b7), (.ref b7)])) rfl (by rw [hml]; rfl) (Steps.refl _) (a := b7) (argsL := [(.ref b2), (.ref b3)]) (rest := [(.ref b7)]) (lenOf pd_rmt0_1 rfl) rfl (by show 2 * 0 + _ ≤ _; exact Nat.le_of_eq rfl) (hb hby d1_123) (fun _ _ => ⟨rfl, e7, (by decide : 3 + 0 ≤ _), (by decide : 2 + 0 ≤ _)⟩)
  dsimp only [Pt.U, Pt.locs, Pt.cells, Pt.slots] at X10 l10 y10 z10 st10 hQ10
  subst l10 y10 z10
  obtain ⟨rfl, Nq10, Kc10, f10_0, f10_1, f10_2⟩ := hQ10
  have N10 := Fr.app N6 Nq10
  have K10 : Keep h0 T10.heap [] := K7.trans Kc10 (allS (Or.inr sz_b7) all0)
  have O10 := O7.keep Kc10 (allS g_b7 all0)
  have s11 : Steps p.tables e below A₀ (T10.setTop (mkF m 126 #[.val (.ref p0), .val (.int (0 : Int32)), .val (.ref b2), .val (.ref b3), .val (.int (-1 : Int32)), .val (.int (-1 : Int32))] [(.ref b7)])) := by
    refine s0.trans ?_
    refine XS.aloadN X0.here hx rfl (hb hby d1_0) rfl rfl ?_
    show Steps p.tables e below (s₁.setTop (mkF m 1 #[.val (.ref p0), .unset, .unset, .unset, .unset, .unset] [(.ref p0)])) _
    refine X0.arraylength hx (by rw [e0]; exact Ara1.1) (State.isArrayOf_alike hZ.alike Ara1.2.1) (g := (mkF m 1 #[.val (.ref p0), .unset, .unset, .unset, .unset, .unset] [(.ref p0)])) rfl rfl (hb hby d1_1) _ ?_
    rw [len_of Sa1 Za1]
    show Steps p.tables e below (s₁.setTop (mkF m 2 #[.val (.ref p0), .unset, .unset, .unset, .unset, .unset] [(.int (0 : Int32))])) _
    refine XS.istoreN X0.here hx rfl (hb hby d1_2) rfl (l' := #[.val (.ref p0), .val (.int (0 : Int32)), .unset, .unset, .unset, .unset]) rfl ?_
    refine XS.iloadN X0.here hx rfl (hb hby d1_3) rfl ?_
    refine st2 _ ?_
    refine XS.astoreN X2.here hx rfl (hb hby d1_6) rfl rfl (l' := #[.val (.ref p0), .val (.int (0 : Int32)), .val (.ref b2), .unset, .unset, .unset]) rfl ?_
    refine XS.iloadN X2.here hx rfl (hb hby d1_7) rfl ?_
    refine st3 _ ?_
    show Steps p.tables e below (T3.setTop (mkF m 10 #[.val (.ref p0), .val (.int (0 : Int32)), .val (.ref b2), .unset, .unset, .unset] [(.ref b3)])) _
    refine XS.astoreN X3.here hx rfl (hb hby d1_10) rfl rfl (l' := #[.val (.ref p0), .val (.int (0 : Int32)), .val (.ref b2), .val (.ref b3), .unset, .unset]) rfl ?_
    refine XS.iconst X3.here hx rfl (hb hby d1_11) ?_
    refine XS.istore X3.here hx rfl (hb hby d1_12) rfl (l' := #[.val (.ref p0), .val (.int (0 : Int32)), .val (.ref b2), .val (.ref b3), .val (.int (-1 : Int32)), .unset]) rfl ?_
    refine XS.iconst X3.here hx rfl (hb hby d1_14) ?_
    refine XS.istore X3.here hx rfl (hb hby d1_15) rfl (l' := #[.val (.ref p0), .val (.int (0 : Int32)), .val (.ref b2), .val (.ref b3), .val (.int (-1 : Int32)), .val (.int (0 : Int32))]) rfl ?_
    refine XS.iload X3.here hx rfl (hb hby d1_17) rfl ?_
    show Steps p.tables e below (T3.setTop (mkF m 19 #[.val (.ref p0), .val (.int (0 : Int32)), .val (.ref b2), .val (.ref b3), .val (.int (-1 : Int32)), .val (.int (0 : Int32))] [(.int (0 : Int32))])) _
    refine XS.iloadN X3.here hx rfl (hb hby d1_19) rfl ?_
    refine XS.icmpYes X3.here hx rfl (pc0 := 20) (pc' := 55) rfl (hb hby d1_20) rfl (flt (by decide)).2.1 (by decide) (by decide) ?_
    refine XS.iconst X3.here hx rfl (hb hby d1_55) ?_
    refine XS.istore X3.here hx rfl (hb hby d1_56) rfl (l' := #[.val (.ref p0), .val (.int (0 : Int32)), .val (.ref b2), .val (.ref b3), .val (.int (-1 : Int32)), .val (.int (0 : Int32))]) rfl ?_
    refine XS.iloadN X3.here hx rfl (hb hby d1_58) rfl ?_
    refine XS.iconst X3.here hx rfl (hb hby d1_59) ?_
    show Steps p.tables e below (T3.setTop (mkF m 60 #[.val (.ref p0), .val (.int (0 : Int32)), .val (.ref b2), .val (.ref b3), .val (.int (-1 : Int32)), .val (.int (0 : Int32))] [(.int (1 : Int32)), (.int (0 : Int32))])) _
    refine XS.isub X3.here hx rfl (hb hby d1_60) rfl ?_
    refine XS.istore X3.here hx rfl (hb hby d1_61) rfl (l' := #[.val (.ref p0), .val (.int (0 : Int32)), .val (.ref b2), .val (.ref b3), .val (.int (-1 : Int32)), .val (.int (-1 : Int32))]) rfl ?_
    refine XS.iload X3.here hx rfl (hb hby d1_63) rfl ?_
    refine XS.ifYes X3.here hx rfl (pc0 := 65) (pc' := 107) rfl (hb hby d1_65) rfl ((if0 _ _).trans (tlt (by decide)).1) (by decide) (by decide) ?_
    refine XS.iload X3.here hx rfl (hb hby d1_107) rfl ?_
    refine XS.ifNo X3.here hx rfl (hb hby d1_109) rfl ((if0 _ _).trans (tlt (by decide)).2.1) ?_
    show Steps p.tables e below (T3.setTop (mkF m 112 #[.val (.ref p0), .val (.int (0 : Int32)), .val (.ref b2), .val (.ref b3), .val (.int (-1 : Int32)), .val (.int (-1 : Int32))] [])) _
    refine XS.aloadN X3.here hx rfl (hb hby d1_112) rfl rfl ?_
    refine XS.iconst X3.here hx rfl (hb hby d1_113) ?_
    refine st6 _ ?_
    refine st7 _ ?_
    refine XS.dup X7.here hx rfl (hb hby d1_120) rfl rfl ?_
    refine XS.aloadN X7.here hx rfl (hb hby d1_121) rfl rfl ?_
    show Steps p.tables e below (T7.setTop (mkF m 122 #[.val (.ref p0), .val (.int (0 : Int32)), .val (.ref b2), .val (.ref b3), .val (.int (-1 : Int32)), .val (.int (-1 : Int32))] [(.ref b2), (.ref b7), (.ref b7)])) _
    refine XS.aloadN X7.here hx rfl (hb hby d1_122) rfl rfl ?_
    refine st10.trans ?_
    exact Steps.refl _
  have c12 : Arv Z T10.heap b2 k2 .int (0 : Int32) [] (.int (0 : Int32)) := ((f6_0.ext E7).keep Kc10 (ninS ne_b2_b7 nin0))
  have VrF := c12
  have c13 : Arv Z T10.heap b3 k3 .int (0 : Int32) [] (.int (0 : Int32)) := ((c9.ext E7).keep Kc10 (ninS ne_b3_b7 nin0))
  have VrT := c13
  subst hA₀
  obtain ⟨fs, hr, hrun, hended, hW, hsame⟩ := X10.leave (v := some (.ref b7)) (fun h => by rw [Bd.returns] at h; cases h)
  refine ⟨_, _, s11.trans ?_, hrun, hended, _, _, rfl, ?_, ⟨_, rfl⟩, hW, hsame.mono (by decide) (by decide)⟩
  · show Steps p.tables e below (T10.setTop (mkF m 126 #[.val (.ref p0), .val (.int (0 : Int32)), .val (.ref b2), .val (.ref b3), .val (.int (-1 : Int32)), .val (.int (-1 : Int32))] [(.ref b7)])) _
    jvm_step X10.here [X10.here.top, hx, (hb hby d1_126), X10.method', Bd.returns, Value.isRef, FieldType.isReference]
    first | (intro acts; rw [hr _ acts rfl rfl rfl]) | rw [hr _ _ rfl rfl rfl]
    exact Steps.refl _
  · show Qt0 Z p0 kz h0 n0 _ T10.heap _
    exact ⟨b7, b2, b3, k2, k3, rfl, N10, K10, f10_0, f10_1, f10_2, VrF, VrT⟩
theorem d10_10 : decode jdk_65_method_103_code 10 = .ok (.aload_n 0, 1) := by decide +kernel
theorem d10_11 : decode jdk_65_method_103_code 11 = .ok (.iload_n 2, 1) := by decide +kernel
theorem d10_12 : decode jdk_65_method_103_code 12 = .ok (.iload_n 1, 1) := by decide +kernel
theorem d10_13 : decode jdk_65_method_103_code 13 = .ok (.iastore, 1) := by decide +kernel
theorem d10_14 : decode jdk_65_method_103_code 14 = .ok (.iinc 2 1, 3) := by decide +kernel
theorem d10_17 : decode jdk_65_method_103_code 17 = .ok (.goto (-12), 3) := by decide +kernel
theorem ef_rmfill1 (m : MethodId) (p0 : Addr) : entryFrame m #[(.ref p0), (.int (-1 : Int32))] 4 = mkF m 0 #[.val (.ref p0), .val (.int (-1 : Int32)), .unset, .unset] [] := by first | (simp [entryFrame, mkF, argsToLocals, Value.category]; done) | rfl
def Qfill1 (Z : State) (p0 : Addr) (k1 : ClassId) (x0 : Int32) (h0 : Heap) (n0 : Nat) (v : Option Value) (h : Heap) (L : List Loc) : Prop := v = none ∧ Fr n0 L ∧ Keep h0 h [p0] ∧ (Arv Z h p0 k1 .int (1 : Int32) [(.int (-1 : Int32))] (.int (0 : Int32)))
set_option maxRecDepth 65536 in
set_option maxHeartbeats 40000000 in
theorem rmfill1 (l : Launch) (Z : State) (a0 : Array Value) (hw : ∀ d ∈ tables_1, d.before a0 Z = true) (ws : List Jvm.Cond) (p0 : Addr) (k1 : ClassId) (x0 : Int32) (h0 : Heap) (n0 : Nat) (O0 : Old Z n0 h0) (F0_ : Arv Z h0 p0 k1 .int (1 : Int32) [(.int x0)] (.int (0 : Int32))) (F1_ : n0 ≤ p0) :
    MetFree l nm7 (head1 (Jvm.Cond.code nm7 jdk_65_method_103_code 4 none :: ws) ({ frames := 0, cells := 0, slots := 0, locals := 0 } : Room)) (fun a U => a = #[(.ref p0), (.int (-1 : Int32))] ∧ Z.Warmed39 U.vm ∧ U.heap = h0) (fun _ _ _ _ _ => True) (fun _ U o U' => ∃ v L, o = .returned v ∧ Qfill1 Z p0 k1 x0 h0 n0 v U'.heap L ∧ FrameEnd U o U' L ({ frames := 0, cells := 0, slots := 0, locals := 0 } : Room).cells ({ frames := 0, cells := 0, slots := 0, locals := 0 } : Room).slots) := by
  refine MetFree.of_bodySF (plainFor_of_name pn_10) hisR ?_
  intro p e s m args below meth c s₁ Bd hml0 hP hK
  obtain ⟨rfl, hZ, hh⟩ := hP
  have hx := Bd.exec
  have hby := Bd.bytes
  have hml : c.maxLocals = 4 := hml0
  have hown : s.vm.findClass "java/util/Arrays" = some m.cls := findClass_of_methodNamed Bd.named
  have hnm := (name_of_methodNamed Bd.named Bd.method).1
  have X0 : Stand p l e ({ frames := 0, cells := 0, slots := 0, locals := 0 } : Room) s m #[(.ref p0), (.int (-1 : Int32))] below meth c s₁ [] 0 0 := Stand.of_body Bd
  have e0 : s₁.heap = h0 := by rw [← hh, Bd.state]; rfl
  have N0 := Fr.nil n0
  have s0 : Steps p.tables e below (s₁.setTop (entryFrame m #[(.ref p0), (.int (-1 : Int32))] 4)) (s₁.setTop (mkF m 0 #[.val (.ref p0), .val (.int (-1 : Int32)), .unset, .unset] [])) := castTop (ef_rmfill1 m p0) (Steps.refl _)
  obtain ⟨A₀, hA₀⟩ : ∃ z, z = (s₁.setTop (entryFrame m #[(.ref p0), (.int (-1 : Int32))] 4)) := ⟨_, rfl⟩
  rw [← hA₀] at s0
  obtain ⟨cla1, Ara1, qa1, Sa1, Za1, Ha1, Ga1⟩ := id F0_
  have hin2 : ¬ ((0 : Int32) < 0 ∨ cla1.slots.size ≤ ((0 : Int32)).toNatClampNeg) := inb_of Sa1 ⟨by decide, by decide⟩
  obtain ⟨T3, h3, X3, e3, W3, st3⟩ := stI X0 hx hZ e0 Ara1 (j := (0 : Int32)) hin2 (g := (mkF m 13 #[.val (.ref p0), .val (.int (-1 : Int32)), .val (.int (0 : Int32)), .val (.int (1 : Int32))] [(.int (-1 : Int32)), (.int (0 : Int32)), (.ref p0)])) rfl rfl (hb hby d10_13)
  have O3 := O0.wr W3 F1_
  have K3 : Keep h0 h3 [p0] := (Keep.refl h0 [p0]).wr W3 (Or.inl (List.mem_of_getElem? (i := 0) rfl))
  have N3 := Fr.snoc X3 N0 F1_
  have V3 : Arv Z h3 p0 k1 .int (1 : Int32) [(.int (-1 : Int32))] (.int (0 : Int32)) := Arv.set Ara1 qa1 Sa1 Za1 Ha1 Ga1 rfl W3 0 rfl (Nat.le_of_ble_eq_true rfl)
  have s4 : Steps p.tables e below A₀ (T3.setTop (mkF m 20 #[.val (.ref p0), .val (.int (-1 : Int32)), .val (.int (1 : Int32)), .val (.int (1 : Int32))] [])) := by
    refine s0.trans ?_
    refine XS.iconst X0.here hx rfl (hb hby d10_0) ?_
    show Steps p.tables e below (s₁.setTop (mkF m 1 #[.val (.ref p0), .val (.int (-1 : Int32)), .unset, .unset] [(.int (0 : Int32))])) _
    refine XS.istoreN X0.here hx rfl (hb hby d10_1) rfl (l' := #[.val (.ref p0), .val (.int (-1 : Int32)), .val (.int (0 : Int32)), .unset]) rfl ?_
    refine XS.aloadN X0.here hx rfl (hb hby d10_2) rfl rfl ?_
    refine X0.arraylength hx (by rw [e0]; exact Ara1.1) (State.isArrayOf_alike hZ.alike Ara1.2.1) (g := (mkF m 3 #[.val (.ref p0), .val (.int (-1 : Int32)), .val (.int (0 : Int32)), .unset] [(.ref p0)])) rfl rfl (hb hby d10_3) _ ?_
    rw [len_of Sa1 Za1]
    show Steps p.tables e below (s₁.setTop (mkF m 4 #[.val (.ref p0), .val (.int (-1 : Int32)), .val (.int (0 : Int32)), .unset] [(.int (1 : Int32))])) _
    refine XS.istoreN X0.here hx rfl (hb hby d10_4) rfl (l' := #[.val (.ref p0), .val (.int (-1 : Int32)), .val (.int (0 : Int32)), .val (.int (1 : Int32))]) rfl ?_
    refine XS.iloadN X0.here hx rfl (hb hby d10_5) rfl ?_
    refine XS.iloadN X0.here hx rfl (hb hby d10_6) rfl ?_
    refine XS.icmpNo X0.here hx rfl (hb hby d10_7) rfl (tlt (by decide)).2.1 ?_
    refine XS.aloadN X0.here hx rfl (hb hby d10_10) rfl rfl ?_
    refine XS.iloadN X0.here hx rfl (hb hby d10_11) rfl ?_
    show Steps p.tables e below (s₁.setTop (mkF m 12 #[.val (.ref p0), .val (.int (-1 : Int32)), .val (.int (0 : Int32)), .val (.int (1 : Int32))] [(.int (0 : Int32)), (.ref p0)])) _
    refine XS.iloadN X0.here hx rfl (hb hby d10_12) rfl ?_
    refine st3 _ ?_
    refine XS.iinc X3.here hx rfl (hb hby d10_14) rfl (l' := #[.val (.ref p0), .val (.int (-1 : Int32)), .val (.int (1 : Int32)), .val (.int (1 : Int32))]) rfl ?_
    refine XS.goto X3.here hx rfl (pc0 := 17) (pc' := 5) rfl (hb hby d10_17) (by decide) (by decide) ?_
    refine XS.iloadN X3.here hx rfl (hb hby d10_5) rfl ?_
    refine XS.iloadN X3.here hx rfl (hb hby d10_6) rfl ?_
    show Steps p.tables e below (T3.setTop (mkF m 7 #[.val (.ref p0), .val (.int (-1 : Int32)), .val (.int (1 : Int32)), .val (.int (1 : Int32))] [(.int (1 : Int32)), (.int (1 : Int32))])) _
    refine XS.icmpYes X3.here hx rfl (pc0 := 7) (pc' := 20) rfl (hb hby d10_7) rfl (flt (by decide)).2.1 (by decide) (by decide) ?_
    exact Steps.refl _
  subst hA₀
  obtain ⟨fs, hr, hrun, hended, hW, hsame⟩ := X3.leave (v := none) (fun _ => rfl)
  refine ⟨_, _, s4.trans ?_, hrun, hended, _, _, rfl, ?_, ⟨_, rfl⟩, hW, hsame.mono (by decide) (by decide)⟩
  · show Steps p.tables e below (T3.setTop (mkF m 20 #[.val (.ref p0), .val (.int (-1 : Int32)), .val (.int (1 : Int32)), .val (.int (1 : Int32))] [])) _
    exact X3.returnOut hx Bd.returns (hb hby d10_20) hr
  · show Qfill1 Z p0 k1 x0 h0 n0 _ T3.heap _
    rw [e3]
    exact ⟨rfl, N3, K3, V3⟩
theorem own_rmt1_1 (y0 : Int32) (za1 : Int32) (zb2 : Int32) (z42 : Int32) (hz42 : z42 = (if zb2 < (0 : Int32) then (-1 : Int32) else (own_max za1 (0 : Int32)))) (hza1 : za1 = (if y0 = (0 : Int32) then (0 : Int32) else (-1 : Int32))) (hzb2 : zb2 = (if y0 = (0 : Int32) then (0 : Int32) else (-1 : Int32))) : z42 = (own_F1_0 y0) := by
  unfold own_F1_0
  by_cases qy0 : y0 = (0 : Int32) <;> simp_all [own_max]
theorem own_rmt1_2 (y0 : Int32) (zb2 : Int32) (zc3 : Int32) (hzc3 : zc3 = (if zb2 < (0 : Int32) then (0 : Int32) else zb2)) (hzb2 : zb2 = (if y0 = (0 : Int32) then (0 : Int32) else (-1 : Int32))) : zc3 = (own_T1_0 y0) := by
  unfold own_T1_0
  by_cases qy0 : y0 = (0 : Int32) <;> simp_all [own_max]
theorem d1_23 : decode prog_8_method_5_code 23 = .ok (.aload_n 0, 1) := by decide +kernel
theorem d1_24 : decode prog_8_method_5_code 24 = .ok (.iload 5, 2) := by decide +kernel
theorem d1_26 : decode prog_8_method_5_code 26 = .ok (.baload, 1) := by decide +kernel
theorem d1_27 : decode prog_8_method_5_code 27 = .ok (.ifCond .eq 8, 3) := by decide +kernel
theorem d1_30 : decode prog_8_method_5_code 30 = .ok (.iload 4, 2) := by decide +kernel
theorem d1_32 : decode prog_8_method_5_code 32 = .ok (.goto 5, 3) := by decide +kernel
theorem d1_35 : decode prog_8_method_5_code 35 = .ok (.iload 5, 2) := by decide +kernel
theorem d1_37 : decode prog_8_method_5_code 37 = .ok (.istore 4, 2) := by decide +kernel
theorem d1_39 : decode prog_8_method_5_code 39 = .ok (.aload_n 2, 1) := by decide +kernel
theorem d1_40 : decode prog_8_method_5_code 40 = .ok (.iload 5, 2) := by decide +kernel
theorem d1_42 : decode prog_8_method_5_code 42 = .ok (.iload 4, 2) := by decide +kernel
theorem d1_44 : decode prog_8_method_5_code 44 = .ok (.iconst 0, 1) := by decide +kernel
theorem d1_45 : decode prog_8_method_5_code 45 = .ok (.invokestatic 59, 3) := by decide +kernel
theorem d1_48 : decode prog_8_method_5_code 48 = .ok (.iastore, 1) := by decide +kernel
theorem d1_49 : decode prog_8_method_5_code 49 = .ok (.iinc 5 1, 3) := by decide +kernel
theorem d1_52 : decode prog_8_method_5_code 52 = .ok (.goto (-35), 3) := by decide +kernel
theorem d1_68 : decode prog_8_method_5_code 68 = .ok (.aload_n 0, 1) := by decide +kernel
theorem d1_69 : decode prog_8_method_5_code 69 = .ok (.iload 5, 2) := by decide +kernel
theorem d1_71 : decode prog_8_method_5_code 71 = .ok (.baload, 1) := by decide +kernel
theorem d1_72 : decode prog_8_method_5_code 72 = .ok (.ifCond .eq 8, 3) := by decide +kernel
theorem d1_75 : decode prog_8_method_5_code 75 = .ok (.iload 4, 2) := by decide +kernel
theorem d1_77 : decode prog_8_method_5_code 77 = .ok (.goto 5, 3) := by decide +kernel
theorem d1_80 : decode prog_8_method_5_code 80 = .ok (.iload 5, 2) := by decide +kernel
theorem d1_82 : decode prog_8_method_5_code 82 = .ok (.istore 4, 2) := by decide +kernel
theorem d1_84 : decode prog_8_method_5_code 84 = .ok (.aload_n 3, 1) := by decide +kernel
theorem d1_85 : decode prog_8_method_5_code 85 = .ok (.iload 5, 2) := by decide +kernel
theorem d1_87 : decode prog_8_method_5_code 87 = .ok (.iload 4, 2) := by decide +kernel
theorem d1_89 : decode prog_8_method_5_code 89 = .ok (.ifCond .ge 9, 3) := by decide +kernel
theorem d1_92 : decode prog_8_method_5_code 92 = .ok (.iload_n 1, 1) := by decide +kernel
theorem d1_93 : decode prog_8_method_5_code 93 = .ok (.iconst 1, 1) := by decide +kernel
theorem d1_94 : decode prog_8_method_5_code 94 = .ok (.isub, 1) := by decide +kernel
theorem d1_95 : decode prog_8_method_5_code 95 = .ok (.goto 5, 3) := by decide +kernel
theorem d1_98 : decode prog_8_method_5_code 98 = .ok (.iload 4, 2) := by decide +kernel
theorem d1_100 : decode prog_8_method_5_code 100 = .ok (.iastore, 1) := by decide +kernel
theorem d1_101 : decode prog_8_method_5_code 101 = .ok (.iinc 5 (-1), 3) := by decide +kernel
theorem d1_104 : decode prog_8_method_5_code 104 = .ok (.goto (-41), 3) := by decide +kernel
theorem pd_rmt1_0 : parseMethodDescriptor "(II)I" = some ⟨[.int, .int], some .int⟩ := by decide +kernel
theorem pd_rmt1_1 : parseMethodDescriptor "([II)V" = some ⟨[(.array .int), .int], none⟩ := by decide +kernel
theorem pd_rmt1_2 : parseMethodDescriptor "([I[I)V" = some ⟨[(.array .int), (.array .int)], none⟩ := by decide +kernel
theorem ef_rmt1 (m : MethodId) (p0 : Addr) : entryFrame m #[(.ref p0)] 6 = mkF m 0 #[.val (.ref p0), .unset, .unset, .unset, .unset, .unset] [] := by first | (simp [entryFrame, mkF, argsToLocals, Value.category]; done) | rfl
def Qt1 (Z : State) (p0 : Addr) (kz : ClassId) (y0 : Int32) (h0 : Heap) (n0 : Nat) (v : Option Value) (h : Heap) (L : List Loc) : Prop := ∃ b : Addr, ∃ f : Addr, ∃ t : Addr, ∃ kf : ClassId, ∃ kt : ClassId, v = some (.ref b) ∧ Fr n0 L ∧ Keep h0 h [] ∧ (Exa Z h b "com/example/libprox/libprox/Cpe$1") ∧ (Fld Z h b "com/example/libprox/libprox/Cpe$1" "val$from" "[I" (.ref f)) ∧ (Fld Z h b "com/example/libprox/libprox/Cpe$1" "val$to" "[I" (.ref t)) ∧ (Arv Z h f kf .int (1 : Int32) [(.int (own_F1_0 y0))] (.int (0 : Int32))) ∧ (Arv Z h t kt .int (1 : Int32) [(.int (own_T1_0 y0))] (.int (0 : Int32)))
set_option maxRecDepth 65536 in
set_option maxHeartbeats 40000000 in
theorem rmt1 (l : Launch) (Z : State) (a0 : Array Value) (hw : ∀ d ∈ tables_1, d.before a0 Z = true) (ws : List Jvm.Cond) (p0 : Addr) (kz : ClassId) (y0 : Int32) (h0 : Heap) (n0 : Nat) (O0 : Old Z n0 h0) (F0_ : Arv Z h0 p0 kz .boolean (1 : Int32) [(.int y0)] (.int (0 : Int32))) :
    MetFree l nm8 (head1 (Jvm.Cond.code nm8 prog_8_method_5_code 6 (some (.object "com/example/libprox/libprox/Combinations$Rule")) :: ws) ({ frames := 2, cells := 3, slots := 4, locals := 27 } : Room)) (fun a U => a = #[(.ref p0)] ∧ Z.Warmed39 U.vm ∧ U.heap = h0) (fun _ _ _ _ _ => True) (fun _ U o U' => ∃ v L, o = .returned v ∧ Qt1 Z p0 kz y0 h0 n0 v U'.heap L ∧ FrameEnd U o U' L ({ frames := 2, cells := 3, slots := 4, locals := 27 } : Room).cells ({ frames := 2, cells := 3, slots := 4, locals := 27 } : Room).slots) := by
  refine MetFree.of_bodySF (plainFor_of_name pn_1) hisR ?_
  intro p e s m args below meth c s₁ Bd hml0 hP hK
  obtain ⟨rfl, hZ, hh⟩ := hP
  have hx := Bd.exec
  have hby := Bd.bytes
  have hml : c.maxLocals = 6 := hml0
  have hown : s.vm.findClass "com/example/libprox/libprox/Cpe" = some m.cls := findClass_of_methodNamed Bd.named
  have hnm := (name_of_methodNamed Bd.named Bd.method).1
  have X0 : Stand p l e ({ frames := 2, cells := 3, slots := 4, locals := 27 } : Room) s m #[(.ref p0)] below meth c s₁ [] 0 0 := Stand.of_body Bd
  have e0 : s₁.heap = h0 := by rw [← hh, Bd.state]; rfl
  have N0 := Fr.nil n0
  have s0 : Steps p.tables e below (s₁.setTop (entryFrame m #[(.ref p0)] 6)) (s₁.setTop (mkF m 0 #[.val (.ref p0), .unset, .unset, .unset, .unset, .unset] [])) := castTop (ef_rmt1 m p0) (Steps.refl _)
  obtain ⟨A₀, hA₀⟩ : ∃ z, z = (s₁.setTop (entryFrame m #[(.ref p0)] 6)) := ⟨_, rfl⟩
  rw [← hA₀] at s0
  obtain ⟨cla1, Ara1, qa1, Sa1, Za1, Ha1, Ga1⟩ := id F0_
  obtain ⟨T2, h2, k2, X2, e2, E2, A2, st2⟩ := newP X0 hx hZ (hw _ (List.mem_of_getElem? (i := 6) rfl)) e0 (g := (mkF m 4 #[.val (.ref p0), .val (.int (1 : Int32)), .unset, .unset, .unset, .unset] [(.int (1 : Int32))])) rfl (hb hby d1_4) rfl (by decide) (cap := 1) (by decide) (by decide) (by decide) (by decide)
  obtain ⟨b2, g2⟩ : ∃ z, z = h0.size := ⟨_, rfl⟩
  rw [← g2] at A2 st2
  have ne_p0_b2 : p0 ≠ b2 := Nat.ne_of_lt (Nat.lt_of_lt_of_le F0_.lt (Nat.le_of_eq g2.symm))
  have g_b2 : n0 ≤ b2 := Nat.le_trans (Nat.le_of_eq O0.1.symm) (Nat.le_trans O0.2.1 (Nat.le_of_eq g2.symm))
  have sz_b2 : h0.size ≤ b2 := Nat.le_trans (Keep.refl h0 []).1 (Nat.le_of_eq g2.symm)
  have O2 := O0.ext E2
  have K2 : Keep h0 h2 [] := (Keep.refl h0 []).ext E2
  have V2 : Arv Z h2 b2 k2 .int (1 : Int32) [(.int (0 : Int32))] (.int (0 : Int32)) := (Arv.new A2 (by decide)).pad (pad_rep [] (.int (0 : Int32)) 1)
  obtain ⟨T3, h3, k3, X3, e3, E3, A3, st3⟩ := newP X2 hx hZ (hw _ (List.mem_of_getElem? (i := 6) rfl)) e2 (g := (mkF m 8 #[.val (.ref p0), .val (.int (1 : Int32)), .val (.ref b2), .unset, .unset, .unset] [(.int (1 : Int32))])) rfl (hb hby d1_8) rfl (by decide) (cap := 1) (by decide) (by decide) (by decide) (by decide)
  obtain ⟨b3, g3⟩ : ∃ z, z = h2.size := ⟨_, rfl⟩
  rw [← g3] at A3 st3
  have c4 : Arv Z h2 p0 kz .boolean (1 : Int32) [(.int y0)] (.int (0 : Int32)) := (F0_.ext E2)
  have ne_p0_b3 : p0 ≠ b3 := Nat.ne_of_lt (Nat.lt_of_lt_of_le c4.lt (Nat.le_of_eq g3.symm))
  have ne_b2_b3 : b2 ≠ b3 := Nat.ne_of_lt (Nat.lt_of_lt_of_le V2.lt (Nat.le_of_eq g3.symm))
  have g_b3 : n0 ≤ b3 := Nat.le_trans (Nat.le_of_eq O2.1.symm) (Nat.le_trans O2.2.1 (Nat.le_of_eq g3.symm))
  have sz_b3 : h0.size ≤ b3 := Nat.le_trans K2.1 (Nat.le_of_eq g3.symm)
  have O3 := O2.ext E3
  have K3 : Keep h0 h3 [] := K2.ext E3
  have V3 : Arv Z h3 b3 k3 .int (1 : Int32) [(.int (0 : Int32))] (.int (0 : Int32)) := (Arv.new A3 (by decide)).pad (pad_rep [] (.int (0 : Int32)) 1)
  have c5 : Arv Z h3 p0 kz .boolean (1 : Int32) [(.int y0)] (.int (0 : Int32)) := (c4.ext E3)
  obtain ⟨cla6, Ara6, qa6, Sa6, Za6, Ha6, Ga6⟩ := id c5
  have hin7 : ¬ ((0 : Int32) < 0 ∨ cla6.slots.size ≤ ((0 : Int32)).toNatClampNeg) := inb_of Sa6 ⟨by decide, by decide⟩
  have hat8 : cla6.slots[((0 : Int32)).toNatClampNeg]? = some (.int y0) := Has.at Ha6 hin7 rfl
  have s9 : Steps p.tables e below A₀ (T3.setTop (mkF m 27 #[.val (.ref p0), .val (.int (1 : Int32)), .val (.ref b2), .val (.ref b3), .val (.int (-1 : Int32)), .val (.int (0 : Int32))] [(.int y0)])) := by
    refine s0.trans ?_
    refine XS.aloadN X0.here hx rfl (hb hby d1_0) rfl rfl ?_
    show Steps p.tables e below (s₁.setTop (mkF m 1 #[.val (.ref p0), .unset, .unset, .unset, .unset, .unset] [(.ref p0)])) _
    refine X0.arraylength hx (by rw [e0]; exact Ara1.1) (State.isArrayOf_alike hZ.alike Ara1.2.1) (g := (mkF m 1 #[.val (.ref p0), .unset, .unset, .unset, .unset, .unset] [(.ref p0)])) rfl rfl (hb hby d1_1) _ ?_
    rw [len_of Sa1 Za1]
    show Steps p.tables e below (s₁.setTop (mkF m 2 #[.val (.ref p0), .unset, .unset, .unset, .unset, .unset] [(.int (1 : Int32))])) _
    refine XS.istoreN X0.here hx rfl (hb hby d1_2) rfl (l' := #[.val (.ref p0), .val (.int (1 : Int32)), .unset, .unset, .unset, .unset]) rfl ?_
    refine XS.iloadN X0.here hx rfl (hb hby d1_3) rfl ?_
    refine st2 _ ?_
    refine XS.astoreN X2.here hx rfl (hb hby d1_6) rfl rfl (l' := #[.val (.ref p0), .val (.int (1 : Int32)), .val (.ref b2), .unset, .unset, .unset]) rfl ?_
    refine XS.iloadN X2.here hx rfl (hb hby d1_7) rfl ?_
    refine st3 _ ?_
    show Steps p.tables e below (T3.setTop (mkF m 10 #[.val (.ref p0), .val (.int (1 : Int32)), .val (.ref b2), .unset, .unset, .unset] [(.ref b3)])) _
    refine XS.astoreN X3.here hx rfl (hb hby d1_10) rfl rfl (l' := #[.val (.ref p0), .val (.int (1 : Int32)), .val (.ref b2), .val (.ref b3), .unset, .unset]) rfl ?_
    refine XS.iconst X3.here hx rfl (hb hby d1_11) ?_
    refine XS.istore X3.here hx rfl (hb hby d1_12) rfl (l' := #[.val (.ref p0), .val (.int (1 : Int32)), .val (.ref b2), .val (.ref b3), .val (.int (-1 : Int32)), .unset]) rfl ?_
    refine XS.iconst X3.here hx rfl (hb hby d1_14) ?_
    refine XS.istore X3.here hx rfl (hb hby d1_15) rfl (l' := #[.val (.ref p0), .val (.int (1 : Int32)), .val (.ref b2), .val (.ref b3), .val (.int (-1 : Int32)), .val (.int (0 : Int32))]) rfl ?_
    refine XS.iload X3.here hx rfl (hb hby d1_17) rfl ?_
    show Steps p.tables e below (T3.setTop (mkF m 19 #[.val (.ref p0), .val (.int (1 : Int32)), .val (.ref b2), .val (.ref b3), .val (.int (-1 : Int32)), .val (.int (0 : Int32))] [(.int (0 : Int32))])) _
    refine XS.iloadN X3.here hx rfl (hb hby d1_19) rfl ?_
    refine XS.icmpNo X3.here hx rfl (hb hby d1_20) rfl (tlt (by decide)).2.1 ?_
    refine XS.aloadN X3.here hx rfl (hb hby d1_23) rfl rfl ?_
    refine XS.iload X3.here hx rfl (hb hby d1_24) rfl ?_
    refine X3.baloadBooleans hx (j := (0 : Int32)) (v := (.int y0)) (by rw [e3]; exact Ara6.1) (State.isArrayOf_alike hZ.alike Ara6.2.1) Ara6.2.2 hin7 hat8 (g := (mkF m 26 #[.val (.ref p0), .val (.int (1 : Int32)), .val (.ref b2), .val (.ref b3), .val (.int (-1 : Int32)), .val (.int (0 : Int32))] [(.int (0 : Int32)), (.ref p0)])) rfl rfl (hb hby d1_26) _ ?_
    exact Steps.refl _
  have s11 : Steps p.tables e below A₀ (T3.setTop (mkF m 37 #[.val (.ref p0), .val (.int (1 : Int32)), .val (.ref b2), .val (.ref b3), .val (.int (-1 : Int32)), .val (.int (0 : Int32))] [(.int (if y0 = (0 : Int32) then (0 : Int32) else (-1 : Int32)))])) := by
    by_cases hm10 : y0 = (0 : Int32)
    · simp only [if_pos hm10]
      refine s9.trans ?_
      refine XS.ifYes X3.here hx rfl (pc0 := 27) (pc' := 35) rfl (hb hby d1_27) rfl ((if0 _ _).trans (teq hm10).1) (by decide) (by decide) ?_
      show Steps p.tables e below (T3.setTop (mkF m 35 #[.val (.ref p0), .val (.int (1 : Int32)), .val (.ref b2), .val (.ref b3), .val (.int (-1 : Int32)), .val (.int (0 : Int32))] [])) _
      refine XS.iload X3.here hx rfl (hb hby d1_35) rfl ?_
      exact Steps.refl _
    · simp only [if_neg hm10]
      refine s9.trans ?_
      refine XS.ifNo X3.here hx rfl (hb hby d1_27) rfl ((if0 _ _).trans (feq hm10).1) ?_
      show Steps p.tables e below (T3.setTop (mkF m 30 #[.val (.ref p0), .val (.int (1 : Int32)), .val (.ref b2), .val (.ref b3), .val (.int (-1 : Int32)), .val (.int (0 : Int32))] [])) _
      refine XS.iload X3.here hx rfl (hb hby d1_30) rfl ?_
      refine XS.goto X3.here hx rfl (pc0 := 32) (pc' := 37) rfl (hb hby d1_32) (by decide) (by decide) ?_
      exact Steps.refl _
  obtain ⟨za1, hza1⟩ : ∃ z, z = (if y0 = (0 : Int32) then (0 : Int32) else (-1 : Int32)) := ⟨_, rfl⟩
  rw [← hza1] at s11
  obtain ⟨T12, L12, X12, e12, N12, st12⟩ := own_callP X3 hx hZ hown (wk7 hw) (wk8 hw) (wk9 hw) (wk10 hw) (by decide) (rm2 l Z a0 hw [] za1 (0 : Int32) h3 n0 O3 ) e3 N0 (W := 2) (by decide) (by decide) (by decide) (by decide) (g := (mkF m 45 #[.val (.ref p0), .val (.int (1 : Int32)), .val (.ref b2), .val (.ref b3), .val (.int za1), .val (.int (0 : Int32))] [(.int (0 : Int32)), (.int za1), (.int (0 : Int32)), (.ref b2)])) rfl (by rw [hml]; rfl) (argsL := [(.int za1), (.int (0 : Int32))]) (rest := [(.int (0 : Int32)), (.ref b2)]) (lenOf pd_rmt1_0 rfl) rfl (by show 2 * 0 + _ ≤ _; exact Nat.le_of_eq rfl) (hb hby d1_45)
  have c13 : Arv Z h3 b2 k2 .int (1 : Int32) [(.int (0 : Int32))] (.int (0 : Int32)) := (V2.ext E3)
  obtain ⟨cla14, Ara14, qa14, Sa14, Za14, Ha14, Ga14⟩ := id c13
  have hin15 : ¬ ((0 : Int32) < 0 ∨ cla14.slots.size ≤ ((0 : Int32)).toNatClampNeg) := inb_of Sa14 ⟨by decide, by decide⟩
  obtain ⟨T16, h16, X16, e16, W16, st16⟩ := stI X12 hx hZ e12 Ara14 (j := (0 : Int32)) hin15 (g := (mkF m 48 #[.val (.ref p0), .val (.int (1 : Int32)), .val (.ref b2), .val (.ref b3), .val (.int za1), .val (.int (0 : Int32))] [(.int (own_max za1 (0 : Int32))), (.int (0 : Int32)), (.ref b2)])) rfl rfl (hb hby d1_48)
  have O16 := O3.wr W16 g_b2
  have K16 : Keep h0 h16 [] := K3.wr W16 (Or.inr sz_b2)
  have N16 := Fr.snoc X16 N12 g_b2
  have V16 : Arv Z h16 b2 k2 .int (1 : Int32) [(.int (own_max za1 (0 : Int32)))] (.int (0 : Int32)) := Arv.set Ara14 qa14 Sa14 Za14 Ha14 Ga14 rfl W16 0 rfl (Nat.le_of_ble_eq_true rfl)
  have c17 : Arv Z h16 p0 kz .boolean (1 : Int32) [(.int y0)] (.int (0 : Int32)) := (c5.other W16 ne_p0_b2)
  obtain ⟨cla18, Ara18, qa18, Sa18, Za18, Ha18, Ga18⟩ := id c17
  have hin19 : ¬ ((0 : Int32) < 0 ∨ cla18.slots.size ≤ ((0 : Int32)).toNatClampNeg) := inb_of Sa18 ⟨by decide, by decide⟩
  have hat20 : cla18.slots[((0 : Int32)).toNatClampNeg]? = some (.int y0) := Has.at Ha18 hin19 rfl
  have s21 : Steps p.tables e below A₀ (T16.setTop (mkF m 72 #[.val (.ref p0), .val (.int (1 : Int32)), .val (.ref b2), .val (.ref b3), .val (.int (-1 : Int32)), .val (.int (0 : Int32))] [(.int y0)])) := by
    refine s11.trans ?_
    refine XS.istore X3.here hx rfl (hb hby d1_37) rfl (l' := #[.val (.ref p0), .val (.int (1 : Int32)), .val (.ref b2), .val (.ref b3), .val (.int za1), .val (.int (0 : Int32))]) rfl ?_
    show Steps p.tables e below (T3.setTop (mkF m 39 #[.val (.ref p0), .val (.int (1 : Int32)), .val (.ref b2), .val (.ref b3), .val (.int za1), .val (.int (0 : Int32))] [])) _
    refine XS.aloadN X3.here hx rfl (hb hby d1_39) rfl rfl ?_
    refine XS.iload X3.here hx rfl (hb hby d1_40) rfl ?_
    refine XS.iload X3.here hx rfl (hb hby d1_42) rfl ?_
    refine XS.iconst X3.here hx rfl (hb hby d1_44) ?_
    refine st12 _ ?_
    refine st16 _ ?_
    show Steps p.tables e below (T16.setTop (mkF m 49 #[.val (.ref p0), .val (.int (1 : Int32)), .val (.ref b2), .val (.ref b3), .val (.int za1), .val (.int (0 : Int32))] [])) _
    refine XS.iinc X16.here hx rfl (hb hby d1_49) rfl (l' := #[.val (.ref p0), .val (.int (1 : Int32)), .val (.ref b2), .val (.ref b3), .val (.int za1), .val (.int (1 : Int32))]) rfl ?_
    refine XS.goto X16.here hx rfl (pc0 := 52) (pc' := 17) rfl (hb hby d1_52) (by decide) (by decide) ?_
    refine XS.iload X16.here hx rfl (hb hby d1_17) rfl ?_
    refine XS.iloadN X16.here hx rfl (hb hby d1_19) rfl ?_
    refine XS.icmpYes X16.here hx rfl (pc0 := 20) (pc' := 55) rfl (hb hby d1_20) rfl (flt (by decide)).2.1 (by decide) (by decide) ?_
    refine XS.iconst X16.here hx rfl (hb hby d1_55) ?_
    show Steps p.tables e below (T16.setTop (mkF m 56 #[.val (.ref p0), .val (.int (1 : Int32)), .val (.ref b2), .val (.ref b3), .val (.int za1), .val (.int (1 : Int32))] [(.int (-1 : Int32))])) _
    refine XS.istore X16.here hx rfl (hb hby d1_56) rfl (l' := #[.val (.ref p0), .val (.int (1 : Int32)), .val (.ref b2), .val (.ref b3), .val (.int (-1 : Int32)), .val (.int (1 : Int32))]) rfl ?_
    refine XS.iloadN X16.here hx rfl (hb hby d1_58) rfl ?_
    refine XS.iconst X16.here hx rfl (hb hby d1_59) ?_
    refine XS.isub X16.here hx rfl (hb hby d1_60) rfl ?_
    refine XS.istore X16.here hx rfl (hb hby d1_61) rfl (l' := #[.val (.ref p0), .val (.int (1 : Int32)), .val (.ref b2), .val (.ref b3), .val (.int (-1 : Int32)), .val (.int (0 : Int32))]) rfl ?_
    refine XS.iload X16.here hx rfl (hb hby d1_63) rfl ?_
    show Steps p.tables e below (T16.setTop (mkF m 65 #[.val (.ref p0), .val (.int (1 : Int32)), .val (.ref b2), .val (.ref b3), .val (.int (-1 : Int32)), .val (.int (0 : Int32))] [(.int (0 : Int32))])) _
    refine XS.ifNo X16.here hx rfl (hb hby d1_65) rfl ((if0 _ _).trans (flt (by decide)).1) ?_
    refine XS.aloadN X16.here hx rfl (hb hby d1_68) rfl rfl ?_
    refine XS.iload X16.here hx rfl (hb hby d1_69) rfl ?_
    refine X16.baloadBooleans hx (j := (0 : Int32)) (v := (.int y0)) (by rw [e16]; exact Ara18.1) (State.isArrayOf_alike hZ.alike Ara18.2.1) Ara18.2.2 hin19 hat20 (g := (mkF m 71 #[.val (.ref p0), .val (.int (1 : Int32)), .val (.ref b2), .val (.ref b3), .val (.int (-1 : Int32)), .val (.int (0 : Int32))] [(.int (0 : Int32)), (.ref p0)])) rfl rfl (hb hby d1_71) _ ?_
    exact Steps.refl _
  have s23 : Steps p.tables e below A₀ (T16.setTop (mkF m 82 #[.val (.ref p0), .val (.int (1 : Int32)), .val (.ref b2), .val (.ref b3), .val (.int (-1 : Int32)), .val (.int (0 : Int32))] [(.int (if y0 = (0 : Int32) then (0 : Int32) else (-1 : Int32)))])) := by
    by_cases hm22 : y0 = (0 : Int32)
    · simp only [if_pos hm22]
      refine s21.trans ?_
      refine XS.ifYes X16.here hx rfl (pc0 := 72) (pc' := 80) rfl (hb hby d1_72) rfl ((if0 _ _).trans (teq hm22).1) (by decide) (by decide) ?_
      show Steps p.tables e below (T16.setTop (mkF m 80 #[.val (.ref p0), .val (.int (1 : Int32)), .val (.ref b2), .val (.ref b3), .val (.int (-1 : Int32)), .val (.int (0 : Int32))] [])) _
      refine XS.iload X16.here hx rfl (hb hby d1_80) rfl ?_
      exact Steps.refl _
    · simp only [if_neg hm22]
      refine s21.trans ?_
      refine XS.ifNo X16.here hx rfl (hb hby d1_72) rfl ((if0 _ _).trans (feq hm22).1) ?_
      show Steps p.tables e below (T16.setTop (mkF m 75 #[.val (.ref p0), .val (.int (1 : Int32)), .val (.ref b2), .val (.ref b3), .val (.int (-1 : Int32)), .val (.int (0 : Int32))] [])) _
      refine XS.iload X16.here hx rfl (hb hby d1_75) rfl ?_
      refine XS.goto X16.here hx rfl (pc0 := 77) (pc' := 82) rfl (hb hby d1_77) (by decide) (by decide) ?_
      exact Steps.refl _
  obtain ⟨zb2, hzb2⟩ : ∃ z, z = (if y0 = (0 : Int32) then (0 : Int32) else (-1 : Int32)) := ⟨_, rfl⟩
  rw [← hzb2] at s23
  have s24 : Steps p.tables e below A₀ (T16.setTop (mkF m 89 #[.val (.ref p0), .val (.int (1 : Int32)), .val (.ref b2), .val (.ref b3), .val (.int zb2), .val (.int (0 : Int32))] [(.int zb2), (.int (0 : Int32)), (.ref b3)])) := by
    refine s23.trans ?_
    refine XS.istore X16.here hx rfl (hb hby d1_82) rfl (l' := #[.val (.ref p0), .val (.int (1 : Int32)), .val (.ref b2), .val (.ref b3), .val (.int zb2), .val (.int (0 : Int32))]) rfl ?_
    show Steps p.tables e below (T16.setTop (mkF m 84 #[.val (.ref p0), .val (.int (1 : Int32)), .val (.ref b2), .val (.ref b3), .val (.int zb2), .val (.int (0 : Int32))] [])) _
    refine XS.aloadN X16.here hx rfl (hb hby d1_84) rfl rfl ?_
    refine XS.iload X16.here hx rfl (hb hby d1_85) rfl ?_
    refine XS.iload X16.here hx rfl (hb hby d1_87) rfl ?_
    exact Steps.refl _
  have s26 : Steps p.tables e below A₀ (T16.setTop (mkF m 100 #[.val (.ref p0), .val (.int (1 : Int32)), .val (.ref b2), .val (.ref b3), .val (.int zb2), .val (.int (0 : Int32))] [(.int (if zb2 < (0 : Int32) then (0 : Int32) else zb2)), (.int (0 : Int32)), (.ref b3)])) := by
    by_cases hm25 : zb2 < (0 : Int32)
    · simp only [if_pos hm25]
      refine s24.trans ?_
      refine XS.ifNo X16.here hx rfl (hb hby d1_89) rfl ((if0 _ _).trans (tlt hm25).2.1) ?_
      show Steps p.tables e below (T16.setTop (mkF m 92 #[.val (.ref p0), .val (.int (1 : Int32)), .val (.ref b2), .val (.ref b3), .val (.int zb2), .val (.int (0 : Int32))] [(.int (0 : Int32)), (.ref b3)])) _
      refine XS.iloadN X16.here hx rfl (hb hby d1_92) rfl ?_
      refine XS.iconst X16.here hx rfl (hb hby d1_93) ?_
      refine XS.isub X16.here hx rfl (hb hby d1_94) rfl ?_
      refine XS.goto X16.here hx rfl (pc0 := 95) (pc' := 100) rfl (hb hby d1_95) (by decide) (by decide) ?_
      exact Steps.refl _
    · simp only [if_neg hm25]
      refine s24.trans ?_
      refine XS.ifYes X16.here hx rfl (pc0 := 89) (pc' := 98) rfl (hb hby d1_89) rfl ((if0 _ _).trans (flt hm25).2.1) (by decide) (by decide) ?_
      show Steps p.tables e below (T16.setTop (mkF m 98 #[.val (.ref p0), .val (.int (1 : Int32)), .val (.ref b2), .val (.ref b3), .val (.int zb2), .val (.int (0 : Int32))] [(.int (0 : Int32)), (.ref b3)])) _
      refine XS.iload X16.here hx rfl (hb hby d1_98) rfl ?_
      exact Steps.refl _
  obtain ⟨zc3, hzc3⟩ : ∃ z, z = (if zb2 < (0 : Int32) then (0 : Int32) else zb2) := ⟨_, rfl⟩
  rw [← hzc3] at s26
  have c27 : Arv Z h16 b3 k3 .int (1 : Int32) [(.int (0 : Int32))] (.int (0 : Int32)) := (V3.other W16 (Ne.symm ne_b2_b3))
  obtain ⟨cla28, Ara28, qa28, Sa28, Za28, Ha28, Ga28⟩ := id c27
  have hin29 : ¬ ((0 : Int32) < 0 ∨ cla28.slots.size ≤ ((0 : Int32)).toNatClampNeg) := inb_of Sa28 ⟨by decide, by decide⟩
  obtain ⟨T30, h30, X30, e30, W30, st30⟩ := stI X16 hx hZ e16 Ara28 (j := (0 : Int32)) hin29 (g := (mkF m 100 #[.val (.ref p0), .val (.int (1 : Int32)), .val (.ref b2), .val (.ref b3), .val (.int zb2), .val (.int (0 : Int32))] [(.int zc3), (.int (0 : Int32)), (.ref b3)])) rfl rfl (hb hby d1_100)
  have O30 := O16.wr W30 g_b3
  have K30 : Keep h0 h30 [] := K16.wr W30 (Or.inr sz_b3)
  have N30 := Fr.snoc X30 N16 g_b3
  have V30 : Arv Z h30 b3 k3 .int (1 : Int32) [(.int zc3)] (.int (0 : Int32)) := Arv.set Ara28 qa28 Sa28 Za28 Ha28 Ga28 rfl W30 0 rfl (Nat.le_of_ble_eq_true rfl)
  have s31 : Steps p.tables e below A₀ (T30.setTop (mkF m 109 #[.val (.ref p0), .val (.int (1 : Int32)), .val (.ref b2), .val (.ref b3), .val (.int zb2), .val (.int (-1 : Int32))] [(.int zb2)])) := by
    refine s26.trans ?_
    refine st30 _ ?_
    show Steps p.tables e below (T30.setTop (mkF m 101 #[.val (.ref p0), .val (.int (1 : Int32)), .val (.ref b2), .val (.ref b3), .val (.int zb2), .val (.int (0 : Int32))] [])) _
    refine XS.iinc X30.here hx rfl (hb hby d1_101) rfl (l' := #[.val (.ref p0), .val (.int (1 : Int32)), .val (.ref b2), .val (.ref b3), .val (.int zb2), .val (.int (-1 : Int32))]) rfl ?_
    refine XS.goto X30.here hx rfl (pc0 := 104) (pc' := 63) rfl (hb hby d1_104) (by decide) (by decide) ?_
    refine XS.iload X30.here hx rfl (hb hby d1_63) rfl ?_
    refine XS.ifYes X30.here hx rfl (pc0 := 65) (pc' := 107) rfl (hb hby d1_65) rfl ((if0 _ _).trans (tlt (by decide)).1) (by decide) (by decide) ?_
    refine XS.iload X30.here hx rfl (hb hby d1_107) rfl ?_
    exact Steps.refl _
  obtain ⟨T37, h37, L37, X37, e37, O37, N37, K37, f37_0, f37_1, f37_2, s37⟩ : ∃ (T : State) (h : Heap) (L : List Loc), (Stand p l e ({ frames := 2, cells := 3, slots := 4, locals := 27 } : Room) s m #[(.ref p0)] below meth c T L 2 2) ∧ (T.heap = h) ∧ (Old Z n0 h) ∧ (Fr n0 L) ∧ (Keep h0 h []) ∧ (Arv Z h p0 kz .boolean (1 : Int32) [(.int y0)] (.int (0 : Int32))) ∧ (Arv Z h b3 k3 .int (1 : Int32) [(.int zc3)] (.int (0 : Int32))) ∧ (Arv Z h b2 k2 .int (1 : Int32) [(.int (if zb2 < (0 : Int32) then (-1 : Int32) else (own_max za1 (0 : Int32))))] (.int (0 : Int32))) ∧ (Steps p.tables e below A₀ (T.setTop (mkF m 117 #[.val (.ref p0), .val (.int (1 : Int32)), .val (.ref b2), .val (.ref b3), .val (.int zb2), .val (.int (-1 : Int32))] []))) := by
    by_cases hc32 : zb2 < (0 : Int32)
    · have c33 : Arv Z h30 b2 k2 .int (1 : Int32) [(.int (own_max za1 (0 : Int32)))] (.int (0 : Int32)) := (V16.other W30 ne_b2_b3)
      obtain ⟨_, _, ⟨T34, L34, k34, n34⟩, -, X34, ⟨Lc34, hQ34, l34, y34, z34⟩, st34⟩ := Jvm.LawKit.callS X30 hx (y := (⟨"java/util/Arrays", "fill", "([II)V"⟩ : MethodName)) hown (mvT hZ (hw _ (List.mem_of_getElem? (i := 51) rfl))) (mvT hZ (hw _ (List.mem_of_getElem? (i := 52) rfl))) (mvT hZ (hw _ (List.mem_of_getElem? (i := 53) rfl))) (mvT hZ (hw _ (List.mem_of_getElem? (i := 54) rfl))) (by decide) (backOf (W := 0) (rmfill1 l Z a0 hw [] b2 k2 (own_max za1 (0 : Int32)) h30 n0 O30 c33 g_b2) hZ (hw _ (List.mem_of_getElem? (i := 54) rfl)) (hw _ (List.mem_of_getElem? (i := 53) rfl)) (by decide) (by decide)) (g := (mkF m 114 #[.val (.ref p0), .val (.int (1 : Int32)), .val (.ref b2), .val (.ref b3), .val (.int zb2), .val (.int (-1 : Int32))] [(.int (-1 : Int32)), (.ref b2)])) rfl (by rw [hml]; rfl) (argsL := [(.ref b2), (.int (-1 : Int32))]) (rest := []) (lenOf pd_rmt1_1 rfl) rfl (by show 2 * 0 + _ ≤ _; exact Nat.le_of_eq rfl) (hb hby d1_114) (fun _ _ => ⟨rfl, e30, (by decide : 2 + 0 ≤ _), (by decide : 2 + 0 ≤ _)⟩)
      dsimp only [Pt.U, Pt.locs, Pt.cells, Pt.slots] at X34 l34 y34 z34 st34 hQ34
      subst l34 y34 z34
      obtain ⟨rfl, Nq34, Kc34, f34_0⟩ := hQ34
      have N34 := Fr.app N30 Nq34
      have K34 : Keep h0 T34.heap [] := K30.trans Kc34 (allS (Or.inr sz_b2) all0)
      have O34 := O30.keep Kc34 (allS g_b2 all0)
      have s35 : Steps p.tables e below A₀ (T34.setTop (mkF m 117 #[.val (.ref p0), .val (.int (1 : Int32)), .val (.ref b2), .val (.ref b3), .val (.int zb2), .val (.int (-1 : Int32))] [])) := by
        refine s31.trans ?_
        refine XS.ifNo X30.here hx rfl (hb hby d1_109) rfl ((if0 _ _).trans (tlt hc32).2.1) ?_
        show Steps p.tables e below (T30.setTop (mkF m 112 #[.val (.ref p0), .val (.int (1 : Int32)), .val (.ref b2), .val (.ref b3), .val (.int zb2), .val (.int (-1 : Int32))] [])) _
        refine XS.aloadN X30.here hx rfl (hb hby d1_112) rfl rfl ?_
        refine XS.iconst X30.here hx rfl (hb hby d1_113) ?_
        refine st34 _ ?_
        exact Steps.refl _
      have c38 : Arv Z T34.heap p0 kz .boolean (1 : Int32) [(.int y0)] (.int (0 : Int32)) := ((c17.other W30 ne_p0_b3).keep Kc34 (ninS ne_p0_b2 nin0))
      have c39 : Arv Z T34.heap b3 k3 .int (1 : Int32) [(.int zc3)] (.int (0 : Int32)) := (V30.keep Kc34 (ninS (Ne.symm ne_b2_b3) nin0))
      simp only [if_pos hc32]
      exact ⟨T34, T34.heap, _, X34, (rfl : T34.heap = T34.heap), O34, N34, K34, c38, c39, f34_0, s35⟩
    · have s36 : Steps p.tables e below A₀ (T30.setTop (mkF m 117 #[.val (.ref p0), .val (.int (1 : Int32)), .val (.ref b2), .val (.ref b3), .val (.int zb2), .val (.int (-1 : Int32))] [])) := by
        refine s31.trans ?_
        refine XS.ifYes X30.here hx rfl (pc0 := 109) (pc' := 117) rfl (hb hby d1_109) rfl ((if0 _ _).trans (flt hc32).2.1) (by decide) (by decide) ?_
        exact Steps.refl _
      have c40 : Arv Z h30 p0 kz .boolean (1 : Int32) [(.int y0)] (.int (0 : Int32)) := (c17.other W30 ne_p0_b3)
      have c41 : Arv Z h30 b2 k2 .int (1 : Int32) [(.int (own_max za1 (0 : Int32)))] (.int (0 : Int32)) := (V16.other W30 ne_b2_b3)
      simp only [if_neg hc32]
      exact ⟨T30, h30, _, X30, e30, O30, N30, K30, c40, V30, c41, s36⟩
  obtain ⟨z42, hz42⟩ : ∃ z, z = (if zb2 < (0 : Int32) then (-1 : Int32) else (own_max za1 (0 : Int32))) := ⟨_, rfl⟩
  rw [← hz42] at f37_2
  obtain ⟨T43, h43, X43, e43, E43, A43, D43, -, st43⟩ := newO X37 hx hZ hown (hw _ (List.mem_of_getElem? (i := 11) rfl)) (hw _ (List.mem_of_getElem? (i := 12) rfl)) (hw _ (List.mem_of_getElem? (i := 13) rfl)) e37 (g := (mkF m 117 #[.val (.ref p0), .val (.int (1 : Int32)), .val (.ref b2), .val (.ref b3), .val (.int zb2), .val (.int (-1 : Int32))] [])) rfl (hb hby d1_117) (by decide) (by decide)
  obtain ⟨b43, g43⟩ : ∃ z, z = h37.size := ⟨_, rfl⟩
  rw [← g43] at A43 D43 st43
  have ne_p0_b43 : p0 ≠ b43 := Nat.ne_of_lt (Nat.lt_of_lt_of_le f37_0.lt (Nat.le_of_eq g43.symm))
  have ne_b2_b43 : b2 ≠ b43 := Nat.ne_of_lt (Nat.lt_of_lt_of_le f37_2.lt (Nat.le_of_eq g43.symm))
  have ne_b3_b43 : b3 ≠ b43 := Nat.ne_of_lt (Nat.lt_of_lt_of_le f37_1.lt (Nat.le_of_eq g43.symm))
  have g_b43 : n0 ≤ b43 := Nat.le_trans (Nat.le_of_eq O37.1.symm) (Nat.le_trans O37.2.1 (Nat.le_of_eq g43.symm))
  have sz_b43 : h0.size ≤ b43 := Nat.le_trans K37.1 (Nat.le_of_eq g43.symm)
  have O43 := O37.ext E43
  have K43 : Keep h0 h43 [] := K37.ext E43
  have F43_val_from : Fld Z h43 b43 "com/example/libprox/libprox/Cpe$1" "val$from" "[I" .null := D43 (Or.inr (hw _ (List.mem_of_getElem? (i := 18) rfl))) (ty := (.array .int)) (by decide)
  have F43_val_to : Fld Z h43 b43 "com/example/libprox/libprox/Cpe$1" "val$to" "[I" .null := D43 (Or.inr (hw _ (List.mem_of_getElem? (i := 20) rfl))) (ty := (.array .int)) (by decide)
  obtain ⟨_, _, ⟨T44, L44, k44, n44⟩, -, X44, ⟨Lc44, hQ44, l44, y44, z44⟩, st44⟩ := X43.specialBack hx (y := (⟨"com/example/libprox/libprox/Cpe$1", "<init>", "([I[I)V"⟩ : MethodName)) rfl hown (mvT hZ (hw _ (List.mem_of_getElem? (i := 14) rfl))) (mvT hZ (hw _ (List.mem_of_getElem? (i := 15) rfl))) (mvT hZ (hw _ (List.mem_of_getElem? (i := 16) rfl))) (by decide) (backOf (W := 1) (rm3 l Z a0 hw [] b43 b2 b3 h43 n0 O43 A43 F43_val_from F43_val_to g_b43) hZ (hw _ (List.mem_of_getElem? (i := 16) rfl)) (hw _ (List.mem_of_getElem? (i := 13) rfl)) (by decide) (by decide)) (g := (mkF m 123 #[.val (.ref p0), .val (.int (1 : Int32)), .val (.ref b2), .val (.ref b3), .val (.int zb2), .val (.int (-1 : Int32))] [(.ref b3), (.ref b2), (.ref b43), (.ref b43)])) rfl (by rw [hml]; rfl) (Steps.refl _) (a := b43) (argsL := [(.ref b2), (.ref b3)]) (rest := [(.ref b43)]) (lenOf pd_rmt1_2 rfl) rfl (by show 2 * 0 + _ ≤ _; exact Nat.le_of_eq rfl) (hb hby d1_123) (fun _ _ => ⟨rfl, e43, (by decide : 3 + 0 ≤ _), (by decide : 4 + 0 ≤ _)⟩)
  dsimp only [Pt.U, Pt.locs, Pt.cells, Pt.slots] at X44 l44 y44 z44 st44 hQ44
  subst l44 y44 z44
  obtain ⟨rfl, Nq44, Kc44, f44_0, f44_1, f44_2⟩ := hQ44
  have N44 := Fr.app N37 Nq44
  have K44 : Keep h0 T44.heap [] := K43.trans Kc44 (allS (Or.inr sz_b43) all0)
  have O44 := O43.keep Kc44 (allS g_b43 all0)
  have s45 : Steps p.tables e below A₀ (T44.setTop (mkF m 126 #[.val (.ref p0), .val (.int (1 : Int32)), .val (.ref b2), .val (.ref b3), .val (.int zb2), .val (.int (-1 : Int32))] [(.ref b43)])) := by
    refine s37.trans ?_
    refine st43 _ ?_
    show Steps p.tables e below (T43.setTop (mkF m 120 #[.val (.ref p0), .val (.int (1 : Int32)), .val (.ref b2), .val (.ref b3), .val (.int zb2), .val (.int (-1 : Int32))] [(.ref b43)])) _
    refine XS.dup X43.here hx rfl (hb hby d1_120) rfl rfl ?_
    refine XS.aloadN X43.here hx rfl (hb hby d1_121) rfl rfl ?_
    refine XS.aloadN X43.here hx rfl (hb hby d1_122) rfl rfl ?_
    refine st44.trans ?_
    exact Steps.refl _
  have c46 : Arv Z T44.heap b2 k2 .int (1 : Int32) [(.int z42)] (.int (0 : Int32)) := ((f37_2.ext E43).keep Kc44 (ninS ne_b2_b43 nin0))
  have VrF := c46
  have EF0 := (own_rmt1_1 y0 za1 zb2 z42 hz42 hza1 hzb2)
  rw [EF0] at VrF
  have c47 : Arv Z T44.heap b3 k3 .int (1 : Int32) [(.int zc3)] (.int (0 : Int32)) := ((f37_1.ext E43).keep Kc44 (ninS ne_b3_b43 nin0))
  have VrT := c47
  have ET0 := (own_rmt1_2 y0 zb2 zc3 hzc3 hzb2)
  rw [ET0] at VrT
  subst hA₀
  obtain ⟨fs, hr, hrun, hended, hW, hsame⟩ := X44.leave (v := some (.ref b43)) (fun h => by rw [Bd.returns] at h; cases h)
  refine ⟨_, _, s45.trans ?_, hrun, hended, _, _, rfl, ?_, ⟨_, rfl⟩, hW, hsame.mono (by decide) (by decide)⟩
  · show Steps p.tables e below (T44.setTop (mkF m 126 #[.val (.ref p0), .val (.int (1 : Int32)), .val (.ref b2), .val (.ref b3), .val (.int zb2), .val (.int (-1 : Int32))] [(.ref b43)])) _
    jvm_step X44.here [X44.here.top, hx, (hb hby d1_126), X44.method', Bd.returns, Value.isRef, FieldType.isReference]
    first | (intro acts; rw [hr _ acts rfl rfl rfl]) | rw [hr _ _ rfl rfl rfl]
    exact Steps.refl _
  · show Qt1 Z p0 kz y0 h0 n0 _ T44.heap _
    exact ⟨b43, b2, b3, k2, k3, rfl, N44, K44, f44_0, f44_1, f44_2, VrF, VrT⟩
theorem ef_rmfill2 (m : MethodId) (p0 : Addr) : entryFrame m #[(.ref p0), (.int (-1 : Int32))] 4 = mkF m 0 #[.val (.ref p0), .val (.int (-1 : Int32)), .unset, .unset] [] := by first | (simp [entryFrame, mkF, argsToLocals, Value.category]; done) | rfl
def Qfill2 (Z : State) (p0 : Addr) (k1 : ClassId) (x0 : Int32) (x1 : Int32) (h0 : Heap) (n0 : Nat) (v : Option Value) (h : Heap) (L : List Loc) : Prop := v = none ∧ Fr n0 L ∧ Keep h0 h [p0] ∧ (Arv Z h p0 k1 .int (2 : Int32) [(.int (-1 : Int32)), (.int (-1 : Int32))] (.int (0 : Int32)))
set_option maxRecDepth 65536 in
set_option maxHeartbeats 40000000 in
theorem rmfill2 (l : Launch) (Z : State) (a0 : Array Value) (hw : ∀ d ∈ tables_1, d.before a0 Z = true) (ws : List Jvm.Cond) (p0 : Addr) (k1 : ClassId) (x0 : Int32) (x1 : Int32) (h0 : Heap) (n0 : Nat) (O0 : Old Z n0 h0) (F0_ : Arv Z h0 p0 k1 .int (2 : Int32) [(.int x0), (.int x1)] (.int (0 : Int32))) (F1_ : n0 ≤ p0) :
    MetFree l nm7 (head1 (Jvm.Cond.code nm7 jdk_65_method_103_code 4 none :: ws) ({ frames := 0, cells := 0, slots := 0, locals := 0 } : Room)) (fun a U => a = #[(.ref p0), (.int (-1 : Int32))] ∧ Z.Warmed39 U.vm ∧ U.heap = h0) (fun _ _ _ _ _ => True) (fun _ U o U' => ∃ v L, o = .returned v ∧ Qfill2 Z p0 k1 x0 x1 h0 n0 v U'.heap L ∧ FrameEnd U o U' L ({ frames := 0, cells := 0, slots := 0, locals := 0 } : Room).cells ({ frames := 0, cells := 0, slots := 0, locals := 0 } : Room).slots) := by
  refine MetFree.of_bodySF (plainFor_of_name pn_10) hisR ?_
  intro p e s m args below meth c s₁ Bd hml0 hP hK
  obtain ⟨rfl, hZ, hh⟩ := hP
  have hx := Bd.exec
  have hby := Bd.bytes
  have hml : c.maxLocals = 4 := hml0
  have hown : s.vm.findClass "java/util/Arrays" = some m.cls := findClass_of_methodNamed Bd.named
  have hnm := (name_of_methodNamed Bd.named Bd.method).1
  have X0 : Stand p l e ({ frames := 0, cells := 0, slots := 0, locals := 0 } : Room) s m #[(.ref p0), (.int (-1 : Int32))] below meth c s₁ [] 0 0 := Stand.of_body Bd
  have e0 : s₁.heap = h0 := by rw [← hh, Bd.state]; rfl
  have N0 := Fr.nil n0
  have s0 : Steps p.tables e below (s₁.setTop (entryFrame m #[(.ref p0), (.int (-1 : Int32))] 4)) (s₁.setTop (mkF m 0 #[.val (.ref p0), .val (.int (-1 : Int32)), .unset, .unset] [])) := castTop (ef_rmfill2 m p0) (Steps.refl _)
  obtain ⟨A₀, hA₀⟩ : ∃ z, z = (s₁.setTop (entryFrame m #[(.ref p0), (.int (-1 : Int32))] 4)) := ⟨_, rfl⟩
  rw [← hA₀] at s0
  obtain ⟨cla1, Ara1, qa1, Sa1, Za1, Ha1, Ga1⟩ := id F0_
  have hin2 : ¬ ((0 : Int32) < 0 ∨ cla1.slots.size ≤ ((0 : Int32)).toNatClampNeg) := inb_of Sa1 ⟨by decide, by decide⟩
  obtain ⟨T3, h3, X3, e3, W3, st3⟩ := stI X0 hx hZ e0 Ara1 (j := (0 : Int32)) hin2 (g := (mkF m 13 #[.val (.ref p0), .val (.int (-1 : Int32)), .val (.int (0 : Int32)), .val (.int (2 : Int32))] [(.int (-1 : Int32)), (.int (0 : Int32)), (.ref p0)])) rfl rfl (hb hby d10_13)
  have O3 := O0.wr W3 F1_
  have K3 : Keep h0 h3 [p0] := (Keep.refl h0 [p0]).wr W3 (Or.inl (List.mem_of_getElem? (i := 0) rfl))
  have N3 := Fr.snoc X3 N0 F1_
  have V3 : Arv Z h3 p0 k1 .int (2 : Int32) [(.int (-1 : Int32)), (.int x1)] (.int (0 : Int32)) := Arv.set Ara1 qa1 Sa1 Za1 Ha1 Ga1 rfl W3 0 rfl (Nat.le_of_ble_eq_true rfl)
  obtain ⟨cla4, Ara4, qa4, Sa4, Za4, Ha4, Ga4⟩ := id V3
  have hin5 : ¬ ((1 : Int32) < 0 ∨ cla4.slots.size ≤ ((1 : Int32)).toNatClampNeg) := inb_of Sa4 ⟨by decide, by decide⟩
  obtain ⟨T6, h6, X6, e6, W6, st6⟩ := stI X3 hx hZ e3 Ara4 (j := (1 : Int32)) hin5 (g := (mkF m 13 #[.val (.ref p0), .val (.int (-1 : Int32)), .val (.int (1 : Int32)), .val (.int (2 : Int32))] [(.int (-1 : Int32)), (.int (1 : Int32)), (.ref p0)])) rfl rfl (hb hby d10_13)
  have O6 := O3.wr W6 F1_
  have K6 : Keep h0 h6 [p0] := K3.wr W6 (Or.inl (List.mem_of_getElem? (i := 0) rfl))
  have N6 := Fr.snoc X6 N3 F1_
  have V6 : Arv Z h6 p0 k1 .int (2 : Int32) [(.int (-1 : Int32)), (.int (-1 : Int32))] (.int (0 : Int32)) := Arv.set Ara4 qa4 Sa4 Za4 Ha4 Ga4 rfl W6 1 rfl (Nat.le_of_ble_eq_true rfl)
  have s7 : Steps p.tables e below A₀ (T6.setTop (mkF m 20 #[.val (.ref p0), .val (.int (-1 : Int32)), .val (.int (2 : Int32)), .val (.int (2 : Int32))] [])) := by
    refine s0.trans ?_
    refine XS.iconst X0.here hx rfl (hb hby d10_0) ?_
    show Steps p.tables e below (s₁.setTop (mkF m 1 #[.val (.ref p0), .val (.int (-1 : Int32)), .unset, .unset] [(.int (0 : Int32))])) _
    refine XS.istoreN X0.here hx rfl (hb hby d10_1) rfl (l' := #[.val (.ref p0), .val (.int (-1 : Int32)), .val (.int (0 : Int32)), .unset]) rfl ?_
    refine XS.aloadN X0.here hx rfl (hb hby d10_2) rfl rfl ?_
    refine X0.arraylength hx (by rw [e0]; exact Ara1.1) (State.isArrayOf_alike hZ.alike Ara1.2.1) (g := (mkF m 3 #[.val (.ref p0), .val (.int (-1 : Int32)), .val (.int (0 : Int32)), .unset] [(.ref p0)])) rfl rfl (hb hby d10_3) _ ?_
    rw [len_of Sa1 Za1]
    show Steps p.tables e below (s₁.setTop (mkF m 4 #[.val (.ref p0), .val (.int (-1 : Int32)), .val (.int (0 : Int32)), .unset] [(.int (2 : Int32))])) _
    refine XS.istoreN X0.here hx rfl (hb hby d10_4) rfl (l' := #[.val (.ref p0), .val (.int (-1 : Int32)), .val (.int (0 : Int32)), .val (.int (2 : Int32))]) rfl ?_
    refine XS.iloadN X0.here hx rfl (hb hby d10_5) rfl ?_
    refine XS.iloadN X0.here hx rfl (hb hby d10_6) rfl ?_
    refine XS.icmpNo X0.here hx rfl (hb hby d10_7) rfl (tlt (by decide)).2.1 ?_
    refine XS.aloadN X0.here hx rfl (hb hby d10_10) rfl rfl ?_
    refine XS.iloadN X0.here hx rfl (hb hby d10_11) rfl ?_
    show Steps p.tables e below (s₁.setTop (mkF m 12 #[.val (.ref p0), .val (.int (-1 : Int32)), .val (.int (0 : Int32)), .val (.int (2 : Int32))] [(.int (0 : Int32)), (.ref p0)])) _
    refine XS.iloadN X0.here hx rfl (hb hby d10_12) rfl ?_
    refine st3 _ ?_
    refine XS.iinc X3.here hx rfl (hb hby d10_14) rfl (l' := #[.val (.ref p0), .val (.int (-1 : Int32)), .val (.int (1 : Int32)), .val (.int (2 : Int32))]) rfl ?_
    refine XS.goto X3.here hx rfl (pc0 := 17) (pc' := 5) rfl (hb hby d10_17) (by decide) (by decide) ?_
    refine XS.iloadN X3.here hx rfl (hb hby d10_5) rfl ?_
    refine XS.iloadN X3.here hx rfl (hb hby d10_6) rfl ?_
    show Steps p.tables e below (T3.setTop (mkF m 7 #[.val (.ref p0), .val (.int (-1 : Int32)), .val (.int (1 : Int32)), .val (.int (2 : Int32))] [(.int (2 : Int32)), (.int (1 : Int32))])) _
    refine XS.icmpNo X3.here hx rfl (hb hby d10_7) rfl (tlt (by decide)).2.1 ?_
    refine XS.aloadN X3.here hx rfl (hb hby d10_10) rfl rfl ?_
    refine XS.iloadN X3.here hx rfl (hb hby d10_11) rfl ?_
    refine XS.iloadN X3.here hx rfl (hb hby d10_12) rfl ?_
    refine st6 _ ?_
    refine XS.iinc X6.here hx rfl (hb hby d10_14) rfl (l' := #[.val (.ref p0), .val (.int (-1 : Int32)), .val (.int (2 : Int32)), .val (.int (2 : Int32))]) rfl ?_
    show Steps p.tables e below (T6.setTop (mkF m 17 #[.val (.ref p0), .val (.int (-1 : Int32)), .val (.int (2 : Int32)), .val (.int (2 : Int32))] [])) _
    refine XS.goto X6.here hx rfl (pc0 := 17) (pc' := 5) rfl (hb hby d10_17) (by decide) (by decide) ?_
    refine XS.iloadN X6.here hx rfl (hb hby d10_5) rfl ?_
    refine XS.iloadN X6.here hx rfl (hb hby d10_6) rfl ?_
    refine XS.icmpYes X6.here hx rfl (pc0 := 7) (pc' := 20) rfl (hb hby d10_7) rfl (flt (by decide)).2.1 (by decide) (by decide) ?_
    exact Steps.refl _
  subst hA₀
  obtain ⟨fs, hr, hrun, hended, hW, hsame⟩ := X6.leave (v := none) (fun _ => rfl)
  refine ⟨_, _, s7.trans ?_, hrun, hended, _, _, rfl, ?_, ⟨_, rfl⟩, hW, hsame.mono (by decide) (by decide)⟩
  · show Steps p.tables e below (T6.setTop (mkF m 20 #[.val (.ref p0), .val (.int (-1 : Int32)), .val (.int (2 : Int32)), .val (.int (2 : Int32))] [])) _
    exact X6.returnOut hx Bd.returns (hb hby d10_20) hr
  · show Qfill2 Z p0 k1 x0 x1 h0 n0 _ T6.heap _
    rw [e6]
    exact ⟨rfl, N6, K6, V6⟩
theorem own_rmt2_1 (y0 : Int32) (y1 : Int32) (za1 : Int32) (zb3 : Int32) (zb5 : Int32) (z66 : Int32) (hz66 : z66 = (if zb5 < (0 : Int32) then (-1 : Int32) else (own_max za1 (0 : Int32)))) (hza1 : za1 = (if y0 = (0 : Int32) then (0 : Int32) else (-1 : Int32))) (hzb5 : zb5 = (if y0 = (0 : Int32) then (0 : Int32) else zb3)) (hzb3 : zb3 = (if y1 = (0 : Int32) then (1 : Int32) else (-1 : Int32))) : z66 = (own_F2_0 y0 y1) := by
  unfold own_F2_0
  by_cases qy0 : y0 = (0 : Int32) <;> by_cases qy1 : y1 = (0 : Int32) <;> simp_all [own_max]
theorem own_rmt2_2 (y0 : Int32) (y1 : Int32) (za1 : Int32) (za2 : Int32) (zb3 : Int32) (zb5 : Int32) (z67 : Int32) (hz67 : z67 = (if zb5 < (0 : Int32) then (-1 : Int32) else (own_max za2 (0 : Int32)))) (hza2 : za2 = (if y1 = (0 : Int32) then (1 : Int32) else za1)) (hza1 : za1 = (if y0 = (0 : Int32) then (0 : Int32) else (-1 : Int32))) (hzb5 : zb5 = (if y0 = (0 : Int32) then (0 : Int32) else zb3)) (hzb3 : zb3 = (if y1 = (0 : Int32) then (1 : Int32) else (-1 : Int32))) : z67 = (own_F2_1 y0 y1) := by
  unfold own_F2_1
  by_cases qy0 : y0 = (0 : Int32) <;> by_cases qy1 : y1 = (0 : Int32) <;> simp_all [own_max]
theorem own_rmt2_3 (y0 : Int32) (y1 : Int32) (zb3 : Int32) (zb5 : Int32) (zc6 : Int32) (hzc6 : zc6 = (if zb5 < (0 : Int32) then (1 : Int32) else zb5)) (hzb5 : zb5 = (if y0 = (0 : Int32) then (0 : Int32) else zb3)) (hzb3 : zb3 = (if y1 = (0 : Int32) then (1 : Int32) else (-1 : Int32))) : zc6 = (own_T2_0 y0 y1) := by
  unfold own_T2_0
  by_cases qy0 : y0 = (0 : Int32) <;> by_cases qy1 : y1 = (0 : Int32) <;> simp_all [own_max]
theorem own_rmt2_4 (y0 : Int32) (y1 : Int32) (zb3 : Int32) (zc4 : Int32) (hzc4 : zc4 = (if zb3 < (0 : Int32) then (1 : Int32) else zb3)) (hzb3 : zb3 = (if y1 = (0 : Int32) then (1 : Int32) else (-1 : Int32))) : zc4 = (own_T2_1 y0 y1) := by
  unfold own_T2_1
  by_cases qy0 : y0 = (0 : Int32) <;> by_cases qy1 : y1 = (0 : Int32) <;> simp_all [own_max]
theorem pd_rmt2_0 : parseMethodDescriptor "(II)I" = some ⟨[.int, .int], some .int⟩ := by decide +kernel
theorem pd_rmt2_1 : parseMethodDescriptor "([II)V" = some ⟨[(.array .int), .int], none⟩ := by decide +kernel
theorem pd_rmt2_2 : parseMethodDescriptor "([I[I)V" = some ⟨[(.array .int), (.array .int)], none⟩ := by decide +kernel
theorem ef_rmt2 (m : MethodId) (p0 : Addr) : entryFrame m #[(.ref p0)] 6 = mkF m 0 #[.val (.ref p0), .unset, .unset, .unset, .unset, .unset] [] := by first | (simp [entryFrame, mkF, argsToLocals, Value.category]; done) | rfl
def Qt2 (Z : State) (p0 : Addr) (kz : ClassId) (y0 : Int32) (y1 : Int32) (h0 : Heap) (n0 : Nat) (v : Option Value) (h : Heap) (L : List Loc) : Prop := ∃ b : Addr, ∃ f : Addr, ∃ t : Addr, ∃ kf : ClassId, ∃ kt : ClassId, v = some (.ref b) ∧ Fr n0 L ∧ Keep h0 h [] ∧ (Exa Z h b "com/example/libprox/libprox/Cpe$1") ∧ (Fld Z h b "com/example/libprox/libprox/Cpe$1" "val$from" "[I" (.ref f)) ∧ (Fld Z h b "com/example/libprox/libprox/Cpe$1" "val$to" "[I" (.ref t)) ∧ (Arv Z h f kf .int (2 : Int32) [(.int (own_F2_0 y0 y1)), (.int (own_F2_1 y0 y1))] (.int (0 : Int32))) ∧ (Arv Z h t kt .int (2 : Int32) [(.int (own_T2_0 y0 y1)), (.int (own_T2_1 y0 y1))] (.int (0 : Int32)))
set_option maxRecDepth 65536 in
set_option maxHeartbeats 40000000 in
theorem rmt2 (l : Launch) (Z : State) (a0 : Array Value) (hw : ∀ d ∈ tables_1, d.before a0 Z = true) (ws : List Jvm.Cond) (p0 : Addr) (kz : ClassId) (y0 : Int32) (y1 : Int32) (h0 : Heap) (n0 : Nat) (O0 : Old Z n0 h0) (F0_ : Arv Z h0 p0 kz .boolean (2 : Int32) [(.int y0), (.int y1)] (.int (0 : Int32))) :
    MetFree l nm8 (head1 (Jvm.Cond.code nm8 prog_8_method_5_code 6 (some (.object "com/example/libprox/libprox/Combinations$Rule")) :: ws) ({ frames := 2, cells := 3, slots := 6, locals := 27 } : Room)) (fun a U => a = #[(.ref p0)] ∧ Z.Warmed39 U.vm ∧ U.heap = h0) (fun _ _ _ _ _ => True) (fun _ U o U' => ∃ v L, o = .returned v ∧ Qt2 Z p0 kz y0 y1 h0 n0 v U'.heap L ∧ FrameEnd U o U' L ({ frames := 2, cells := 3, slots := 6, locals := 27 } : Room).cells ({ frames := 2, cells := 3, slots := 6, locals := 27 } : Room).slots) := by
  refine MetFree.of_bodySF (plainFor_of_name pn_1) hisR ?_
  intro p e s m args below meth c s₁ Bd hml0 hP hK
  obtain ⟨rfl, hZ, hh⟩ := hP
  have hx := Bd.exec
  have hby := Bd.bytes
  have hml : c.maxLocals = 6 := hml0
  have hown : s.vm.findClass "com/example/libprox/libprox/Cpe" = some m.cls := findClass_of_methodNamed Bd.named
  have hnm := (name_of_methodNamed Bd.named Bd.method).1
  have X0 : Stand p l e ({ frames := 2, cells := 3, slots := 6, locals := 27 } : Room) s m #[(.ref p0)] below meth c s₁ [] 0 0 := Stand.of_body Bd
  have e0 : s₁.heap = h0 := by rw [← hh, Bd.state]; rfl
  have N0 := Fr.nil n0
  have s0 : Steps p.tables e below (s₁.setTop (entryFrame m #[(.ref p0)] 6)) (s₁.setTop (mkF m 0 #[.val (.ref p0), .unset, .unset, .unset, .unset, .unset] [])) := castTop (ef_rmt2 m p0) (Steps.refl _)
  obtain ⟨A₀, hA₀⟩ : ∃ z, z = (s₁.setTop (entryFrame m #[(.ref p0)] 6)) := ⟨_, rfl⟩
  rw [← hA₀] at s0
  obtain ⟨cla1, Ara1, qa1, Sa1, Za1, Ha1, Ga1⟩ := id F0_
  obtain ⟨T2, h2, k2, X2, e2, E2, A2, st2⟩ := newP X0 hx hZ (hw _ (List.mem_of_getElem? (i := 6) rfl)) e0 (g := (mkF m 4 #[.val (.ref p0), .val (.int (2 : Int32)), .unset, .unset, .unset, .unset] [(.int (2 : Int32))])) rfl (hb hby d1_4) rfl (by decide) (cap := 2) (by decide) (by decide) (by decide) (by decide)
  obtain ⟨b2, g2⟩ : ∃ z, z = h0.size := ⟨_, rfl⟩
  rw [← g2] at A2 st2
  have ne_p0_b2 : p0 ≠ b2 := Nat.ne_of_lt (Nat.lt_of_lt_of_le F0_.lt (Nat.le_of_eq g2.symm))
  have g_b2 : n0 ≤ b2 := Nat.le_trans (Nat.le_of_eq O0.1.symm) (Nat.le_trans O0.2.1 (Nat.le_of_eq g2.symm))
  have sz_b2 : h0.size ≤ b2 := Nat.le_trans (Keep.refl h0 []).1 (Nat.le_of_eq g2.symm)
  have O2 := O0.ext E2
  have K2 : Keep h0 h2 [] := (Keep.refl h0 []).ext E2
  have V2 : Arv Z h2 b2 k2 .int (2 : Int32) [(.int (0 : Int32)), (.int (0 : Int32))] (.int (0 : Int32)) := (Arv.new A2 (by decide)).pad (pad_rep [] (.int (0 : Int32)) 2)
  obtain ⟨T3, h3, k3, X3, e3, E3, A3, st3⟩ := newP X2 hx hZ (hw _ (List.mem_of_getElem? (i := 6) rfl)) e2 (g := (mkF m 8 #[.val (.ref p0), .val (.int (2 : Int32)), .val (.ref b2), .unset, .unset, .unset] [(.int (2 : Int32))])) rfl (hb hby d1_8) rfl (by decide) (cap := 2) (by decide) (by decide) (by decide) (by decide)
  obtain ⟨b3, g3⟩ : ∃ z, z = h2.size := ⟨_, rfl⟩
  rw [← g3] at A3 st3
  have c4 : Arv Z h2 p0 kz .boolean (2 : Int32) [(.int y0), (.int y1)] (.int (0 : Int32)) := (F0_.ext E2)
  have ne_p0_b3 : p0 ≠ b3 := Nat.ne_of_lt (Nat.lt_of_lt_of_le c4.lt (Nat.le_of_eq g3.symm))
  have ne_b2_b3 : b2 ≠ b3 := Nat.ne_of_lt (Nat.lt_of_lt_of_le V2.lt (Nat.le_of_eq g3.symm))
  have g_b3 : n0 ≤ b3 := Nat.le_trans (Nat.le_of_eq O2.1.symm) (Nat.le_trans O2.2.1 (Nat.le_of_eq g3.symm))
  have sz_b3 : h0.size ≤ b3 := Nat.le_trans K2.1 (Nat.le_of_eq g3.symm)
  have O3 := O2.ext E3
  have K3 : Keep h0 h3 [] := K2.ext E3
  have V3 : Arv Z h3 b3 k3 .int (2 : Int32) [(.int (0 : Int32)), (.int (0 : Int32))] (.int (0 : Int32)) := (Arv.new A3 (by decide)).pad (pad_rep [] (.int (0 : Int32)) 2)
  have c5 : Arv Z h3 p0 kz .boolean (2 : Int32) [(.int y0), (.int y1)] (.int (0 : Int32)) := (c4.ext E3)
  obtain ⟨cla6, Ara6, qa6, Sa6, Za6, Ha6, Ga6⟩ := id c5
  have hin7 : ¬ ((0 : Int32) < 0 ∨ cla6.slots.size ≤ ((0 : Int32)).toNatClampNeg) := inb_of Sa6 ⟨by decide, by decide⟩
  have hat8 : cla6.slots[((0 : Int32)).toNatClampNeg]? = some (.int y0) := Has.at Ha6 hin7 rfl
  have s9 : Steps p.tables e below A₀ (T3.setTop (mkF m 27 #[.val (.ref p0), .val (.int (2 : Int32)), .val (.ref b2), .val (.ref b3), .val (.int (-1 : Int32)), .val (.int (0 : Int32))] [(.int y0)])) := by
    refine s0.trans ?_
    refine XS.aloadN X0.here hx rfl (hb hby d1_0) rfl rfl ?_
    show Steps p.tables e below (s₁.setTop (mkF m 1 #[.val (.ref p0), .unset, .unset, .unset, .unset, .unset] [(.ref p0)])) _
    refine X0.arraylength hx (by rw [e0]; exact Ara1.1) (State.isArrayOf_alike hZ.alike Ara1.2.1) (g := (mkF m 1 #[.val (.ref p0), .unset, .unset, .unset, .unset, .unset] [(.ref p0)])) rfl rfl (hb hby d1_1) _ ?_
    rw [len_of Sa1 Za1]
    show Steps p.tables e below (s₁.setTop (mkF m 2 #[.val (.ref p0), .unset, .unset, .unset, .unset, .unset] [(.int (2 : Int32))])) _
    refine XS.istoreN X0.here hx rfl (hb hby d1_2) rfl (l' := #[.val (.ref p0), .val (.int (2 : Int32)), .unset, .unset, .unset, .unset]) rfl ?_
    refine XS.iloadN X0.here hx rfl (hb hby d1_3) rfl ?_
    refine st2 _ ?_
    refine XS.astoreN X2.here hx rfl (hb hby d1_6) rfl rfl (l' := #[.val (.ref p0), .val (.int (2 : Int32)), .val (.ref b2), .unset, .unset, .unset]) rfl ?_
    refine XS.iloadN X2.here hx rfl (hb hby d1_7) rfl ?_
    refine st3 _ ?_
    show Steps p.tables e below (T3.setTop (mkF m 10 #[.val (.ref p0), .val (.int (2 : Int32)), .val (.ref b2), .unset, .unset, .unset] [(.ref b3)])) _
    refine XS.astoreN X3.here hx rfl (hb hby d1_10) rfl rfl (l' := #[.val (.ref p0), .val (.int (2 : Int32)), .val (.ref b2), .val (.ref b3), .unset, .unset]) rfl ?_
    refine XS.iconst X3.here hx rfl (hb hby d1_11) ?_
    refine XS.istore X3.here hx rfl (hb hby d1_12) rfl (l' := #[.val (.ref p0), .val (.int (2 : Int32)), .val (.ref b2), .val (.ref b3), .val (.int (-1 : Int32)), .unset]) rfl ?_
    refine XS.iconst X3.here hx rfl (hb hby d1_14) ?_
    refine XS.istore X3.here hx rfl (hb hby d1_15) rfl (l' := #[.val (.ref p0), .val (.int (2 : Int32)), .val (.ref b2), .val (.ref b3), .val (.int (-1 : Int32)), .val (.int (0 : Int32))]) rfl ?_
    refine XS.iload X3.here hx rfl (hb hby d1_17) rfl ?_
    show Steps p.tables e below (T3.setTop (mkF m 19 #[.val (.ref p0), .val (.int (2 : Int32)), .val (.ref b2), .val (.ref b3), .val (.int (-1 : Int32)), .val (.int (0 : Int32))] [(.int (0 : Int32))])) _
    refine XS.iloadN X3.here hx rfl (hb hby d1_19) rfl ?_
    refine XS.icmpNo X3.here hx rfl (hb hby d1_20) rfl (tlt (by decide)).2.1 ?_
    refine XS.aloadN X3.here hx rfl (hb hby d1_23) rfl rfl ?_
    refine XS.iload X3.here hx rfl (hb hby d1_24) rfl ?_
    refine X3.baloadBooleans hx (j := (0 : Int32)) (v := (.int y0)) (by rw [e3]; exact Ara6.1) (State.isArrayOf_alike hZ.alike Ara6.2.1) Ara6.2.2 hin7 hat8 (g := (mkF m 26 #[.val (.ref p0), .val (.int (2 : Int32)), .val (.ref b2), .val (.ref b3), .val (.int (-1 : Int32)), .val (.int (0 : Int32))] [(.int (0 : Int32)), (.ref p0)])) rfl rfl (hb hby d1_26) _ ?_
    exact Steps.refl _
  have s11 : Steps p.tables e below A₀ (T3.setTop (mkF m 37 #[.val (.ref p0), .val (.int (2 : Int32)), .val (.ref b2), .val (.ref b3), .val (.int (-1 : Int32)), .val (.int (0 : Int32))] [(.int (if y0 = (0 : Int32) then (0 : Int32) else (-1 : Int32)))])) := by
    by_cases hm10 : y0 = (0 : Int32)
    · simp only [if_pos hm10]
      refine s9.trans ?_
      refine XS.ifYes X3.here hx rfl (pc0 := 27) (pc' := 35) rfl (hb hby d1_27) rfl ((if0 _ _).trans (teq hm10).1) (by decide) (by decide) ?_
      show Steps p.tables e below (T3.setTop (mkF m 35 #[.val (.ref p0), .val (.int (2 : Int32)), .val (.ref b2), .val (.ref b3), .val (.int (-1 : Int32)), .val (.int (0 : Int32))] [])) _
      refine XS.iload X3.here hx rfl (hb hby d1_35) rfl ?_
      exact Steps.refl _
    · simp only [if_neg hm10]
      refine s9.trans ?_
      refine XS.ifNo X3.here hx rfl (hb hby d1_27) rfl ((if0 _ _).trans (feq hm10).1) ?_
      show Steps p.tables e below (T3.setTop (mkF m 30 #[.val (.ref p0), .val (.int (2 : Int32)), .val (.ref b2), .val (.ref b3), .val (.int (-1 : Int32)), .val (.int (0 : Int32))] [])) _
      refine XS.iload X3.here hx rfl (hb hby d1_30) rfl ?_
      refine XS.goto X3.here hx rfl (pc0 := 32) (pc' := 37) rfl (hb hby d1_32) (by decide) (by decide) ?_
      exact Steps.refl _
  obtain ⟨za1, hza1⟩ : ∃ z, z = (if y0 = (0 : Int32) then (0 : Int32) else (-1 : Int32)) := ⟨_, rfl⟩
  rw [← hza1] at s11
  obtain ⟨T12, L12, X12, e12, N12, st12⟩ := own_callP X3 hx hZ hown (wk7 hw) (wk8 hw) (wk9 hw) (wk10 hw) (by decide) (rm2 l Z a0 hw [] za1 (0 : Int32) h3 n0 O3 ) e3 N0 (W := 2) (by decide) (by decide) (by decide) (by decide) (g := (mkF m 45 #[.val (.ref p0), .val (.int (2 : Int32)), .val (.ref b2), .val (.ref b3), .val (.int za1), .val (.int (0 : Int32))] [(.int (0 : Int32)), (.int za1), (.int (0 : Int32)), (.ref b2)])) rfl (by rw [hml]; rfl) (argsL := [(.int za1), (.int (0 : Int32))]) (rest := [(.int (0 : Int32)), (.ref b2)]) (lenOf pd_rmt2_0 rfl) rfl (by show 2 * 0 + _ ≤ _; exact Nat.le_of_eq rfl) (hb hby d1_45)
  have c13 : Arv Z h3 b2 k2 .int (2 : Int32) [(.int (0 : Int32)), (.int (0 : Int32))] (.int (0 : Int32)) := (V2.ext E3)
  obtain ⟨cla14, Ara14, qa14, Sa14, Za14, Ha14, Ga14⟩ := id c13
  have hin15 : ¬ ((0 : Int32) < 0 ∨ cla14.slots.size ≤ ((0 : Int32)).toNatClampNeg) := inb_of Sa14 ⟨by decide, by decide⟩
  obtain ⟨T16, h16, X16, e16, W16, st16⟩ := stI X12 hx hZ e12 Ara14 (j := (0 : Int32)) hin15 (g := (mkF m 48 #[.val (.ref p0), .val (.int (2 : Int32)), .val (.ref b2), .val (.ref b3), .val (.int za1), .val (.int (0 : Int32))] [(.int (own_max za1 (0 : Int32))), (.int (0 : Int32)), (.ref b2)])) rfl rfl (hb hby d1_48)
  have O16 := O3.wr W16 g_b2
  have K16 : Keep h0 h16 [] := K3.wr W16 (Or.inr sz_b2)
  have N16 := Fr.snoc X16 N12 g_b2
  have V16 : Arv Z h16 b2 k2 .int (2 : Int32) [(.int (own_max za1 (0 : Int32))), (.int (0 : Int32))] (.int (0 : Int32)) := Arv.set Ara14 qa14 Sa14 Za14 Ha14 Ga14 rfl W16 0 rfl (Nat.le_of_ble_eq_true rfl)
  have c17 : Arv Z h16 p0 kz .boolean (2 : Int32) [(.int y0), (.int y1)] (.int (0 : Int32)) := (c5.other W16 ne_p0_b2)
  obtain ⟨cla18, Ara18, qa18, Sa18, Za18, Ha18, Ga18⟩ := id c17
  have hin19 : ¬ ((1 : Int32) < 0 ∨ cla18.slots.size ≤ ((1 : Int32)).toNatClampNeg) := inb_of Sa18 ⟨by decide, by decide⟩
  have hat20 : cla18.slots[((1 : Int32)).toNatClampNeg]? = some (.int y1) := Has.at Ha18 hin19 rfl
  have s21 : Steps p.tables e below A₀ (T16.setTop (mkF m 27 #[.val (.ref p0), .val (.int (2 : Int32)), .val (.ref b2), .val (.ref b3), .val (.int za1), .val (.int (1 : Int32))] [(.int y1)])) := by
    refine s11.trans ?_
    refine XS.istore X3.here hx rfl (hb hby d1_37) rfl (l' := #[.val (.ref p0), .val (.int (2 : Int32)), .val (.ref b2), .val (.ref b3), .val (.int za1), .val (.int (0 : Int32))]) rfl ?_
    show Steps p.tables e below (T3.setTop (mkF m 39 #[.val (.ref p0), .val (.int (2 : Int32)), .val (.ref b2), .val (.ref b3), .val (.int za1), .val (.int (0 : Int32))] [])) _
    refine XS.aloadN X3.here hx rfl (hb hby d1_39) rfl rfl ?_
    refine XS.iload X3.here hx rfl (hb hby d1_40) rfl ?_
    refine XS.iload X3.here hx rfl (hb hby d1_42) rfl ?_
    refine XS.iconst X3.here hx rfl (hb hby d1_44) ?_
    refine st12 _ ?_
    refine st16 _ ?_
    show Steps p.tables e below (T16.setTop (mkF m 49 #[.val (.ref p0), .val (.int (2 : Int32)), .val (.ref b2), .val (.ref b3), .val (.int za1), .val (.int (0 : Int32))] [])) _
    refine XS.iinc X16.here hx rfl (hb hby d1_49) rfl (l' := #[.val (.ref p0), .val (.int (2 : Int32)), .val (.ref b2), .val (.ref b3), .val (.int za1), .val (.int (1 : Int32))]) rfl ?_
    refine XS.goto X16.here hx rfl (pc0 := 52) (pc' := 17) rfl (hb hby d1_52) (by decide) (by decide) ?_
    refine XS.iload X16.here hx rfl (hb hby d1_17) rfl ?_
    refine XS.iloadN X16.here hx rfl (hb hby d1_19) rfl ?_
    refine XS.icmpNo X16.here hx rfl (hb hby d1_20) rfl (tlt (by decide)).2.1 ?_
    refine XS.aloadN X16.here hx rfl (hb hby d1_23) rfl rfl ?_
    show Steps p.tables e below (T16.setTop (mkF m 24 #[.val (.ref p0), .val (.int (2 : Int32)), .val (.ref b2), .val (.ref b3), .val (.int za1), .val (.int (1 : Int32))] [(.ref p0)])) _
    refine XS.iload X16.here hx rfl (hb hby d1_24) rfl ?_
    refine X16.baloadBooleans hx (j := (1 : Int32)) (v := (.int y1)) (by rw [e16]; exact Ara18.1) (State.isArrayOf_alike hZ.alike Ara18.2.1) Ara18.2.2 hin19 hat20 (g := (mkF m 26 #[.val (.ref p0), .val (.int (2 : Int32)), .val (.ref b2), .val (.ref b3), .val (.int za1), .val (.int (1 : Int32))] [(.int (1 : Int32)), (.ref p0)])) rfl rfl (hb hby d1_26) _ ?_
    exact Steps.refl _
  have s23 : Steps p.tables e below A₀ (T16.setTop (mkF m 37 #[.val (.ref p0), .val (.int (2 : Int32)), .val (.ref b2), .val (.ref b3), .val (.int za1), .val (.int (1 : Int32))] [(.int (if y1 = (0 : Int32) then (1 : Int32) else za1))])) := by
    by_cases hm22 : y1 = (0 : Int32)
    · simp only [if_pos hm22]
      refine s21.trans ?_
      refine XS.ifYes X16.here hx rfl (pc0 := 27) (pc' := 35) rfl (hb hby d1_27) rfl ((if0 _ _).trans (teq hm22).1) (by decide) (by decide) ?_
      show Steps p.tables e below (T16.setTop (mkF m 35 #[.val (.ref p0), .val (.int (2 : Int32)), .val (.ref b2), .val (.ref b3), .val (.int za1), .val (.int (1 : Int32))] [])) _
      refine XS.iload X16.here hx rfl (hb hby d1_35) rfl ?_
      exact Steps.refl _
    · simp only [if_neg hm22]
      refine s21.trans ?_
      refine XS.ifNo X16.here hx rfl (hb hby d1_27) rfl ((if0 _ _).trans (feq hm22).1) ?_
      show Steps p.tables e below (T16.setTop (mkF m 30 #[.val (.ref p0), .val (.int (2 : Int32)), .val (.ref b2), .val (.ref b3), .val (.int za1), .val (.int (1 : Int32))] [])) _
      refine XS.iload X16.here hx rfl (hb hby d1_30) rfl ?_
      refine XS.goto X16.here hx rfl (pc0 := 32) (pc' := 37) rfl (hb hby d1_32) (by decide) (by decide) ?_
      exact Steps.refl _
  obtain ⟨za2, hza2⟩ : ∃ z, z = (if y1 = (0 : Int32) then (1 : Int32) else za1) := ⟨_, rfl⟩
  rw [← hza2] at s23
  obtain ⟨T24, L24, X24, e24, N24, st24⟩ := own_callP X16 hx hZ hown (wk7 hw) (wk8 hw) (wk9 hw) (wk10 hw) (by decide) (rm2 l Z a0 hw [] za2 (0 : Int32) h16 n0 O16 ) e16 N16 (W := 2) (by decide) (by decide) (by decide) (by decide) (g := (mkF m 45 #[.val (.ref p0), .val (.int (2 : Int32)), .val (.ref b2), .val (.ref b3), .val (.int za2), .val (.int (1 : Int32))] [(.int (0 : Int32)), (.int za2), (.int (1 : Int32)), (.ref b2)])) rfl (by rw [hml]; rfl) (argsL := [(.int za2), (.int (0 : Int32))]) (rest := [(.int (1 : Int32)), (.ref b2)]) (lenOf pd_rmt2_0 rfl) rfl (by show 2 * 0 + _ ≤ _; exact Nat.le_of_eq rfl) (hb hby d1_45)
  obtain ⟨cla25, Ara25, qa25, Sa25, Za25, Ha25, Ga25⟩ := id V16
  have hin26 : ¬ ((1 : Int32) < 0 ∨ cla25.slots.size ≤ ((1 : Int32)).toNatClampNeg) := inb_of Sa25 ⟨by decide, by decide⟩
  obtain ⟨T27, h27, X27, e27, W27, st27⟩ := stI X24 hx hZ e24 Ara25 (j := (1 : Int32)) hin26 (g := (mkF m 48 #[.val (.ref p0), .val (.int (2 : Int32)), .val (.ref b2), .val (.ref b3), .val (.int za2), .val (.int (1 : Int32))] [(.int (own_max za2 (0 : Int32))), (.int (1 : Int32)), (.ref b2)])) rfl rfl (hb hby d1_48)
  have O27 := O16.wr W27 g_b2
  have K27 : Keep h0 h27 [] := K16.wr W27 (Or.inr sz_b2)
  have N27 := Fr.snoc X27 N24 g_b2
  have V27 : Arv Z h27 b2 k2 .int (2 : Int32) [(.int (own_max za1 (0 : Int32))), (.int (own_max za2 (0 : Int32)))] (.int (0 : Int32)) := Arv.set Ara25 qa25 Sa25 Za25 Ha25 Ga25 rfl W27 1 rfl (Nat.le_of_ble_eq_true rfl)
  have c28 : Arv Z h27 p0 kz .boolean (2 : Int32) [(.int y0), (.int y1)] (.int (0 : Int32)) := (c17.other W27 ne_p0_b2)
  obtain ⟨cla29, Ara29, qa29, Sa29, Za29, Ha29, Ga29⟩ := id c28
  have hin30 : ¬ ((1 : Int32) < 0 ∨ cla29.slots.size ≤ ((1 : Int32)).toNatClampNeg) := inb_of Sa29 ⟨by decide, by decide⟩
  have hat31 : cla29.slots[((1 : Int32)).toNatClampNeg]? = some (.int y1) := Has.at Ha29 hin30 rfl
  have s32 : Steps p.tables e below A₀ (T27.setTop (mkF m 72 #[.val (.ref p0), .val (.int (2 : Int32)), .val (.ref b2), .val (.ref b3), .val (.int (-1 : Int32)), .val (.int (1 : Int32))] [(.int y1)])) := by
    refine s23.trans ?_
    refine XS.istore X16.here hx rfl (hb hby d1_37) rfl (l' := #[.val (.ref p0), .val (.int (2 : Int32)), .val (.ref b2), .val (.ref b3), .val (.int za2), .val (.int (1 : Int32))]) rfl ?_
    show Steps p.tables e below (T16.setTop (mkF m 39 #[.val (.ref p0), .val (.int (2 : Int32)), .val (.ref b2), .val (.ref b3), .val (.int za2), .val (.int (1 : Int32))] [])) _
    refine XS.aloadN X16.here hx rfl (hb hby d1_39) rfl rfl ?_
    refine XS.iload X16.here hx rfl (hb hby d1_40) rfl ?_
    refine XS.iload X16.here hx rfl (hb hby d1_42) rfl ?_
    refine XS.iconst X16.here hx rfl (hb hby d1_44) ?_
    refine st24 _ ?_
    refine st27 _ ?_
    show Steps p.tables e below (T27.setTop (mkF m 49 #[.val (.ref p0), .val (.int (2 : Int32)), .val (.ref b2), .val (.ref b3), .val (.int za2), .val (.int (1 : Int32))] [])) _
    refine XS.iinc X27.here hx rfl (hb hby d1_49) rfl (l' := #[.val (.ref p0), .val (.int (2 : Int32)), .val (.ref b2), .val (.ref b3), .val (.int za2), .val (.int (2 : Int32))]) rfl ?_
    refine XS.goto X27.here hx rfl (pc0 := 52) (pc' := 17) rfl (hb hby d1_52) (by decide) (by decide) ?_
    refine XS.iload X27.here hx rfl (hb hby d1_17) rfl ?_
    refine XS.iloadN X27.here hx rfl (hb hby d1_19) rfl ?_
    refine XS.icmpYes X27.here hx rfl (pc0 := 20) (pc' := 55) rfl (hb hby d1_20) rfl (flt (by decide)).2.1 (by decide) (by decide) ?_
    refine XS.iconst X27.here hx rfl (hb hby d1_55) ?_
    show Steps p.tables e below (T27.setTop (mkF m 56 #[.val (.ref p0), .val (.int (2 : Int32)), .val (.ref b2), .val (.ref b3), .val (.int za2), .val (.int (2 : Int32))] [(.int (-1 : Int32))])) _
    refine XS.istore X27.here hx rfl (hb hby d1_56) rfl (l' := #[.val (.ref p0), .val (.int (2 : Int32)), .val (.ref b2), .val (.ref b3), .val (.int (-1 : Int32)), .val (.int (2 : Int32))]) rfl ?_
    refine XS.iloadN X27.here hx rfl (hb hby d1_58) rfl ?_
    refine XS.iconst X27.here hx rfl (hb hby d1_59) ?_
    refine XS.isub X27.here hx rfl (hb hby d1_60) rfl ?_
    refine XS.istore X27.here hx rfl (hb hby d1_61) rfl (l' := #[.val (.ref p0), .val (.int (2 : Int32)), .val (.ref b2), .val (.ref b3), .val (.int (-1 : Int32)), .val (.int (1 : Int32))]) rfl ?_
    refine XS.iload X27.here hx rfl (hb hby d1_63) rfl ?_
    show Steps p.tables e below (T27.setTop (mkF m 65 #[.val (.ref p0), .val (.int (2 : Int32)), .val (.ref b2), .val (.ref b3), .val (.int (-1 : Int32)), .val (.int (1 : Int32))] [(.int (1 : Int32))])) _
    refine XS.ifNo X27.here hx rfl (hb hby d1_65) rfl ((if0 _ _).trans (flt (by decide)).1) ?_
    refine XS.aloadN X27.here hx rfl (hb hby d1_68) rfl rfl ?_
    refine XS.iload X27.here hx rfl (hb hby d1_69) rfl ?_
    refine X27.baloadBooleans hx (j := (1 : Int32)) (v := (.int y1)) (by rw [e27]; exact Ara29.1) (State.isArrayOf_alike hZ.alike Ara29.2.1) Ara29.2.2 hin30 hat31 (g := (mkF m 71 #[.val (.ref p0), .val (.int (2 : Int32)), .val (.ref b2), .val (.ref b3), .val (.int (-1 : Int32)), .val (.int (1 : Int32))] [(.int (1 : Int32)), (.ref p0)])) rfl rfl (hb hby d1_71) _ ?_
    exact Steps.refl _
  have s34 : Steps p.tables e below A₀ (T27.setTop (mkF m 82 #[.val (.ref p0), .val (.int (2 : Int32)), .val (.ref b2), .val (.ref b3), .val (.int (-1 : Int32)), .val (.int (1 : Int32))] [(.int (if y1 = (0 : Int32) then (1 : Int32) else (-1 : Int32)))])) := by
    by_cases hm33 : y1 = (0 : Int32)
    · simp only [if_pos hm33]
      refine s32.trans ?_
      refine XS.ifYes X27.here hx rfl (pc0 := 72) (pc' := 80) rfl (hb hby d1_72) rfl ((if0 _ _).trans (teq hm33).1) (by decide) (by decide) ?_
      show Steps p.tables e below (T27.setTop (mkF m 80 #[.val (.ref p0), .val (.int (2 : Int32)), .val (.ref b2), .val (.ref b3), .val (.int (-1 : Int32)), .val (.int (1 : Int32))] [])) _
      refine XS.iload X27.here hx rfl (hb hby d1_80) rfl ?_
      exact Steps.refl _
    · simp only [if_neg hm33]
      refine s32.trans ?_
      refine XS.ifNo X27.here hx rfl (hb hby d1_72) rfl ((if0 _ _).trans (feq hm33).1) ?_
      show Steps p.tables e below (T27.setTop (mkF m 75 #[.val (.ref p0), .val (.int (2 : Int32)), .val (.ref b2), .val (.ref b3), .val (.int (-1 : Int32)), .val (.int (1 : Int32))] [])) _
      refine XS.iload X27.here hx rfl (hb hby d1_75) rfl ?_
      refine XS.goto X27.here hx rfl (pc0 := 77) (pc' := 82) rfl (hb hby d1_77) (by decide) (by decide) ?_
      exact Steps.refl _
  obtain ⟨zb3, hzb3⟩ : ∃ z, z = (if y1 = (0 : Int32) then (1 : Int32) else (-1 : Int32)) := ⟨_, rfl⟩
  rw [← hzb3] at s34
  have s35 : Steps p.tables e below A₀ (T27.setTop (mkF m 89 #[.val (.ref p0), .val (.int (2 : Int32)), .val (.ref b2), .val (.ref b3), .val (.int zb3), .val (.int (1 : Int32))] [(.int zb3), (.int (1 : Int32)), (.ref b3)])) := by
    refine s34.trans ?_
    refine XS.istore X27.here hx rfl (hb hby d1_82) rfl (l' := #[.val (.ref p0), .val (.int (2 : Int32)), .val (.ref b2), .val (.ref b3), .val (.int zb3), .val (.int (1 : Int32))]) rfl ?_
    show Steps p.tables e below (T27.setTop (mkF m 84 #[.val (.ref p0), .val (.int (2 : Int32)), .val (.ref b2), .val (.ref b3), .val (.int zb3), .val (.int (1 : Int32))] [])) _
    refine XS.aloadN X27.here hx rfl (hb hby d1_84) rfl rfl ?_
    refine XS.iload X27.here hx rfl (hb hby d1_85) rfl ?_
    refine XS.iload X27.here hx rfl (hb hby d1_87) rfl ?_
    exact Steps.refl _
  have s37 : Steps p.tables e below A₀ (T27.setTop (mkF m 100 #[.val (.ref p0), .val (.int (2 : Int32)), .val (.ref b2), .val (.ref b3), .val (.int zb3), .val (.int (1 : Int32))] [(.int (if zb3 < (0 : Int32) then (1 : Int32) else zb3)), (.int (1 : Int32)), (.ref b3)])) := by
    by_cases hm36 : zb3 < (0 : Int32)
    · simp only [if_pos hm36]
      refine s35.trans ?_
      refine XS.ifNo X27.here hx rfl (hb hby d1_89) rfl ((if0 _ _).trans (tlt hm36).2.1) ?_
      show Steps p.tables e below (T27.setTop (mkF m 92 #[.val (.ref p0), .val (.int (2 : Int32)), .val (.ref b2), .val (.ref b3), .val (.int zb3), .val (.int (1 : Int32))] [(.int (1 : Int32)), (.ref b3)])) _
      refine XS.iloadN X27.here hx rfl (hb hby d1_92) rfl ?_
      refine XS.iconst X27.here hx rfl (hb hby d1_93) ?_
      refine XS.isub X27.here hx rfl (hb hby d1_94) rfl ?_
      refine XS.goto X27.here hx rfl (pc0 := 95) (pc' := 100) rfl (hb hby d1_95) (by decide) (by decide) ?_
      exact Steps.refl _
    · simp only [if_neg hm36]
      refine s35.trans ?_
      refine XS.ifYes X27.here hx rfl (pc0 := 89) (pc' := 98) rfl (hb hby d1_89) rfl ((if0 _ _).trans (flt hm36).2.1) (by decide) (by decide) ?_
      show Steps p.tables e below (T27.setTop (mkF m 98 #[.val (.ref p0), .val (.int (2 : Int32)), .val (.ref b2), .val (.ref b3), .val (.int zb3), .val (.int (1 : Int32))] [(.int (1 : Int32)), (.ref b3)])) _
      refine XS.iload X27.here hx rfl (hb hby d1_98) rfl ?_
      exact Steps.refl _
  obtain ⟨zc4, hzc4⟩ : ∃ z, z = (if zb3 < (0 : Int32) then (1 : Int32) else zb3) := ⟨_, rfl⟩
  rw [← hzc4] at s37
  have c38 : Arv Z h27 b3 k3 .int (2 : Int32) [(.int (0 : Int32)), (.int (0 : Int32))] (.int (0 : Int32)) := ((V3.other W16 (Ne.symm ne_b2_b3)).other W27 (Ne.symm ne_b2_b3))
  obtain ⟨cla39, Ara39, qa39, Sa39, Za39, Ha39, Ga39⟩ := id c38
  have hin40 : ¬ ((1 : Int32) < 0 ∨ cla39.slots.size ≤ ((1 : Int32)).toNatClampNeg) := inb_of Sa39 ⟨by decide, by decide⟩
  obtain ⟨T41, h41, X41, e41, W41, st41⟩ := stI X27 hx hZ e27 Ara39 (j := (1 : Int32)) hin40 (g := (mkF m 100 #[.val (.ref p0), .val (.int (2 : Int32)), .val (.ref b2), .val (.ref b3), .val (.int zb3), .val (.int (1 : Int32))] [(.int zc4), (.int (1 : Int32)), (.ref b3)])) rfl rfl (hb hby d1_100)
  have O41 := O27.wr W41 g_b3
  have K41 : Keep h0 h41 [] := K27.wr W41 (Or.inr sz_b3)
  have N41 := Fr.snoc X41 N27 g_b3
  have V41 : Arv Z h41 b3 k3 .int (2 : Int32) [(.int (0 : Int32)), (.int zc4)] (.int (0 : Int32)) := Arv.set Ara39 qa39 Sa39 Za39 Ha39 Ga39 rfl W41 1 rfl (Nat.le_of_ble_eq_true rfl)
  have c42 : Arv Z h41 p0 kz .boolean (2 : Int32) [(.int y0), (.int y1)] (.int (0 : Int32)) := (c28.other W41 ne_p0_b3)
  obtain ⟨cla43, Ara43, qa43, Sa43, Za43, Ha43, Ga43⟩ := id c42
  have hin44 : ¬ ((0 : Int32) < 0 ∨ cla43.slots.size ≤ ((0 : Int32)).toNatClampNeg) := inb_of Sa43 ⟨by decide, by decide⟩
  have hat45 : cla43.slots[((0 : Int32)).toNatClampNeg]? = some (.int y0) := Has.at Ha43 hin44 rfl
  have s46 : Steps p.tables e below A₀ (T41.setTop (mkF m 72 #[.val (.ref p0), .val (.int (2 : Int32)), .val (.ref b2), .val (.ref b3), .val (.int zb3), .val (.int (0 : Int32))] [(.int y0)])) := by
    refine s37.trans ?_
    refine st41 _ ?_
    show Steps p.tables e below (T41.setTop (mkF m 101 #[.val (.ref p0), .val (.int (2 : Int32)), .val (.ref b2), .val (.ref b3), .val (.int zb3), .val (.int (1 : Int32))] [])) _
    refine XS.iinc X41.here hx rfl (hb hby d1_101) rfl (l' := #[.val (.ref p0), .val (.int (2 : Int32)), .val (.ref b2), .val (.ref b3), .val (.int zb3), .val (.int (0 : Int32))]) rfl ?_
    refine XS.goto X41.here hx rfl (pc0 := 104) (pc' := 63) rfl (hb hby d1_104) (by decide) (by decide) ?_
    refine XS.iload X41.here hx rfl (hb hby d1_63) rfl ?_
    refine XS.ifNo X41.here hx rfl (hb hby d1_65) rfl ((if0 _ _).trans (flt (by decide)).1) ?_
    refine XS.aloadN X41.here hx rfl (hb hby d1_68) rfl rfl ?_
    refine XS.iload X41.here hx rfl (hb hby d1_69) rfl ?_
    show Steps p.tables e below (T41.setTop (mkF m 71 #[.val (.ref p0), .val (.int (2 : Int32)), .val (.ref b2), .val (.ref b3), .val (.int zb3), .val (.int (0 : Int32))] [(.int (0 : Int32)), (.ref p0)])) _
    refine X41.baloadBooleans hx (j := (0 : Int32)) (v := (.int y0)) (by rw [e41]; exact Ara43.1) (State.isArrayOf_alike hZ.alike Ara43.2.1) Ara43.2.2 hin44 hat45 (g := (mkF m 71 #[.val (.ref p0), .val (.int (2 : Int32)), .val (.ref b2), .val (.ref b3), .val (.int zb3), .val (.int (0 : Int32))] [(.int (0 : Int32)), (.ref p0)])) rfl rfl (hb hby d1_71) _ ?_
    exact Steps.refl _
  have s48 : Steps p.tables e below A₀ (T41.setTop (mkF m 82 #[.val (.ref p0), .val (.int (2 : Int32)), .val (.ref b2), .val (.ref b3), .val (.int zb3), .val (.int (0 : Int32))] [(.int (if y0 = (0 : Int32) then (0 : Int32) else zb3))])) := by
    by_cases hm47 : y0 = (0 : Int32)
    · simp only [if_pos hm47]
      refine s46.trans ?_
      refine XS.ifYes X41.here hx rfl (pc0 := 72) (pc' := 80) rfl (hb hby d1_72) rfl ((if0 _ _).trans (teq hm47).1) (by decide) (by decide) ?_
      show Steps p.tables e below (T41.setTop (mkF m 80 #[.val (.ref p0), .val (.int (2 : Int32)), .val (.ref b2), .val (.ref b3), .val (.int zb3), .val (.int (0 : Int32))] [])) _
      refine XS.iload X41.here hx rfl (hb hby d1_80) rfl ?_
      exact Steps.refl _
    · simp only [if_neg hm47]
      refine s46.trans ?_
      refine XS.ifNo X41.here hx rfl (hb hby d1_72) rfl ((if0 _ _).trans (feq hm47).1) ?_
      show Steps p.tables e below (T41.setTop (mkF m 75 #[.val (.ref p0), .val (.int (2 : Int32)), .val (.ref b2), .val (.ref b3), .val (.int zb3), .val (.int (0 : Int32))] [])) _
      refine XS.iload X41.here hx rfl (hb hby d1_75) rfl ?_
      refine XS.goto X41.here hx rfl (pc0 := 77) (pc' := 82) rfl (hb hby d1_77) (by decide) (by decide) ?_
      exact Steps.refl _
  obtain ⟨zb5, hzb5⟩ : ∃ z, z = (if y0 = (0 : Int32) then (0 : Int32) else zb3) := ⟨_, rfl⟩
  rw [← hzb5] at s48
  have s49 : Steps p.tables e below A₀ (T41.setTop (mkF m 89 #[.val (.ref p0), .val (.int (2 : Int32)), .val (.ref b2), .val (.ref b3), .val (.int zb5), .val (.int (0 : Int32))] [(.int zb5), (.int (0 : Int32)), (.ref b3)])) := by
    refine s48.trans ?_
    refine XS.istore X41.here hx rfl (hb hby d1_82) rfl (l' := #[.val (.ref p0), .val (.int (2 : Int32)), .val (.ref b2), .val (.ref b3), .val (.int zb5), .val (.int (0 : Int32))]) rfl ?_
    show Steps p.tables e below (T41.setTop (mkF m 84 #[.val (.ref p0), .val (.int (2 : Int32)), .val (.ref b2), .val (.ref b3), .val (.int zb5), .val (.int (0 : Int32))] [])) _
    refine XS.aloadN X41.here hx rfl (hb hby d1_84) rfl rfl ?_
    refine XS.iload X41.here hx rfl (hb hby d1_85) rfl ?_
    refine XS.iload X41.here hx rfl (hb hby d1_87) rfl ?_
    exact Steps.refl _
  have s51 : Steps p.tables e below A₀ (T41.setTop (mkF m 100 #[.val (.ref p0), .val (.int (2 : Int32)), .val (.ref b2), .val (.ref b3), .val (.int zb5), .val (.int (0 : Int32))] [(.int (if zb5 < (0 : Int32) then (1 : Int32) else zb5)), (.int (0 : Int32)), (.ref b3)])) := by
    by_cases hm50 : zb5 < (0 : Int32)
    · simp only [if_pos hm50]
      refine s49.trans ?_
      refine XS.ifNo X41.here hx rfl (hb hby d1_89) rfl ((if0 _ _).trans (tlt hm50).2.1) ?_
      show Steps p.tables e below (T41.setTop (mkF m 92 #[.val (.ref p0), .val (.int (2 : Int32)), .val (.ref b2), .val (.ref b3), .val (.int zb5), .val (.int (0 : Int32))] [(.int (0 : Int32)), (.ref b3)])) _
      refine XS.iloadN X41.here hx rfl (hb hby d1_92) rfl ?_
      refine XS.iconst X41.here hx rfl (hb hby d1_93) ?_
      refine XS.isub X41.here hx rfl (hb hby d1_94) rfl ?_
      refine XS.goto X41.here hx rfl (pc0 := 95) (pc' := 100) rfl (hb hby d1_95) (by decide) (by decide) ?_
      exact Steps.refl _
    · simp only [if_neg hm50]
      refine s49.trans ?_
      refine XS.ifYes X41.here hx rfl (pc0 := 89) (pc' := 98) rfl (hb hby d1_89) rfl ((if0 _ _).trans (flt hm50).2.1) (by decide) (by decide) ?_
      show Steps p.tables e below (T41.setTop (mkF m 98 #[.val (.ref p0), .val (.int (2 : Int32)), .val (.ref b2), .val (.ref b3), .val (.int zb5), .val (.int (0 : Int32))] [(.int (0 : Int32)), (.ref b3)])) _
      refine XS.iload X41.here hx rfl (hb hby d1_98) rfl ?_
      exact Steps.refl _
  obtain ⟨zc6, hzc6⟩ : ∃ z, z = (if zb5 < (0 : Int32) then (1 : Int32) else zb5) := ⟨_, rfl⟩
  rw [← hzc6] at s51
  obtain ⟨cla52, Ara52, qa52, Sa52, Za52, Ha52, Ga52⟩ := id V41
  have hin53 : ¬ ((0 : Int32) < 0 ∨ cla52.slots.size ≤ ((0 : Int32)).toNatClampNeg) := inb_of Sa52 ⟨by decide, by decide⟩
  obtain ⟨T54, h54, X54, e54, W54, st54⟩ := stI X41 hx hZ e41 Ara52 (j := (0 : Int32)) hin53 (g := (mkF m 100 #[.val (.ref p0), .val (.int (2 : Int32)), .val (.ref b2), .val (.ref b3), .val (.int zb5), .val (.int (0 : Int32))] [(.int zc6), (.int (0 : Int32)), (.ref b3)])) rfl rfl (hb hby d1_100)
  have O54 := O41.wr W54 g_b3
  have K54 : Keep h0 h54 [] := K41.wr W54 (Or.inr sz_b3)
  have N54 := Fr.snoc X54 N41 g_b3
  have V54 : Arv Z h54 b3 k3 .int (2 : Int32) [(.int zc6), (.int zc4)] (.int (0 : Int32)) := Arv.set Ara52 qa52 Sa52 Za52 Ha52 Ga52 rfl W54 0 rfl (Nat.le_of_ble_eq_true rfl)
  have s55 : Steps p.tables e below A₀ (T54.setTop (mkF m 109 #[.val (.ref p0), .val (.int (2 : Int32)), .val (.ref b2), .val (.ref b3), .val (.int zb5), .val (.int (-1 : Int32))] [(.int zb5)])) := by
    refine s51.trans ?_
    refine st54 _ ?_
    show Steps p.tables e below (T54.setTop (mkF m 101 #[.val (.ref p0), .val (.int (2 : Int32)), .val (.ref b2), .val (.ref b3), .val (.int zb5), .val (.int (0 : Int32))] [])) _
    refine XS.iinc X54.here hx rfl (hb hby d1_101) rfl (l' := #[.val (.ref p0), .val (.int (2 : Int32)), .val (.ref b2), .val (.ref b3), .val (.int zb5), .val (.int (-1 : Int32))]) rfl ?_
    refine XS.goto X54.here hx rfl (pc0 := 104) (pc' := 63) rfl (hb hby d1_104) (by decide) (by decide) ?_
    refine XS.iload X54.here hx rfl (hb hby d1_63) rfl ?_
    refine XS.ifYes X54.here hx rfl (pc0 := 65) (pc' := 107) rfl (hb hby d1_65) rfl ((if0 _ _).trans (tlt (by decide)).1) (by decide) (by decide) ?_
    refine XS.iload X54.here hx rfl (hb hby d1_107) rfl ?_
    exact Steps.refl _
  obtain ⟨T61, h61, L61, X61, e61, O61, N61, K61, f61_0, f61_1, f61_2, s61⟩ : ∃ (T : State) (h : Heap) (L : List Loc), (Stand p l e ({ frames := 2, cells := 3, slots := 6, locals := 27 } : Room) s m #[(.ref p0)] below meth c T L 2 4) ∧ (T.heap = h) ∧ (Old Z n0 h) ∧ (Fr n0 L) ∧ (Keep h0 h []) ∧ (Arv Z h p0 kz .boolean (2 : Int32) [(.int y0), (.int y1)] (.int (0 : Int32))) ∧ (Arv Z h b3 k3 .int (2 : Int32) [(.int zc6), (.int zc4)] (.int (0 : Int32))) ∧ (Arv Z h b2 k2 .int (2 : Int32) [(.int (if zb5 < (0 : Int32) then (-1 : Int32) else (own_max za1 (0 : Int32)))), (.int (if zb5 < (0 : Int32) then (-1 : Int32) else (own_max za2 (0 : Int32))))] (.int (0 : Int32))) ∧ (Steps p.tables e below A₀ (T.setTop (mkF m 117 #[.val (.ref p0), .val (.int (2 : Int32)), .val (.ref b2), .val (.ref b3), .val (.int zb5), .val (.int (-1 : Int32))] []))) := by
    by_cases hc56 : zb5 < (0 : Int32)
    · have c57 : Arv Z h54 b2 k2 .int (2 : Int32) [(.int (own_max za1 (0 : Int32))), (.int (own_max za2 (0 : Int32)))] (.int (0 : Int32)) := ((V27.other W41 ne_b2_b3).other W54 ne_b2_b3)
      obtain ⟨_, _, ⟨T58, L58, k58, n58⟩, -, X58, ⟨Lc58, hQ58, l58, y58, z58⟩, st58⟩ := Jvm.LawKit.callS X54 hx (y := (⟨"java/util/Arrays", "fill", "([II)V"⟩ : MethodName)) hown (mvT hZ (hw _ (List.mem_of_getElem? (i := 51) rfl))) (mvT hZ (hw _ (List.mem_of_getElem? (i := 52) rfl))) (mvT hZ (hw _ (List.mem_of_getElem? (i := 53) rfl))) (mvT hZ (hw _ (List.mem_of_getElem? (i := 54) rfl))) (by decide) (backOf (W := 0) (rmfill2 l Z a0 hw [] b2 k2 (own_max za1 (0 : Int32)) (own_max za2 (0 : Int32)) h54 n0 O54 c57 g_b2) hZ (hw _ (List.mem_of_getElem? (i := 54) rfl)) (hw _ (List.mem_of_getElem? (i := 53) rfl)) (by decide) (by decide)) (g := (mkF m 114 #[.val (.ref p0), .val (.int (2 : Int32)), .val (.ref b2), .val (.ref b3), .val (.int zb5), .val (.int (-1 : Int32))] [(.int (-1 : Int32)), (.ref b2)])) rfl (by rw [hml]; rfl) (argsL := [(.ref b2), (.int (-1 : Int32))]) (rest := []) (lenOf pd_rmt2_1 rfl) rfl (by show 2 * 0 + _ ≤ _; exact Nat.le_of_eq rfl) (hb hby d1_114) (fun _ _ => ⟨rfl, e54, (by decide : 2 + 0 ≤ _), (by decide : 4 + 0 ≤ _)⟩)
      dsimp only [Pt.U, Pt.locs, Pt.cells, Pt.slots] at X58 l58 y58 z58 st58 hQ58
      subst l58 y58 z58
      obtain ⟨rfl, Nq58, Kc58, f58_0⟩ := hQ58
      have N58 := Fr.app N54 Nq58
      have K58 : Keep h0 T58.heap [] := K54.trans Kc58 (allS (Or.inr sz_b2) all0)
      have O58 := O54.keep Kc58 (allS g_b2 all0)
      have s59 : Steps p.tables e below A₀ (T58.setTop (mkF m 117 #[.val (.ref p0), .val (.int (2 : Int32)), .val (.ref b2), .val (.ref b3), .val (.int zb5), .val (.int (-1 : Int32))] [])) := by
        refine s55.trans ?_
        refine XS.ifNo X54.here hx rfl (hb hby d1_109) rfl ((if0 _ _).trans (tlt hc56).2.1) ?_
        show Steps p.tables e below (T54.setTop (mkF m 112 #[.val (.ref p0), .val (.int (2 : Int32)), .val (.ref b2), .val (.ref b3), .val (.int zb5), .val (.int (-1 : Int32))] [])) _
        refine XS.aloadN X54.here hx rfl (hb hby d1_112) rfl rfl ?_
        refine XS.iconst X54.here hx rfl (hb hby d1_113) ?_
        refine st58 _ ?_
        exact Steps.refl _
      have c62 : Arv Z T58.heap p0 kz .boolean (2 : Int32) [(.int y0), (.int y1)] (.int (0 : Int32)) := ((c42.other W54 ne_p0_b3).keep Kc58 (ninS ne_p0_b2 nin0))
      have c63 : Arv Z T58.heap b3 k3 .int (2 : Int32) [(.int zc6), (.int zc4)] (.int (0 : Int32)) := (V54.keep Kc58 (ninS (Ne.symm ne_b2_b3) nin0))
      simp only [if_pos hc56]
      exact ⟨T58, T58.heap, _, X58, (rfl : T58.heap = T58.heap), O58, N58, K58, c62, c63, f58_0, s59⟩
    · have s60 : Steps p.tables e below A₀ (T54.setTop (mkF m 117 #[.val (.ref p0), .val (.int (2 : Int32)), .val (.ref b2), .val (.ref b3), .val (.int zb5), .val (.int (-1 : Int32))] [])) := by
        refine s55.trans ?_
        refine XS.ifYes X54.here hx rfl (pc0 := 109) (pc' := 117) rfl (hb hby d1_109) rfl ((if0 _ _).trans (flt hc56).2.1) (by decide) (by decide) ?_
        exact Steps.refl _
      have c64 : Arv Z h54 p0 kz .boolean (2 : Int32) [(.int y0), (.int y1)] (.int (0 : Int32)) := (c42.other W54 ne_p0_b3)
      have c65 : Arv Z h54 b2 k2 .int (2 : Int32) [(.int (own_max za1 (0 : Int32))), (.int (own_max za2 (0 : Int32)))] (.int (0 : Int32)) := ((V27.other W41 ne_b2_b3).other W54 ne_b2_b3)
      simp only [if_neg hc56]
      exact ⟨T54, h54, _, X54, e54, O54, N54, K54, c64, V54, c65, s60⟩
  obtain ⟨z66, hz66⟩ : ∃ z, z = (if zb5 < (0 : Int32) then (-1 : Int32) else (own_max za1 (0 : Int32))) := ⟨_, rfl⟩
  rw [← hz66] at f61_2
  obtain ⟨z67, hz67⟩ : ∃ z, z = (if zb5 < (0 : Int32) then (-1 : Int32) else (own_max za2 (0 : Int32))) := ⟨_, rfl⟩
  rw [← hz67] at f61_2
  obtain ⟨T68, h68, X68, e68, E68, A68, D68, -, st68⟩ := newO X61 hx hZ hown (hw _ (List.mem_of_getElem? (i := 11) rfl)) (hw _ (List.mem_of_getElem? (i := 12) rfl)) (hw _ (List.mem_of_getElem? (i := 13) rfl)) e61 (g := (mkF m 117 #[.val (.ref p0), .val (.int (2 : Int32)), .val (.ref b2), .val (.ref b3), .val (.int zb5), .val (.int (-1 : Int32))] [])) rfl (hb hby d1_117) (by decide) (by decide)
  obtain ⟨b68, g68⟩ : ∃ z, z = h61.size := ⟨_, rfl⟩
  rw [← g68] at A68 D68 st68
  have ne_p0_b68 : p0 ≠ b68 := Nat.ne_of_lt (Nat.lt_of_lt_of_le f61_0.lt (Nat.le_of_eq g68.symm))
  have ne_b2_b68 : b2 ≠ b68 := Nat.ne_of_lt (Nat.lt_of_lt_of_le f61_2.lt (Nat.le_of_eq g68.symm))
  have ne_b3_b68 : b3 ≠ b68 := Nat.ne_of_lt (Nat.lt_of_lt_of_le f61_1.lt (Nat.le_of_eq g68.symm))
  have g_b68 : n0 ≤ b68 := Nat.le_trans (Nat.le_of_eq O61.1.symm) (Nat.le_trans O61.2.1 (Nat.le_of_eq g68.symm))
  have sz_b68 : h0.size ≤ b68 := Nat.le_trans K61.1 (Nat.le_of_eq g68.symm)
  have O68 := O61.ext E68
  have K68 : Keep h0 h68 [] := K61.ext E68
  have F68_val_from : Fld Z h68 b68 "com/example/libprox/libprox/Cpe$1" "val$from" "[I" .null := D68 (Or.inr (hw _ (List.mem_of_getElem? (i := 18) rfl))) (ty := (.array .int)) (by decide)
  have F68_val_to : Fld Z h68 b68 "com/example/libprox/libprox/Cpe$1" "val$to" "[I" .null := D68 (Or.inr (hw _ (List.mem_of_getElem? (i := 20) rfl))) (ty := (.array .int)) (by decide)
  obtain ⟨_, _, ⟨T69, L69, k69, n69⟩, -, X69, ⟨Lc69, hQ69, l69, y69, z69⟩, st69⟩ := X68.specialBack hx (y := (⟨"com/example/libprox/libprox/Cpe$1", "<init>", "([I[I)V"⟩ : MethodName)) rfl hown (mvT hZ (hw _ (List.mem_of_getElem? (i := 14) rfl))) (mvT hZ (hw _ (List.mem_of_getElem? (i := 15) rfl))) (mvT hZ (hw _ (List.mem_of_getElem? (i := 16) rfl))) (by decide) (backOf (W := 1) (rm3 l Z a0 hw [] b68 b2 b3 h68 n0 O68 A68 F68_val_from F68_val_to g_b68) hZ (hw _ (List.mem_of_getElem? (i := 16) rfl)) (hw _ (List.mem_of_getElem? (i := 13) rfl)) (by decide) (by decide)) (g := (mkF m 123 #[.val (.ref p0), .val (.int (2 : Int32)), .val (.ref b2), .val (.ref b3), .val (.int zb5), .val (.int (-1 : Int32))] [(.ref b3), (.ref b2), (.ref b68), (.ref b68)])) rfl (by rw [hml]; rfl) (Steps.refl _) (a := b68) (argsL := [(.ref b2), (.ref b3)]) (rest := [(.ref b68)]) (lenOf pd_rmt2_2 rfl) rfl (by show 2 * 0 + _ ≤ _; exact Nat.le_of_eq rfl) (hb hby d1_123) (fun _ _ => ⟨rfl, e68, (by decide : 3 + 0 ≤ _), (by decide : 6 + 0 ≤ _)⟩)
  dsimp only [Pt.U, Pt.locs, Pt.cells, Pt.slots] at X69 l69 y69 z69 st69 hQ69
  subst l69 y69 z69
  obtain ⟨rfl, Nq69, Kc69, f69_0, f69_1, f69_2⟩ := hQ69
  have N69 := Fr.app N61 Nq69
  have K69 : Keep h0 T69.heap [] := K68.trans Kc69 (allS (Or.inr sz_b68) all0)
  have O69 := O68.keep Kc69 (allS g_b68 all0)
  have s70 : Steps p.tables e below A₀ (T69.setTop (mkF m 126 #[.val (.ref p0), .val (.int (2 : Int32)), .val (.ref b2), .val (.ref b3), .val (.int zb5), .val (.int (-1 : Int32))] [(.ref b68)])) := by
    refine s61.trans ?_
    refine st68 _ ?_
    show Steps p.tables e below (T68.setTop (mkF m 120 #[.val (.ref p0), .val (.int (2 : Int32)), .val (.ref b2), .val (.ref b3), .val (.int zb5), .val (.int (-1 : Int32))] [(.ref b68)])) _
    refine XS.dup X68.here hx rfl (hb hby d1_120) rfl rfl ?_
    refine XS.aloadN X68.here hx rfl (hb hby d1_121) rfl rfl ?_
    refine XS.aloadN X68.here hx rfl (hb hby d1_122) rfl rfl ?_
    refine st69.trans ?_
    exact Steps.refl _
  have c71 : Arv Z T69.heap b2 k2 .int (2 : Int32) [(.int z66), (.int z67)] (.int (0 : Int32)) := ((f61_2.ext E68).keep Kc69 (ninS ne_b2_b68 nin0))
  have VrF := c71
  have EF0 := (own_rmt2_1 y0 y1 za1 zb3 zb5 z66 hz66 hza1 hzb5 hzb3)
  have EF1 := (own_rmt2_2 y0 y1 za1 za2 zb3 zb5 z67 hz67 hza2 hza1 hzb5 hzb3)
  rw [EF0, EF1] at VrF
  have c72 : Arv Z T69.heap b3 k3 .int (2 : Int32) [(.int zc6), (.int zc4)] (.int (0 : Int32)) := ((f61_1.ext E68).keep Kc69 (ninS ne_b3_b68 nin0))
  have VrT := c72
  have ET0 := (own_rmt2_3 y0 y1 zb3 zb5 zc6 hzc6 hzb5 hzb3)
  have ET1 := (own_rmt2_4 y0 y1 zb3 zc4 hzc4 hzb3)
  rw [ET0, ET1] at VrT
  subst hA₀
  obtain ⟨fs, hr, hrun, hended, hW, hsame⟩ := X69.leave (v := some (.ref b68)) (fun h => by rw [Bd.returns] at h; cases h)
  refine ⟨_, _, s70.trans ?_, hrun, hended, _, _, rfl, ?_, ⟨_, rfl⟩, hW, hsame.mono (by decide) (by decide)⟩
  · show Steps p.tables e below (T69.setTop (mkF m 126 #[.val (.ref p0), .val (.int (2 : Int32)), .val (.ref b2), .val (.ref b3), .val (.int zb5), .val (.int (-1 : Int32))] [(.ref b68)])) _
    jvm_step X69.here [X69.here.top, hx, (hb hby d1_126), X69.method', Bd.returns, Value.isRef, FieldType.isReference]
    first | (intro acts; rw [hr _ acts rfl rfl rfl]) | rw [hr _ _ rfl rfl rfl]
    exact Steps.refl _
  · show Qt2 Z p0 kz y0 y1 h0 n0 _ T69.heap _
    exact ⟨b68, b2, b3, k2, k3, rfl, N69, K69, f69_0, f69_1, f69_2, VrF, VrT⟩
theorem ef_rmfill3 (m : MethodId) (p0 : Addr) : entryFrame m #[(.ref p0), (.int (-1 : Int32))] 4 = mkF m 0 #[.val (.ref p0), .val (.int (-1 : Int32)), .unset, .unset] [] := by first | (simp [entryFrame, mkF, argsToLocals, Value.category]; done) | rfl
def Qfill3 (Z : State) (p0 : Addr) (k1 : ClassId) (x0 : Int32) (x1 : Int32) (x2 : Int32) (h0 : Heap) (n0 : Nat) (v : Option Value) (h : Heap) (L : List Loc) : Prop := v = none ∧ Fr n0 L ∧ Keep h0 h [p0] ∧ (Arv Z h p0 k1 .int (3 : Int32) [(.int (-1 : Int32)), (.int (-1 : Int32)), (.int (-1 : Int32))] (.int (0 : Int32)))
set_option maxRecDepth 65536 in
set_option maxHeartbeats 40000000 in
theorem rmfill3 (l : Launch) (Z : State) (a0 : Array Value) (hw : ∀ d ∈ tables_1, d.before a0 Z = true) (ws : List Jvm.Cond) (p0 : Addr) (k1 : ClassId) (x0 : Int32) (x1 : Int32) (x2 : Int32) (h0 : Heap) (n0 : Nat) (O0 : Old Z n0 h0) (F0_ : Arv Z h0 p0 k1 .int (3 : Int32) [(.int x0), (.int x1), (.int x2)] (.int (0 : Int32))) (F1_ : n0 ≤ p0) :
    MetFree l nm7 (head1 (Jvm.Cond.code nm7 jdk_65_method_103_code 4 none :: ws) ({ frames := 0, cells := 0, slots := 0, locals := 0 } : Room)) (fun a U => a = #[(.ref p0), (.int (-1 : Int32))] ∧ Z.Warmed39 U.vm ∧ U.heap = h0) (fun _ _ _ _ _ => True) (fun _ U o U' => ∃ v L, o = .returned v ∧ Qfill3 Z p0 k1 x0 x1 x2 h0 n0 v U'.heap L ∧ FrameEnd U o U' L ({ frames := 0, cells := 0, slots := 0, locals := 0 } : Room).cells ({ frames := 0, cells := 0, slots := 0, locals := 0 } : Room).slots) := by
  refine MetFree.of_bodySF (plainFor_of_name pn_10) hisR ?_
  intro p e s m args below meth c s₁ Bd hml0 hP hK
  obtain ⟨rfl, hZ, hh⟩ := hP
  have hx := Bd.exec
  have hby := Bd.bytes
  have hml : c.maxLocals = 4 := hml0
  have hown : s.vm.findClass "java/util/Arrays" = some m.cls := findClass_of_methodNamed Bd.named
  have hnm := (name_of_methodNamed Bd.named Bd.method).1
  have X0 : Stand p l e ({ frames := 0, cells := 0, slots := 0, locals := 0 } : Room) s m #[(.ref p0), (.int (-1 : Int32))] below meth c s₁ [] 0 0 := Stand.of_body Bd
  have e0 : s₁.heap = h0 := by rw [← hh, Bd.state]; rfl
  have N0 := Fr.nil n0
  have s0 : Steps p.tables e below (s₁.setTop (entryFrame m #[(.ref p0), (.int (-1 : Int32))] 4)) (s₁.setTop (mkF m 0 #[.val (.ref p0), .val (.int (-1 : Int32)), .unset, .unset] [])) := castTop (ef_rmfill3 m p0) (Steps.refl _)
  obtain ⟨A₀, hA₀⟩ : ∃ z, z = (s₁.setTop (entryFrame m #[(.ref p0), (.int (-1 : Int32))] 4)) := ⟨_, rfl⟩
  rw [← hA₀] at s0
  obtain ⟨cla1, Ara1, qa1, Sa1, Za1, Ha1, Ga1⟩ := id F0_
  have hin2 : ¬ ((0 : Int32) < 0 ∨ cla1.slots.size ≤ ((0 : Int32)).toNatClampNeg) := inb_of Sa1 ⟨by decide, by decide⟩
  obtain ⟨T3, h3, X3, e3, W3, st3⟩ := stI X0 hx hZ e0 Ara1 (j := (0 : Int32)) hin2 (g := (mkF m 13 #[.val (.ref p0), .val (.int (-1 : Int32)), .val (.int (0 : Int32)), .val (.int (3 : Int32))] [(.int (-1 : Int32)), (.int (0 : Int32)), (.ref p0)])) rfl rfl (hb hby d10_13)
  have O3 := O0.wr W3 F1_
  have K3 : Keep h0 h3 [p0] := (Keep.refl h0 [p0]).wr W3 (Or.inl (List.mem_of_getElem? (i := 0) rfl))
  have N3 := Fr.snoc X3 N0 F1_
  have V3 : Arv Z h3 p0 k1 .int (3 : Int32) [(.int (-1 : Int32)), (.int x1), (.int x2)] (.int (0 : Int32)) := Arv.set Ara1 qa1 Sa1 Za1 Ha1 Ga1 rfl W3 0 rfl (Nat.le_of_ble_eq_true rfl)
  obtain ⟨cla4, Ara4, qa4, Sa4, Za4, Ha4, Ga4⟩ := id V3
  have hin5 : ¬ ((1 : Int32) < 0 ∨ cla4.slots.size ≤ ((1 : Int32)).toNatClampNeg) := inb_of Sa4 ⟨by decide, by decide⟩
  obtain ⟨T6, h6, X6, e6, W6, st6⟩ := stI X3 hx hZ e3 Ara4 (j := (1 : Int32)) hin5 (g := (mkF m 13 #[.val (.ref p0), .val (.int (-1 : Int32)), .val (.int (1 : Int32)), .val (.int (3 : Int32))] [(.int (-1 : Int32)), (.int (1 : Int32)), (.ref p0)])) rfl rfl (hb hby d10_13)
  have O6 := O3.wr W6 F1_
  have K6 : Keep h0 h6 [p0] := K3.wr W6 (Or.inl (List.mem_of_getElem? (i := 0) rfl))
  have N6 := Fr.snoc X6 N3 F1_
  have V6 : Arv Z h6 p0 k1 .int (3 : Int32) [(.int (-1 : Int32)), (.int (-1 : Int32)), (.int x2)] (.int (0 : Int32)) := Arv.set Ara4 qa4 Sa4 Za4 Ha4 Ga4 rfl W6 1 rfl (Nat.le_of_ble_eq_true rfl)
  obtain ⟨cla7, Ara7, qa7, Sa7, Za7, Ha7, Ga7⟩ := id V6
  have hin8 : ¬ ((2 : Int32) < 0 ∨ cla7.slots.size ≤ ((2 : Int32)).toNatClampNeg) := inb_of Sa7 ⟨by decide, by decide⟩
  obtain ⟨T9, h9, X9, e9, W9, st9⟩ := stI X6 hx hZ e6 Ara7 (j := (2 : Int32)) hin8 (g := (mkF m 13 #[.val (.ref p0), .val (.int (-1 : Int32)), .val (.int (2 : Int32)), .val (.int (3 : Int32))] [(.int (-1 : Int32)), (.int (2 : Int32)), (.ref p0)])) rfl rfl (hb hby d10_13)
  have O9 := O6.wr W9 F1_
  have K9 : Keep h0 h9 [p0] := K6.wr W9 (Or.inl (List.mem_of_getElem? (i := 0) rfl))
  have N9 := Fr.snoc X9 N6 F1_
  have V9 : Arv Z h9 p0 k1 .int (3 : Int32) [(.int (-1 : Int32)), (.int (-1 : Int32)), (.int (-1 : Int32))] (.int (0 : Int32)) := Arv.set Ara7 qa7 Sa7 Za7 Ha7 Ga7 rfl W9 2 rfl (Nat.le_of_ble_eq_true rfl)
  have s10 : Steps p.tables e below A₀ (T9.setTop (mkF m 20 #[.val (.ref p0), .val (.int (-1 : Int32)), .val (.int (3 : Int32)), .val (.int (3 : Int32))] [])) := by
    refine s0.trans ?_
    refine XS.iconst X0.here hx rfl (hb hby d10_0) ?_
    show Steps p.tables e below (s₁.setTop (mkF m 1 #[.val (.ref p0), .val (.int (-1 : Int32)), .unset, .unset] [(.int (0 : Int32))])) _
    refine XS.istoreN X0.here hx rfl (hb hby d10_1) rfl (l' := #[.val (.ref p0), .val (.int (-1 : Int32)), .val (.int (0 : Int32)), .unset]) rfl ?_
    refine XS.aloadN X0.here hx rfl (hb hby d10_2) rfl rfl ?_
    refine X0.arraylength hx (by rw [e0]; exact Ara1.1) (State.isArrayOf_alike hZ.alike Ara1.2.1) (g := (mkF m 3 #[.val (.ref p0), .val (.int (-1 : Int32)), .val (.int (0 : Int32)), .unset] [(.ref p0)])) rfl rfl (hb hby d10_3) _ ?_
    rw [len_of Sa1 Za1]
    show Steps p.tables e below (s₁.setTop (mkF m 4 #[.val (.ref p0), .val (.int (-1 : Int32)), .val (.int (0 : Int32)), .unset] [(.int (3 : Int32))])) _
    refine XS.istoreN X0.here hx rfl (hb hby d10_4) rfl (l' := #[.val (.ref p0), .val (.int (-1 : Int32)), .val (.int (0 : Int32)), .val (.int (3 : Int32))]) rfl ?_
    refine XS.iloadN X0.here hx rfl (hb hby d10_5) rfl ?_
    refine XS.iloadN X0.here hx rfl (hb hby d10_6) rfl ?_
    refine XS.icmpNo X0.here hx rfl (hb hby d10_7) rfl (tlt (by decide)).2.1 ?_
    refine XS.aloadN X0.here hx rfl (hb hby d10_10) rfl rfl ?_
    refine XS.iloadN X0.here hx rfl (hb hby d10_11) rfl ?_
    show Steps p.tables e below (s₁.setTop (mkF m 12 #[.val (.ref p0), .val (.int (-1 : Int32)), .val (.int (0 : Int32)), .val (.int (3 : Int32))] [(.int (0 : Int32)), (.ref p0)])) _
    refine XS.iloadN X0.here hx rfl (hb hby d10_12) rfl ?_
    refine st3 _ ?_
    refine XS.iinc X3.here hx rfl (hb hby d10_14) rfl (l' := #[.val (.ref p0), .val (.int (-1 : Int32)), .val (.int (1 : Int32)), .val (.int (3 : Int32))]) rfl ?_
    refine XS.goto X3.here hx rfl (pc0 := 17) (pc' := 5) rfl (hb hby d10_17) (by decide) (by decide) ?_
    refine XS.iloadN X3.here hx rfl (hb hby d10_5) rfl ?_
    refine XS.iloadN X3.here hx rfl (hb hby d10_6) rfl ?_
    show Steps p.tables e below (T3.setTop (mkF m 7 #[.val (.ref p0), .val (.int (-1 : Int32)), .val (.int (1 : Int32)), .val (.int (3 : Int32))] [(.int (3 : Int32)), (.int (1 : Int32))])) _
    refine XS.icmpNo X3.here hx rfl (hb hby d10_7) rfl (tlt (by decide)).2.1 ?_
    refine XS.aloadN X3.here hx rfl (hb hby d10_10) rfl rfl ?_
    refine XS.iloadN X3.here hx rfl (hb hby d10_11) rfl ?_
    refine XS.iloadN X3.here hx rfl (hb hby d10_12) rfl ?_
    refine st6 _ ?_
    refine XS.iinc X6.here hx rfl (hb hby d10_14) rfl (l' := #[.val (.ref p0), .val (.int (-1 : Int32)), .val (.int (2 : Int32)), .val (.int (3 : Int32))]) rfl ?_
    show Steps p.tables e below (T6.setTop (mkF m 17 #[.val (.ref p0), .val (.int (-1 : Int32)), .val (.int (2 : Int32)), .val (.int (3 : Int32))] [])) _
    refine XS.goto X6.here hx rfl (pc0 := 17) (pc' := 5) rfl (hb hby d10_17) (by decide) (by decide) ?_
    refine XS.iloadN X6.here hx rfl (hb hby d10_5) rfl ?_
    refine XS.iloadN X6.here hx rfl (hb hby d10_6) rfl ?_
    refine XS.icmpNo X6.here hx rfl (hb hby d10_7) rfl (tlt (by decide)).2.1 ?_
    refine XS.aloadN X6.here hx rfl (hb hby d10_10) rfl rfl ?_
    refine XS.iloadN X6.here hx rfl (hb hby d10_11) rfl ?_
    show Steps p.tables e below (T6.setTop (mkF m 12 #[.val (.ref p0), .val (.int (-1 : Int32)), .val (.int (2 : Int32)), .val (.int (3 : Int32))] [(.int (2 : Int32)), (.ref p0)])) _
    refine XS.iloadN X6.here hx rfl (hb hby d10_12) rfl ?_
    refine st9 _ ?_
    refine XS.iinc X9.here hx rfl (hb hby d10_14) rfl (l' := #[.val (.ref p0), .val (.int (-1 : Int32)), .val (.int (3 : Int32)), .val (.int (3 : Int32))]) rfl ?_
    refine XS.goto X9.here hx rfl (pc0 := 17) (pc' := 5) rfl (hb hby d10_17) (by decide) (by decide) ?_
    refine XS.iloadN X9.here hx rfl (hb hby d10_5) rfl ?_
    refine XS.iloadN X9.here hx rfl (hb hby d10_6) rfl ?_
    show Steps p.tables e below (T9.setTop (mkF m 7 #[.val (.ref p0), .val (.int (-1 : Int32)), .val (.int (3 : Int32)), .val (.int (3 : Int32))] [(.int (3 : Int32)), (.int (3 : Int32))])) _
    refine XS.icmpYes X9.here hx rfl (pc0 := 7) (pc' := 20) rfl (hb hby d10_7) rfl (flt (by decide)).2.1 (by decide) (by decide) ?_
    exact Steps.refl _
  subst hA₀
  obtain ⟨fs, hr, hrun, hended, hW, hsame⟩ := X9.leave (v := none) (fun _ => rfl)
  refine ⟨_, _, s10.trans ?_, hrun, hended, _, _, rfl, ?_, ⟨_, rfl⟩, hW, hsame.mono (by decide) (by decide)⟩
  · show Steps p.tables e below (T9.setTop (mkF m 20 #[.val (.ref p0), .val (.int (-1 : Int32)), .val (.int (3 : Int32)), .val (.int (3 : Int32))] [])) _
    exact X9.returnOut hx Bd.returns (hb hby d10_20) hr
  · show Qfill3 Z p0 k1 x0 x1 x2 h0 n0 _ T9.heap _
    rw [e9]
    exact ⟨rfl, N9, K9, V9⟩
theorem own_rmt3_1 (y0 : Int32) (y1 : Int32) (y2 : Int32) (za1 : Int32) (zb4 : Int32) (zb6 : Int32) (zb8 : Int32) (z90 : Int32) (hz90 : z90 = (if zb8 < (0 : Int32) then (-1 : Int32) else (own_max za1 (0 : Int32)))) (hza1 : za1 = (if y0 = (0 : Int32) then (0 : Int32) else (-1 : Int32))) (hzb8 : zb8 = (if y0 = (0 : Int32) then (0 : Int32) else zb6)) (hzb6 : zb6 = (if y1 = (0 : Int32) then (1 : Int32) else zb4)) (hzb4 : zb4 = (if y2 = (0 : Int32) then (2 : Int32) else (-1 : Int32))) : z90 = (own_F3_0 y0 y1 y2) := by
  unfold own_F3_0
  by_cases qy0 : y0 = (0 : Int32) <;> by_cases qy1 : y1 = (0 : Int32) <;> by_cases qy2 : y2 = (0 : Int32) <;> simp_all [own_max]
theorem own_rmt3_2 (y0 : Int32) (y1 : Int32) (y2 : Int32) (za1 : Int32) (za2 : Int32) (zb4 : Int32) (zb6 : Int32) (zb8 : Int32) (z91 : Int32) (hz91 : z91 = (if zb8 < (0 : Int32) then (-1 : Int32) else (own_max za2 (0 : Int32)))) (hza2 : za2 = (if y1 = (0 : Int32) then (1 : Int32) else za1)) (hza1 : za1 = (if y0 = (0 : Int32) then (0 : Int32) else (-1 : Int32))) (hzb8 : zb8 = (if y0 = (0 : Int32) then (0 : Int32) else zb6)) (hzb6 : zb6 = (if y1 = (0 : Int32) then (1 : Int32) else zb4)) (hzb4 : zb4 = (if y2 = (0 : Int32) then (2 : Int32) else (-1 : Int32))) : z91 = (own_F3_1 y0 y1 y2) := by
  unfold own_F3_1
  by_cases qy0 : y0 = (0 : Int32) <;> by_cases qy1 : y1 = (0 : Int32) <;> by_cases qy2 : y2 = (0 : Int32) <;> simp_all [own_max]
theorem own_rmt3_3 (y0 : Int32) (y1 : Int32) (y2 : Int32) (za1 : Int32) (za2 : Int32) (za3 : Int32) (zb4 : Int32) (zb6 : Int32) (zb8 : Int32) (z92 : Int32) (hz92 : z92 = (if zb8 < (0 : Int32) then (-1 : Int32) else (own_max za3 (0 : Int32)))) (hza3 : za3 = (if y2 = (0 : Int32) then (2 : Int32) else za2)) (hza2 : za2 = (if y1 = (0 : Int32) then (1 : Int32) else za1)) (hza1 : za1 = (if y0 = (0 : Int32) then (0 : Int32) else (-1 : Int32))) (hzb8 : zb8 = (if y0 = (0 : Int32) then (0 : Int32) else zb6)) (hzb6 : zb6 = (if y1 = (0 : Int32) then (1 : Int32) else zb4)) (hzb4 : zb4 = (if y2 = (0 : Int32) then (2 : Int32) else (-1 : Int32))) : z92 = (own_F3_2 y0 y1 y2) := by
  unfold own_F3_2
  by_cases qy0 : y0 = (0 : Int32) <;> by_cases qy1 : y1 = (0 : Int32) <;> by_cases qy2 : y2 = (0 : Int32) <;> simp_all [own_max]
theorem own_rmt3_4 (y0 : Int32) (y1 : Int32) (y2 : Int32) (zb4 : Int32) (zb6 : Int32) (zb8 : Int32) (zc9 : Int32) (hzc9 : zc9 = (if zb8 < (0 : Int32) then (2 : Int32) else zb8)) (hzb8 : zb8 = (if y0 = (0 : Int32) then (0 : Int32) else zb6)) (hzb6 : zb6 = (if y1 = (0 : Int32) then (1 : Int32) else zb4)) (hzb4 : zb4 = (if y2 = (0 : Int32) then (2 : Int32) else (-1 : Int32))) : zc9 = (own_T3_0 y0 y1 y2) := by
  unfold own_T3_0
  by_cases qy0 : y0 = (0 : Int32) <;> by_cases qy1 : y1 = (0 : Int32) <;> by_cases qy2 : y2 = (0 : Int32) <;> simp_all [own_max]
theorem own_rmt3_5 (y0 : Int32) (y1 : Int32) (y2 : Int32) (zb4 : Int32) (zb6 : Int32) (zc7 : Int32) (hzc7 : zc7 = (if zb6 < (0 : Int32) then (2 : Int32) else zb6)) (hzb6 : zb6 = (if y1 = (0 : Int32) then (1 : Int32) else zb4)) (hzb4 : zb4 = (if y2 = (0 : Int32) then (2 : Int32) else (-1 : Int32))) : zc7 = (own_T3_1 y0 y1 y2) := by
  unfold own_T3_1
  by_cases qy0 : y0 = (0 : Int32) <;> by_cases qy1 : y1 = (0 : Int32) <;> by_cases qy2 : y2 = (0 : Int32) <;> simp_all [own_max]
theorem own_rmt3_6 (y0 : Int32) (y1 : Int32) (y2 : Int32) (zb4 : Int32) (zc5 : Int32) (hzc5 : zc5 = (if zb4 < (0 : Int32) then (2 : Int32) else zb4)) (hzb4 : zb4 = (if y2 = (0 : Int32) then (2 : Int32) else (-1 : Int32))) : zc5 = (own_T3_2 y0 y1 y2) := by
  unfold own_T3_2
  by_cases qy0 : y0 = (0 : Int32) <;> by_cases qy1 : y1 = (0 : Int32) <;> by_cases qy2 : y2 = (0 : Int32) <;> simp_all [own_max]
theorem pd_rmt3_0 : parseMethodDescriptor "(II)I" = some ⟨[.int, .int], some .int⟩ := by decide +kernel
theorem pd_rmt3_1 : parseMethodDescriptor "([II)V" = some ⟨[(.array .int), .int], none⟩ := by decide +kernel
theorem pd_rmt3_2 : parseMethodDescriptor "([I[I)V" = some ⟨[(.array .int), (.array .int)], none⟩ := by decide +kernel
theorem ef_rmt3 (m : MethodId) (p0 : Addr) : entryFrame m #[(.ref p0)] 6 = mkF m 0 #[.val (.ref p0), .unset, .unset, .unset, .unset, .unset] [] := by first | (simp [entryFrame, mkF, argsToLocals, Value.category]; done) | rfl
def Qt3 (Z : State) (p0 : Addr) (kz : ClassId) (y0 : Int32) (y1 : Int32) (y2 : Int32) (h0 : Heap) (n0 : Nat) (v : Option Value) (h : Heap) (L : List Loc) : Prop := ∃ b : Addr, ∃ f : Addr, ∃ t : Addr, ∃ kf : ClassId, ∃ kt : ClassId, v = some (.ref b) ∧ Fr n0 L ∧ Keep h0 h [] ∧ (Exa Z h b "com/example/libprox/libprox/Cpe$1") ∧ (Fld Z h b "com/example/libprox/libprox/Cpe$1" "val$from" "[I" (.ref f)) ∧ (Fld Z h b "com/example/libprox/libprox/Cpe$1" "val$to" "[I" (.ref t)) ∧ (Arv Z h f kf .int (3 : Int32) [(.int (own_F3_0 y0 y1 y2)), (.int (own_F3_1 y0 y1 y2)), (.int (own_F3_2 y0 y1 y2))] (.int (0 : Int32))) ∧ (Arv Z h t kt .int (3 : Int32) [(.int (own_T3_0 y0 y1 y2)), (.int (own_T3_1 y0 y1 y2)), (.int (own_T3_2 y0 y1 y2))] (.int (0 : Int32)))
set_option maxRecDepth 65536 in
set_option maxHeartbeats 40000000 in
theorem rmt3 (l : Launch) (Z : State) (a0 : Array Value) (hw : ∀ d ∈ tables_1, d.before a0 Z = true) (ws : List Jvm.Cond) (p0 : Addr) (kz : ClassId) (y0 : Int32) (y1 : Int32) (y2 : Int32) (h0 : Heap) (n0 : Nat) (O0 : Old Z n0 h0) (F0_ : Arv Z h0 p0 kz .boolean (3 : Int32) [(.int y0), (.int y1), (.int y2)] (.int (0 : Int32))) :
    MetFree l nm8 (head1 (Jvm.Cond.code nm8 prog_8_method_5_code 6 (some (.object "com/example/libprox/libprox/Combinations$Rule")) :: ws) ({ frames := 2, cells := 3, slots := 8, locals := 27 } : Room)) (fun a U => a = #[(.ref p0)] ∧ Z.Warmed39 U.vm ∧ U.heap = h0) (fun _ _ _ _ _ => True) (fun _ U o U' => ∃ v L, o = .returned v ∧ Qt3 Z p0 kz y0 y1 y2 h0 n0 v U'.heap L ∧ FrameEnd U o U' L ({ frames := 2, cells := 3, slots := 8, locals := 27 } : Room).cells ({ frames := 2, cells := 3, slots := 8, locals := 27 } : Room).slots) := by
  refine MetFree.of_bodySF (plainFor_of_name pn_1) hisR ?_
  intro p e s m args below meth c s₁ Bd hml0 hP hK
  obtain ⟨rfl, hZ, hh⟩ := hP
  have hx := Bd.exec
  have hby := Bd.bytes
  have hml : c.maxLocals = 6 := hml0
  have hown : s.vm.findClass "com/example/libprox/libprox/Cpe" = some m.cls := findClass_of_methodNamed Bd.named
  have hnm := (name_of_methodNamed Bd.named Bd.method).1
  have X0 : Stand p l e ({ frames := 2, cells := 3, slots := 8, locals := 27 } : Room) s m #[(.ref p0)] below meth c s₁ [] 0 0 := Stand.of_body Bd
  have e0 : s₁.heap = h0 := by rw [← hh, Bd.state]; rfl
  have N0 := Fr.nil n0
  have s0 : Steps p.tables e below (s₁.setTop (entryFrame m #[(.ref p0)] 6)) (s₁.setTop (mkF m 0 #[.val (.ref p0), .unset, .unset, .unset, .unset, .unset] [])) := castTop (ef_rmt3 m p0) (Steps.refl _)
  obtain ⟨A₀, hA₀⟩ : ∃ z, z = (s₁.setTop (entryFrame m #[(.ref p0)] 6)) := ⟨_, rfl⟩
  rw [← hA₀] at s0
  obtain ⟨cla1, Ara1, qa1, Sa1, Za1, Ha1, Ga1⟩ := id F0_
  obtain ⟨T2, h2, k2, X2, e2, E2, A2, st2⟩ := newP X0 hx hZ (hw _ (List.mem_of_getElem? (i := 6) rfl)) e0 (g := (mkF m 4 #[.val (.ref p0), .val (.int (3 : Int32)), .unset, .unset, .unset, .unset] [(.int (3 : Int32))])) rfl (hb hby d1_4) rfl (by decide) (cap := 3) (by decide) (by decide) (by decide) (by decide)
  obtain ⟨b2, g2⟩ : ∃ z, z = h0.size := ⟨_, rfl⟩
  rw [← g2] at A2 st2
  have ne_p0_b2 : p0 ≠ b2 := Nat.ne_of_lt (Nat.lt_of_lt_of_le F0_.lt (Nat.le_of_eq g2.symm))
  have g_b2 : n0 ≤ b2 := Nat.le_trans (Nat.le_of_eq O0.1.symm) (Nat.le_trans O0.2.1 (Nat.le_of_eq g2.symm))
  have sz_b2 : h0.size ≤ b2 := Nat.le_trans (Keep.refl h0 []).1 (Nat.le_of_eq g2.symm)
  have O2 := O0.ext E2
  have K2 : Keep h0 h2 [] := (Keep.refl h0 []).ext E2
  have V2 : Arv Z h2 b2 k2 .int (3 : Int32) [(.int (0 : Int32)), (.int (0 : Int32)), (.int (0 : Int32))] (.int (0 : Int32)) := (Arv.new A2 (by decide)).pad (pad_rep [] (.int (0 : Int32)) 3)
  obtain ⟨T3, h3, k3, X3, e3, E3, A3, st3⟩ := newP X2 hx hZ (hw _ (List.mem_of_getElem? (i := 6) rfl)) e2 (g := (mkF m 8 #[.val (.ref p0), .val (.int (3 : Int32)), .val (.ref b2), .unset, .unset, .unset] [(.int (3 : Int32))])) rfl (hb hby d1_8) rfl (by decide) (cap := 3) (by decide) (by decide) (by decide) (by decide)
  obtain ⟨b3, g3⟩ : ∃ z, z = h2.size := ⟨_, rfl⟩
  rw [← g3] at A3 st3
  have c4 : Arv Z h2 p0 kz .boolean (3 : Int32) [(.int y0), (.int y1), (.int y2)] (.int (0 : Int32)) := (F0_.ext E2)
  have ne_p0_b3 : p0 ≠ b3 := Nat.ne_of_lt (Nat.lt_of_lt_of_le c4.lt (Nat.le_of_eq g3.symm))
  have ne_b2_b3 : b2 ≠ b3 := Nat.ne_of_lt (Nat.lt_of_lt_of_le V2.lt (Nat.le_of_eq g3.symm))
  have g_b3 : n0 ≤ b3 := Nat.le_trans (Nat.le_of_eq O2.1.symm) (Nat.le_trans O2.2.1 (Nat.le_of_eq g3.symm))
  have sz_b3 : h0.size ≤ b3 := Nat.le_trans K2.1 (Nat.le_of_eq g3.symm)
  have O3 := O2.ext E3
  have K3 : Keep h0 h3 [] := K2.ext E3
  have V3 : Arv Z h3 b3 k3 .int (3 : Int32) [(.int (0 : Int32)), (.int (0 : Int32)), (.int (0 : Int32))] (.int (0 : Int32)) := (Arv.new A3 (by decide)).pad (pad_rep [] (.int (0 : Int32)) 3)
  have c5 : Arv Z h3 p0 kz .boolean (3 : Int32) [(.int y0), (.int y1), (.int y2)] (.int (0 : Int32)) := (c4.ext E3)
  obtain ⟨cla6, Ara6, qa6, Sa6, Za6, Ha6, Ga6⟩ := id c5
  have hin7 : ¬ ((0 : Int32) < 0 ∨ cla6.slots.size ≤ ((0 : Int32)).toNatClampNeg) := inb_of Sa6 ⟨by decide, by decide⟩
  have hat8 : cla6.slots[((0 : Int32)).toNatClampNeg]? = some (.int y0) := Has.at Ha6 hin7 rfl
  have s9 : Steps p.tables e below A₀ (T3.setTop (mkF m 27 #[.val (.ref p0), .val (.int (3 : Int32)), .val (.ref b2), .val (.ref b3), .val (.int (-1 : Int32)), .val (.int (0 : Int32))] [(.int y0)])) := by
    refine s0.trans ?_
    refine XS.aloadN X0.here hx rfl (hb hby d1_0) rfl rfl ?_
    show Steps p.tables e below (s₁.setTop (mkF m 1 #[.val (.ref p0), .unset, .unset, .unset, .unset, .unset] [(.ref p0)])) _
    refine X0.arraylength hx (by rw [e0]; exact Ara1.1) (State.isArrayOf_alike hZ.alike Ara1.2.1) (g := (mkF m 1 #[.val (.ref p0), .unset, .unset, .unset, .unset, .unset] [(.ref p0)])) rfl rfl (hb hby d1_1) _ ?_
    rw [len_of Sa1 Za1]
    show Steps p.tables e below (s₁.setTop (mkF m 2 #[.val (.ref p0), .unset, .unset, .unset, .unset, .unset] [(.int (3 : Int32))])) _
    refine XS.istoreN X0.here hx rfl (hb hby d1_2) rfl (l' := #[.val (.ref p0), .val (.int (3 : Int32)), .unset, .unset, .unset, .unset]) rfl ?_
    refine XS.iloadN X0.here hx rfl (hb hby d1_3) rfl ?_
    refine st2 _ ?_
    refine XS.astoreN X2.here hx rfl (hb hby d1_6) rfl rfl (l' := #[.val (.ref p0), .val (.int (3 : Int32)), .val (.ref b2), .unset, .unset, .unset]) rfl ?_
    refine XS.iloadN X2.here hx rfl (hb hby d1_7) rfl ?_
    refine st3 _ ?_
    show Steps p.tables e below (T3.setTop (mkF m 10 #[.val (.ref p0), .val (.int (3 : Int32)), .val (.ref b2), .unset, .unset, .unset] [(.ref b3)])) _
    refine XS.astoreN X3.here hx rfl (hb hby d1_10) rfl rfl (l' := #[.val (.ref p0), .val (.int (3 : Int32)), .val (.ref b2), .val (.ref b3), .unset, .unset]) rfl ?_
    refine XS.iconst X3.here hx rfl (hb hby d1_11) ?_
    refine XS.istore X3.here hx rfl (hb hby d1_12) rfl (l' := #[.val (.ref p0), .val (.int (3 : Int32)), .val (.ref b2), .val (.ref b3), .val (.int (-1 : Int32)), .unset]) rfl ?_
    refine XS.iconst X3.here hx rfl (hb hby d1_14) ?_
    refine XS.istore X3.here hx rfl (hb hby d1_15) rfl (l' := #[.val (.ref p0), .val (.int (3 : Int32)), .val (.ref b2), .val (.ref b3), .val (.int (-1 : Int32)), .val (.int (0 : Int32))]) rfl ?_
    refine XS.iload X3.here hx rfl (hb hby d1_17) rfl ?_
    show Steps p.tables e below (T3.setTop (mkF m 19 #[.val (.ref p0), .val (.int (3 : Int32)), .val (.ref b2), .val (.ref b3), .val (.int (-1 : Int32)), .val (.int (0 : Int32))] [(.int (0 : Int32))])) _
    refine XS.iloadN X3.here hx rfl (hb hby d1_19) rfl ?_
    refine XS.icmpNo X3.here hx rfl (hb hby d1_20) rfl (tlt (by decide)).2.1 ?_
    refine XS.aloadN X3.here hx rfl (hb hby d1_23) rfl rfl ?_
    refine XS.iload X3.here hx rfl (hb hby d1_24) rfl ?_
    refine X3.baloadBooleans hx (j := (0 : Int32)) (v := (.int y0)) (by rw [e3]; exact Ara6.1) (State.isArrayOf_alike hZ.alike Ara6.2.1) Ara6.2.2 hin7 hat8 (g := (mkF m 26 #[.val (.ref p0), .val (.int (3 : Int32)), .val (.ref b2), .val (.ref b3), .val (.int (-1 : Int32)), .val (.int (0 : Int32))] [(.int (0 : Int32)), (.ref p0)])) rfl rfl (hb hby d1_26) _ ?_
    exact Steps.refl _
  have s11 : Steps p.tables e below A₀ (T3.setTop (mkF m 37 #[.val (.ref p0), .val (.int (3 : Int32)), .val (.ref b2), .val (.ref b3), .val (.int (-1 : Int32)), .val (.int (0 : Int32))] [(.int (if y0 = (0 : Int32) then (0 : Int32) else (-1 : Int32)))])) := by
    by_cases hm10 : y0 = (0 : Int32)
    · simp only [if_pos hm10]
      refine s9.trans ?_
      refine XS.ifYes X3.here hx rfl (pc0 := 27) (pc' := 35) rfl (hb hby d1_27) rfl ((if0 _ _).trans (teq hm10).1) (by decide) (by decide) ?_
      show Steps p.tables e below (T3.setTop (mkF m 35 #[.val (.ref p0), .val (.int (3 : Int32)), .val (.ref b2), .val (.ref b3), .val (.int (-1 : Int32)), .val (.int (0 : Int32))] [])) _
      refine XS.iload X3.here hx rfl (hb hby d1_35) rfl ?_
      exact Steps.refl _
    · simp only [if_neg hm10]
      refine s9.trans ?_
      refine XS.ifNo X3.here hx rfl (hb hby d1_27) rfl ((if0 _ _).trans (feq hm10).1) ?_
      show Steps p.tables e below (T3.setTop (mkF m 30 #[.val (.ref p0), .val (.int (3 : Int32)), .val (.ref b2), .val (.ref b3), .val (.int (-1 : Int32)), .val (.int (0 : Int32))] [])) _
      refine XS.iload X3.here hx rfl (hb hby d1_30) rfl ?_
      refine XS.goto X3.here hx rfl (pc0 := 32) (pc' := 37) rfl (hb hby d1_32) (by decide) (by decide) ?_
      exact Steps.refl _
  obtain ⟨za1, hza1⟩ : ∃ z, z = (if y0 = (0 : Int32) then (0 : Int32) else (-1 : Int32)) := ⟨_, rfl⟩
  rw [← hza1] at s11
  obtain ⟨T12, L12, X12, e12, N12, st12⟩ := own_callP X3 hx hZ hown (wk7 hw) (wk8 hw) (wk9 hw) (wk10 hw) (by decide) (rm2 l Z a0 hw [] za1 (0 : Int32) h3 n0 O3 ) e3 N0 (W := 2) (by decide) (by decide) (by decide) (by decide) (g := (mkF m 45 #[.val (.ref p0), .val (.int (3 : Int32)), .val (.ref b2), .val (.ref b3), .val (.int za1), .val (.int (0 : Int32))] [(.int (0 : Int32)), (.int za1), (.int (0 : Int32)), (.ref b2)])) rfl (by rw [hml]; rfl) (argsL := [(.int za1), (.int (0 : Int32))]) (rest := [(.int (0 : Int32)), (.ref b2)]) (lenOf pd_rmt3_0 rfl) rfl (by show 2 * 0 + _ ≤ _; exact Nat.le_of_eq rfl) (hb hby d1_45)
  have c13 : Arv Z h3 b2 k2 .int (3 : Int32) [(.int (0 : Int32)), (.int (0 : Int32)), (.int (0 : Int32))] (.int (0 : Int32)) := (V2.ext E3)
  obtain ⟨cla14, Ara14, qa14, Sa14, Za14, Ha14, Ga14⟩ := id c13
  have hin15 : ¬ ((0 : Int32) < 0 ∨ cla14.slots.size ≤ ((0 : Int32)).toNatClampNeg) := inb_of Sa14 ⟨by decide, by decide⟩
  obtain ⟨T16, h16, X16, e16, W16, st16⟩ := stI X12 hx hZ e12 Ara14 (j := (0 : Int32)) hin15 (g := (mkF m 48 #[.val (.ref p0), .val (.int (3 : Int32)), .val (.ref b2), .val (.ref b3), .val (.int za1), .val (.int (0 : Int32))] [(.int (own_max za1 (0 : Int32))), (.int (0 : Int32)), (.ref b2)])) rfl rfl (hb hby d1_48)
  have O16 := O3.wr W16 g_b2
  have K16 : Keep h0 h16 [] := K3.wr W16 (Or.inr sz_b2)
  have N16 := Fr.snoc X16 N12 g_b2
  have V16 : Arv Z h16 b2 k2 .int (3 : Int32) [(.int (own_max za1 (0 : Int32))), (.int (0 : Int32)), (.int (0 : Int32))] (.int (0 : Int32)) := Arv.set Ara14 qa14 Sa14 Za14 Ha14 Ga14 rfl W16 0 rfl (Nat.le_of_ble_eq_true rfl)
  have c17 : Arv Z h16 p0 kz .boolean (3 : Int32) [(.int y0), (.int y1), (.int y2)] (.int (0 : Int32)) := (c5.other W16 ne_p0_b2)
  obtain ⟨cla18, Ara18, qa18, Sa18, Za18, Ha18, Ga18⟩ := id c17
  have hin19 : ¬ ((1 : Int32) < 0 ∨ cla18.slots.size ≤ ((1 : Int32)).toNatClampNeg) := inb_of Sa18 ⟨by decide, by decide⟩
  have hat20 : cla18.slots[((1 : Int32)).toNatClampNeg]? = some (.int y1) := Has.at Ha18 hin19 rfl
  have s21 : Steps p.tables e below A₀ (T16.setTop (mkF m 27 #[.val (.ref p0), .val (.int (3 : Int32)), .val (.ref b2), .val (.ref b3), .val (.int za1), .val (.int (1 : Int32))] [(.int y1)])) := by
    refine s11.trans ?_
    refine XS.istore X3.here hx rfl (hb hby d1_37) rfl (l' := #[.val (.ref p0), .val (.int (3 : Int32)), .val (.ref b2), .val (.ref b3), .val (.int za1), .val (.int (0 : Int32))]) rfl ?_
    show Steps p.tables e below (T3.setTop (mkF m 39 #[.val (.ref p0), .val (.int (3 : Int32)), .val (.ref b2), .val (.ref b3), .val (.int za1), .val (.int (0 : Int32))] [])) _
    refine XS.aloadN X3.here hx rfl (hb hby d1_39) rfl rfl ?_
    refine XS.iload X3.here hx rfl (hb hby d1_40) rfl ?_
    refine XS.iload X3.here hx rfl (hb hby d1_42) rfl ?_
    refine XS.iconst X3.here hx rfl (hb hby d1_44) ?_
    refine st12 _ ?_
    refine st16 _ ?_
    show Steps p.tables e below (T16.setTop (mkF m 49 #[.val (.ref p0), .val (.int (3 : Int32)), .val (.ref b2), .val (.ref b3), .val (.int za1), .val (.int (0 : Int32))] [])) _
    refine XS.iinc X16.here hx rfl (hb hby d1_49) rfl (l' := #[.val (.ref p0), .val (.int (3 : Int32)), .val (.ref b2), .val (.ref b3), .val (.int za1), .val (.int (1 : Int32))]) rfl ?_
    refine XS.goto X16.here hx rfl (pc0 := 52) (pc' := 17) rfl (hb hby d1_52) (by decide) (by decide) ?_
    refine XS.iload X16.here hx rfl (hb hby d1_17) rfl ?_
    refine XS.iloadN X16.here hx rfl (hb hby d1_19) rfl ?_
    refine XS.icmpNo X16.here hx rfl (hb hby d1_20) rfl (tlt (by decide)).2.1 ?_
    refine XS.aloadN X16.here hx rfl (hb hby d1_23) rfl rfl ?_
    show Steps p.tables e below (T16.setTop (mkF m 24 #[.val (.ref p0), .val (.int (3 : Int32)), .val (.ref b2), .val (.ref b3), .val (.int za1), .val (.int (1 : Int32))] [(.ref p0)])) _
    refine XS.iload X16.here hx rfl (hb hby d1_24) rfl ?_
    refine X16.baloadBooleans hx (j := (1 : Int32)) (v := (.int y1)) (by rw [e16]; exact Ara18.1) (State.isArrayOf_alike hZ.alike Ara18.2.1) Ara18.2.2 hin19 hat20 (g := (mkF m 26 #[.val (.ref p0), .val (.int (3 : Int32)), .val (.ref b2), .val (.ref b3), .val (.int za1), .val (.int (1 : Int32))] [(.int (1 : Int32)), (.ref p0)])) rfl rfl (hb hby d1_26) _ ?_
    exact Steps.refl _
  have s23 : Steps p.tables e below A₀ (T16.setTop (mkF m 37 #[.val (.ref p0), .val (.int (3 : Int32)), .val (.ref b2), .val (.ref b3), .val (.int za1), .val (.int (1 : Int32))] [(.int (if y1 = (0 : Int32) then (1 : Int32) else za1))])) := by
    by_cases hm22 : y1 = (0 : Int32)
    · simp only [if_pos hm22]
      refine s21.trans ?_
      refine XS.ifYes X16.here hx rfl (pc0 := 27) (pc' := 35) rfl (hb hby d1_27) rfl ((if0 _ _).trans (teq hm22).1) (by decide) (by decide) ?_
      show Steps p.tables e below (T16.setTop (mkF m 35 #[.val (.ref p0), .val (.int (3 : Int32)), .val (.ref b2), .val (.ref b3), .val (.int za1), .val (.int (1 : Int32))] [])) _
      refine XS.iload X16.here hx rfl (hb hby d1_35) rfl ?_
      exact Steps.refl _
    · simp only [if_neg hm22]
      refine s21.trans ?_
      refine XS.ifNo X16.here hx rfl (hb hby d1_27) rfl ((if0 _ _).trans (feq hm22).1) ?_
      show Steps p.tables e below (T16.setTop (mkF m 30 #[.val (.ref p0), .val (.int (3 : Int32)), .val (.ref b2), .val (.ref b3), .val (.int za1), .val (.int (1 : Int32))] [])) _
      refine XS.iload X16.here hx rfl (hb hby d1_30) rfl ?_
      refine XS.goto X16.here hx rfl (pc0 := 32) (pc' := 37) rfl (hb hby d1_32) (by decide) (by decide) ?_
      exact Steps.refl _
  obtain ⟨za2, hza2⟩ : ∃ z, z = (if y1 = (0 : Int32) then (1 : Int32) else za1) := ⟨_, rfl⟩
  rw [← hza2] at s23
  obtain ⟨T24, L24, X24, e24, N24, st24⟩ := own_callP X16 hx hZ hown (wk7 hw) (wk8 hw) (wk9 hw) (wk10 hw) (by decide) (rm2 l Z a0 hw [] za2 (0 : Int32) h16 n0 O16 ) e16 N16 (W := 2) (by decide) (by decide) (by decide) (by decide) (g := (mkF m 45 #[.val (.ref p0), .val (.int (3 : Int32)), .val (.ref b2), .val (.ref b3), .val (.int za2), .val (.int (1 : Int32))] [(.int (0 : Int32)), (.int za2), (.int (1 : Int32)), (.ref b2)])) rfl (by rw [hml]; rfl) (argsL := [(.int za2), (.int (0 : Int32))]) (rest := [(.int (1 : Int32)), (.ref b2)]) (lenOf pd_rmt3_0 rfl) rfl (by show 2 * 0 + _ ≤ _; exact Nat.le_of_eq rfl) (hb hby d1_45)
  obtain ⟨cla25, Ara25, qa25, Sa25, Za25, Ha25, Ga25⟩ := id V16
  have hin26 : ¬ ((1 : Int32) < 0 ∨ cla25.slots.size ≤ ((1 : Int32)).toNatClampNeg) := inb_of Sa25 ⟨by decide, by decide⟩
  obtain ⟨T27, h27, X27, e27, W27, st27⟩ := stI X24 hx hZ e24 Ara25 (j := (1 : Int32)) hin26 (g := (mkF m 48 #[.val (.ref p0), .val (.int (3 : Int32)), .val (.ref b2), .val (.ref b3), .val (.int za2), .val (.int (1 : Int32))] [(.int (own_max za2 (0 : Int32))), (.int (1 : Int32)), (.ref b2)])) rfl rfl (hb hby d1_48)
  have O27 := O16.wr W27 g_b2
  have K27 : Keep h0 h27 [] := K16.wr W27 (Or.inr sz_b2)
  have N27 := Fr.snoc X27 N24 g_b2
  have V27 : Arv Z h27 b2 k2 .int (3 : Int32) [(.int (own_max za1 (0 : Int32))), (.int (own_max za2 (0 : Int32))), (.int (0 : Int32))] (.int (0 : Int32)) := Arv.set Ara25 qa25 Sa25 Za25 Ha25 Ga25 rfl W27 1 rfl (Nat.le_of_ble_eq_true rfl)
  have c28 : Arv Z h27 p0 kz .boolean (3 : Int32) [(.int y0), (.int y1), (.int y2)] (.int (0 : Int32)) := (c17.other W27 ne_p0_b2)
  obtain ⟨cla29, Ara29, qa29, Sa29, Za29, Ha29, Ga29⟩ := id c28
  have hin30 : ¬ ((2 : Int32) < 0 ∨ cla29.slots.size ≤ ((2 : Int32)).toNatClampNeg) := inb_of Sa29 ⟨by decide, by decide⟩
  have hat31 : cla29.slots[((2 : Int32)).toNatClampNeg]? = some (.int y2) := Has.at Ha29 hin30 rfl
  have s32 : Steps p.tables e below A₀ (T27.setTop (mkF m 27 #[.val (.ref p0), .val (.int (3 : Int32)), .val (.ref b2), .val (.ref b3), .val (.int za2), .val (.int (2 : Int32))] [(.int y2)])) := by
    refine s23.trans ?_
    refine XS.istore X16.here hx rfl (hb hby d1_37) rfl (l' := #[.val (.ref p0), .val (.int (3 : Int32)), .val (.ref b2), .val (.ref b3), .val (.int za2), .val (.int (1 : Int32))]) rfl ?_
    show Steps p.tables e below (T16.setTop (mkF m 39 #[.val (.ref p0), .val (.int (3 : Int32)), .val (.ref b2), .val (.ref b3), .val (.int za2), .val (.int (1 : Int32))] [])) _
    refine XS.aloadN X16.here hx rfl (hb hby d1_39) rfl rfl ?_
    refine XS.iload X16.here hx rfl (hb hby d1_40) rfl ?_
    refine XS.iload X16.here hx rfl (hb hby d1_42) rfl ?_
    refine XS.iconst X16.here hx rfl (hb hby d1_44) ?_
    refine st24 _ ?_
    refine st27 _ ?_
    show Steps p.tables e below (T27.setTop (mkF m 49 #[.val (.ref p0), .val (.int (3 : Int32)), .val (.ref b2), .val (.ref b3), .val (.int za2), .val (.int (1 : Int32))] [])) _
    refine XS.iinc X27.here hx rfl (hb hby d1_49) rfl (l' := #[.val (.ref p0), .val (.int (3 : Int32)), .val (.ref b2), .val (.ref b3), .val (.int za2), .val (.int (2 : Int32))]) rfl ?_
    refine XS.goto X27.here hx rfl (pc0 := 52) (pc' := 17) rfl (hb hby d1_52) (by decide) (by decide) ?_
    refine XS.iload X27.here hx rfl (hb hby d1_17) rfl ?_
    refine XS.iloadN X27.here hx rfl (hb hby d1_19) rfl ?_
    refine XS.icmpNo X27.here hx rfl (hb hby d1_20) rfl (tlt (by decide)).2.1 ?_
    refine XS.aloadN X27.here hx rfl (hb hby d1_23) rfl rfl ?_
    show Steps p.tables e below (T27.setTop (mkF m 24 #[.val (.ref p0), .val (.int (3 : Int32)), .val (.ref b2), .val (.ref b3), .val (.int za2), .val (.int (2 : Int32))] [(.ref p0)])) _
    refine XS.iload X27.here hx rfl (hb hby d1_24) rfl ?_
    refine X27.baloadBooleans hx (j := (2 : Int32)) (v := (.int y2)) (by rw [e27]; exact Ara29.1) (State.isArrayOf_alike hZ.alike Ara29.2.1) Ara29.2.2 hin30 hat31 (g := (mkF m 26 #[.val (.ref p0), .val (.int (3 : Int32)), .val (.ref b2), .val (.ref b3), .val (.int za2), .val (.int (2 : Int32))] [(.int (2 : Int32)), (.ref p0)])) rfl rfl (hb hby d1_26) _ ?_
    exact Steps.refl _
  have s34 : Steps p.tables e below A₀ (T27.setTop (mkF m 37 #[.val (.ref p0), .val (.int (3 : Int32)), .val (.ref b2), .val (.ref b3), .val (.int za2), .val (.int (2 : Int32))] [(.int (if y2 = (0 : Int32) then (2 : Int32) else za2))])) := by
    by_cases hm33 : y2 = (0 : Int32)
    · simp only [if_pos hm33]
      refine s32.trans ?_
      refine XS.ifYes X27.here hx rfl (pc0 := 27) (pc' := 35) rfl (hb hby d1_27) rfl ((if0 _ _).trans (teq hm33).1) (by decide) (by decide) ?_
      show Steps p.tables e below (T27.setTop (mkF m 35 #[.val (.ref p0), .val (.int (3 : Int32)), .val (.ref b2), .val (.ref b3), .val (.int za2), .val (.int (2 : Int32))] [])) _
      refine XS.iload X27.here hx rfl (hb hby d1_35) rfl ?_
      exact Steps.refl _
    · simp only [if_neg hm33]
      refine s32.trans ?_
      refine XS.ifNo X27.here hx rfl (hb hby d1_27) rfl ((if0 _ _).trans (feq hm33).1) ?_
      show Steps p.tables e below (T27.setTop (mkF m 30 #[.val (.ref p0), .val (.int (3 : Int32)), .val (.ref b2), .val (.ref b3), .val (.int za2), .val (.int (2 : Int32))] [])) _
      refine XS.iload X27.here hx rfl (hb hby d1_30) rfl ?_
      refine XS.goto X27.here hx rfl (pc0 := 32) (pc' := 37) rfl (hb hby d1_32) (by decide) (by decide) ?_
      exact Steps.refl _
  obtain ⟨za3, hza3⟩ : ∃ z, z = (if y2 = (0 : Int32) then (2 : Int32) else za2) := ⟨_, rfl⟩
  rw [← hza3] at s34
  obtain ⟨T35, L35, X35, e35, N35, st35⟩ := own_callP X27 hx hZ hown (wk7 hw) (wk8 hw) (wk9 hw) (wk10 hw) (by decide) (rm2 l Z a0 hw [] za3 (0 : Int32) h27 n0 O27 ) e27 N27 (W := 2) (by decide) (by decide) (by decide) (by decide) (g := (mkF m 45 #[.val (.ref p0), .val (.int (3 : Int32)), .val (.ref b2), .val (.ref b3), .val (.int za3), .val (.int (2 : Int32))] [(.int (0 : Int32)), (.int za3), (.int (2 : Int32)), (.ref b2)])) rfl (by rw [hml]; rfl) (argsL := [(.int za3), (.int (0 : Int32))]) (rest := [(.int (2 : Int32)), (.ref b2)]) (lenOf pd_rmt3_0 rfl) rfl (by show 2 * 0 + _ ≤ _; exact Nat.le_of_eq rfl) (hb hby d1_45)
  obtain ⟨cla36, Ara36, qa36, Sa36, Za36, Ha36, Ga36⟩ := id V27
  have hin37 : ¬ ((2 : Int32) < 0 ∨ cla36.slots.size ≤ ((2 : Int32)).toNatClampNeg) := inb_of Sa36 ⟨by decide, by decide⟩
  obtain ⟨T38, h38, X38, e38, W38, st38⟩ := stI X35 hx hZ e35 Ara36 (j := (2 : Int32)) hin37 (g := (mkF m 48 #[.val (.ref p0), .val (.int (3 : Int32)), .val (.ref b2), .val (.ref b3), .val (.int za3), .val (.int (2 : Int32))] [(.int (own_max za3 (0 : Int32))), (.int (2 : Int32)), (.ref b2)])) rfl rfl (hb hby d1_48)
  have O38 := O27.wr W38 g_b2
  have K38 : Keep h0 h38 [] := K27.wr W38 (Or.inr sz_b2)
  have N38 := Fr.snoc X38 N35 g_b2
  have V38 : Arv Z h38 b2 k2 .int (3 : Int32) [(.int (own_max za1 (0 : Int32))), (.int (own_max za2 (0 : Int32))), (.int (own_max za3 (0 : Int32)))] (.int (0 : Int32)) := Arv.set Ara36 qa36 Sa36 Za36 Ha36 Ga36 rfl W38 2 rfl (Nat.le_of_ble_eq_true rfl)
  have c39 : Arv Z h38 p0 kz .boolean (3 : Int32) [(.int y0), (.int y1), (.int y2)] (.int (0 : Int32)) := (c28.other W38 ne_p0_b2)
  obtain ⟨cla40, Ara40, qa40, Sa40, Za40, Ha40, Ga40⟩ := id c39
  have hin41 : ¬ ((2 : Int32) < 0 ∨ cla40.slots.size ≤ ((2 : Int32)).toNatClampNeg) := inb_of Sa40 ⟨by decide, by decide⟩
  have hat42 : cla40.slots[((2 : Int32)).toNatClampNeg]? = some (.int y2) := Has.at Ha40 hin41 rfl
  have s43 : Steps p.tables e below A₀ (T38.setTop (mkF m 72 #[.val (.ref p0), .val (.int (3 : Int32)), .val (.ref b2), .val (.ref b3), .val (.int (-1 : Int32)), .val (.int (2 : Int32))] [(.int y2)])) := by
    refine s34.trans ?_
    refine XS.istore X27.here hx rfl (hb hby d1_37) rfl (l' := #[.val (.ref p0), .val (.int (3 : Int32)), .val (.ref b2), .val (.ref b3), .val (.int za3), .val (.int (2 : Int32))]) rfl ?_
    show Steps p.tables e below (T27.setTop (mkF m 39 #[.val (.ref p0), .val (.int (3 : Int32)), .val (.ref b2), .val (.ref b3), .val (.int za3), .val (.int (2 : Int32))] [])) _
    refine XS.aloadN X27.here hx rfl (hb hby d1_39) rfl rfl ?_
    refine XS.iload X27.here hx rfl (hb hby d1_40) rfl ?_
    refine XS.iload X27.here hx rfl (hb hby d1_42) rfl ?_
    refine XS.iconst X27.here hx rfl (hb hby d1_44) ?_
    refine st35 _ ?_
    refine st38 _ ?_
    show Steps p.tables e below (T38.setTop (mkF m 49 #[.val (.ref p0), .val (.int (3 : Int32)), .val (.ref b2), .val (.ref b3), .val (.int za3), .val (.int (2 : Int32))] [])) _
    refine XS.iinc X38.here hx rfl (hb hby d1_49) rfl (l' := #[.val (.ref p0), .val (.int (3 : Int32)), .val (.ref b2), .val (.ref b3), .val (.int za3), .val (.int (3 : Int32))]) rfl ?_
    refine XS.goto X38.here hx rfl (pc0 := 52) (pc' := 17) rfl (hb hby d1_52) (by decide) (by decide) ?_
    refine XS.iload X38.here hx rfl (hb hby d1_17) rfl ?_
    refine XS.iloadN X38.here hx rfl (hb hby d1_19) rfl ?_
    refine XS.icmpYes X38.here hx rfl (pc0 := 20) (pc' := 55) rfl (hb hby d1_20) rfl (flt (by decide)).2.1 (by decide) (by decide) ?_
    refine XS.iconst X38.here hx rfl (hb hby d1_55) ?_
    show Steps p.tables e below (T38.setTop (mkF m 56 #[.val (.ref p0), .val (.int (3 : Int32)), .val (.ref b2), .val (.ref b3), .val (.int za3), .val (.int (3 : Int32))] [(.int (-1 : Int32))])) _
    refine XS.istore X38.here hx rfl (hb hby d1_56) rfl (l' := #[.val (.ref p0), .val (.int (3 : Int32)), .val (.ref b2), .val (.ref b3), .val (.int (-1 : Int32)), .val (.int (3 : Int32))]) rfl ?_
    refine XS.iloadN X38.here hx rfl (hb hby d1_58) rfl ?_
    refine XS.iconst X38.here hx rfl (hb hby d1_59) ?_
    refine XS.isub X38.here hx rfl (hb hby d1_60) rfl ?_
    refine XS.istore X38.here hx rfl (hb hby d1_61) rfl (l' := #[.val (.ref p0), .val (.int (3 : Int32)), .val (.ref b2), .val (.ref b3), .val (.int (-1 : Int32)), .val (.int (2 : Int32))]) rfl ?_
    refine XS.iload X38.here hx rfl (hb hby d1_63) rfl ?_
    show Steps p.tables e below (T38.setTop (mkF m 65 #[.val (.ref p0), .val (.int (3 : Int32)), .val (.ref b2), .val (.ref b3), .val (.int (-1 : Int32)), .val (.int (2 : Int32))] [(.int (2 : Int32))])) _
    refine XS.ifNo X38.here hx rfl (hb hby d1_65) rfl ((if0 _ _).trans (flt (by decide)).1) ?_
    refine XS.aloadN X38.here hx rfl (hb hby d1_68) rfl rfl ?_
    refine XS.iload X38.here hx rfl (hb hby d1_69) rfl ?_
    refine X38.baloadBooleans hx (j := (2 : Int32)) (v := (.int y2)) (by rw [e38]; exact Ara40.1) (State.isArrayOf_alike hZ.alike Ara40.2.1) Ara40.2.2 hin41 hat42 (g := (mkF m 71 #[.val (.ref p0), .val (.int (3 : Int32)), .val (.ref b2), .val (.ref b3), .val (.int (-1 : Int32)), .val (.int (2 : Int32))] [(.int (2 : Int32)), (.ref p0)])) rfl rfl (hb hby d1_71) _ ?_
    exact Steps.refl _
  have s45 : Steps p.tables e below A₀ (T38.setTop (mkF m 82 #[.val (.ref p0), .val (.int (3 : Int32)), .val (.ref b2), .val (.ref b3), .val (.int (-1 : Int32)), .val (.int (2 : Int32))] [(.int (if y2 = (0 : Int32) then (2 : Int32) else (-1 : Int32)))])) := by
    by_cases hm44 : y2 = (0 : Int32)
    · simp only [if_pos hm44]
      refine s43.trans ?_
      refine XS.ifYes X38.here hx rfl (pc0 := 72) (pc' := 80) rfl (hb hby d1_72) rfl ((if0 _ _).trans (teq hm44).1) (by decide) (by decide) ?_
      show Steps p.tables e below (T38.setTop (mkF m 80 #[.val (.ref p0), .val (.int (3 : Int32)), .val (.ref b2), .val (.ref b3), .val (.int (-1 : Int32)), .val (.int (2 : Int32))] [])) _
      refine XS.iload X38.here hx rfl (hb hby d1_80) rfl ?_
      exact Steps.refl _
    · simp only [if_neg hm44]
      refine s43.trans ?_
      refine XS.ifNo X38.here hx rfl (hb hby d1_72) rfl ((if0 _ _).trans (feq hm44).1) ?_
      show Steps p.tables e below (T38.setTop (mkF m 75 #[.val (.ref p0), .val (.int (3 : Int32)), .val (.ref b2), .val (.ref b3), .val (.int (-1 : Int32)), .val (.int (2 : Int32))] [])) _
      refine XS.iload X38.here hx rfl (hb hby d1_75) rfl ?_
      refine XS.goto X38.here hx rfl (pc0 := 77) (pc' := 82) rfl (hb hby d1_77) (by decide) (by decide) ?_
      exact Steps.refl _
  obtain ⟨zb4, hzb4⟩ : ∃ z, z = (if y2 = (0 : Int32) then (2 : Int32) else (-1 : Int32)) := ⟨_, rfl⟩
  rw [← hzb4] at s45
  have s46 : Steps p.tables e below A₀ (T38.setTop (mkF m 89 #[.val (.ref p0), .val (.int (3 : Int32)), .val (.ref b2), .val (.ref b3), .val (.int zb4), .val (.int (2 : Int32))] [(.int zb4), (.int (2 : Int32)), (.ref b3)])) := by
    refine s45.trans ?_
    refine XS.istore X38.here hx rfl (hb hby d1_82) rfl (l' := #[.val (.ref p0), .val (.int (3 : Int32)), .val (.ref b2), .val (.ref b3), .val (.int zb4), .val (.int (2 : Int32))]) rfl ?_
    show Steps p.tables e below (T38.setTop (mkF m 84 #[.val (.ref p0), .val (.int (3 : Int32)), .val (.ref b2), .val (.ref b3), .val (.int zb4), .val (.int (2 : Int32))] [])) _
    refine XS.aloadN X38.here hx rfl (hb hby d1_84) rfl rfl ?_
    refine XS.iload X38.here hx rfl (hb hby d1_85) rfl ?_
    refine XS.iload X38.here hx rfl (hb hby d1_87) rfl ?_
    exact Steps.refl _
  have s48 : Steps p.tables e below A₀ (T38.setTop (mkF m 100 #[.val (.ref p0), .val (.int (3 : Int32)), .val (.ref b2), .val (.ref b3), .val (.int zb4), .val (.int (2 : Int32))] [(.int (if zb4 < (0 : Int32) then (2 : Int32) else zb4)), (.int (2 : Int32)), (.ref b3)])) := by
    by_cases hm47 : zb4 < (0 : Int32)
    · simp only [if_pos hm47]
      refine s46.trans ?_
      refine XS.ifNo X38.here hx rfl (hb hby d1_89) rfl ((if0 _ _).trans (tlt hm47).2.1) ?_
      show Steps p.tables e below (T38.setTop (mkF m 92 #[.val (.ref p0), .val (.int (3 : Int32)), .val (.ref b2), .val (.ref b3), .val (.int zb4), .val (.int (2 : Int32))] [(.int (2 : Int32)), (.ref b3)])) _
      refine XS.iloadN X38.here hx rfl (hb hby d1_92) rfl ?_
      refine XS.iconst X38.here hx rfl (hb hby d1_93) ?_
      refine XS.isub X38.here hx rfl (hb hby d1_94) rfl ?_
      refine XS.goto X38.here hx rfl (pc0 := 95) (pc' := 100) rfl (hb hby d1_95) (by decide) (by decide) ?_
      exact Steps.refl _
    · simp only [if_neg hm47]
      refine s46.trans ?_
      refine XS.ifYes X38.here hx rfl (pc0 := 89) (pc' := 98) rfl (hb hby d1_89) rfl ((if0 _ _).trans (flt hm47).2.1) (by decide) (by decide) ?_
      show Steps p.tables e below (T38.setTop (mkF m 98 #[.val (.ref p0), .val (.int (3 : Int32)), .val (.ref b2), .val (.ref b3), .val (.int zb4), .val (.int (2 : Int32))] [(.int (2 : Int32)), (.ref b3)])) _
      refine XS.iload X38.here hx rfl (hb hby d1_98) rfl ?_
      exact Steps.refl _
  obtain ⟨zc5, hzc5⟩ : ∃ z, z = (if zb4 < (0 : Int32) then (2 : Int32) else zb4) := ⟨_, rfl⟩
  rw [← hzc5] at s48
  have c49 : Arv Z h38 b3 k3 .int (3 : Int32) [(.int (0 : Int32)), (.int (0 : Int32)), (.int (0 : Int32))] (.int (0 : Int32)) := (((V3.other W16 (Ne.symm ne_b2_b3)).other W27 (Ne.symm ne_b2_b3)).other W38 (Ne.symm ne_b2_b3))
  obtain ⟨cla50, Ara50, qa50, Sa50, Za50, Ha50, Ga50⟩ := id c49
  have hin51 : ¬ ((2 : Int32) < 0 ∨ cla50.slots.size ≤ ((2 : Int32)).toNatClampNeg) := inb_of Sa50 ⟨by decide, by decide⟩
  obtain ⟨T52, h52, X52, e52, W52, st52⟩ := stI X38 hx hZ e38 Ara50 (j := (2 : Int32)) hin51 (g := (mkF m 100 #[.val (.ref p0), .val (.int (3 : Int32)), .val (.ref b2), .val (.ref b3), .val (.int zb4), .val (.int (2 : Int32))] [(.int zc5), (.int (2 : Int32)), (.ref b3)])) rfl rfl (hb hby d1_100)
  have O52 := O38.wr W52 g_b3
  have K52 : Keep h0 h52 [] := K38.wr W52 (Or.inr sz_b3)
  have N52 := Fr.snoc X52 N38 g_b3
  have V52 : Arv Z h52 b3 k3 .int (3 : Int32) [(.int (0 : Int32)), (.int (0 : Int32)), (.int zc5)] (.int (0 : Int32)) := Arv.set Ara50 qa50 Sa50 Za50 Ha50 Ga50 rfl W52 2 rfl (Nat.le_of_ble_eq_true rfl)
  have c53 : Arv Z h52 p0 kz .boolean (3 : Int32) [(.int y0), (.int y1), (.int y2)] (.int (0 : Int32)) := (c39.other W52 ne_p0_b3)
  obtain ⟨cla54, Ara54, qa54, Sa54, Za54, Ha54, Ga54⟩ := id c53
  have hin55 : ¬ ((1 : Int32) < 0 ∨ cla54.slots.size ≤ ((1 : Int32)).toNatClampNeg) := inb_of Sa54 ⟨by decide, by decide⟩
  have hat56 : cla54.slots[((1 : Int32)).toNatClampNeg]? = some (.int y1) := Has.at Ha54 hin55 rfl
  have s57 : Steps p.tables e below A₀ (T52.setTop (mkF m 72 #[.val (.ref p0), .val (.int (3 : Int32)), .val (.ref b2), .val (.ref b3), .val (.int zb4), .val (.int (1 : Int32))] [(.int y1)])) := by
    refine s48.trans ?_
    refine st52 _ ?_
    show Steps p.tables e below (T52.setTop (mkF m 101 #[.val (.ref p0), .val (.int (3 : Int32)), .val (.ref b2), .val (.ref b3), .val (.int zb4), .val (.int (2 : Int32))] [])) _
    refine XS.iinc X52.here hx rfl (hb hby d1_101) rfl (l' := #[.val (.ref p0), .val (.int (3 : Int32)), .val (.ref b2), .val (.ref b3), .val (.int zb4), .val (.int (1 : Int32))]) rfl ?_
    refine XS.goto X52.here hx rfl (pc0 := 104) (pc' := 63) rfl (hb hby d1_104) (by decide) (by decide) ?_
    refine XS.iload X52.here hx rfl (hb hby d1_63) rfl ?_
    refine XS.ifNo X52.here hx rfl (hb hby d1_65) rfl ((if0 _ _).trans (flt (by decide)).1) ?_
    refine XS.aloadN X52.here hx rfl (hb hby d1_68) rfl rfl ?_
    refine XS.iload X52.here hx rfl (hb hby d1_69) rfl ?_
    show Steps p.tables e below (T52.setTop (mkF m 71 #[.val (.ref p0), .val (.int (3 : Int32)), .val (.ref b2), .val (.ref b3), .val (.int zb4), .val (.int (1 : Int32))] [(.int (1 : Int32)), (.ref p0)])) _
    refine X52.baloadBooleans hx (j := (1 : Int32)) (v := (.int y1)) (by rw [e52]; exact Ara54.1) (State.isArrayOf_alike hZ.alike Ara54.2.1) Ara54.2.2 hin55 hat56 (g := (mkF m 71 #[.val (.ref p0), .val (.int (3 : Int32)), .val (.ref b2), .val (.ref b3), .val (.int zb4), .val (.int (1 : Int32))] [(.int (1 : Int32)), (.ref p0)])) rfl rfl (hb hby d1_71) _ ?_
    exact Steps.refl _
  have s59 : Steps p.tables e below A₀ (T52.setTop (mkF m 82 #[.val (.ref p0), .val (.int (3 : Int32)), .val (.ref b2), .val (.ref b3), .val (.int zb4), .val (.int (1 : Int32))] [(.int (if y1 = (0 : Int32) then (1 : Int32) else zb4))])) := by
    by_cases hm58 : y1 = (0 : Int32)
    · simp only [if_pos hm58]
      refine s57.trans ?_
      refine XS.ifYes X52.here hx rfl (pc0 := 72) (pc' := 80) rfl (hb hby d1_72) rfl ((if0 _ _).trans (teq hm58).1) (by decide) (by decide) ?_
      show Steps p.tables e below (T52.setTop (mkF m 80 #[.val (.ref p0), .val (.int (3 : Int32)), .val (.ref b2), .val (.ref b3), .val (.int zb4), .val (.int (1 : Int32))] [])) _
      refine XS.iload X52.here hx rfl (hb hby d1_80) rfl ?_
      exact Steps.refl _
    · simp only [if_neg hm58]
      refine s57.trans ?_
      refine XS.ifNo X52.here hx rfl (hb hby d1_72) rfl ((if0 _ _).trans (feq hm58).1) ?_
      show Steps p.tables e below (T52.setTop (mkF m 75 #[.val (.ref p0), .val (.int (3 : Int32)), .val (.ref b2), .val (.ref b3), .val (.int zb4), .val (.int (1 : Int32))] [])) _
      refine XS.iload X52.here hx rfl (hb hby d1_75) rfl ?_
      refine XS.goto X52.here hx rfl (pc0 := 77) (pc' := 82) rfl (hb hby d1_77) (by decide) (by decide) ?_
      exact Steps.refl _
  obtain ⟨zb6, hzb6⟩ : ∃ z, z = (if y1 = (0 : Int32) then (1 : Int32) else zb4) := ⟨_, rfl⟩
  rw [← hzb6] at s59
  have s60 : Steps p.tables e below A₀ (T52.setTop (mkF m 89 #[.val (.ref p0), .val (.int (3 : Int32)), .val (.ref b2), .val (.ref b3), .val (.int zb6), .val (.int (1 : Int32))] [(.int zb6), (.int (1 : Int32)), (.ref b3)])) := by
    refine s59.trans ?_
    refine XS.istore X52.here hx rfl (hb hby d1_82) rfl (l' := #[.val (.ref p0), .val (.int (3 : Int32)), .val (.ref b2), .val (.ref b3), .val (.int zb6), .val (.int (1 : Int32))]) rfl ?_
    show Steps p.tables e below (T52.setTop (mkF m 84 #[.val (.ref p0), .val (.int (3 : Int32)), .val (.ref b2), .val (.ref b3), .val (.int zb6), .val (.int (1 : Int32))] [])) _
    refine XS.aloadN X52.here hx rfl (hb hby d1_84) rfl rfl ?_
    refine XS.iload X52.here hx rfl (hb hby d1_85) rfl ?_
    refine XS.iload X52.here hx rfl (hb hby d1_87) rfl ?_
    exact Steps.refl _
  have s62 : Steps p.tables e below A₀ (T52.setTop (mkF m 100 #[.val (.ref p0), .val (.int (3 : Int32)), .val (.ref b2), .val (.ref b3), .val (.int zb6), .val (.int (1 : Int32))] [(.int (if zb6 < (0 : Int32) then (2 : Int32) else zb6)), (.int (1 : Int32)), (.ref b3)])) := by
    by_cases hm61 : zb6 < (0 : Int32)
    · simp only [if_pos hm61]
      refine s60.trans ?_
      refine XS.ifNo X52.here hx rfl (hb hby d1_89) rfl ((if0 _ _).trans (tlt hm61).2.1) ?_
      show Steps p.tables e below (T52.setTop (mkF m 92 #[.val (.ref p0), .val (.int (3 : Int32)), .val (.ref b2), .val (.ref b3), .val (.int zb6), .val (.int (1 : Int32))] [(.int (1 : Int32)), (.ref b3)])) _
      refine XS.iloadN X52.here hx rfl (hb hby d1_92) rfl ?_
      refine XS.iconst X52.here hx rfl (hb hby d1_93) ?_
      refine XS.isub X52.here hx rfl (hb hby d1_94) rfl ?_
      refine XS.goto X52.here hx rfl (pc0 := 95) (pc' := 100) rfl (hb hby d1_95) (by decide) (by decide) ?_
      exact Steps.refl _
    · simp only [if_neg hm61]
      refine s60.trans ?_
      refine XS.ifYes X52.here hx rfl (pc0 := 89) (pc' := 98) rfl (hb hby d1_89) rfl ((if0 _ _).trans (flt hm61).2.1) (by decide) (by decide) ?_
      show Steps p.tables e below (T52.setTop (mkF m 98 #[.val (.ref p0), .val (.int (3 : Int32)), .val (.ref b2), .val (.ref b3), .val (.int zb6), .val (.int (1 : Int32))] [(.int (1 : Int32)), (.ref b3)])) _
      refine XS.iload X52.here hx rfl (hb hby d1_98) rfl ?_
      exact Steps.refl _
  obtain ⟨zc7, hzc7⟩ : ∃ z, z = (if zb6 < (0 : Int32) then (2 : Int32) else zb6) := ⟨_, rfl⟩
  rw [← hzc7] at s62
  obtain ⟨cla63, Ara63, qa63, Sa63, Za63, Ha63, Ga63⟩ := id V52
  have hin64 : ¬ ((1 : Int32) < 0 ∨ cla63.slots.size ≤ ((1 : Int32)).toNatClampNeg) := inb_of Sa63 ⟨by decide, by decide⟩
  obtain ⟨T65, h65, X65, e65, W65, st65⟩ := stI X52 hx hZ e52 Ara63 (j := (1 : Int32)) hin64 (g := (mkF m 100 #[.val (.ref p0), .val (.int (3 : Int32)), .val (.ref b2), .val (.ref b3), .val (.int zb6), .val (.int (1 : Int32))] [(.int zc7), (.int (1 : Int32)), (.ref b3)])) rfl rfl (hb hby d1_100)
  have O65 := O52.wr W65 g_b3
  have K65 : Keep h0 h65 [] := K52.wr W65 (Or.inr sz_b3)
  have N65 := Fr.snoc X65 N52 g_b3
  have V65 : Arv Z h65 b3 k3 .int (3 : Int32) [(.int (0 : Int32)), (.int zc7), (.int zc5)] (.int (0 : Int32)) := Arv.set Ara63 qa63 Sa63 Za63 Ha63 Ga63 rfl W65 1 rfl (Nat.le_of_ble_eq_true rfl)
  have c66 : Arv Z h65 p0 kz .boolean (3 : Int32) [(.int y0), (.int y1), (.int y2)] (.int (0 : Int32)) := (c53.other W65 ne_p0_b3)
  obtain ⟨cla67, Ara67, qa67, Sa67, Za67, Ha67, Ga67⟩ := id c66
  have hin68 : ¬ ((0 : Int32) < 0 ∨ cla67.slots.size ≤ ((0 : Int32)).toNatClampNeg) := inb_of Sa67 ⟨by decide, by decide⟩
  have hat69 : cla67.slots[((0 : Int32)).toNatClampNeg]? = some (.int y0) := Has.at Ha67 hin68 rfl
  have s70 : Steps p.tables e below A₀ (T65.setTop (mkF m 72 #[.val (.ref p0), .val (.int (3 : Int32)), .val (.ref b2), .val (.ref b3), .val (.int zb6), .val (.int (0 : Int32))] [(.int y0)])) := by
    refine s62.trans ?_
    refine st65 _ ?_
    show Steps p.tables e below (T65.setTop (mkF m 101 #[.val (.ref p0), .val (.int (3 : Int32)), .val (.ref b2), .val (.ref b3), .val (.int zb6), .val (.int (1 : Int32))] [])) _
    refine XS.iinc X65.here hx rfl (hb hby d1_101) rfl (l' := #[.val (.ref p0), .val (.int (3 : Int32)), .val (.ref b2), .val (.ref b3), .val (.int zb6), .val (.int (0 : Int32))]) rfl ?_
    refine XS.goto X65.here hx rfl (pc0 := 104) (pc' := 63) rfl (hb hby d1_104) (by decide) (by decide) ?_
    refine XS.iload X65.here hx rfl (hb hby d1_63) rfl ?_
    refine XS.ifNo X65.here hx rfl (hb hby d1_65) rfl ((if0 _ _).trans (flt (by decide)).1) ?_
    refine XS.aloadN X65.here hx rfl (hb hby d1_68) rfl rfl ?_
    refine XS.iload X65.here hx rfl (hb hby d1_69) rfl ?_
    show Steps p.tables e below (T65.setTop (mkF m 71 #[.val (.ref p0), .val (.int (3 : Int32)), .val (.ref b2), .val (.ref b3), .val (.int zb6), .val (.int (0 : Int32))] [(.int (0 : Int32)), (.ref p0)])) _
    refine X65.baloadBooleans hx (j := (0 : Int32)) (v := (.int y0)) (by rw [e65]; exact Ara67.1) (State.isArrayOf_alike hZ.alike Ara67.2.1) Ara67.2.2 hin68 hat69 (g := (mkF m 71 #[.val (.ref p0), .val (.int (3 : Int32)), .val (.ref b2), .val (.ref b3), .val (.int zb6), .val (.int (0 : Int32))] [(.int (0 : Int32)), (.ref p0)])) rfl rfl (hb hby d1_71) _ ?_
    exact Steps.refl _
  have s72 : Steps p.tables e below A₀ (T65.setTop (mkF m 82 #[.val (.ref p0), .val (.int (3 : Int32)), .val (.ref b2), .val (.ref b3), .val (.int zb6), .val (.int (0 : Int32))] [(.int (if y0 = (0 : Int32) then (0 : Int32) else zb6))])) := by
    by_cases hm71 : y0 = (0 : Int32)
    · simp only [if_pos hm71]
      refine s70.trans ?_
      refine XS.ifYes X65.here hx rfl (pc0 := 72) (pc' := 80) rfl (hb hby d1_72) rfl ((if0 _ _).trans (teq hm71).1) (by decide) (by decide) ?_
      show Steps p.tables e below (T65.setTop (mkF m 80 #[.val (.ref p0), .val (.int (3 : Int32)), .val (.ref b2), .val (.ref b3), .val (.int zb6), .val (.int (0 : Int32))] [])) _
      refine XS.iload X65.here hx rfl (hb hby d1_80) rfl ?_
      exact Steps.refl _
    · simp only [if_neg hm71]
      refine s70.trans ?_
      refine XS.ifNo X65.here hx rfl (hb hby d1_72) rfl ((if0 _ _).trans (feq hm71).1) ?_
      show Steps p.tables e below (T65.setTop (mkF m 75 #[.val (.ref p0), .val (.int (3 : Int32)), .val (.ref b2), .val (.ref b3), .val (.int zb6), .val (.int (0 : Int32))] [])) _
      refine XS.iload X65.here hx rfl (hb hby d1_75) rfl ?_
      refine XS.goto X65.here hx rfl (pc0 := 77) (pc' := 82) rfl (hb hby d1_77) (by decide) (by decide) ?_
      exact Steps.refl _
  obtain ⟨zb8, hzb8⟩ : ∃ z, z = (if y0 = (0 : Int32) then (0 : Int32) else zb6) := ⟨_, rfl⟩
  rw [← hzb8] at s72
  have s73 : Steps p.tables e below A₀ (T65.setTop (mkF m 89 #[.val (.ref p0), .val (.int (3 : Int32)), .val (.ref b2), .val (.ref b3), .val (.int zb8), .val (.int (0 : Int32))] [(.int zb8), (.int (0 : Int32)), (.ref b3)])) := by
    refine s72.trans ?_
    refine XS.istore X65.here hx rfl (hb hby d1_82) rfl (l' := #[.val (.ref p0), .val (.int (3 : Int32)), .val (.ref b2), .val (.ref b3), .val (.int zb8), .val (.int (0 : Int32))]) rfl ?_
    show Steps p.tables e below (T65.setTop (mkF m 84 #[.val (.ref p0), .val (.int (3 : Int32)), .val (.ref b2), .val (.ref b3), .val (.int zb8), .val (.int (0 : Int32))] [])) _
    refine XS.aloadN X65.here hx rfl (hb hby d1_84) rfl rfl ?_
    refine XS.iload X65.here hx rfl (hb hby d1_85) rfl ?_
    refine XS.iload X65.here hx rfl (hb hby d1_87) rfl ?_
    exact Steps.refl _
  have s75 : Steps p.tables e below A₀ (T65.setTop (mkF m 100 #[.val (.ref p0), .val (.int (3 : Int32)), .val (.ref b2), .val (.ref b3), .val (.int zb8), .val (.int (0 : Int32))] [(.int (if zb8 < (0 : Int32) then (2 : Int32) else zb8)), (.int (0 : Int32)), (.ref b3)])) := by
    by_cases hm74 : zb8 < (0 : Int32)
    · simp only [if_pos hm74]
      refine s73.trans ?_
      refine XS.ifNo X65.here hx rfl (hb hby d1_89) rfl ((if0 _ _).trans (tlt hm74).2.1) ?_
      show Steps p.tables e below (T65.setTop (mkF m 92 #[.val (.ref p0), .val (.int (3 : Int32)), .val (.ref b2), .val (.ref b3), .val (.int zb8), .val (.int (0 : Int32))] [(.int (0 : Int32)), (.ref b3)])) _
      refine XS.iloadN X65.here hx rfl (hb hby d1_92) rfl ?_
      refine XS.iconst X65.here hx rfl (hb hby d1_93) ?_
      refine XS.isub X65.here hx rfl (hb hby d1_94) rfl ?_
      refine XS.goto X65.here hx rfl (pc0 := 95) (pc' := 100) rfl (hb hby d1_95) (by decide) (by decide) ?_
      exact Steps.refl _
    · simp only [if_neg hm74]
      refine s73.trans ?_
      refine XS.ifYes X65.here hx rfl (pc0 := 89) (pc' := 98) rfl (hb hby d1_89) rfl ((if0 _ _).trans (flt hm74).2.1) (by decide) (by decide) ?_
      show Steps p.tables e below (T65.setTop (mkF m 98 #[.val (.ref p0), .val (.int (3 : Int32)), .val (.ref b2), .val (.ref b3), .val (.int zb8), .val (.int (0 : Int32))] [(.int (0 : Int32)), (.ref b3)])) _
      refine XS.iload X65.here hx rfl (hb hby d1_98) rfl ?_
      exact Steps.refl _
  obtain ⟨zc9, hzc9⟩ : ∃ z, z = (if zb8 < (0 : Int32) then (2 : Int32) else zb8) := ⟨_, rfl⟩
  rw [← hzc9] at s75
  obtain ⟨cla76, Ara76, qa76, Sa76, Za76, Ha76, Ga76⟩ := id V65
  have hin77 : ¬ ((0 : Int32) < 0 ∨ cla76.slots.size ≤ ((0 : Int32)).toNatClampNeg) := inb_of Sa76 ⟨by decide, by decide⟩
  obtain ⟨T78, h78, X78, e78, W78, st78⟩ := stI X65 hx hZ e65 Ara76 (j := (0 : Int32)) hin77 (g := (mkF m 100 #[.val (.ref p0), .val (.int (3 : Int32)), .val (.ref b2), .val (.ref b3), .val (.int zb8), .val (.int (0 : Int32))] [(.int zc9), (.int (0 : Int32)), (.ref b3)])) rfl rfl (hb hby d1_100)
  have O78 := O65.wr W78 g_b3
  have K78 : Keep h0 h78 [] := K65.wr W78 (Or.inr sz_b3)
  have N78 := Fr.snoc X78 N65 g_b3
  have V78 : Arv Z h78 b3 k3 .int (3 : Int32) [(.int zc9), (.int zc7), (.int zc5)] (.int (0 : Int32)) := Arv.set Ara76 qa76 Sa76 Za76 Ha76 Ga76 rfl W78 0 rfl (Nat.le_of_ble_eq_true rfl)
  have s79 : Steps p.tables e below A₀ (T78.setTop (mkF m 109 #[.val (.ref p0), .val (.int (3 : Int32)), .val (.ref b2), .val (.ref b3), .val (.int zb8), .val (.int (-1 : Int32))] [(.int zb8)])) := by
    refine s75.trans ?_
    refine st78 _ ?_
    show Steps p.tables e below (T78.setTop (mkF m 101 #[.val (.ref p0), .val (.int (3 : Int32)), .val (.ref b2), .val (.ref b3), .val (.int zb8), .val (.int (0 : Int32))] [])) _
    refine XS.iinc X78.here hx rfl (hb hby d1_101) rfl (l' := #[.val (.ref p0), .val (.int (3 : Int32)), .val (.ref b2), .val (.ref b3), .val (.int zb8), .val (.int (-1 : Int32))]) rfl ?_
    refine XS.goto X78.here hx rfl (pc0 := 104) (pc' := 63) rfl (hb hby d1_104) (by decide) (by decide) ?_
    refine XS.iload X78.here hx rfl (hb hby d1_63) rfl ?_
    refine XS.ifYes X78.here hx rfl (pc0 := 65) (pc' := 107) rfl (hb hby d1_65) rfl ((if0 _ _).trans (tlt (by decide)).1) (by decide) (by decide) ?_
    refine XS.iload X78.here hx rfl (hb hby d1_107) rfl ?_
    exact Steps.refl _
  obtain ⟨T85, h85, L85, X85, e85, O85, N85, K85, f85_0, f85_1, f85_2, s85⟩ : ∃ (T : State) (h : Heap) (L : List Loc), (Stand p l e ({ frames := 2, cells := 3, slots := 8, locals := 27 } : Room) s m #[(.ref p0)] below meth c T L 2 6) ∧ (T.heap = h) ∧ (Old Z n0 h) ∧ (Fr n0 L) ∧ (Keep h0 h []) ∧ (Arv Z h p0 kz .boolean (3 : Int32) [(.int y0), (.int y1), (.int y2)] (.int (0 : Int32))) ∧ (Arv Z h b3 k3 .int (3 : Int32) [(.int zc9), (.int zc7), (.int zc5)] (.int (0 : Int32))) ∧ (Arv Z h b2 k2 .int (3 : Int32) [(.int (if zb8 < (0 : Int32) then (-1 : Int32) else (own_max za1 (0 : Int32)))), (.int (if zb8 < (0 : Int32) then (-1 : Int32) else (own_max za2 (0 : Int32)))), (.int (if zb8 < (0 : Int32) then (-1 : Int32) else (own_max za3 (0 : Int32))))] (.int (0 : Int32))) ∧ (Steps p.tables e below A₀ (T.setTop (mkF m 117 #[.val (.ref p0), .val (.int (3 : Int32)), .val (.ref b2), .val (.ref b3), .val (.int zb8), .val (.int (-1 : Int32))] []))) := by
    by_cases hc80 : zb8 < (0 : Int32)
    · have c81 : Arv Z h78 b2 k2 .int (3 : Int32) [(.int (own_max za1 (0 : Int32))), (.int (own_max za2 (0 : Int32))), (.int (own_max za3 (0 : Int32)))] (.int (0 : Int32)) := (((V38.other W52 ne_b2_b3).other W65 ne_b2_b3).other W78 ne_b2_b3)
      obtain ⟨_, _, ⟨T82, L82, k82, n82⟩, -, X82, ⟨Lc82, hQ82, l82, y82, z82⟩, st82⟩ := Jvm.LawKit.callS X78 hx (y := (⟨"java/util/Arrays", "fill", "([II)V"⟩ : MethodName)) hown (mvT hZ (hw _ (List.mem_of_getElem? (i := 51) rfl))) (mvT hZ (hw _ (List.mem_of_getElem? (i := 52) rfl))) (mvT hZ (hw _ (List.mem_of_getElem? (i := 53) rfl))) (mvT hZ (hw _ (List.mem_of_getElem? (i := 54) rfl))) (by decide) (backOf (W := 0) (rmfill3 l Z a0 hw [] b2 k2 (own_max za1 (0 : Int32)) (own_max za2 (0 : Int32)) (own_max za3 (0 : Int32)) h78 n0 O78 c81 g_b2) hZ (hw _ (List.mem_of_getElem? (i := 54) rfl)) (hw _ (List.mem_of_getElem? (i := 53) rfl)) (by decide) (by decide)) (g := (mkF m 114 #[.val (.ref p0), .val (.int (3 : Int32)), .val (.ref b2), .val (.ref b3), .val (.int zb8), .val (.int (-1 : Int32))] [(.int (-1 : Int32)), (.ref b2)])) rfl (by rw [hml]; rfl) (argsL := [(.ref b2), (.int (-1 : Int32))]) (rest := []) (lenOf pd_rmt3_1 rfl) rfl (by show 2 * 0 + _ ≤ _; exact Nat.le_of_eq rfl) (hb hby d1_114) (fun _ _ => ⟨rfl, e78, (by decide : 2 + 0 ≤ _), (by decide : 6 + 0 ≤ _)⟩)
      dsimp only [Pt.U, Pt.locs, Pt.cells, Pt.slots] at X82 l82 y82 z82 st82 hQ82
      subst l82 y82 z82
      obtain ⟨rfl, Nq82, Kc82, f82_0⟩ := hQ82
      have N82 := Fr.app N78 Nq82
      have K82 : Keep h0 T82.heap [] := K78.trans Kc82 (allS (Or.inr sz_b2) all0)
      have O82 := O78.keep Kc82 (allS g_b2 all0)
      have s83 : Steps p.tables e below A₀ (T82.setTop (mkF m 117 #[.val (.ref p0), .val (.int (3 : Int32)), .val (.ref b2), .val (.ref b3), .val (.int zb8), .val (.int (-1 : Int32))] [])) := by
        refine s79.trans ?_
        refine XS.ifNo X78.here hx rfl (hb hby d1_109) rfl ((if0 _ _).trans (tlt hc80).2.1) ?_
        show Steps p.tables e below (T78.setTop (mkF m 112 #[.val (.ref p0), .val (.int (3 : Int32)), .val (.ref b2), .val (.ref b3), .val (.int zb8), .val (.int (-1 : Int32))] [])) _
        refine XS.aloadN X78.here hx rfl (hb hby d1_112) rfl rfl ?_
        refine XS.iconst X78.here hx rfl (hb hby d1_113) ?_
        refine st82 _ ?_
        exact Steps.refl _
      have c86 : Arv Z T82.heap p0 kz .boolean (3 : Int32) [(.int y0), (.int y1), (.int y2)] (.int (0 : Int32)) := ((c66.other W78 ne_p0_b3).keep Kc82 (ninS ne_p0_b2 nin0))
      have c87 : Arv Z T82.heap b3 k3 .int (3 : Int32) [(.int zc9), (.int zc7), (.int zc5)] (.int (0 : Int32)) := (V78.keep Kc82 (ninS (Ne.symm ne_b2_b3) nin0))
      simp only [if_pos hc80]
      exact ⟨T82, T82.heap, _, X82, (rfl : T82.heap = T82.heap), O82, N82, K82, c86, c87, f82_0, s83⟩
    · have s84 : Steps p.tables e below A₀ (T78.setTop (mkF m 117 #[.val (.ref p0), .val (.int (3 : Int32)), .val (.ref b2), .val (.ref b3), .val (.int zb8), .val (.int (-1 : Int32))] [])) := by
        refine s79.trans ?_
        refine XS.ifYes X78.here hx rfl (pc0 := 109) (pc' := 117) rfl (hb hby d1_109) rfl ((if0 _ _).trans (flt hc80).2.1) (by decide) (by decide) ?_
        exact Steps.refl _
      have c88 : Arv Z h78 p0 kz .boolean (3 : Int32) [(.int y0), (.int y1), (.int y2)] (.int (0 : Int32)) := (c66.other W78 ne_p0_b3)
      have c89 : Arv Z h78 b2 k2 .int (3 : Int32) [(.int (own_max za1 (0 : Int32))), (.int (own_max za2 (0 : Int32))), (.int (own_max za3 (0 : Int32)))] (.int (0 : Int32)) := (((V38.other W52 ne_b2_b3).other W65 ne_b2_b3).other W78 ne_b2_b3)
      simp only [if_neg hc80]
      exact ⟨T78, h78, _, X78, e78, O78, N78, K78, c88, V78, c89, s84⟩
  obtain ⟨z90, hz90⟩ : ∃ z, z = (if zb8 < (0 : Int32) then (-1 : Int32) else (own_max za1 (0 : Int32))) := ⟨_, rfl⟩
  rw [← hz90] at f85_2
  obtain ⟨z91, hz91⟩ : ∃ z, z = (if zb8 < (0 : Int32) then (-1 : Int32) else (own_max za2 (0 : Int32))) := ⟨_, rfl⟩
  rw [← hz91] at f85_2
  obtain ⟨z92, hz92⟩ : ∃ z, z = (if zb8 < (0 : Int32) then (-1 : Int32) else (own_max za3 (0 : Int32))) := ⟨_, rfl⟩
  rw [← hz92] at f85_2
  obtain ⟨T93, h93, X93, e93, E93, A93, D93, -, st93⟩ := newO X85 hx hZ hown (hw _ (List.mem_of_getElem? (i := 11) rfl)) (hw _ (List.mem_of_getElem? (i := 12) rfl)) (hw _ (List.mem_of_getElem? (i := 13) rfl)) e85 (g := (mkF m 117 #[.val (.ref p0), .val (.int (3 : Int32)), .val (.ref b2), .val (.ref b3), .val (.int zb8), .val (.int (-1 : Int32))] [])) rfl (hb hby d1_117) (by decide) (by decide)
  obtain ⟨b93, g93⟩ : ∃ z, z = h85.size := ⟨_, rfl⟩
  rw [← g93] at A93 D93 st93
  have ne_p0_b93 : p0 ≠ b93 := Nat.ne_of_lt (Nat.lt_of_lt_of_le f85_0.lt (Nat.le_of_eq g93.symm))
  have ne_b2_b93 : b2 ≠ b93 := Nat.ne_of_lt (Nat.lt_of_lt_of_le f85_2.lt (Nat.le_of_eq g93.symm))
  have ne_b3_b93 : b3 ≠ b93 := Nat.ne_of_lt (Nat.lt_of_lt_of_le f85_1.lt (Nat.le_of_eq g93.symm))
  have g_b93 : n0 ≤ b93 := Nat.le_trans (Nat.le_of_eq O85.1.symm) (Nat.le_trans O85.2.1 (Nat.le_of_eq g93.symm))
  have sz_b93 : h0.size ≤ b93 := Nat.le_trans K85.1 (Nat.le_of_eq g93.symm)
  have O93 := O85.ext E93
  have K93 : Keep h0 h93 [] := K85.ext E93
  have F93_val_from : Fld Z h93 b93 "com/example/libprox/libprox/Cpe$1" "val$from" "[I" .null := D93 (Or.inr (hw _ (List.mem_of_getElem? (i := 18) rfl))) (ty := (.array .int)) (by decide)
  have F93_val_to : Fld Z h93 b93 "com/example/libprox/libprox/Cpe$1" "val$to" "[I" .null := D93 (Or.inr (hw _ (List.mem_of_getElem? (i := 20) rfl))) (ty := (.array .int)) (by decide)
  obtain ⟨_, _, ⟨T94, L94, k94, n94⟩, -, X94, ⟨Lc94, hQ94, l94, y94, z94⟩, st94⟩ := X93.specialBack hx (y := (⟨"com/example/libprox/libprox/Cpe$1", "<init>", "([I[I)V"⟩ : MethodName)) rfl hown (mvT hZ (hw _ (List.mem_of_getElem? (i := 14) rfl))) (mvT hZ (hw _ (List.mem_of_getElem? (i := 15) rfl))) (mvT hZ (hw _ (List.mem_of_getElem? (i := 16) rfl))) (by decide) (backOf (W := 1) (rm3 l Z a0 hw [] b93 b2 b3 h93 n0 O93 A93 F93_val_from F93_val_to g_b93) hZ (hw _ (List.mem_of_getElem? (i := 16) rfl)) (hw _ (List.mem_of_getElem? (i := 13) rfl)) (by decide) (by decide)) (g := (mkF m 123 #[.val (.ref p0), .val (.int (3 : Int32)), .val (.ref b2), .val (.ref b3), .val (.int zb8), .val (.int (-1 : Int32))] [(.ref b3), (.ref b2), (.ref b93), (.ref b93)])) rfl (by rw [hml]; rfl) (Steps.refl _) (a := b93) (argsL := [(.ref b2), (.ref b3)]) (rest := [(.ref b93)]) (lenOf pd_rmt3_2 rfl) rfl (by show 2 * 0 + _ ≤ _; exact Nat.le_of_eq rfl) (hb hby d1_123) (fun _ _ => ⟨rfl, e93, (by decide : 3 + 0 ≤ _), (by decide : 8 + 0 ≤ _)⟩)
  dsimp only [Pt.U, Pt.locs, Pt.cells, Pt.slots] at X94 l94 y94 z94 st94 hQ94
  subst l94 y94 z94
  obtain ⟨rfl, Nq94, Kc94, f94_0, f94_1, f94_2⟩ := hQ94
  have N94 := Fr.app N85 Nq94
  have K94 : Keep h0 T94.heap [] := K93.trans Kc94 (allS (Or.inr sz_b93) all0)
  have O94 := O93.keep Kc94 (allS g_b93 all0)
  have s95 : Steps p.tables e below A₀ (T94.setTop (mkF m 126 #[.val (.ref p0), .val (.int (3 : Int32)), .val (.ref b2), .val (.ref b3), .val (.int zb8), .val (.int (-1 : Int32))] [(.ref b93)])) := by
    refine s85.trans ?_
    refine st93 _ ?_
    show Steps p.tables e below (T93.setTop (mkF m 120 #[.val (.ref p0), .val (.int (3 : Int32)), .val (.ref b2), .val (.ref b3), .val (.int zb8), .val (.int (-1 : Int32))] [(.ref b93)])) _
    refine XS.dup X93.here hx rfl (hb hby d1_120) rfl rfl ?_
    refine XS.aloadN X93.here hx rfl (hb hby d1_121) rfl rfl ?_
    refine XS.aloadN X93.here hx rfl (hb hby d1_122) rfl rfl ?_
    refine st94.trans ?_
    exact Steps.refl _
  have c96 : Arv Z T94.heap b2 k2 .int (3 : Int32) [(.int z90), (.int z91), (.int z92)] (.int (0 : Int32)) := ((f85_2.ext E93).keep Kc94 (ninS ne_b2_b93 nin0))
  have VrF := c96
  have EF0 := (own_rmt3_1 y0 y1 y2 za1 zb4 zb6 zb8 z90 hz90 hza1 hzb8 hzb6 hzb4)
  have EF1 := (own_rmt3_2 y0 y1 y2 za1 za2 zb4 zb6 zb8 z91 hz91 hza2 hza1 hzb8 hzb6 hzb4)
  have EF2 := (own_rmt3_3 y0 y1 y2 za1 za2 za3 zb4 zb6 zb8 z92 hz92 hza3 hza2 hza1 hzb8 hzb6 hzb4)
  rw [EF0, EF1, EF2] at VrF
  have c97 : Arv Z T94.heap b3 k3 .int (3 : Int32) [(.int zc9), (.int zc7), (.int zc5)] (.int (0 : Int32)) := ((f85_1.ext E93).keep Kc94 (ninS ne_b3_b93 nin0))
  have VrT := c97
  have ET0 := (own_rmt3_4 y0 y1 y2 zb4 zb6 zb8 zc9 hzc9 hzb8 hzb6 hzb4)
  have ET1 := (own_rmt3_5 y0 y1 y2 zb4 zb6 zc7 hzc7 hzb6 hzb4)
  have ET2 := (own_rmt3_6 y0 y1 y2 zb4 zc5 hzc5 hzb4)
  rw [ET0, ET1, ET2] at VrT
  subst hA₀
  obtain ⟨fs, hr, hrun, hended, hW, hsame⟩ := X94.leave (v := some (.ref b93)) (fun h => by rw [Bd.returns] at h; cases h)
  refine ⟨_, _, s95.trans ?_, hrun, hended, _, _, rfl, ?_, ⟨_, rfl⟩, hW, hsame.mono (by decide) (by decide)⟩
  · show Steps p.tables e below (T94.setTop (mkF m 126 #[.val (.ref p0), .val (.int (3 : Int32)), .val (.ref b2), .val (.ref b3), .val (.int zb8), .val (.int (-1 : Int32))] [(.ref b93)])) _
    jvm_step X94.here [X94.here.top, hx, (hb hby d1_126), X94.method', Bd.returns, Value.isRef, FieldType.isReference]
    first | (intro acts; rw [hr _ acts rfl rfl rfl]) | rw [hr _ _ rfl rfl rfl]
    exact Steps.refl _
  · show Qt3 Z p0 kz y0 y1 y2 h0 n0 _ T94.heap _
    exact ⟨b93, b2, b3, k2, k3, rfl, N94, K94, f94_0, f94_1, f94_2, VrF, VrT⟩
theorem ef_rmfill4 (m : MethodId) (p0 : Addr) : entryFrame m #[(.ref p0), (.int (-1 : Int32))] 4 = mkF m 0 #[.val (.ref p0), .val (.int (-1 : Int32)), .unset, .unset] [] := by first | (simp [entryFrame, mkF, argsToLocals, Value.category]; done) | rfl
def Qfill4 (Z : State) (p0 : Addr) (k1 : ClassId) (x0 : Int32) (x1 : Int32) (x2 : Int32) (x3 : Int32) (h0 : Heap) (n0 : Nat) (v : Option Value) (h : Heap) (L : List Loc) : Prop := v = none ∧ Fr n0 L ∧ Keep h0 h [p0] ∧ (Arv Z h p0 k1 .int (4 : Int32) [(.int (-1 : Int32)), (.int (-1 : Int32)), (.int (-1 : Int32)), (.int (-1 : Int32))] (.int (0 : Int32)))
set_option maxRecDepth 65536 in
set_option maxHeartbeats 40000000 in
theorem rmfill4 (l : Launch) (Z : State) (a0 : Array Value) (hw : ∀ d ∈ tables_1, d.before a0 Z = true) (ws : List Jvm.Cond) (p0 : Addr) (k1 : ClassId) (x0 : Int32) (x1 : Int32) (x2 : Int32) (x3 : Int32) (h0 : Heap) (n0 : Nat) (O0 : Old Z n0 h0) (F0_ : Arv Z h0 p0 k1 .int (4 : Int32) [(.int x0), (.int x1), (.int x2), (.int x3)] (.int (0 : Int32))) (F1_ : n0 ≤ p0) :
    MetFree l nm7 (head1 (Jvm.Cond.code nm7 jdk_65_method_103_code 4 none :: ws) ({ frames := 0, cells := 0, slots := 0, locals := 0 } : Room)) (fun a U => a = #[(.ref p0), (.int (-1 : Int32))] ∧ Z.Warmed39 U.vm ∧ U.heap = h0) (fun _ _ _ _ _ => True) (fun _ U o U' => ∃ v L, o = .returned v ∧ Qfill4 Z p0 k1 x0 x1 x2 x3 h0 n0 v U'.heap L ∧ FrameEnd U o U' L ({ frames := 0, cells := 0, slots := 0, locals := 0 } : Room).cells ({ frames := 0, cells := 0, slots := 0, locals := 0 } : Room).slots) := by
  refine MetFree.of_bodySF (plainFor_of_name pn_10) hisR ?_
  intro p e s m args below meth c s₁ Bd hml0 hP hK
  obtain ⟨rfl, hZ, hh⟩ := hP
  have hx := Bd.exec
  have hby := Bd.bytes
  have hml : c.maxLocals = 4 := hml0
  have hown : s.vm.findClass "java/util/Arrays" = some m.cls := findClass_of_methodNamed Bd.named
  have hnm := (name_of_methodNamed Bd.named Bd.method).1
  have X0 : Stand p l e ({ frames := 0, cells := 0, slots := 0, locals := 0 } : Room) s m #[(.ref p0), (.int (-1 : Int32))] below meth c s₁ [] 0 0 := Stand.of_body Bd
  have e0 : s₁.heap = h0 := by rw [← hh, Bd.state]; rfl
  have N0 := Fr.nil n0
  have s0 : Steps p.tables e below (s₁.setTop (entryFrame m #[(.ref p0), (.int (-1 : Int32))] 4)) (s₁.setTop (mkF m 0 #[.val (.ref p0), .val (.int (-1 : Int32)), .unset, .unset] [])) := castTop (ef_rmfill4 m p0) (Steps.refl _)
  obtain ⟨A₀, hA₀⟩ : ∃ z, z = (s₁.setTop (entryFrame m #[(.ref p0), (.int (-1 : Int32))] 4)) := ⟨_, rfl⟩
  rw [← hA₀] at s0
  obtain ⟨cla1, Ara1, qa1, Sa1, Za1, Ha1, Ga1⟩ := id F0_
  have hin2 : ¬ ((0 : Int32) < 0 ∨ cla1.slots.size ≤ ((0 : Int32)).toNatClampNeg) := inb_of Sa1 ⟨by decide, by decide⟩
  obtain ⟨T3, h3, X3, e3, W3, st3⟩ := stI X0 hx hZ e0 Ara1 (j := (0 : Int32)) hin2 (g := (mkF m 13 #[.val (.ref p0), .val (.int (-1 : Int32)), .val (.int (0 : Int32)), .val (.int (4 : Int32))] [(.int (-1 : Int32)), (.int (0 : Int32)), (.ref p0)])) rfl rfl (hb hby d10_13)
  have O3 := O0.wr W3 F1_
  have K3 : Keep h0 h3 [p0] := (Keep.refl h0 [p0]).wr W3 (Or.inl (List.mem_of_getElem? (i := 0) rfl))
  have N3 := Fr.snoc X3 N0 F1_
  have V3 : Arv Z h3 p0 k1 .int (4 : Int32) [(.int (-1 : Int32)), (.int x1), (.int x2), (.int x3)] (.int (0 : Int32)) := Arv.set Ara1 qa1 Sa1 Za1 Ha1 Ga1 rfl W3 0 rfl (Nat.le_of_ble_eq_true rfl)
  obtain ⟨cla4, Ara4, qa4, Sa4, Za4, Ha4, Ga4⟩ := id V3
  have hin5 : ¬ ((1 : Int32) < 0 ∨ cla4.slots.size ≤ ((1 : Int32)).toNatClampNeg) := inb_of Sa4 ⟨by decide, by decide⟩
  obtain ⟨T6, h6, X6, e6, W6, st6⟩ := stI X3 hx hZ e3 Ara4 (j := (1 : Int32)) hin5 (g := (mkF m 13 #[.val (.ref p0), .val (.int (-1 : Int32)), .val (.int (1 : Int32)), .val (.int (4 : Int32))] [(.int (-1 : Int32)), (.int (1 : Int32)), (.ref p0)])) rfl rfl (hb hby d10_13)
  have O6 := O3.wr W6 F1_
  have K6 : Keep h0 h6 [p0] := K3.wr W6 (Or.inl (List.mem_of_getElem? (i := 0) rfl))
  have N6 := Fr.snoc X6 N3 F1_
  have V6 : Arv Z h6 p0 k1 .int (4 : Int32) [(.int (-1 : Int32)), (.int (-1 : Int32)), (.int x2), (.int x3)] (.int (0 : Int32)) := Arv.set Ara4 qa4 Sa4 Za4 Ha4 Ga4 rfl W6 1 rfl (Nat.le_of_ble_eq_true rfl)
  obtain ⟨cla7, Ara7, qa7, Sa7, Za7, Ha7, Ga7⟩ := id V6
  have hin8 : ¬ ((2 : Int32) < 0 ∨ cla7.slots.size ≤ ((2 : Int32)).toNatClampNeg) := inb_of Sa7 ⟨by decide, by decide⟩
  obtain ⟨T9, h9, X9, e9, W9, st9⟩ := stI X6 hx hZ e6 Ara7 (j := (2 : Int32)) hin8 (g := (mkF m 13 #[.val (.ref p0), .val (.int (-1 : Int32)), .val (.int (2 : Int32)), .val (.int (4 : Int32))] [(.int (-1 : Int32)), (.int (2 : Int32)), (.ref p0)])) rfl rfl (hb hby d10_13)
  have O9 := O6.wr W9 F1_
  have K9 : Keep h0 h9 [p0] := K6.wr W9 (Or.inl (List.mem_of_getElem? (i := 0) rfl))
  have N9 := Fr.snoc X9 N6 F1_
  have V9 : Arv Z h9 p0 k1 .int (4 : Int32) [(.int (-1 : Int32)), (.int (-1 : Int32)), (.int (-1 : Int32)), (.int x3)] (.int (0 : Int32)) := Arv.set Ara7 qa7 Sa7 Za7 Ha7 Ga7 rfl W9 2 rfl (Nat.le_of_ble_eq_true rfl)
  obtain ⟨cla10, Ara10, qa10, Sa10, Za10, Ha10, Ga10⟩ := id V9
  have hin11 : ¬ ((3 : Int32) < 0 ∨ cla10.slots.size ≤ ((3 : Int32)).toNatClampNeg) := inb_of Sa10 ⟨by decide, by decide⟩
  obtain ⟨T12, h12, X12, e12, W12, st12⟩ := stI X9 hx hZ e9 Ara10 (j := (3 : Int32)) hin11 (g := (mkF m 13 #[.val (.ref p0), .val (.int (-1 : Int32)), .val (.int (3 : Int32)), .val (.int (4 : Int32))] [(.int (-1 : Int32)), (.int (3 : Int32)), (.ref p0)])) rfl rfl (hb hby d10_13)
  have O12 := O9.wr W12 F1_
  have K12 : Keep h0 h12 [p0] := K9.wr W12 (Or.inl (List.mem_of_getElem? (i := 0) rfl))
  have N12 := Fr.snoc X12 N9 F1_
  have V12 : Arv Z h12 p0 k1 .int (4 : Int32) [(.int (-1 : Int32)), (.int (-1 : Int32)), (.int (-1 : Int32)), (.int (-1 : Int32))] (.int (0 : Int32)) := Arv.set Ara10 qa10 Sa10 Za10 Ha10 Ga10 rfl W12 3 rfl (Nat.le_of_ble_eq_true rfl)
  have s13 : Steps p.tables e below A₀ (T12.setTop (mkF m 20 #[.val (.ref p0), .val (.int (-1 : Int32)), .val (.int (4 : Int32)), .val (.int (4 : Int32))] [])) := by
    refine s0.trans ?_
    refine XS.iconst X0.here hx rfl (hb hby d10_0) ?_
    show Steps p.tables e below (s₁.setTop (mkF m 1 #[.val (.ref p0), .val (.int (-1 : Int32)), .unset, .unset] [(.int (0 : Int32))])) _
    refine XS.istoreN X0.here hx rfl (hb hby d10_1) rfl (l' := #[.val (.ref p0), .val (.int (-1 : Int32)), .val (.int (0 : Int32)), .unset]) rfl ?_
    refine XS.aloadN X0.here hx rfl (hb hby d10_2) rfl rfl ?_
    refine X0.arraylength hx (by rw [e0]; exact Ara1.1) (State.isArrayOf_alike hZ.alike Ara1.2.1) (g := (mkF m 3 #[.val (.ref p0), .val (.int (-1 : Int32)), .val (.int (0 : Int32)), .unset] [(.ref p0)])) rfl rfl (hb hby d10_3) _ ?_
    rw [len_of Sa1 Za1]
    show Steps p.tables e below (s₁.setTop (mkF m 4 #[.val (.ref p0), .val (.int (-1 : Int32)), .val (.int (0 : Int32)), .unset] [(.int (4 : Int32))])) _
    refine XS.istoreN X0.here hx rfl (hb hby d10_4) rfl (l' := #[.val (.ref p0), .val (.int (-1 : Int32)), .val (.int (0 : Int32)), .val (.int (4 : Int32))]) rfl ?_
    refine XS.iloadN X0.here hx rfl (hb hby d10_5) rfl ?_
    refine XS.iloadN X0.here hx rfl (hb hby d10_6) rfl ?_
    refine XS.icmpNo X0.here hx rfl (hb hby d10_7) rfl (tlt (by decide)).2.1 ?_
    refine XS.aloadN X0.here hx rfl (hb hby d10_10) rfl rfl ?_
    refine XS.iloadN X0.here hx rfl (hb hby d10_11) rfl ?_
    show Steps p.tables e below (s₁.setTop (mkF m 12 #[.val (.ref p0), .val (.int (-1 : Int32)), .val (.int (0 : Int32)), .val (.int (4 : Int32))] [(.int (0 : Int32)), (.ref p0)])) _
    refine XS.iloadN X0.here hx rfl (hb hby d10_12) rfl ?_
    refine st3 _ ?_
    refine XS.iinc X3.here hx rfl (hb hby d10_14) rfl (l' := #[.val (.ref p0), .val (.int (-1 : Int32)), .val (.int (1 : Int32)), .val (.int (4 : Int32))]) rfl ?_
    refine XS.goto X3.here hx rfl (pc0 := 17) (pc' := 5) rfl (hb hby d10_17) (by decide) (by decide) ?_
    refine XS.iloadN X3.here hx rfl (hb hby d10_5) rfl ?_
    refine XS.iloadN X3.here hx rfl (hb hby d10_6) rfl ?_
    show Steps p.tables e below (T3.setTop (mkF m 7 #[.val (.ref p0), .val (.int (-1 : Int32)), .val (.int (1 : Int32)), .val (.int (4 : Int32))] [(.int (4 : Int32)), (.int (1 : Int32))])) _
    refine XS.icmpNo X3.here hx rfl (hb hby d10_7) rfl (tlt (by decide)).2.1 ?_
    refine XS.aloadN X3.here hx rfl (hb hby d10_10) rfl rfl ?_
    refine XS.iloadN X3.here hx rfl (hb hby d10_11) rfl ?_
    refine XS.iloadN X3.here hx rfl (hb hby d10_12) rfl ?_
    refine st6 _ ?_
    refine XS.iinc X6.here hx rfl (hb hby d10_14) rfl (l' := #[.val (.ref p0), .val (.int (-1 : Int32)), .val (.int (2 : Int32)), .val (.int (4 : Int32))]) rfl ?_
    show Steps p.tables e below (T6.setTop (mkF m 17 #[.val (.ref p0), .val (.int (-1 : Int32)), .val (.int (2 : Int32)), .val (.int (4 : Int32))] [])) _
    refine XS.goto X6.here hx rfl (pc0 := 17) (pc' := 5) rfl (hb hby d10_17) (by decide) (by decide) ?_
    refine XS.iloadN X6.here hx rfl (hb hby d10_5) rfl ?_
    refine XS.iloadN X6.here hx rfl (hb hby d10_6) rfl ?_
    refine XS.icmpNo X6.here hx rfl (hb hby d10_7) rfl (tlt (by decide)).2.1 ?_
    refine XS.aloadN X6.here hx rfl (hb hby d10_10) rfl rfl ?_
    refine XS.iloadN X6.here hx rfl (hb hby d10_11) rfl ?_
    show Steps p.tables e below (T6.setTop (mkF m 12 #[.val (.ref p0), .val (.int (-1 : Int32)), .val (.int (2 : Int32)), .val (.int (4 : Int32))] [(.int (2 : Int32)), (.ref p0)])) _
    refine XS.iloadN X6.here hx rfl (hb hby d10_12) rfl ?_
    refine st9 _ ?_
    refine XS.iinc X9.here hx rfl (hb hby d10_14) rfl (l' := #[.val (.ref p0), .val (.int (-1 : Int32)), .val (.int (3 : Int32)), .val (.int (4 : Int32))]) rfl ?_
    refine XS.goto X9.here hx rfl (pc0 := 17) (pc' := 5) rfl (hb hby d10_17) (by decide) (by decide) ?_
    refine XS.iloadN X9.here hx rfl (hb hby d10_5) rfl ?_
    refine XS.iloadN X9.here hx rfl (hb hby d10_6) rfl ?_
    show Steps p.tables e below (T9.setTop (mkF m 7 #[.val (.ref p0), .val (.int (-1 : Int32)), .val (.int (3 : Int32)), .val (.int (4 : Int32))] [(.int (4 : Int32)), (.int (3 : Int32))])) _
    refine XS.icmpNo X9.here hx rfl (hb hby d10_7) rfl (tlt (by decide)).2.1 ?_
    refine XS.aloadN X9.here hx rfl (hb hby d10_10) rfl rfl ?_
    refine XS.iloadN X9.here hx rfl (hb hby d10_11) rfl ?_
    refine XS.iloadN X9.here hx rfl (hb hby d10_12) rfl ?_
    refine st12 _ ?_
    refine XS.iinc X12.here hx rfl (hb hby d10_14) rfl (l' := #[.val (.ref p0), .val (.int (-1 : Int32)), .val (.int (4 : Int32)), .val (.int (4 : Int32))]) rfl ?_
    show Steps p.tables e below (T12.setTop (mkF m 17 #[.val (.ref p0), .val (.int (-1 : Int32)), .val (.int (4 : Int32)), .val (.int (4 : Int32))] [])) _
    refine XS.goto X12.here hx rfl (pc0 := 17) (pc' := 5) rfl (hb hby d10_17) (by decide) (by decide) ?_
    refine XS.iloadN X12.here hx rfl (hb hby d10_5) rfl ?_
    refine XS.iloadN X12.here hx rfl (hb hby d10_6) rfl ?_
    refine XS.icmpYes X12.here hx rfl (pc0 := 7) (pc' := 20) rfl (hb hby d10_7) rfl (flt (by decide)).2.1 (by decide) (by decide) ?_
    exact Steps.refl _
  subst hA₀
  obtain ⟨fs, hr, hrun, hended, hW, hsame⟩ := X12.leave (v := none) (fun _ => rfl)
  refine ⟨_, _, s13.trans ?_, hrun, hended, _, _, rfl, ?_, ⟨_, rfl⟩, hW, hsame.mono (by decide) (by decide)⟩
  · show Steps p.tables e below (T12.setTop (mkF m 20 #[.val (.ref p0), .val (.int (-1 : Int32)), .val (.int (4 : Int32)), .val (.int (4 : Int32))] [])) _
    exact X12.returnOut hx Bd.returns (hb hby d10_20) hr
  · show Qfill4 Z p0 k1 x0 x1 x2 x3 h0 n0 _ T12.heap _
    rw [e12]
    exact ⟨rfl, N12, K12, V12⟩
theorem own_rmt4_1 (y0 : Int32) (y1 : Int32) (y2 : Int32) (y3 : Int32) (za1 : Int32) (zb5 : Int32) (zb7 : Int32) (zb9 : Int32) (zb11 : Int32) (z114 : Int32) (hz114 : z114 = (if zb11 < (0 : Int32) then (-1 : Int32) else (own_max za1 (0 : Int32)))) (hza1 : za1 = (if y0 = (0 : Int32) then (0 : Int32) else (-1 : Int32))) (hzb11 : zb11 = (if y0 = (0 : Int32) then (0 : Int32) else zb9)) (hzb9 : zb9 = (if y1 = (0 : Int32) then (1 : Int32) else zb7)) (hzb7 : zb7 = (if y2 = (0 : Int32) then (2 : Int32) else zb5)) (hzb5 : zb5 = (if y3 = (0 : Int32) then (3 : Int32) else (-1 : Int32))) : z114 = (own_F4_0 y0 y1 y2 y3) := by
  unfold own_F4_0
  by_cases qy0 : y0 = (0 : Int32) <;> by_cases qy1 : y1 = (0 : Int32) <;> by_cases qy2 : y2 = (0 : Int32) <;> by_cases qy3 : y3 = (0 : Int32) <;> simp_all [own_max]
theorem own_rmt4_2 (y0 : Int32) (y1 : Int32) (y2 : Int32) (y3 : Int32) (za1 : Int32) (za2 : Int32) (zb5 : Int32) (zb7 : Int32) (zb9 : Int32) (zb11 : Int32) (z115 : Int32) (hz115 : z115 = (if zb11 < (0 : Int32) then (-1 : Int32) else (own_max za2 (0 : Int32)))) (hza2 : za2 = (if y1 = (0 : Int32) then (1 : Int32) else za1)) (hza1 : za1 = (if y0 = (0 : Int32) then (0 : Int32) else (-1 : Int32))) (hzb11 : zb11 = (if y0 = (0 : Int32) then (0 : Int32) else zb9)) (hzb9 : zb9 = (if y1 = (0 : Int32) then (1 : Int32) else zb7)) (hzb7 : zb7 = (if y2 = (0 : Int32) then (2 : Int32) else zb5)) (hzb5 : zb5 = (if y3 = (0 : Int32) then (3 : Int32) else (-1 : Int32))) : z115 = (own_F4_1 y0 y1 y2 y3) := by
  unfold own_F4_1
  by_cases qy0 : y0 = (0 : Int32) <;> by_cases qy1 : y1 = (0 : Int32) <;> by_cases qy2 : y2 = (0 : Int32) <;> by_cases qy3 : y3 = (0 : Int32) <;> simp_all [own_max]
theorem own_rmt4_3 (y0 : Int32) (y1 : Int32) (y2 : Int32) (y3 : Int32) (za1 : Int32) (za2 : Int32) (za3 : Int32) (zb5 : Int32) (zb7 : Int32) (zb9 : Int32) (zb11 : Int32) (z116 : Int32) (hz116 : z116 = (if zb11 < (0 : Int32) then (-1 : Int32) else (own_max za3 (0 : Int32)))) (hza3 : za3 = (if y2 = (0 : Int32) then (2 : Int32) else za2)) (hza2 : za2 = (if y1 = (0 : Int32) then (1 : Int32) else za1)) (hza1 : za1 = (if y0 = (0 : Int32) then (0 : Int32) else (-1 : Int32))) (hzb11 : zb11 = (if y0 = (0 : Int32) then (0 : Int32) else zb9)) (hzb9 : zb9 = (if y1 = (0 : Int32) then (1 : Int32) else zb7)) (hzb7 : zb7 = (if y2 = (0 : Int32) then (2 : Int32) else zb5)) (hzb5 : zb5 = (if y3 = (0 : Int32) then (3 : Int32) else (-1 : Int32))) : z116 = (own_F4_2 y0 y1 y2 y3) := by
  unfold own_F4_2
  by_cases qy0 : y0 = (0 : Int32) <;> by_cases qy1 : y1 = (0 : Int32) <;> by_cases qy2 : y2 = (0 : Int32) <;> by_cases qy3 : y3 = (0 : Int32) <;> simp_all [own_max]
theorem own_rmt4_4 (y0 : Int32) (y1 : Int32) (y2 : Int32) (y3 : Int32) (za1 : Int32) (za2 : Int32) (za3 : Int32) (za4 : Int32) (zb5 : Int32) (zb7 : Int32) (zb9 : Int32) (zb11 : Int32) (z117 : Int32) (hz117 : z117 = (if zb11 < (0 : Int32) then (-1 : Int32) else (own_max za4 (0 : Int32)))) (hza4 : za4 = (if y3 = (0 : Int32) then (3 : Int32) else za3)) (hza3 : za3 = (if y2 = (0 : Int32) then (2 : Int32) else za2)) (hza2 : za2 = (if y1 = (0 : Int32) then (1 : Int32) else za1)) (hza1 : za1 = (if y0 = (0 : Int32) then (0 : Int32) else (-1 : Int32))) (hzb11 : zb11 = (if y0 = (0 : Int32) then (0 : Int32) else zb9)) (hzb9 : zb9 = (if y1 = (0 : Int32) then (1 : Int32) else zb7)) (hzb7 : zb7 = (if y2 = (0 : Int32) then (2 : Int32) else zb5)) (hzb5 : zb5 = (if y3 = (0 : Int32) then (3 : Int32) else (-1 : Int32))) : z117 = (own_F4_3 y0 y1 y2 y3) := by
  unfold own_F4_3
  by_cases qy0 : y0 = (0 : Int32) <;> by_cases qy1 : y1 = (0 : Int32) <;> by_cases qy2 : y2 = (0 : Int32) <;> by_cases qy3 : y3 = (0 : Int32) <;> simp_all [own_max]
theorem own_rmt4_5 (y0 : Int32) (y1 : Int32) (y2 : Int32) (y3 : Int32) (zb5 : Int32) (zb7 : Int32) (zb9 : Int32) (zb11 : Int32) (zc12 : Int32) (hzc12 : zc12 = (if zb11 < (0 : Int32) then (3 : Int32) else zb11)) (hzb11 : zb11 = (if y0 = (0 : Int32) then (0 : Int32) else zb9)) (hzb9 : zb9 = (if y1 = (0 : Int32) then (1 : Int32) else zb7)) (hzb7 : zb7 = (if y2 = (0 : Int32) then (2 : Int32) else zb5)) (hzb5 : zb5 = (if y3 = (0 : Int32) then (3 : Int32) else (-1 : Int32))) : zc12 = (own_T4_0 y0 y1 y2 y3) := by
  unfold own_T4_0
  by_cases qy0 : y0 = (0 : Int32) <;> by_cases qy1 : y1 = (0 : Int32) <;> by_cases qy2 : y2 = (0 : Int32) <;> by_cases qy3 : y3 = (0 : Int32) <;> simp_all [own_max]
theorem own_rmt4_6 (y0 : Int32) (y1 : Int32) (y2 : Int32) (y3 : Int32) (zb5 : Int32) (zb7 : Int32) (zb9 : Int32) (zc10 : Int32) (hzc10 : zc10 = (if zb9 < (0 : Int32) then (3 : Int32) else zb9)) (hzb9 : zb9 = (if y1 = (0 : Int32) then (1 : Int32) else zb7)) (hzb7 : zb7 = (if y2 = (0 : Int32) then (2 : Int32) else zb5)) (hzb5 : zb5 = (if y3 = (0 : Int32) then (3 : Int32) else (-1 : Int32))) : zc10 = (own_T4_1 y0 y1 y2 y3) := by
  unfold own_T4_1
  by_cases qy0 : y0 = (0 : Int32) <;> by_cases qy1 : y1 = (0 : Int32) <;> by_cases qy2 : y2 = (0 : Int32) <;> by_cases qy3 : y3 = (0 : Int32) <;> simp_all [own_max]
theorem own_rmt4_7 (y0 : Int32) (y1 : Int32) (y2 : Int32) (y3 : Int32) (zb5 : Int32) (zb7 : Int32) (zc8 : Int32) (hzc8 : zc8 = (if zb7 < (0 : Int32) then (3 : Int32) else zb7)) (hzb7 : zb7 = (if y2 = (0 : Int32) then (2 : Int32) else zb5)) (hzb5 : zb5 = (if y3 = (0 : Int32) then (3 : Int32) else (-1 : Int32))) : zc8 = (own_T4_2 y0 y1 y2 y3) := by
  unfold own_T4_2
  by_cases qy0 : y0 = (0 : Int32) <;> by_cases qy1 : y1 = (0 : Int32) <;> by_cases qy2 : y2 = (0 : Int32) <;> by_cases qy3 : y3 = (0 : Int32) <;> simp_all [own_max]
theorem own_rmt4_8 (y0 : Int32) (y1 : Int32) (y2 : Int32) (y3 : Int32) (zb5 : Int32) (zc6 : Int32) (hzc6 : zc6 = (if zb5 < (0 : Int32) then (3 : Int32) else zb5)) (hzb5 : zb5 = (if y3 = (0 : Int32) then (3 : Int32) else (-1 : Int32))) : zc6 = (own_T4_3 y0 y1 y2 y3) := by
  unfold own_T4_3
  by_cases qy0 : y0 = (0 : Int32) <;> by_cases qy1 : y1 = (0 : Int32) <;> by_cases qy2 : y2 = (0 : Int32) <;> by_cases qy3 : y3 = (0 : Int32) <;> simp_all [own_max]
theorem pd_rmt4_0 : parseMethodDescriptor "(II)I" = some ⟨[.int, .int], some .int⟩ := by decide +kernel
theorem pd_rmt4_1 : parseMethodDescriptor "([II)V" = some ⟨[(.array .int), .int], none⟩ := by decide +kernel
theorem pd_rmt4_2 : parseMethodDescriptor "([I[I)V" = some ⟨[(.array .int), (.array .int)], none⟩ := by decide +kernel
theorem ef_rmt4 (m : MethodId) (p0 : Addr) : entryFrame m #[(.ref p0)] 6 = mkF m 0 #[.val (.ref p0), .unset, .unset, .unset, .unset, .unset] [] := by first | (simp [entryFrame, mkF, argsToLocals, Value.category]; done) | rfl
def Qt4 (Z : State) (p0 : Addr) (kz : ClassId) (y0 : Int32) (y1 : Int32) (y2 : Int32) (y3 : Int32) (h0 : Heap) (n0 : Nat) (v : Option Value) (h : Heap) (L : List Loc) : Prop := ∃ b : Addr, ∃ f : Addr, ∃ t : Addr, ∃ kf : ClassId, ∃ kt : ClassId, v = some (.ref b) ∧ Fr n0 L ∧ Keep h0 h [] ∧ (Exa Z h b "com/example/libprox/libprox/Cpe$1") ∧ (Fld Z h b "com/example/libprox/libprox/Cpe$1" "val$from" "[I" (.ref f)) ∧ (Fld Z h b "com/example/libprox/libprox/Cpe$1" "val$to" "[I" (.ref t)) ∧ (Arv Z h f kf .int (4 : Int32) [(.int (own_F4_0 y0 y1 y2 y3)), (.int (own_F4_1 y0 y1 y2 y3)), (.int (own_F4_2 y0 y1 y2 y3)), (.int (own_F4_3 y0 y1 y2 y3))] (.int (0 : Int32))) ∧ (Arv Z h t kt .int (4 : Int32) [(.int (own_T4_0 y0 y1 y2 y3)), (.int (own_T4_1 y0 y1 y2 y3)), (.int (own_T4_2 y0 y1 y2 y3)), (.int (own_T4_3 y0 y1 y2 y3))] (.int (0 : Int32)))
set_option maxRecDepth 65536 in
set_option maxHeartbeats 40000000 in
theorem rmt4 (l : Launch) (Z : State) (a0 : Array Value) (hw : ∀ d ∈ tables_1, d.before a0 Z = true) (ws : List Jvm.Cond) (p0 : Addr) (kz : ClassId) (y0 : Int32) (y1 : Int32) (y2 : Int32) (y3 : Int32) (h0 : Heap) (n0 : Nat) (O0 : Old Z n0 h0) (F0_ : Arv Z h0 p0 kz .boolean (4 : Int32) [(.int y0), (.int y1), (.int y2), (.int y3)] (.int (0 : Int32))) :
    MetFree l nm8 (head1 (Jvm.Cond.code nm8 prog_8_method_5_code 6 (some (.object "com/example/libprox/libprox/Combinations$Rule")) :: ws) ({ frames := 2, cells := 3, slots := 10, locals := 27 } : Room)) (fun a U => a = #[(.ref p0)] ∧ Z.Warmed39 U.vm ∧ U.heap = h0) (fun _ _ _ _ _ => True) (fun _ U o U' => ∃ v L, o = .returned v ∧ Qt4 Z p0 kz y0 y1 y2 y3 h0 n0 v U'.heap L ∧ FrameEnd U o U' L ({ frames := 2, cells := 3, slots := 10, locals := 27 } : Room).cells ({ frames := 2, cells := 3, slots := 10, locals := 27 } : Room).slots) := by
  refine MetFree.of_bodySF (plainFor_of_name pn_1) hisR ?_
  intro p e s m args below meth c s₁ Bd hml0 hP hK
  obtain ⟨rfl, hZ, hh⟩ := hP
  have hx := Bd.exec
  have hby := Bd.bytes
  have hml : c.maxLocals = 6 := hml0
  have hown : s.vm.findClass "com/example/libprox/libprox/Cpe" = some m.cls := findClass_of_methodNamed Bd.named
  have hnm := (name_of_methodNamed Bd.named Bd.method).1
  have X0 : Stand p l e ({ frames := 2, cells := 3, slots := 10, locals := 27 } : Room) s m #[(.ref p0)] below meth c s₁ [] 0 0 := Stand.of_body Bd
  have e0 : s₁.heap = h0 := by rw [← hh, Bd.state]; rfl
  have N0 := Fr.nil n0
  have s0 : Steps p.tables e below (s₁.setTop (entryFrame m #[(.ref p0)] 6)) (s₁.setTop (mkF m 0 #[.val (.ref p0), .unset, .unset, .unset, .unset, .unset] [])) := castTop (ef_rmt4 m p0) (Steps.refl _)
  obtain ⟨A₀, hA₀⟩ : ∃ z, z = (s₁.setTop (entryFrame m #[(.ref p0)] 6)) := ⟨_, rfl⟩
  rw [← hA₀] at s0
  obtain ⟨cla1, Ara1, qa1, Sa1, Za1, Ha1, Ga1⟩ := id F0_
  obtain ⟨T2, h2, k2, X2, e2, E2, A2, st2⟩ := newP X0 hx hZ (hw _ (List.mem_of_getElem? (i := 6) rfl)) e0 (g := (mkF m 4 #[.val (.ref p0), .val (.int (4 : Int32)), .unset, .unset, .unset, .unset] [(.int (4 : Int32))])) rfl (hb hby d1_4) rfl (by decide) (cap := 4) (by decide) (by decide) (by decide) (by decide)
  obtain ⟨b2, g2⟩ : ∃ z, z = h0.size := ⟨_, rfl⟩
  rw [← g2] at A2 st2
  have ne_p0_b2 : p0 ≠ b2 := Nat.ne_of_lt (Nat.lt_of_lt_of_le F0_.lt (Nat.le_of_eq g2.symm))
  have g_b2 : n0 ≤ b2 := Nat.le_trans (Nat.le_of_eq O0.1.symm) (Nat.le_trans O0.2.1 (Nat.le_of_eq g2.symm))
  have sz_b2 : h0.size ≤ b2 := Nat.le_trans (Keep.refl h0 []).1 (Nat.le_of_eq g2.symm)
  have O2 := O0.ext E2
  have K2 : Keep h0 h2 [] := (Keep.refl h0 []).ext E2
  have V2 : Arv Z h2 b2 k2 .int (4 : Int32) [(.int (0 : Int32)), (.int (0 : Int32)), (.int (0 : Int32)), (.int (0 : Int32))] (.int (0 : Int32)) := (Arv.new A2 (by decide)).pad (pad_rep [] (.int (0 : Int32)) 4)
  obtain ⟨T3, h3, k3, X3, e3, E3, A3, st3⟩ := newP X2 hx hZ (hw _ (List.mem_of_getElem? (i := 6) rfl)) e2 (g := (mkF m 8 #[.val (.ref p0), .val (.int (4 : Int32)), .val (.ref b2), .unset, .unset, .unset] [(.int (4 : Int32))])) rfl (hb hby d1_8) rfl (by decide) (cap := 4) (by decide) (by decide) (by decide) (by decide)
  obtain ⟨b3, g3⟩ : ∃ z, z = h2.size := ⟨_, rfl⟩
  rw [← g3] at A3 st3
  have c4 : Arv Z h2 p0 kz .boolean (4 : Int32) [(.int y0), (.int y1), (.int y2), (.int y3)] (.int (0 : Int32)) := (F0_.ext E2)
  have ne_p0_b3 : p0 ≠ b3 := Nat.ne_of_lt (Nat.lt_of_lt_of_le c4.lt (Nat.le_of_eq g3.symm))
  have ne_b2_b3 : b2 ≠ b3 := Nat.ne_of_lt (Nat.lt_of_lt_of_le V2.lt (Nat.le_of_eq g3.symm))
  have g_b3 : n0 ≤ b3 := Nat.le_trans (Nat.le_of_eq O2.1.symm) (Nat.le_trans O2.2.1 (Nat.le_of_eq g3.symm))
  have sz_b3 : h0.size ≤ b3 := Nat.le_trans K2.1 (Nat.le_of_eq g3.symm)
  have O3 := O2.ext E3
  have K3 : Keep h0 h3 [] := K2.ext E3
  have V3 : Arv Z h3 b3 k3 .int (4 : Int32) [(.int (0 : Int32)), (.int (0 : Int32)), (.int (0 : Int32)), (.int (0 : Int32))] (.int (0 : Int32)) := (Arv.new A3 (by decide)).pad (pad_rep [] (.int (0 : Int32)) 4)
  have c5 : Arv Z h3 p0 kz .boolean (4 : Int32) [(.int y0), (.int y1), (.int y2), (.int y3)] (.int (0 : Int32)) := (c4.ext E3)
  obtain ⟨cla6, Ara6, qa6, Sa6, Za6, Ha6, Ga6⟩ := id c5
  have hin7 : ¬ ((0 : Int32) < 0 ∨ cla6.slots.size ≤ ((0 : Int32)).toNatClampNeg) := inb_of Sa6 ⟨by decide, by decide⟩
  have hat8 : cla6.slots[((0 : Int32)).toNatClampNeg]? = some (.int y0) := Has.at Ha6 hin7 rfl
  have s9 : Steps p.tables e below A₀ (T3.setTop (mkF m 27 #[.val (.ref p0), .val (.int (4 : Int32)), .val (.ref b2), .val (.ref b3), .val (.int (-1 : Int32)), .val (.int (0 : Int32))] [(.int y0)])) := by
    refine s0.trans ?_
    refine XS.aloadN X0.here hx rfl (hb hby d1_0) rfl rfl ?_
    show Steps p.tables e below (s₁.setTop (mkF m 1 #[.val (.ref p0), .unset, .unset, .unset, .unset, .unset] [(.ref p0)])) _
    refine X0.arraylength hx (by rw [e0]; exact Ara1.1) (State.isArrayOf_alike hZ.alike Ara1.2.1) (g := (mkF m 1 #[.val (.ref p0), .unset, .unset, .unset, .unset, .unset] [(.ref p0)])) rfl rfl (hb hby d1_1) _ ?_
    rw [len_of Sa1 Za1]
    show Steps p.tables e below (s₁.setTop (mkF m 2 #[.val (.ref p0), .unset, .unset, .unset, .unset, .unset] [(.int (4 : Int32))])) _
    refine XS.istoreN X0.here hx rfl (hb hby d1_2) rfl (l' := #[.val (.ref p0), .val (.int (4 : Int32)), .unset, .unset, .unset, .unset]) rfl ?_
    refine XS.iloadN X0.here hx rfl (hb hby d1_3) rfl ?_
    refine st2 _ ?_
    refine XS.astoreN X2.here hx rfl (hb hby d1_6) rfl rfl (l' := #[.val (.ref p0), .val (.int (4 : Int32)), .val (.ref b2), .unset, .unset, .unset]) rfl ?_
    refine XS.iloadN X2.here hx rfl (hb hby d1_7) rfl ?_
    refine st3 _ ?_
    show Steps p.tables e below (T3.setTop (mkF m 10 #[.val (.ref p0), .val (.int (4 : Int32)), .val (.ref b2), .unset, .unset, .unset] [(.ref b3)])) _
    refine XS.astoreN X3.here hx rfl (hb hby d1_10) rfl rfl (l' := #[.val (.ref p0), .val (.int (4 : Int32)), .val (.ref b2), .val (.ref b3), .unset, .unset]) rfl ?_
    refine XS.iconst X3.here hx rfl (hb hby d1_11) ?_
    refine XS.istore X3.here hx rfl (hb hby d1_12) rfl (l' := #[.val (.ref p0), .val (.int (4 : Int32)), .val (.ref b2), .val (.ref b3), .val (.int (-1 : Int32)), .unset]) rfl ?_
    refine XS.iconst X3.here hx rfl (hb hby d1_14) ?_
    refine XS.istore X3.here hx rfl (hb hby d1_15) rfl (l' := #[.val (.ref p0), .val (.int (4 : Int32)), .val (.ref b2), .val (.ref b3), .val (.int (-1 : Int32)), .val (.int (0 : Int32))]) rfl ?_
    refine XS.iload X3.here hx rfl (hb hby d1_17) rfl ?_
    show Steps p.tables e below (T3.setTop (mkF m 19 #[.val (.ref p0), .val (.int (4 : Int32)), .val (.ref b2), .val (.ref b3), .val (.int (-1 : Int32)), .val (.int (0 : Int32))] [(.int (0 : Int32))])) _
    refine XS.iloadN X3.here hx rfl (hb hby d1_19) rfl ?_
    refine XS.icmpNo X3.here hx rfl (hb hby d1_20) rfl (tlt (by decide)).2.1 ?_
    refine XS.aloadN X3.here hx rfl (hb hby d1_23) rfl rfl ?_
    refine XS.iload X3.here hx rfl (hb hby d1_24) rfl ?_
    refine X3.baloadBooleans hx (j := (0 : Int32)) (v := (.int y0)) (by rw [e3]; exact Ara6.1) (State.isArrayOf_alike hZ.alike Ara6.2.1) Ara6.2.2 hin7 hat8 (g := (mkF m 26 #[.val (.ref p0), .val (.int (4 : Int32)), .val (.ref b2), .val (.ref b3), .val (.int (-1 : Int32)), .val (.int (0 : Int32))] [(.int (0 : Int32)), (.ref p0)])) rfl rfl (hb hby d1_26) _ ?_
    exact Steps.refl _
  have s11 : Steps p.tables e below A₀ (T3.setTop (mkF m 37 #[.val (.ref p0), .val (.int (4 : Int32)), .val (.ref b2), .val (.ref b3), .val (.int (-1 : Int32)), .val (.int (0 : Int32))] [(.int (if y0 = (0 : Int32) then (0 : Int32) else (-1 : Int32)))])) := by
    by_cases hm10 : y0 = (0 : Int32)
    · simp only [if_pos hm10]
      refine s9.trans ?_
      refine XS.ifYes X3.here hx rfl (pc0 := 27) (pc' := 35) rfl (hb hby d1_27) rfl ((if0 _ _).trans (teq hm10).1) (by decide) (by decide) ?_
      show Steps p.tables e below (T3.setTop (mkF m 35 #[.val (.ref p0), .val (.int (4 : Int32)), .val (.ref b2), .val (.ref b3), .val (.int (-1 : Int32)), .val (.int (0 : Int32))] [])) _
      refine XS.iload X3.here hx rfl (hb hby d1_35) rfl ?_
      exact Steps.refl _
    · simp only [if_neg hm10]
      refine s9.trans ?_
      refine XS.ifNo X3.here hx rfl (hb hby d1_27) rfl ((if0 _ _).trans (feq hm10).1) ?_
      show Steps p.tables e below (T3.setTop (mkF m 30 #[.val (.ref p0), .val (.int (4 : Int32)), .val (.ref b2), .val (.ref b3), .val (.int (-1 : Int32)), .val (.int (0 : Int32))] [])) _
      refine XS.iload X3.here hx rfl (hb hby d1_30) rfl ?_
      refine XS.goto X3.here hx rfl (pc0 := 32) (pc' := 37) rfl (hb hby d1_32) (by decide) (by decide) ?_
      exact Steps.refl _
  obtain ⟨za1, hza1⟩ : ∃ z, z = (if y0 = (0 : Int32) then (0 : Int32) else (-1 : Int32)) := ⟨_, rfl⟩
  rw [← hza1] at s11
  obtain ⟨T12, L12, X12, e12, N12, st12⟩ := own_callP X3 hx hZ hown (wk7 hw) (wk8 hw) (wk9 hw) (wk10 hw) (by decide) (rm2 l Z a0 hw [] za1 (0 : Int32) h3 n0 O3 ) e3 N0 (W := 2) (by decide) (by decide) (by decide) (by decide) (g := (mkF m 45 #[.val (.ref p0), .val (.int (4 : Int32)), .val (.ref b2), .val (.ref b3), .val (.int za1), .val (.int (0 : Int32))] [(.int (0 : Int32)), (.int za1), (.int (0 : Int32)), (.ref b2)])) rfl (by rw [hml]; rfl) (argsL := [(.int za1), (.int (0 : Int32))]) (rest := [(.int (0 : Int32)), (.ref b2)]) (lenOf pd_rmt4_0 rfl) rfl (by show 2 * 0 + _ ≤ _; exact Nat.le_of_eq rfl) (hb hby d1_45)
  have c13 : Arv Z h3 b2 k2 .int (4 : Int32) [(.int (0 : Int32)), (.int (0 : Int32)), (.int (0 : Int32)), (.int (0 : Int32))] (.int (0 : Int32)) := (V2.ext E3)
  obtain ⟨cla14, Ara14, qa14, Sa14, Za14, Ha14, Ga14⟩ := id c13
  have hin15 : ¬ ((0 : Int32) < 0 ∨ cla14.slots.size ≤ ((0 : Int32)).toNatClampNeg) := inb_of Sa14 ⟨by decide, by decide⟩
  obtain ⟨T16, h16, X16, e16, W16, st16⟩ := stI X12 hx hZ e12 Ara14 (j := (0 : Int32)) hin15 (g := (mkF m 48 #[.val (.ref p0), .val (.int (4 : Int32)), .val (.ref b2), .val (.ref b3), .val (.int za1), .val (.int (0 : Int32))] [(.int (own_max za1 (0 : Int32))), (.int (0 : Int32)), (.ref b2)])) rfl rfl (hb hby d1_48)
  have O16 := O3.wr W16 g_b2
  have K16 : Keep h0 h16 [] := K3.wr W16 (Or.inr sz_b2)
  have N16 := Fr.snoc X16 N12 g_b2
  have V16 : Arv Z h16 b2 k2 .int (4 : Int32) [(.int (own_max za1 (0 : Int32))), (.int (0 : Int32)), (.int (0 : Int32)), (.int (0 : Int32))] (.int (0 : Int32)) := Arv.set Ara14 qa14 Sa14 Za14 Ha14 Ga14 rfl W16 0 rfl (Nat.le_of_ble_eq_true rfl)
  have c17 : Arv Z h16 p0 kz .boolean (4 : Int32) [(.int y0), (.int y1), (.int y2), (.int y3)] (.int (0 : Int32)) := (c5.other W16 ne_p0_b2)
  obtain ⟨cla18, Ara18, qa18, Sa18, Za18, Ha18, Ga18⟩ := id c17
  have hin19 : ¬ ((1 : Int32) < 0 ∨ cla18.slots.size ≤ ((1 : Int32)).toNatClampNeg) := inb_of Sa18 ⟨by decide, by decide⟩
  have hat20 : cla18.slots[((1 : Int32)).toNatClampNeg]? = some (.int y1) := Has.at Ha18 hin19 rfl
  have s21 : Steps p.tables e below A₀ (T16.setTop (mkF m 27 #[.val (.ref p0), .val (.int (4 : Int32)), .val (.ref b2), .val (.ref b3), .val (.int za1), .val (.int (1 : Int32))] [(.int y1)])) := by
    refine s11.trans ?_
    refine XS.istore X3.here hx rfl (hb hby d1_37) rfl (l' := #[.val (.ref p0), .val (.int (4 : Int32)), .val (.ref b2), .val (.ref b3), .val (.int za1), .val (.int (0 : Int32))]) rfl ?_
    show Steps p.tables e below (T3.setTop (mkF m 39 #[.val (.ref p0), .val (.int (4 : Int32)), .val (.ref b2), .val (.ref b3), .val (.int za1), .val (.int (0 : Int32))] [])) _
    refine XS.aloadN X3.here hx rfl (hb hby d1_39) rfl rfl ?_
    refine XS.iload X3.here hx rfl (hb hby d1_40) rfl ?_
    refine XS.iload X3.here hx rfl (hb hby d1_42) rfl ?_
    refine XS.iconst X3.here hx rfl (hb hby d1_44) ?_
    refine st12 _ ?_
    refine st16 _ ?_
    show Steps p.tables e below (T16.setTop (mkF m 49 #[.val (.ref p0), .val (.int (4 : Int32)), .val (.ref b2), .val (.ref b3), .val (.int za1), .val (.int (0 : Int32))] [])) _
    refine XS.iinc X16.here hx rfl (hb hby d1_49) rfl (l' := #[.val (.ref p0), .val (.int (4 : Int32)), .val (.ref b2), .val (.ref b3), .val (.int za1), .val (.int (1 : Int32))]) rfl ?_
    refine XS.goto X16.here hx rfl (pc0 := 52) (pc' := 17) rfl (hb hby d1_52) (by decide) (by decide) ?_
    refine XS.iload X16.here hx rfl (hb hby d1_17) rfl ?_
    refine XS.iloadN X16.here hx rfl (hb hby d1_19) rfl ?_
    refine XS.icmpNo X16.here hx rfl (hb hby d1_20) rfl (tlt (by decide)).2.1 ?_
    refine XS.aloadN X16.here hx rfl (hb hby d1_23) rfl rfl ?_
    show Steps p.tables e below (T16.setTop (mkF m 24 #[.val (.ref p0), .val (.int (4 : Int32)), .val (.ref b2), .val (.ref b3), .val (.int za1), .val (.int (1 : Int32))] [(.ref p0)])) _
    refine XS.iload X16.here hx rfl (hb hby d1_24) rfl ?_
    refine X16.baloadBooleans hx (j := (1 : Int32)) (v := (.int y1)) (by rw [e16]; exact Ara18.1) (State.isArrayOf_alike hZ.alike Ara18.2.1) Ara18.2.2 hin19 hat20 (g := (mkF m 26 #[.val (.ref p0), .val (.int (4 : Int32)), .val (.ref b2), .val (.ref b3), .val (.int za1), .val (.int (1 : Int32))] [(.int (1 : Int32)), (.ref p0)])) rfl rfl (hb hby d1_26) _ ?_
    exact Steps.refl _
  have s23 : Steps p.tables e below A₀ (T16.setTop (mkF m 37 #[.val (.ref p0), .val (.int (4 : Int32)), .val (.ref b2), .val (.ref b3), .val (.int za1), .val (.int (1 : Int32))] [(.int (if y1 = (0 : Int32) then (1 : Int32) else za1))])) := by
    by_cases hm22 : y1 = (0 : Int32)
    · simp only [if_pos hm22]
      refine s21.trans ?_
      refine XS.ifYes X16.here hx rfl (pc0 := 27) (pc' := 35) rfl (hb hby d1_27) rfl ((if0 _ _).trans (teq hm22).1) (by decide) (by decide) ?_
      show Steps p.tables e below (T16.setTop (mkF m 35 #[.val (.ref p0), .val (.int (4 : Int32)), .val (.ref b2), .val (.ref b3), .val (.int za1), .val (.int (1 : Int32))] [])) _
      refine XS.iload X16.here hx rfl (hb hby d1_35) rfl ?_
      exact Steps.refl _
    · simp only [if_neg hm22]
      refine s21.trans ?_
      refine XS.ifNo X16.here hx rfl (hb hby d1_27) rfl ((if0 _ _).trans (feq hm22).1) ?_
      show Steps p.tables e below (T16.setTop (mkF m 30 #[.val (.ref p0), .val (.int (4 : Int32)), .val (.ref b2), .val (.ref b3), .val (.int za1), .val (.int (1 : Int32))] [])) _
      refine XS.iload X16.here hx rfl (hb hby d1_30) rfl ?_
      refine XS.goto X16.here hx rfl (pc0 := 32) (pc' := 37) rfl (hb hby d1_32) (by decide) (by decide) ?_
      exact Steps.refl _
  obtain ⟨za2, hza2⟩ : ∃ z, z = (if y1 = (0 : Int32) then (1 : Int32) else za1) := ⟨_, rfl⟩
  rw [← hza2] at s23
  obtain ⟨T24, L24, X24, e24, N24, st24⟩ := own_callP X16 hx hZ hown (wk7 hw) (wk8 hw) (wk9 hw) (wk10 hw) (by decide) (rm2 l Z a0 hw [] za2 (0 : Int32) h16 n0 O16 ) e16 N16 (W := 2) (by decide) (by decide) (by decide) (by decide) (g := (mkF m 45 #[.val (.ref p0), .val (.int (4 : Int32)), .val (.ref b2), .val (.ref b3), .val (.int za2), .val (.int (1 : Int32))] [(.int (0 : Int32)), (.int za2), (.int (1 : Int32)), (.ref b2)])) rfl (by rw [hml]; rfl) (argsL := [(.int za2), (.int (0 : Int32))]) (rest := [(.int (1 : Int32)), (.ref b2)]) (lenOf pd_rmt4_0 rfl) rfl (by show 2 * 0 + _ ≤ _; exact Nat.le_of_eq rfl) (hb hby d1_45)
  obtain ⟨cla25, Ara25, qa25, Sa25, Za25, Ha25, Ga25⟩ := id V16
  have hin26 : ¬ ((1 : Int32) < 0 ∨ cla25.slots.size ≤ ((1 : Int32)).toNatClampNeg) := inb_of Sa25 ⟨by decide, by decide⟩
  obtain ⟨T27, h27, X27, e27, W27, st27⟩ := stI X24 hx hZ e24 Ara25 (j := (1 : Int32)) hin26 (g := (mkF m 48 #[.val (.ref p0), .val (.int (4 : Int32)), .val (.ref b2), .val (.ref b3), .val (.int za2), .val (.int (1 : Int32))] [(.int (own_max za2 (0 : Int32))), (.int (1 : Int32)), (.ref b2)])) rfl rfl (hb hby d1_48)
  have O27 := O16.wr W27 g_b2
  have K27 : Keep h0 h27 [] := K16.wr W27 (Or.inr sz_b2)
  have N27 := Fr.snoc X27 N24 g_b2
  have V27 : Arv Z h27 b2 k2 .int (4 : Int32) [(.int (own_max za1 (0 : Int32))), (.int (own_max za2 (0 : Int32))), (.int (0 : Int32)), (.int (0 : Int32))] (.int (0 : Int32)) := Arv.set Ara25 qa25 Sa25 Za25 Ha25 Ga25 rfl W27 1 rfl (Nat.le_of_ble_eq_true rfl)
  have c28 : Arv Z h27 p0 kz .boolean (4 : Int32) [(.int y0), (.int y1), (.int y2), (.int y3)] (.int (0 : Int32)) := (c17.other W27 ne_p0_b2)
  obtain ⟨cla29, Ara29, qa29, Sa29, Za29, Ha29, Ga29⟩ := id c28
  have hin30 : ¬ ((2 : Int32) < 0 ∨ cla29.slots.size ≤ ((2 : Int32)).toNatClampNeg) := inb_of Sa29 ⟨by decide, by decide⟩
  have hat31 : cla29.slots[((2 : Int32)).toNatClampNeg]? = some (.int y2) := Has.at Ha29 hin30 rfl
  have s32 : Steps p.tables e below A₀ (T27.setTop (mkF m 27 #[.val (.ref p0), .val (.int (4 : Int32)), .val (.ref b2), .val (.ref b3), .val (.int za2), .val (.int (2 : Int32))] [(.int y2)])) := by
    refine s23.trans ?_
    refine XS.istore X16.here hx rfl (hb hby d1_37) rfl (l' := #[.val (.ref p0), .val (.int (4 : Int32)), .val (.ref b2), .val (.ref b3), .val (.int za2), .val (.int (1 : Int32))]) rfl ?_
    show Steps p.tables e below (T16.setTop (mkF m 39 #[.val (.ref p0), .val (.int (4 : Int32)), .val (.ref b2), .val (.ref b3), .val (.int za2), .val (.int (1 : Int32))] [])) _
    refine XS.aloadN X16.here hx rfl (hb hby d1_39) rfl rfl ?_
    refine XS.iload X16.here hx rfl (hb hby d1_40) rfl ?_
    refine XS.iload X16.here hx rfl (hb hby d1_42) rfl ?_
    refine XS.iconst X16.here hx rfl (hb hby d1_44) ?_
    refine st24 _ ?_
    refine st27 _ ?_
    show Steps p.tables e below (T27.setTop (mkF m 49 #[.val (.ref p0), .val (.int (4 : Int32)), .val (.ref b2), .val (.ref b3), .val (.int za2), .val (.int (1 : Int32))] [])) _
    refine XS.iinc X27.here hx rfl (hb hby d1_49) rfl (l' := #[.val (.ref p0), .val (.int (4 : Int32)), .val (.ref b2), .val (.ref b3), .val (.int za2), .val (.int (2 : Int32))]) rfl ?_
    refine XS.goto X27.here hx rfl (pc0 := 52) (pc' := 17) rfl (hb hby d1_52) (by decide) (by decide) ?_
    refine XS.iload X27.here hx rfl (hb hby d1_17) rfl ?_
    refine XS.iloadN X27.here hx rfl (hb hby d1_19) rfl ?_
    refine XS.icmpNo X27.here hx rfl (hb hby d1_20) rfl (tlt (by decide)).2.1 ?_
    refine XS.aloadN X27.here hx rfl (hb hby d1_23) rfl rfl ?_
    show Steps p.tables e below (T27.setTop (mkF m 24 #[.val (.ref p0), .val (.int (4 : Int32)), .val (.ref b2), .val (.ref b3), .val (.int za2), .val (.int (2 : Int32))] [(.ref p0)])) _
    refine XS.iload X27.here hx rfl (hb hby d1_24) rfl ?_
    refine X27.baloadBooleans hx (j := (2 : Int32)) (v := (.int y2)) (by rw [e27]; exact Ara29.1) (State.isArrayOf_alike hZ.alike Ara29.2.1) Ara29.2.2 hin30 hat31 (g := (mkF m 26 #[.val (.ref p0), .val (.int (4 : Int32)), .val (.ref b2), .val (.ref b3), .val (.int za2), .val (.int (2 : Int32))] [(.int (2 : Int32)), (.ref p0)])) rfl rfl (hb hby d1_26) _ ?_
    exact Steps.refl _
  have s34 : Steps p.tables e below A₀ (T27.setTop (mkF m 37 #[.val (.ref p0), .val (.int (4 : Int32)), .val (.ref b2), .val (.ref b3), .val (.int za2), .val (.int (2 : Int32))] [(.int (if y2 = (0 : Int32) then (2 : Int32) else za2))])) := by
    by_cases hm33 : y2 = (0 : Int32)
    · simp only [if_pos hm33]
      refine s32.trans ?_
      refine XS.ifYes X27.here hx rfl (pc0 := 27) (pc' := 35) rfl (hb hby d1_27) rfl ((if0 _ _).trans (teq hm33).1) (by decide) (by decide) ?_
      show Steps p.tables e below (T27.setTop (mkF m 35 #[.val (.ref p0), .val (.int (4 : Int32)), .val (.ref b2), .val (.ref b3), .val (.int za2), .val (.int (2 : Int32))] [])) _
      refine XS.iload X27.here hx rfl (hb hby d1_35) rfl ?_
      exact Steps.refl _
    · simp only [if_neg hm33]
      refine s32.trans ?_
      refine XS.ifNo X27.here hx rfl (hb hby d1_27) rfl ((if0 _ _).trans (feq hm33).1) ?_
      show Steps p.tables e below (T27.setTop (mkF m 30 #[.val (.ref p0), .val (.int (4 : Int32)), .val (.ref b2), .val (.ref b3), .val (.int za2), .val (.int (2 : Int32))] [])) _
      refine XS.iload X27.here hx rfl (hb hby d1_30) rfl ?_
      refine XS.goto X27.here hx rfl (pc0 := 32) (pc' := 37) rfl (hb hby d1_32) (by decide) (by decide) ?_
      exact Steps.refl _
  obtain ⟨za3, hza3⟩ : ∃ z, z = (if y2 = (0 : Int32) then (2 : Int32) else za2) := ⟨_, rfl⟩
  rw [← hza3] at s34
  obtain ⟨T35, L35, X35, e35, N35, st35⟩ := own_callP X27 hx hZ hown (wk7 hw) (wk8 hw) (wk9 hw) (wk10 hw) (by decide) (rm2 l Z a0 hw [] za3 (0 : Int32) h27 n0 O27 ) e27 N27 (W := 2) (by decide) (by decide) (by decide) (by decide) (g := (mkF m 45 #[.val (.ref p0), .val (.int (4 : Int32)), .val (.ref b2), .val (.ref b3), .val (.int za3), .val (.int (2 : Int32))] [(.int (0 : Int32)), (.int za3), (.int (2 : Int32)), (.ref b2)])) rfl (by rw [hml]; rfl) (argsL := [(.int za3), (.int (0 : Int32))]) (rest := [(.int (2 : Int32)), (.ref b2)]) (lenOf pd_rmt4_0 rfl) rfl (by show 2 * 0 + _ ≤ _; exact Nat.le_of_eq rfl) (hb hby d1_45)
  obtain ⟨cla36, Ara36, qa36, Sa36, Za36, Ha36, Ga36⟩ := id V27
  have hin37 : ¬ ((2 : Int32) < 0 ∨ cla36.slots.size ≤ ((2 : Int32)).toNatClampNeg) := inb_of Sa36 ⟨by decide, by decide⟩
  obtain ⟨T38, h38, X38, e38, W38, st38⟩ := stI X35 hx hZ e35 Ara36 (j := (2 : Int32)) hin37 (g := (mkF m 48 #[.val (.ref p0), .val (.int (4 : Int32)), .val (.ref b2), .val (.ref b3), .val (.int za3), .val (.int (2 : Int32))] [(.int (own_max za3 (0 : Int32))), (.int (2 : Int32)), (.ref b2)])) rfl rfl (hb hby d1_48)
  have O38 := O27.wr W38 g_b2
  have K38 : Keep h0 h38 [] := K27.wr W38 (Or.inr sz_b2)
  have N38 := Fr.snoc X38 N35 g_b2
  have V38 : Arv Z h38 b2 k2 .int (4 : Int32) [(.int (own_max za1 (0 : Int32))), (.int (own_max za2 (0 : Int32))), (.int (own_max za3 (0 : Int32))), (.int (0 : Int32))] (.int (0 : Int32)) := Arv.set Ara36 qa36 Sa36 Za36 Ha36 Ga36 rfl W38 2 rfl (Nat.le_of_ble_eq_true rfl)
  have c39 : Arv Z h38 p0 kz .boolean (4 : Int32) [(.int y0), (.int y1), (.int y2), (.int y3)] (.int (0 : Int32)) := (c28.other W38 ne_p0_b2)
  obtain ⟨cla40, Ara40, qa40, Sa40, Za40, Ha40, Ga40⟩ := id c39
  have hin41 : ¬ ((3 : Int32) < 0 ∨ cla40.slots.size ≤ ((3 : Int32)).toNatClampNeg) := inb_of Sa40 ⟨by decide, by decide⟩
  have hat42 : cla40.slots[((3 : Int32)).toNatClampNeg]? = some (.int y3) := Has.at Ha40 hin41 rfl
  have s43 : Steps p.tables e below A₀ (T38.setTop (mkF m 27 #[.val (.ref p0), .val (.int (4 : Int32)), .val (.ref b2), .val (.ref b3), .val (.int za3), .val (.int (3 : Int32))] [(.int y3)])) := by
    refine s34.trans ?_
    refine XS.istore X27.here hx rfl (hb hby d1_37) rfl (l' := #[.val (.ref p0), .val (.int (4 : Int32)), .val (.ref b2), .val (.ref b3), .val (.int za3), .val (.int (2 : Int32))]) rfl ?_
    show Steps p.tables e below (T27.setTop (mkF m 39 #[.val (.ref p0), .val (.int (4 : Int32)), .val (.ref b2), .val (.ref b3), .val (.int za3), .val (.int (2 : Int32))] [])) _
    refine XS.aloadN X27.here hx rfl (hb hby d1_39) rfl rfl ?_
    refine XS.iload X27.here hx rfl (hb hby d1_40) rfl ?_
    refine XS.iload X27.here hx rfl (hb hby d1_42) rfl ?_
    refine XS.iconst X27.here hx rfl (hb hby d1_44) ?_
    refine st35 _ ?_
    refine st38 _ ?_
    show Steps p.tables e below (T38.setTop (mkF m 49 #[.val (.ref p0), .val (.int (4 : Int32)), .val (.ref b2), .val (.ref b3), .val (.int za3), .val (.int (2 : Int32))] [])) _
    refine XS.iinc X38.here hx rfl (hb hby d1_49) rfl (l' := #[.val (.ref p0), .val (.int (4 : Int32)), .val (.ref b2), .val (.ref b3), .val (.int za3), .val (.int (3 : Int32))]) rfl ?_
    refine XS.goto X38.here hx rfl (pc0 := 52) (pc' := 17) rfl (hb hby d1_52) (by decide) (by decide) ?_
    refine XS.iload X38.here hx rfl (hb hby d1_17) rfl ?_
    refine XS.iloadN X38.here hx rfl (hb hby d1_19) rfl ?_
    refine XS.icmpNo X38.here hx rfl (hb hby d1_20) rfl (tlt (by decide)).2.1 ?_
    refine XS.aloadN X38.here hx rfl (hb hby d1_23) rfl rfl ?_
    show Steps p.tables e below (T38.setTop (mkF m 24 #[.val (.ref p0), .val (.int (4 : Int32)), .val (.ref b2), .val (.ref b3), .val (.int za3), .val (.int (3 : Int32))] [(.ref p0)])) _
    refine XS.iload X38.here hx rfl (hb hby d1_24) rfl ?_
    refine X38.baloadBooleans hx (j := (3 : Int32)) (v := (.int y3)) (by rw [e38]; exact Ara40.1) (State.isArrayOf_alike hZ.alike Ara40.2.1) Ara40.2.2 hin41 hat42 (g := (mkF m 26 #[.val (.ref p0), .val (.int (4 : Int32)), .val (.ref b2), .val (.ref b3), .val (.int za3), .val (.int (3 : Int32))] [(.int (3 : Int32)), (.ref p0)])) rfl rfl (hb hby d1_26) _ ?_
    exact Steps.refl _
  have s45 : Steps p.tables e below A₀ (T38.setTop (mkF m 37 #[.val (.ref p0), .val (.int (4 : Int32)), .val (.ref b2), .val (.ref b3), .val (.int za3), .val (.int (3 : Int32))] [(.int (if y3 = (0 : Int32) then (3 : Int32) else za3))])) := by
    by_cases hm44 : y3 = (0 : Int32)
    · simp only [if_pos hm44]
      refine s43.trans ?_
      refine XS.ifYes X38.here hx rfl (pc0 := 27) (pc' := 35) rfl (hb hby d1_27) rfl ((if0 _ _).trans (teq hm44).1) (by decide) (by decide) ?_
      show Steps p.tables e below (T38.setTop (mkF m 35 #[.val (.ref p0), .val (.int (4 : Int32)), .val (.ref b2), .val (.ref b3), .val (.int za3), .val (.int (3 : Int32))] [])) _
      refine XS.iload X38.here hx rfl (hb hby d1_35) rfl ?_
      exact Steps.refl _
    · simp only [if_neg hm44]
      refine s43.trans ?_
      refine XS.ifNo X38.here hx rfl (hb hby d1_27) rfl ((if0 _ _).trans (feq hm44).1) ?_
      show Steps p.tables e below (T38.setTop (mkF m 30 #[.val (.ref p0), .val (.int (4 : Int32)), .val (.ref b2), .val (.ref b3), .val (.int za3), .val (.int (3 : Int32))] [])) _
      refine XS.iload X38.here hx rfl (hb hby d1_30) rfl ?_
      refine XS.goto X38.here hx rfl (pc0 := 32) (pc' := 37) rfl (hb hby d1_32) (by decide) (by decide) ?_
      exact Steps.refl _
  obtain ⟨za4, hza4⟩ : ∃ z, z = (if y3 = (0 : Int32) then (3 : Int32) else za3) := ⟨_, rfl⟩
  rw [← hza4] at s45
  obtain ⟨T46, L46, X46, e46, N46, st46⟩ := own_callP X38 hx hZ hown (wk7 hw) (wk8 hw) (wk9 hw) (wk10 hw) (by decide) (rm2 l Z a0 hw [] za4 (0 : Int32) h38 n0 O38 ) e38 N38 (W := 2) (by decide) (by decide) (by decide) (by decide) (g := (mkF m 45 #[.val (.ref p0), .val (.int (4 : Int32)), .val (.ref b2), .val (.ref b3), .val (.int za4), .val (.int (3 : Int32))] [(.int (0 : Int32)), (.int za4), (.int (3 : Int32)), (.ref b2)])) rfl (by rw [hml]; rfl) (argsL := [(.int za4), (.int (0 : Int32))]) (rest := [(.int (3 : Int32)), (.ref b2)]) (lenOf pd_rmt4_0 rfl) rfl (by show 2 * 0 + _ ≤ _; exact Nat.le_of_eq rfl) (hb hby d1_45)
  obtain ⟨cla47, Ara47, qa47, Sa47, Za47, Ha47, Ga47⟩ := id V38
  have hin48 : ¬ ((3 : Int32) < 0 ∨ cla47.slots.size ≤ ((3 : Int32)).toNatClampNeg) := inb_of Sa47 ⟨by decide, by decide⟩
  obtain ⟨T49, h49, X49, e49, W49, st49⟩ := stI X46 hx hZ e46 Ara47 (j := (3 : Int32)) hin48 (g := (mkF m 48 #[.val (.ref p0), .val (.int (4 : Int32)), .val (.ref b2), .val (.ref b3), .val (.int za4), .val (.int (3 : Int32))] [(.int (own_max za4 (0 : Int32))), (.int (3 : Int32)), (.ref b2)])) rfl rfl (hb hby d1_48)
  have O49 := O38.wr W49 g_b2
  have K49 : Keep h0 h49 [] := K38.wr W49 (Or.inr sz_b2)
  have N49 := Fr.snoc X49 N46 g_b2
  have V49 : Arv Z h49 b2 k2 .int (4 : Int32) [(.int (own_max za1 (0 : Int32))), (.int (own_max za2 (0 : Int32))), (.int (own_max za3 (0 : Int32))), (.int (own_max za4 (0 : Int32)))] (.int (0 : Int32)) := Arv.set Ara47 qa47 Sa47 Za47 Ha47 Ga47 rfl W49 3 rfl (Nat.le_of_ble_eq_true rfl)
  have c50 : Arv Z h49 p0 kz .boolean (4 : Int32) [(.int y0), (.int y1), (.int y2), (.int y3)] (.int (0 : Int32)) := (c39.other W49 ne_p0_b2)
  obtain ⟨cla51, Ara51, qa51, Sa51, Za51, Ha51, Ga51⟩ := id c50
  have hin52 : ¬ ((3 : Int32) < 0 ∨ cla51.slots.size ≤ ((3 : Int32)).toNatClampNeg) := inb_of Sa51 ⟨by decide, by decide⟩
  have hat53 : cla51.slots[((3 : Int32)).toNatClampNeg]? = some (.int y3) := Has.at Ha51 hin52 rfl
  have s54 : Steps p.tables e below A₀ (T49.setTop (mkF m 72 #[.val (.ref p0), .val (.int (4 : Int32)), .val (.ref b2), .val (.ref b3), .val (.int (-1 : Int32)), .val (.int (3 : Int32))] [(.int y3)])) := by
    refine s45.trans ?_
    refine XS.istore X38.here hx rfl (hb hby d1_37) rfl (l' := #[.val (.ref p0), .val (.int (4 : Int32)), .val (.ref b2), .val (.ref b3), .val (.int za4), .val (.int (3 : Int32))]) rfl ?_
    show Steps p.tables e below (T38.setTop (mkF m 39 #[.val (.ref p0), .val (.int (4 : Int32)), .val (.ref b2), .val (.ref b3), .val (.int za4), .val (.int (3 : Int32))] [])) _
    refine XS.aloadN X38.here hx rfl (hb hby d1_39) rfl rfl ?_
    refine XS.iload X38.here hx rfl (hb hby d1_40) rfl ?_
    refine XS.iload X38.here hx rfl (hb hby d1_42) rfl ?_
    refine XS.iconst X38.here hx rfl (hb hby d1_44) ?_
    refine st46 _ ?_
    refine st49 _ ?_
    show Steps p.tables e below (T49.setTop (mkF m 49 #[.val (.ref p0), .val (.int (4 : Int32)), .val (.ref b2), .val (.ref b3), .val (.int za4), .val (.int (3 : Int32))] [])) _
    refine XS.iinc X49.here hx rfl (hb hby d1_49) rfl (l' := #[.val (.ref p0), .val (.int (4 : Int32)), .val (.ref b2), .val (.ref b3), .val (.int za4), .val (.int (4 : Int32))]) rfl ?_
    refine XS.goto X49.here hx rfl (pc0 := 52) (pc' := 17) rfl (hb hby d1_52) (by decide) (by decide) ?_
    refine XS.iload X49.here hx rfl (hb hby d1_17) rfl ?_
    refine XS.iloadN X49.here hx rfl (hb hby d1_19) rfl ?_
    refine XS.icmpYes X49.here hx rfl (pc0 := 20) (pc' := 55) rfl (hb hby d1_20) rfl (flt (by decide)).2.1 (by decide) (by decide) ?_
    refine XS.iconst X49.here hx rfl (hb hby d1_55) ?_
    show Steps p.tables e below (T49.setTop (mkF m 56 #[.val (.ref p0), .val (.int (4 : Int32)), .val (.ref b2), .val (.ref b3), .val (.int za4), .val (.int (4 : Int32))] [(.int (-1 : Int32))])) _
    refine XS.istore X49.here hx rfl (hb hby d1_56) rfl (l' := #[.val (.ref p0), .val (.int (4 : Int32)), .val (.ref b2), .val (.ref b3), .val (.int (-1 : Int32)), .val (.int (4 : Int32))]) rfl ?_
    refine XS.iloadN X49.here hx rfl (hb hby d1_58) rfl ?_
    refine XS.iconst X49.here hx rfl (hb hby d1_59) ?_
    refine XS.isub X49.here hx rfl (hb hby d1_60) rfl ?_
    refine XS.istore X49.here hx rfl (hb hby d1_61) rfl (l' := #[.val (.ref p0), .val (.int (4 : Int32)), .val (.ref b2), .val (.ref b3), .val (.int (-1 : Int32)), .val (.int (3 : Int32))]) rfl ?_
    refine XS.iload X49.here hx rfl (hb hby d1_63) rfl ?_
    show Steps p.tables e below (T49.setTop (mkF m 65 #[.val (.ref p0), .val (.int (4 : Int32)), .val (.ref b2), .val (.ref b3), .val (.int (-1 : Int32)), .val (.int (3 : Int32))] [(.int (3 : Int32))])) _
    refine XS.ifNo X49.here hx rfl (hb hby d1_65) rfl ((if0 _ _).trans (flt (by decide)).1) ?_
    refine XS.aloadN X49.here hx rfl (hb hby d1_68) rfl rfl ?_
    refine XS.iload X49.here hx rfl (hb hby d1_69) rfl ?_
    refine X49.baloadBooleans hx (j := (3 : Int32)) (v := (.int y3)) (by rw [e49]; exact Ara51.1) (State.isArrayOf_alike hZ.alike Ara51.2.1) Ara51.2.2 hin52 hat53 (g := (mkF m 71 #[.val (.ref p0), .val (.int (4 : Int32)), .val (.ref b2), .val (.ref b3), .val (.int (-1 : Int32)), .val (.int (3 : Int32))] [(.int (3 : Int32)), (.ref p0)])) rfl rfl (hb hby d1_71) _ ?_
    exact Steps.refl _
  have s56 : Steps p.tables e below A₀ (T49.setTop (mkF m 82 #[.val (.ref p0), .val (.int (4 : Int32)), .val (.ref b2), .val (.ref b3), .val (.int (-1 : Int32)), .val (.int (3 : Int32))] [(.int (if y3 = (0 : Int32) then (3 : Int32) else (-1 : Int32)))])) := by
    by_cases hm55 : y3 = (0 : Int32)
    · simp only [if_pos hm55]
      refine s54.trans ?_
      refine XS.ifYes X49.here hx rfl (pc0 := 72) (pc' := 80) rfl (hb hby d1_72) rfl ((if0 _ _).trans (teq hm55).1) (by decide) (by decide) ?_
      show Steps p.tables e below (T49.setTop (mkF m 80 #[.val (.ref p0), .val (.int (4 : Int32)), .val (.ref b2), .val (.ref b3), .val (.int (-1 : Int32)), .val (.int (3 : Int32))] [])) _
      refine XS.iload X49.here hx rfl (hb hby d1_80) rfl ?_
      exact Steps.refl _
    · simp only [if_neg hm55]
      refine s54.trans ?_
      refine XS.ifNo X49.here hx rfl (hb hby d1_72) rfl ((if0 _ _).trans (feq hm55).1) ?_
      show Steps p.tables e below (T49.setTop (mkF m 75 #[.val (.ref p0), .val (.int (4 : Int32)), .val (.ref b2), .val (.ref b3), .val (.int (-1 : Int32)), .val (.int (3 : Int32))] [])) _
      refine XS.iload X49.here hx rfl (hb hby d1_75) rfl ?_
      refine XS.goto X49.here hx rfl (pc0 := 77) (pc' := 82) rfl (hb hby d1_77) (by decide) (by decide) ?_
      exact Steps.refl _
  obtain ⟨zb5, hzb5⟩ : ∃ z, z = (if y3 = (0 : Int32) then (3 : Int32) else (-1 : Int32)) := ⟨_, rfl⟩
  rw [← hzb5] at s56
  have s57 : Steps p.tables e below A₀ (T49.setTop (mkF m 89 #[.val (.ref p0), .val (.int (4 : Int32)), .val (.ref b2), .val (.ref b3), .val (.int zb5), .val (.int (3 : Int32))] [(.int zb5), (.int (3 : Int32)), (.ref b3)])) := by
    refine s56.trans ?_
    refine XS.istore X49.here hx rfl (hb hby d1_82) rfl (l' := #[.val (.ref p0), .val (.int (4 : Int32)), .val (.ref b2), .val (.ref b3), .val (.int zb5), .val (.int (3 : Int32))]) rfl ?_
    show Steps p.tables e below (T49.setTop (mkF m 84 #[.val (.ref p0), .val (.int (4 : Int32)), .val (.ref b2), .val (.ref b3), .val (.int zb5), .val (.int (3 : Int32))] [])) _
    refine XS.aloadN X49.here hx rfl (hb hby d1_84) rfl rfl ?_
    refine XS.iload X49.here hx rfl (hb hby d1_85) rfl ?_
    refine XS.iload X49.here hx rfl (hb hby d1_87) rfl ?_
    exact Steps.refl _
  have s59 : Steps p.tables e below A₀ (T49.setTop (mkF m 100 #[.val (.ref p0), .val (.int (4 : Int32)), .val (.ref b2), .val (.ref b3), .val (.int zb5), .val (.int (3 : Int32))] [(.int (if zb5 < (0 : Int32) then (3 : Int32) else zb5)), (.int (3 : Int32)), (.ref b3)])) := by
    by_cases hm58 : zb5 < (0 : Int32)
    · simp only [if_pos hm58]
      refine s57.trans ?_
      refine XS.ifNo X49.here hx rfl (hb hby d1_89) rfl ((if0 _ _).trans (tlt hm58).2.1) ?_
      show Steps p.tables e below (T49.setTop (mkF m 92 #[.val (.ref p0), .val (.int (4 : Int32)), .val (.ref b2), .val (.ref b3), .val (.int zb5), .val (.int (3 : Int32))] [(.int (3 : Int32)), (.ref b3)])) _
      refine XS.iloadN X49.here hx rfl (hb hby d1_92) rfl ?_
      refine XS.iconst X49.here hx rfl (hb hby d1_93) ?_
      refine XS.isub X49.here hx rfl (hb hby d1_94) rfl ?_
      refine XS.goto X49.here hx rfl (pc0 := 95) (pc' := 100) rfl (hb hby d1_95) (by decide) (by decide) ?_
      exact Steps.refl _
    · simp only [if_neg hm58]
      refine s57.trans ?_
      refine XS.ifYes X49.here hx rfl (pc0 := 89) (pc' := 98) rfl (hb hby d1_89) rfl ((if0 _ _).trans (flt hm58).2.1) (by decide) (by decide) ?_
      show Steps p.tables e below (T49.setTop (mkF m 98 #[.val (.ref p0), .val (.int (4 : Int32)), .val (.ref b2), .val (.ref b3), .val (.int zb5), .val (.int (3 : Int32))] [(.int (3 : Int32)), (.ref b3)])) _
      refine XS.iload X49.here hx rfl (hb hby d1_98) rfl ?_
      exact Steps.refl _
  obtain ⟨zc6, hzc6⟩ : ∃ z, z = (if zb5 < (0 : Int32) then (3 : Int32) else zb5) := ⟨_, rfl⟩
  rw [← hzc6] at s59
  have c60 : Arv Z h49 b3 k3 .int (4 : Int32) [(.int (0 : Int32)), (.int (0 : Int32)), (.int (0 : Int32)), (.int (0 : Int32))] (.int (0 : Int32)) := ((((V3.other W16 (Ne.symm ne_b2_b3)).other W27 (Ne.symm ne_b2_b3)).other W38 (Ne.symm ne_b2_b3)).other W49 (Ne.symm ne_b2_b3))
  obtain ⟨cla61, Ara61, qa61, Sa61, Za61, Ha61, Ga61⟩ := id c60
  have hin62 : ¬ ((3 : Int32) < 0 ∨ cla61.slots.size ≤ ((3 : Int32)).toNatClampNeg) := inb_of Sa61 ⟨by decide, by decide⟩
  obtain ⟨T63, h63, X63, e63, W63, st63⟩ := stI X49 hx hZ e49 Ara61 (j := (3 : Int32)) hin62 (g := (mkF m 100 #[.val (.ref p0), .val (.int (4 : Int32)), .val (.ref b2), .val (.ref b3), .val (.int zb5), .val (.int (3 : Int32))] [(.int zc6), (.int (3 : Int32)), (.ref b3)])) rfl rfl (hb hby d1_100)
  have O63 := O49.wr W63 g_b3
  have K63 : Keep h0 h63 [] := K49.wr W63 (Or.inr sz_b3)
  have N63 := Fr.snoc X63 N49 g_b3
  have V63 : Arv Z h63 b3 k3 .int (4 : Int32) [(.int (0 : Int32)), (.int (0 : Int32)), (.int (0 : Int32)), (.int zc6)] (.int (0 : Int32)) := Arv.set Ara61 qa61 Sa61 Za61 Ha61 Ga61 rfl W63 3 rfl (Nat.le_of_ble_eq_true rfl)
  have c64 : Arv Z h63 p0 kz .boolean (4 : Int32) [(.int y0), (.int y1), (.int y2), (.int y3)] (.int (0 : Int32)) := (c50.other W63 ne_p0_b3)
  obtain ⟨cla65, Ara65, qa65, Sa65, Za65, Ha65, Ga65⟩ := id c64
  have hin66 : ¬ ((2 : Int32) < 0 ∨ cla65.slots.size ≤ ((2 : Int32)).toNatClampNeg) := inb_of Sa65 ⟨by decide, by decide⟩
  have hat67 : cla65.slots[((2 : Int32)).toNatClampNeg]? = some (.int y2) := Has.at Ha65 hin66 rfl
  have s68 : Steps p.tables e below A₀ (T63.setTop (mkF m 72 #[.val (.ref p0), .val (.int (4 : Int32)), .val (.ref b2), .val (.ref b3), .val (.int zb5), .val (.int (2 : Int32))] [(.int y2)])) := by
    refine s59.trans ?_
    refine st63 _ ?_
    show Steps p.tables e below (T63.setTop (mkF m 101 #[.val (.ref p0), .val (.int (4 : Int32)), .val (.ref b2), .val (.ref b3), .val (.int zb5), .val (.int (3 : Int32))] [])) _
    refine XS.iinc X63.here hx rfl (hb hby d1_101) rfl (l' := #[.val (.ref p0), .val (.int (4 : Int32)), .val (.ref b2), .val (.ref b3), .val (.int zb5), .val (.int (2 : Int32))]) rfl ?_
    refine XS.goto X63.here hx rfl (pc0 := 104) (pc' := 63) rfl (hb hby d1_104) (by decide) (by decide) ?_
    refine XS.iload X63.here hx rfl (hb hby d1_63) rfl ?_
    refine XS.ifNo X63.here hx rfl (hb hby d1_65) rfl ((if0 _ _).trans (flt (by decide)).1) ?_
    refine XS.aloadN X63.here hx rfl (hb hby d1_68) rfl rfl ?_
    refine XS.iload X63.here hx rfl (hb hby d1_69) rfl ?_
    show Steps p.tables e below (T63.setTop (mkF m 71 #[.val (.ref p0), .val (.int (4 : Int32)), .val (.ref b2), .val (.ref b3), .val (.int zb5), .val (.int (2 : Int32))] [(.int (2 : Int32)), (.ref p0)])) _
    refine X63.baloadBooleans hx (j := (2 : Int32)) (v := (.int y2)) (by rw [e63]; exact Ara65.1) (State.isArrayOf_alike hZ.alike Ara65.2.1) Ara65.2.2 hin66 hat67 (g := (mkF m 71 #[.val (.ref p0), .val (.int (4 : Int32)), .val (.ref b2), .val (.ref b3), .val (.int zb5), .val (.int (2 : Int32))] [(.int (2 : Int32)), (.ref p0)])) rfl rfl (hb hby d1_71) _ ?_
    exact Steps.refl _
  have s70 : Steps p.tables e below A₀ (T63.setTop (mkF m 82 #[.val (.ref p0), .val (.int (4 : Int32)), .val (.ref b2), .val (.ref b3), .val (.int zb5), .val (.int (2 : Int32))] [(.int (if y2 = (0 : Int32) then (2 : Int32) else zb5))])) := by
    by_cases hm69 : y2 = (0 : Int32)
    · simp only [if_pos hm69]
      refine s68.trans ?_
      refine XS.ifYes X63.here hx rfl (pc0 := 72) (pc' := 80) rfl (hb hby d1_72) rfl ((if0 _ _).trans (teq hm69).1) (by decide) (by decide) ?_
      show Steps p.tables e below (T63.setTop (mkF m 80 #[.val (.ref p0), .val (.int (4 : Int32)), .val (.ref b2), .val (.ref b3), .val (.int zb5), .val (.int (2 : Int32))] [])) _
      refine XS.iload X63.here hx rfl (hb hby d1_80) rfl ?_
      exact Steps.refl _
    · simp only [if_neg hm69]
      refine s68.trans ?_
      refine XS.ifNo X63.here hx rfl (hb hby d1_72) rfl ((if0 _ _).trans (feq hm69).1) ?_
      show Steps p.tables e below (T63.setTop (mkF m 75 #[.val (.ref p0), .val (.int (4 : Int32)), .val (.ref b2), .val (.ref b3), .val (.int zb5), .val (.int (2 : Int32))] [])) _
      refine XS.iload X63.here hx rfl (hb hby d1_75) rfl ?_
      refine XS.goto X63.here hx rfl (pc0 := 77) (pc' := 82) rfl (hb hby d1_77) (by decide) (by decide) ?_
      exact Steps.refl _
  obtain ⟨zb7, hzb7⟩ : ∃ z, z = (if y2 = (0 : Int32) then (2 : Int32) else zb5) := ⟨_, rfl⟩
  rw [← hzb7] at s70
  have s71 : Steps p.tables e below A₀ (T63.setTop (mkF m 89 #[.val (.ref p0), .val (.int (4 : Int32)), .val (.ref b2), .val (.ref b3), .val (.int zb7), .val (.int (2 : Int32))] [(.int zb7), (.int (2 : Int32)), (.ref b3)])) := by
    refine s70.trans ?_
    refine XS.istore X63.here hx rfl (hb hby d1_82) rfl (l' := #[.val (.ref p0), .val (.int (4 : Int32)), .val (.ref b2), .val (.ref b3), .val (.int zb7), .val (.int (2 : Int32))]) rfl ?_
    show Steps p.tables e below (T63.setTop (mkF m 84 #[.val (.ref p0), .val (.int (4 : Int32)), .val (.ref b2), .val (.ref b3), .val (.int zb7), .val (.int (2 : Int32))] [])) _
    refine XS.aloadN X63.here hx rfl (hb hby d1_84) rfl rfl ?_
    refine XS.iload X63.here hx rfl (hb hby d1_85) rfl ?_
    refine XS.iload X63.here hx rfl (hb hby d1_87) rfl ?_
    exact Steps.refl _
  have s73 : Steps p.tables e below A₀ (T63.setTop (mkF m 100 #[.val (.ref p0), .val (.int (4 : Int32)), .val (.ref b2), .val (.ref b3), .val (.int zb7), .val (.int (2 : Int32))] [(.int (if zb7 < (0 : Int32) then (3 : Int32) else zb7)), (.int (2 : Int32)), (.ref b3)])) := by
    by_cases hm72 : zb7 < (0 : Int32)
    · simp only [if_pos hm72]
      refine s71.trans ?_
      refine XS.ifNo X63.here hx rfl (hb hby d1_89) rfl ((if0 _ _).trans (tlt hm72).2.1) ?_
      show Steps p.tables e below (T63.setTop (mkF m 92 #[.val (.ref p0), .val (.int (4 : Int32)), .val (.ref b2), .val (.ref b3), .val (.int zb7), .val (.int (2 : Int32))] [(.int (2 : Int32)), (.ref b3)])) _
      refine XS.iloadN X63.here hx rfl (hb hby d1_92) rfl ?_
      refine XS.iconst X63.here hx rfl (hb hby d1_93) ?_
      refine XS.isub X63.here hx rfl (hb hby d1_94) rfl ?_
      refine XS.goto X63.here hx rfl (pc0 := 95) (pc' := 100) rfl (hb hby d1_95) (by decide) (by decide) ?_
      exact Steps.refl _
    · simp only [if_neg hm72]
      refine s71.trans ?_
      refine XS.ifYes X63.here hx rfl (pc0 := 89) (pc' := 98) rfl (hb hby d1_89) rfl ((if0 _ _).trans (flt hm72).2.1) (by decide) (by decide) ?_
      show Steps p.tables e below (T63.setTop (mkF m 98 #[.val (.ref p0), .val (.int (4 : Int32)), .val (.ref b2), .val (.ref b3), .val (.int zb7), .val (.int (2 : Int32))] [(.int (2 : Int32)), (.ref b3)])) _
      refine XS.iload X63.here hx rfl (hb hby d1_98) rfl ?_
      exact Steps.refl _
  obtain ⟨zc8, hzc8⟩ : ∃ z, z = (if zb7 < (0 : Int32) then (3 : Int32) else zb7) := ⟨_, rfl⟩
  rw [← hzc8] at s73
  obtain ⟨cla74, Ara74, qa74, Sa74, Za74, Ha74, Ga74⟩ := id V63
  have hin75 : ¬ ((2 : Int32) < 0 ∨ cla74.slots.size ≤ ((2 : Int32)).toNatClampNeg) := inb_of Sa74 ⟨by decide, by decide⟩
  obtain ⟨T76, h76, X76, e76, W76, st76⟩ := stI X63 hx hZ e63 Ara74 (j := (2 : Int32)) hin75 (g := (mkF m 100 #[.val (.ref p0), .val (.int (4 : Int32)), .val (.ref b2), .val (.ref b3), .val (.int zb7), .val (.int (2 : Int32))] [(.int zc8), (.int (2 : Int32)), (.ref b3)])) rfl rfl (hb hby d1_100)
  have O76 := O63.wr W76 g_b3
  have K76 : Keep h0 h76 [] := K63.wr W76 (Or.inr sz_b3)
  have N76 := Fr.snoc X76 N63 g_b3
  have V76 : Arv Z h76 b3 k3 .int (4 : Int32) [(.int (0 : Int32)), (.int (0 : Int32)), (.int zc8), (.int zc6)] (.int (0 : Int32)) := Arv.set Ara74 qa74 Sa74 Za74 Ha74 Ga74 rfl W76 2 rfl (Nat.le_of_ble_eq_true rfl)
  have c77 : Arv Z h76 p0 kz .boolean (4 : Int32) [(.int y0), (.int y1), (.int y2), (.int y3)] (.int (0 : Int32)) := (c64.other W76 ne_p0_b3)
  obtain ⟨cla78, Ara78, qa78, Sa78, Za78, Ha78, Ga78⟩ := id c77
  have hin79 : ¬ ((1 : Int32) < 0 ∨ cla78.slots.size ≤ ((1 : Int32)).toNatClampNeg) := inb_of Sa78 ⟨by decide, by decide⟩
  have hat80 : cla78.slots[((1 : Int32)).toNatClampNeg]? = some (.int y1) := Has.at Ha78 hin79 rfl
  have s81 : Steps p.tables e below A₀ (T76.setTop (mkF m 72 #[.val (.ref p0), .val (.int (4 : Int32)), .val (.ref b2), .val (.ref b3), .val (.int zb7), .val (.int (1 : Int32))] [(.int y1)])) := by
    refine s73.trans ?_
    refine st76 _ ?_
    show Steps p.tables e below (T76.setTop (mkF m 101 #[.val (.ref p0), .val (.int (4 : Int32)), .val (.ref b2), .val (.ref b3), .val (.int zb7), .val (.int (2 : Int32))] [])) _
    refine XS.iinc X76.here hx rfl (hb hby d1_101) rfl (l' := #[.val (.ref p0), .val (.int (4 : Int32)), .val (.ref b2), .val (.ref b3), .val (.int zb7), .val (.int (1 : Int32))]) rfl ?_
    refine XS.goto X76.here hx rfl (pc0 := 104) (pc' := 63) rfl (hb hby d1_104) (by decide) (by decide) ?_
    refine XS.iload X76.here hx rfl (hb hby d1_63) rfl ?_
    refine XS.ifNo X76.here hx rfl (hb hby d1_65) rfl ((if0 _ _).trans (flt (by decide)).1) ?_
    refine XS.aloadN X76.here hx rfl (hb hby d1_68) rfl rfl ?_
    refine XS.iload X76.here hx rfl (hb hby d1_69) rfl ?_
    show Steps p.tables e below (T76.setTop (mkF m 71 #[.val (.ref p0), .val (.int (4 : Int32)), .val (.ref b2), .val (.ref b3), .val (.int zb7), .val (.int (1 : Int32))] [(.int (1 : Int32)), (.ref p0)])) _
    refine X76.baloadBooleans hx (j := (1 : Int32)) (v := (.int y1)) (by rw [e76]; exact Ara78.1) (State.isArrayOf_alike hZ.alike Ara78.2.1) Ara78.2.2 hin79 hat80 (g := (mkF m 71 #[.val (.ref p0), .val (.int (4 : Int32)), .val (.ref b2), .val (.ref b3), .val (.int zb7), .val (.int (1 : Int32))] [(.int (1 : Int32)), (.ref p0)])) rfl rfl (hb hby d1_71) _ ?_
    exact Steps.refl _
  have s83 : Steps p.tables e below A₀ (T76.setTop (mkF m 82 #[.val (.ref p0), .val (.int (4 : Int32)), .val (.ref b2), .val (.ref b3), .val (.int zb7), .val (.int (1 : Int32))] [(.int (if y1 = (0 : Int32) then (1 : Int32) else zb7))])) := by
    by_cases hm82 : y1 = (0 : Int32)
    · simp only [if_pos hm82]
      refine s81.trans ?_
      refine XS.ifYes X76.here hx rfl (pc0 := 72) (pc' := 80) rfl (hb hby d1_72) rfl ((if0 _ _).trans (teq hm82).1) (by decide) (by decide) ?_
      show Steps p.tables e below (T76.setTop (mkF m 80 #[.val (.ref p0), .val (.int (4 : Int32)), .val (.ref b2), .val (.ref b3), .val (.int zb7), .val (.int (1 : Int32))] [])) _
      refine XS.iload X76.here hx rfl (hb hby d1_80) rfl ?_
      exact Steps.refl _
    · simp only [if_neg hm82]
      refine s81.trans ?_
      refine XS.ifNo X76.here hx rfl (hb hby d1_72) rfl ((if0 _ _).trans (feq hm82).1) ?_
      show Steps p.tables e below (T76.setTop (mkF m 75 #[.val (.ref p0), .val (.int (4 : Int32)), .val (.ref b2), .val (.ref b3), .val (.int zb7), .val (.int (1 : Int32))] [])) _
      refine XS.iload X76.here hx rfl (hb hby d1_75) rfl ?_
      refine XS.goto X76.here hx rfl (pc0 := 77) (pc' := 82) rfl (hb hby d1_77) (by decide) (by decide) ?_
      exact Steps.refl _
  obtain ⟨zb9, hzb9⟩ : ∃ z, z = (if y1 = (0 : Int32) then (1 : Int32) else zb7) := ⟨_, rfl⟩
  rw [← hzb9] at s83
  have s84 : Steps p.tables e below A₀ (T76.setTop (mkF m 89 #[.val (.ref p0), .val (.int (4 : Int32)), .val (.ref b2), .val (.ref b3), .val (.int zb9), .val (.int (1 : Int32))] [(.int zb9), (.int (1 : Int32)), (.ref b3)])) := by
    refine s83.trans ?_
    refine XS.istore X76.here hx rfl (hb hby d1_82) rfl (l' := #[.val (.ref p0), .val (.int (4 : Int32)), .val (.ref b2), .val (.ref b3), .val (.int zb9), .val (.int (1 : Int32))]) rfl ?_
    show Steps p.tables e below (T76.setTop (mkF m 84 #[.val (.ref p0), .val (.int (4 : Int32)), .val (.ref b2), .val (.ref b3), .val (.int zb9), .val (.int (1 : Int32))] [])) _
    refine XS.aloadN X76.here hx rfl (hb hby d1_84) rfl rfl ?_
    refine XS.iload X76.here hx rfl (hb hby d1_85) rfl ?_
    refine XS.iload X76.here hx rfl (hb hby d1_87) rfl ?_
    exact Steps.refl _
  have s86 : Steps p.tables e below A₀ (T76.setTop (mkF m 100 #[.val (.ref p0), .val (.int (4 : Int32)), .val (.ref b2), .val (.ref b3), .val (.int zb9), .val (.int (1 : Int32))] [(.int (if zb9 < (0 : Int32) then (3 : Int32) else zb9)), (.int (1 : Int32)), (.ref b3)])) := by
    by_cases hm85 : zb9 < (0 : Int32)
    · simp only [if_pos hm85]
      refine s84.trans ?_
      refine XS.ifNo X76.here hx rfl (hb hby d1_89) rfl ((if0 _ _).trans (tlt hm85).2.1) ?_
      show Steps p.tables e below (T76.setTop (mkF m 92 #[.val (.ref p0), .val (.int (4 : Int32)), .val (.ref b2), .val (.ref b3), .val (.int zb9), .val (.int (1 : Int32))] [(.int (1 : Int32)), (.ref b3)])) _
      refine XS.iloadN X76.here hx rfl (hb hby d1_92) rfl ?_
      refine XS.iconst X76.here hx rfl (hb hby d1_93) ?_
      refine XS.isub X76.here hx rfl (hb hby d1_94) rfl ?_
      refine XS.goto X76.here hx rfl (pc0 := 95) (pc' := 100) rfl (hb hby d1_95) (by decide) (by decide) ?_
      exact Steps.refl _
    · simp only [if_neg hm85]
      refine s84.trans ?_
      refine XS.ifYes X76.here hx rfl (pc0 := 89) (pc' := 98) rfl (hb hby d1_89) rfl ((if0 _ _).trans (flt hm85).2.1) (by decide) (by decide) ?_
      show Steps p.tables e below (T76.setTop (mkF m 98 #[.val (.ref p0), .val (.int (4 : Int32)), .val (.ref b2), .val (.ref b3), .val (.int zb9), .val (.int (1 : Int32))] [(.int (1 : Int32)), (.ref b3)])) _
      refine XS.iload X76.here hx rfl (hb hby d1_98) rfl ?_
      exact Steps.refl _
  obtain ⟨zc10, hzc10⟩ : ∃ z, z = (if zb9 < (0 : Int32) then (3 : Int32) else zb9) := ⟨_, rfl⟩
  rw [← hzc10] at s86
  obtain ⟨cla87, Ara87, qa87, Sa87, Za87, Ha87, Ga87⟩ := id V76
  have hin88 : ¬ ((1 : Int32) < 0 ∨ cla87.slots.size ≤ ((1 : Int32)).toNatClampNeg) := inb_of Sa87 ⟨by decide, by decide⟩
  obtain ⟨T89, h89, X89, e89, W89, st89⟩ := stI X76 hx hZ e76 Ara87 (j := (1 : Int32)) hin88 (g := (mkF m 100 #[.val (.ref p0), .val (.int (4 : Int32)), .val (.ref b2), .val (.ref b3), .val (.int zb9), .val (.int (1 : Int32))] [(.int zc10), (.int (1 : Int32)), (.ref b3)])) rfl rfl (hb hby d1_100)
  have O89 := O76.wr W89 g_b3
  have K89 : Keep h0 h89 [] := K76.wr W89 (Or.inr sz_b3)
  have N89 := Fr.snoc X89 N76 g_b3
  have V89 : Arv Z h89 b3 k3 .int (4 : Int32) [(.int (0 : Int32)), (.int zc10), (.int zc8), (.int zc6)] (.int (0 : Int32)) := Arv.set Ara87 qa87 Sa87 Za87 Ha87 Ga87 rfl W89 1 rfl (Nat.le_of_ble_eq_true rfl)
  have c90 : Arv Z h89 p0 kz .boolean (4 : Int32) [(.int y0), (.int y1), (.int y2), (.int y3)] (.int (0 : Int32)) := (c77.other W89 ne_p0_b3)
  obtain ⟨cla91, Ara91, qa91, Sa91, Za91, Ha91, Ga91⟩ := id c90
  have hin92 : ¬ ((0 : Int32) < 0 ∨ cla91.slots.size ≤ ((0 : Int32)).toNatClampNeg) := inb_of Sa91 ⟨by decide, by decide⟩
  have hat93 : cla91.slots[((0 : Int32)).toNatClampNeg]? = some (.int y0) := Has.at Ha91 hin92 rfl
  have s94 : Steps p.tables e below A₀ (T89.setTop (mkF m 72 #[.val (.ref p0), .val (.int (4 : Int32)), .val (.ref b2), .val (.ref b3), .val (.int zb9), .val (.int (0 : Int32))] [(.int y0)])) := by
    refine s86.trans ?_
    refine st89 _ ?_
    show Steps p.tables e below (T89.setTop (mkF m 101 #[.val (.ref p0), .val (.int (4 : Int32)), .val (.ref b2), .val (.ref b3), .val (.int zb9), .val (.int (1 : Int32))] [])) _
    refine XS.iinc X89.here hx rfl (hb hby d1_101) rfl (l' := #[.val (.ref p0), .val (.int (4 : Int32)), .val (.ref b2), .val (.ref b3), .val (.int zb9), .val (.int (0 : Int32))]) rfl ?_
    refine XS.goto X89.here hx rfl (pc0 := 104) (pc' := 63) rfl (hb hby d1_104) (by decide) (by decide) ?_
    refine XS.iload X89.here hx rfl (hb hby d1_63) rfl ?_
    refine XS.ifNo X89.here hx rfl (hb hby d1_65) rfl ((if0 _ _).trans (flt (by decide)).1) ?_
    refine XS.aloadN X89.here hx rfl (hb hby d1_68) rfl rfl ?_
    refine XS.iload X89.here hx rfl (hb hby d1_69) rfl ?_
    show Steps p.tables e below (T89.setTop (mkF m 71 #[.val (.ref p0), .val (.int (4 : Int32)), .val (.ref b2), .val (.ref b3), .val (.int zb9), .val (.int (0 : Int32))] [(.int (0 : Int32)), (.ref p0)])) _
    refine X89.baloadBooleans hx (j := (0 : Int32)) (v := (.int y0)) (by rw [e89]; exact Ara91.1) (State.isArrayOf_alike hZ.alike Ara91.2.1) Ara91.2.2 hin92 hat93 (g := (mkF m 71 #[.val (.ref p0), .val (.int (4 : Int32)), .val (.ref b2), .val (.ref b3), .val (.int zb9), .val (.int (0 : Int32))] [(.int (0 : Int32)), (.ref p0)])) rfl rfl (hb hby d1_71) _ ?_
    exact Steps.refl _
  have s96 : Steps p.tables e below A₀ (T89.setTop (mkF m 82 #[.val (.ref p0), .val (.int (4 : Int32)), .val (.ref b2), .val (.ref b3), .val (.int zb9), .val (.int (0 : Int32))] [(.int (if y0 = (0 : Int32) then (0 : Int32) else zb9))])) := by
    by_cases hm95 : y0 = (0 : Int32)
    · simp only [if_pos hm95]
      refine s94.trans ?_
      refine XS.ifYes X89.here hx rfl (pc0 := 72) (pc' := 80) rfl (hb hby d1_72) rfl ((if0 _ _).trans (teq hm95).1) (by decide) (by decide) ?_
      show Steps p.tables e below (T89.setTop (mkF m 80 #[.val (.ref p0), .val (.int (4 : Int32)), .val (.ref b2), .val (.ref b3), .val (.int zb9), .val (.int (0 : Int32))] [])) _
      refine XS.iload X89.here hx rfl (hb hby d1_80) rfl ?_
      exact Steps.refl _
    · simp only [if_neg hm95]
      refine s94.trans ?_
      refine XS.ifNo X89.here hx rfl (hb hby d1_72) rfl ((if0 _ _).trans (feq hm95).1) ?_
      show Steps p.tables e below (T89.setTop (mkF m 75 #[.val (.ref p0), .val (.int (4 : Int32)), .val (.ref b2), .val (.ref b3), .val (.int zb9), .val (.int (0 : Int32))] [])) _
      refine XS.iload X89.here hx rfl (hb hby d1_75) rfl ?_
      refine XS.goto X89.here hx rfl (pc0 := 77) (pc' := 82) rfl (hb hby d1_77) (by decide) (by decide) ?_
      exact Steps.refl _
  obtain ⟨zb11, hzb11⟩ : ∃ z, z = (if y0 = (0 : Int32) then (0 : Int32) else zb9) := ⟨_, rfl⟩
  rw [← hzb11] at s96
  have s97 : Steps p.tables e below A₀ (T89.setTop (mkF m 89 #[.val (.ref p0), .val (.int (4 : Int32)), .val (.ref b2), .val (.ref b3), .val (.int zb11), .val (.int (0 : Int32))] [(.int zb11), (.int (0 : Int32)), (.ref b3)])) := by
    refine s96.trans ?_
    refine XS.istore X89.here hx rfl (hb hby d1_82) rfl (l' := #[.val (.ref p0), .val (.int (4 : Int32)), .val (.ref b2), .val (.ref b3), .val (.int zb11), .val (.int (0 : Int32))]) rfl ?_
    show Steps p.tables e below (T89.setTop (mkF m 84 #[.val (.ref p0), .val (.int (4 : Int32)), .val (.ref b2), .val (.ref b3), .val (.int zb11), .val (.int (0 : Int32))] [])) _
    refine XS.aloadN X89.here hx rfl (hb hby d1_84) rfl rfl ?_
    refine XS.iload X89.here hx rfl (hb hby d1_85) rfl ?_
    refine XS.iload X89.here hx rfl (hb hby d1_87) rfl ?_
    exact Steps.refl _
  have s99 : Steps p.tables e below A₀ (T89.setTop (mkF m 100 #[.val (.ref p0), .val (.int (4 : Int32)), .val (.ref b2), .val (.ref b3), .val (.int zb11), .val (.int (0 : Int32))] [(.int (if zb11 < (0 : Int32) then (3 : Int32) else zb11)), (.int (0 : Int32)), (.ref b3)])) := by
    by_cases hm98 : zb11 < (0 : Int32)
    · simp only [if_pos hm98]
      refine s97.trans ?_
      refine XS.ifNo X89.here hx rfl (hb hby d1_89) rfl ((if0 _ _).trans (tlt hm98).2.1) ?_
      show Steps p.tables e below (T89.setTop (mkF m 92 #[.val (.ref p0), .val (.int (4 : Int32)), .val (.ref b2), .val (.ref b3), .val (.int zb11), .val (.int (0 : Int32))] [(.int (0 : Int32)), (.ref b3)])) _
      refine XS.iloadN X89.here hx rfl (hb hby d1_92) rfl ?_
      refine XS.iconst X89.here hx rfl (hb hby d1_93) ?_
      refine XS.isub X89.here hx rfl (hb hby d1_94) rfl ?_
      refine XS.goto X89.here hx rfl (pc0 := 95) (pc' := 100) rfl (hb hby d1_95) (by decide) (by decide) ?_
      exact Steps.refl _
    · simp only [if_neg hm98]
      refine s97.trans ?_
      refine XS.ifYes X89.here hx rfl (pc0 := 89) (pc' := 98) rfl (hb hby d1_89) rfl ((if0 _ _).trans (flt hm98).2.1) (by decide) (by decide) ?_
      show Steps p.tables e below (T89.setTop (mkF m 98 #[.val (.ref p0), .val (.int (4 : Int32)), .val (.ref b2), .val (.ref b3), .val (.int zb11), .val (.int (0 : Int32))] [(.int (0 : Int32)), (.ref b3)])) _
      refine XS.iload X89.here hx rfl (hb hby d1_98) rfl ?_
      exact Steps.refl _
  obtain ⟨zc12, hzc12⟩ : ∃ z, z = (if zb11 < (0 : Int32) then (3 : Int32) else zb11) := ⟨_, rfl⟩
  rw [← hzc12] at s99
  obtain ⟨cla100, Ara100, qa100, Sa100, Za100, Ha100, Ga100⟩ := id V89
  have hin101 : ¬ ((0 : Int32) < 0 ∨ cla100.slots.size ≤ ((0 : Int32)).toNatClampNeg) := inb_of Sa100 ⟨by decide, by decide⟩
  obtain ⟨T102, h102, X102, e102, W102, st102⟩ := stI X89 hx hZ e89 Ara100 (j := (0 : Int32)) hin101 (g := (mkF m 100 #[.val (.ref p0), .val (.int (4 : Int32)), .val (.ref b2), .val (.ref b3), .val (.int zb11), .val (.int (0 : Int32))] [(.int zc12), (.int (0 : Int32)), (.ref b3)])) rfl rfl (hb hby d1_100)
  have O102 := O89.wr W102 g_b3
  have K102 : Keep h0 h102 [] := K89.wr W102 (Or.inr sz_b3)
  have N102 := Fr.snoc X102 N89 g_b3
  have V102 : Arv Z h102 b3 k3 .int (4 : Int32) [(.int zc12), (.int zc10), (.int zc8), (.int zc6)] (.int (0 : Int32)) := Arv.set Ara100 qa100 Sa100 Za100 Ha100 Ga100 rfl W102 0 rfl (Nat.le_of_ble_eq_true rfl)
  have s103 : Steps p.tables e below A₀ (T102.setTop (mkF m 109 #[.val (.ref p0), .val (.int (4 : Int32)), .val (.ref b2), .val (.ref b3), .val (.int zb11), .val (.int (-1 : Int32))] [(.int zb11)])) := by
    refine s99.trans ?_
    refine st102 _ ?_
    show Steps p.tables e below (T102.setTop (mkF m 101 #[.val (.ref p0), .val (.int (4 : Int32)), .val (.ref b2), .val (.ref b3), .val (.int zb11), .val (.int (0 : Int32))] [])) _
    refine XS.iinc X102.here hx rfl (hb hby d1_101) rfl (l' := #[.val (.ref p0), .val (.int (4 : Int32)), .val (.ref b2), .val (.ref b3), .val (.int zb11), .val (.int (-1 : Int32))]) rfl ?_
    refine XS.goto X102.here hx rfl (pc0 := 104) (pc' := 63) rfl (hb hby d1_104) (by decide) (by decide) ?_
    refine XS.iload X102.here hx rfl (hb hby d1_63) rfl ?_
    refine XS.ifYes X102.here hx rfl (pc0 := 65) (pc' := 107) rfl (hb hby d1_65) rfl ((if0 _ _).trans (tlt (by decide)).1) (by decide) (by decide) ?_
    refine XS.iload X102.here hx rfl (hb hby d1_107) rfl ?_
    exact Steps.refl _
  obtain ⟨T109, h109, L109, X109, e109, O109, N109, K109, f109_0, f109_1, f109_2, s109⟩ : ∃ (T : State) (h : Heap) (L : List Loc), (Stand p l e ({ frames := 2, cells := 3, slots := 10, locals := 27 } : Room) s m #[(.ref p0)] below meth c T L 2 8) ∧ (T.heap = h) ∧ (Old Z n0 h) ∧ (Fr n0 L) ∧ (Keep h0 h []) ∧ (Arv Z h p0 kz .boolean (4 : Int32) [(.int y0), (.int y1), (.int y2), (.int y3)] (.int (0 : Int32))) ∧ (Arv Z h b3 k3 .int (4 : Int32) [(.int zc12), (.int zc10), (.int zc8), (.int zc6)] (.int (0 : Int32))) ∧ (Arv Z h b2 k2 .int (4 : Int32) [(.int (if zb11 < (0 : Int32) then (-1 : Int32) else (own_max za1 (0 : Int32)))), (.int (if zb11 < (0 : Int32) then (-1 : Int32) else (own_max za2 (0 : Int32)))), (.int (if zb11 < (0 : Int32) then (-1 : Int32) else (own_max za3 (0 : Int32)))), (.int (if zb11 < (0 : Int32) then (-1 : Int32) else (own_max za4 (0 : Int32))))] (.int (0 : Int32))) ∧ (Steps p.tables e below A₀ (T.setTop (mkF m 117 #[.val (.ref p0), .val (.int (4 : Int32)), .val (.ref b2), .val (.ref b3), .val (.int zb11), .val (.int (-1 : Int32))] []))) := by
    by_cases hc104 : zb11 < (0 : Int32)
    · have c105 : Arv Z h102 b2 k2 .int (4 : Int32) [(.int (own_max za1 (0 : Int32))), (.int (own_max za2 (0 : Int32))), (.int (own_max za3 (0 : Int32))), (.int (own_max za4 (0 : Int32)))] (.int (0 : Int32)) := ((((V49.other W63 ne_b2_b3).other W76 ne_b2_b3).other W89 ne_b2_b3).other W102 ne_b2_b3)
      obtain ⟨_, _, ⟨T106, L106, k106, n106⟩, -, X106, ⟨Lc106, hQ106, l106, y106, z106⟩, st106⟩ := Jvm.LawKit.callS X102 hx (y := (⟨"java/util/Arrays", "fill", "([II)V"⟩ : MethodName)) hown (mvT hZ (hw _ (List.mem_of_getElem? (i := 51) rfl))) (mvT hZ (hw _ (List.mem_of_getElem? (i := 52) rfl))) (mvT hZ (hw _ (List.mem_of_getElem? (i := 53) rfl))) (mvT hZ (hw _ (List.mem_of_getElem? (i := 54) rfl))) (by decide) (backOf (W := 0) (rmfill4 l Z a0 hw [] b2 k2 (own_max za1 (0 : Int32)) (own_max za2 (0 : Int32)) (own_max za3 (0 : Int32)) (own_max za4 (0 : Int32)) h102 n0 O102 c105 g_b2) hZ (hw _ (List.mem_of_getElem? (i := 54) rfl)) (hw _ (List.mem_of_getElem? (i := 53) rfl)) (by decide) (by decide)) (g := (mkF m 114 #[.val (.ref p0), .val (.int (4 : Int32)), .val (.ref b2), .val (.ref b3), .val (.int zb11), .val (.int (-1 : Int32))] [(.int (-1 : Int32)), (.ref b2)])) rfl (by rw [hml]; rfl) (argsL := [(.ref b2), (.int (-1 : Int32))]) (rest := []) (lenOf pd_rmt4_1 rfl) rfl (by show 2 * 0 + _ ≤ _; exact Nat.le_of_eq rfl) (hb hby d1_114) (fun _ _ => ⟨rfl, e102, (by decide : 2 + 0 ≤ _), (by decide : 8 + 0 ≤ _)⟩)
      dsimp only [Pt.U, Pt.locs, Pt.cells, Pt.slots] at X106 l106 y106 z106 st106 hQ106
      subst l106 y106 z106
      obtain ⟨rfl, Nq106, Kc106, f106_0⟩ := hQ106
      have N106 := Fr.app N102 Nq106
      have K106 : Keep h0 T106.heap [] := K102.trans Kc106 (allS (Or.inr sz_b2) all0)
      have O106 := O102.keep Kc106 (allS g_b2 all0)
      have s107 : Steps p.tables e below A₀ (T106.setTop (mkF m 117 #[.val (.ref p0), .val (.int (4 : Int32)), .val (.ref b2), .val (.ref b3), .val (.int zb11), .val (.int (-1 : Int32))] [])) := by
        refine s103.trans ?_
        refine XS.ifNo X102.here hx rfl (hb hby d1_109) rfl ((if0 _ _).trans (tlt hc104).2.1) ?_
        show Steps p.tables e below (T102.setTop (mkF m 112 #[.val (.ref p0), .val (.int (4 : Int32)), .val (.ref b2), .val (.ref b3), .val (.int zb11), .val (.int (-1 : Int32))] [])) _
        refine XS.aloadN X102.here hx rfl (hb hby d1_112) rfl rfl ?_
        refine XS.iconst X102.here hx rfl (hb hby d1_113) ?_
        refine st106 _ ?_
        exact Steps.refl _
      have c110 : Arv Z T106.heap p0 kz .boolean (4 : Int32) [(.int y0), (.int y1), (.int y2), (.int y3)] (.int (0 : Int32)) := ((c90.other W102 ne_p0_b3).keep Kc106 (ninS ne_p0_b2 nin0))
      have c111 : Arv Z T106.heap b3 k3 .int (4 : Int32) [(.int zc12), (.int zc10), (.int zc8), (.int zc6)] (.int (0 : Int32)) := (V102.keep Kc106 (ninS (Ne.symm ne_b2_b3) nin0))
      simp only [if_pos hc104]
      exact ⟨T106, T106.heap, _, X106, (rfl : T106.heap = T106.heap), O106, N106, K106, c110, c111, f106_0, s107⟩
    · have s108 : Steps p.tables e below A₀ (T102.setTop (mkF m 117 #[.val (.ref p0), .val (.int (4 : Int32)), .val (.ref b2), .val (.ref b3), .val (.int zb11), .val (.int (-1 : Int32))] [])) := by
        refine s103.trans ?_
        refine XS.ifYes X102.here hx rfl (pc0 := 109) (pc' := 117) rfl (hb hby d1_109) rfl ((if0 _ _).trans (flt hc104).2.1) (by decide) (by decide) ?_
        exact Steps.refl _
      have c112 : Arv Z h102 p0 kz .boolean (4 : Int32) [(.int y0), (.int y1), (.int y2), (.int y3)] (.int (0 : Int32)) := (c90.other W102 ne_p0_b3)
      have c113 : Arv Z h102 b2 k2 .int (4 : Int32) [(.int (own_max za1 (0 : Int32))), (.int (own_max za2 (0 : Int32))), (.int (own_max za3 (0 : Int32))), (.int (own_max za4 (0 : Int32)))] (.int (0 : Int32)) := ((((V49.other W63 ne_b2_b3).other W76 ne_b2_b3).other W89 ne_b2_b3).other W102 ne_b2_b3)
      simp only [if_neg hc104]
      exact ⟨T102, h102, _, X102, e102, O102, N102, K102, c112, V102, c113, s108⟩
  obtain ⟨z114, hz114⟩ : ∃ z, z = (if zb11 < (0 : Int32) then (-1 : Int32) else (own_max za1 (0 : Int32))) := ⟨_, rfl⟩
  rw [← hz114] at f109_2
  obtain ⟨z115, hz115⟩ : ∃ z, z = (if zb11 < (0 : Int32) then (-1 : Int32) else (own_max za2 (0 : Int32))) := ⟨_, rfl⟩
  rw [← hz115] at f109_2
  obtain ⟨z116, hz116⟩ : ∃ z, z = (if zb11 < (0 : Int32) then (-1 : Int32) else (own_max za3 (0 : Int32))) := ⟨_, rfl⟩
  rw [← hz116] at f109_2
  obtain ⟨z117, hz117⟩ : ∃ z, z = (if zb11 < (0 : Int32) then (-1 : Int32) else (own_max za4 (0 : Int32))) := ⟨_, rfl⟩
  rw [← hz117] at f109_2
  obtain ⟨T118, h118, X118, e118, E118, A118, D118, -, st118⟩ := newO X109 hx hZ hown (hw _ (List.mem_of_getElem? (i := 11) rfl)) (hw _ (List.mem_of_getElem? (i := 12) rfl)) (hw _ (List.mem_of_getElem? (i := 13) rfl)) e109 (g := (mkF m 117 #[.val (.ref p0), .val (.int (4 : Int32)), .val (.ref b2), .val (.ref b3), .val (.int zb11), .val (.int (-1 : Int32))] [])) rfl (hb hby d1_117) (by decide) (by decide)
  obtain ⟨b118, g118⟩ : ∃ z, z = h109.size := ⟨_, rfl⟩
  rw [← g118] at A118 D118 st118
  have ne_p0_b118 : p0 ≠ b118 := Nat.ne_of_lt (Nat.lt_of_lt_of_le f109_0.lt (Nat.le_of_eq g118.symm))
  have ne_b2_b118 : b2 ≠ b118 := Nat.ne_of_lt (Nat.lt_of_lt_of_le f109_2.lt (Nat.le_of_eq g118.symm))
  have ne_b3_b118 : b3 ≠ b118 := Nat.ne_of_lt (Nat.lt_of_lt_of_le f109_1.lt (Nat.le_of_eq g118.symm))
  have g_b118 : n0 ≤ b118 := Nat.le_trans (Nat.le_of_eq O109.1.symm) (Nat.le_trans O109.2.1 (Nat.le_of_eq g118.symm))
  have sz_b118 : h0.size ≤ b118 := Nat.le_trans K109.1 (Nat.le_of_eq g118.symm)
  have O118 := O109.ext E118
  have K118 : Keep h0 h118 [] := K109.ext E118
  have F118_val_from : Fld Z h118 b118 "com/example/libprox/libprox/Cpe$1" "val$from" "[I" .null := D118 (Or.inr (hw _ (List.mem_of_getElem? (i := 18) rfl))) (ty := (.array .int)) (by decide)
  have F118_val_to : Fld Z h118 b118 "com/example/libprox/libprox/Cpe$1" "val$to" "[I" .null := D118 (Or.inr (hw _ (List.mem_of_getElem? (i := 20) rfl))) (ty := (.array .int)) (by decide)
  obtain ⟨_, _, ⟨T119, L119, k119, n119⟩, -, X119, ⟨Lc119, hQ119, l119, y119, z119⟩, st119⟩ := X118.specialBack hx (y := (⟨"com/example/libprox/libprox/Cpe$1", "<init>", "([I[I)V"⟩ : MethodName)) rfl hown (mvT hZ (hw _ (List.mem_of_getElem? (i := 14) rfl))) (mvT hZ (hw _ (List.mem_of_getElem? (i := 15) rfl))) (mvT hZ (hw _ (List.mem_of_getElem? (i := 16) rfl))) (by decide) (backOf (W := 1) (rm3 l Z a0 hw [] b118 b2 b3 h118 n0 O118 A118 F118_val_from F118_val_to g_b118) hZ (hw _ (List.mem_of_getElem? (i := 16) rfl)) (hw _ (List.mem_of_getElem? (i := 13) rfl)) (by decide) (by decide)) (g := (mkF m 123 #[.val (.ref p0), .val (.int (4 : Int32)), .val (.ref b2), .val (.ref b3), .val (.int zb11), .val (.int (-1 : Int32))] [(.ref b3), (.ref b2), (.ref b118), (.ref b118)])) rfl (by rw [hml]; rfl) (Steps.refl _) (a := b118) (argsL := [(.ref b2), (.ref b3)]) (rest := [(.ref b118)]) (lenOf pd_rmt4_2 rfl) rfl (by show 2 * 0 + _ ≤ _; exact Nat.le_of_eq rfl) (hb hby d1_123) (fun _ _ => ⟨rfl, e118, (by decide : 3 + 0 ≤ _), (by decide : 10 + 0 ≤ _)⟩)
  dsimp only [Pt.U, Pt.locs, Pt.cells, Pt.slots] at X119 l119 y119 z119 st119 hQ119
  subst l119 y119 z119
  obtain ⟨rfl, Nq119, Kc119, f119_0, f119_1, f119_2⟩ := hQ119
  have N119 := Fr.app N109 Nq119
  have K119 : Keep h0 T119.heap [] := K118.trans Kc119 (allS (Or.inr sz_b118) all0)
  have O119 := O118.keep Kc119 (allS g_b118 all0)
  have s120 : Steps p.tables e below A₀ (T119.setTop (mkF m 126 #[.val (.ref p0), .val (.int (4 : Int32)), .val (.ref b2), .val (.ref b3), .val (.int zb11), .val (.int (-1 : Int32))] [(.ref b118)])) := by
    refine s109.trans ?_
    refine st118 _ ?_
    show Steps p.tables e below (T118.setTop (mkF m 120 #[.val (.ref p0), .val (.int (4 : Int32)), .val (.ref b2), .val (.ref b3), .val (.int zb11), .val (.int (-1 : Int32))] [(.ref b118)])) _
    refine XS.dup X118.here hx rfl (hb hby d1_120) rfl rfl ?_
    refine XS.aloadN X118.here hx rfl (hb hby d1_121) rfl rfl ?_
    refine XS.aloadN X118.here hx rfl (hb hby d1_122) rfl rfl ?_
    refine st119.trans ?_
    exact Steps.refl _
  have c121 : Arv Z T119.heap b2 k2 .int (4 : Int32) [(.int z114), (.int z115), (.int z116), (.int z117)] (.int (0 : Int32)) := ((f109_2.ext E118).keep Kc119 (ninS ne_b2_b118 nin0))
  have VrF := c121
  have EF0 := (own_rmt4_1 y0 y1 y2 y3 za1 zb5 zb7 zb9 zb11 z114 hz114 hza1 hzb11 hzb9 hzb7 hzb5)
  have EF1 := (own_rmt4_2 y0 y1 y2 y3 za1 za2 zb5 zb7 zb9 zb11 z115 hz115 hza2 hza1 hzb11 hzb9 hzb7 hzb5)
  have EF2 := (own_rmt4_3 y0 y1 y2 y3 za1 za2 za3 zb5 zb7 zb9 zb11 z116 hz116 hza3 hza2 hza1 hzb11 hzb9 hzb7 hzb5)
  have EF3 := (own_rmt4_4 y0 y1 y2 y3 za1 za2 za3 za4 zb5 zb7 zb9 zb11 z117 hz117 hza4 hza3 hza2 hza1 hzb11 hzb9 hzb7 hzb5)
  rw [EF0, EF1, EF2, EF3] at VrF
  have c122 : Arv Z T119.heap b3 k3 .int (4 : Int32) [(.int zc12), (.int zc10), (.int zc8), (.int zc6)] (.int (0 : Int32)) := ((f109_1.ext E118).keep Kc119 (ninS ne_b3_b118 nin0))
  have VrT := c122
  have ET0 := (own_rmt4_5 y0 y1 y2 y3 zb5 zb7 zb9 zb11 zc12 hzc12 hzb11 hzb9 hzb7 hzb5)
  have ET1 := (own_rmt4_6 y0 y1 y2 y3 zb5 zb7 zb9 zc10 hzc10 hzb9 hzb7 hzb5)
  have ET2 := (own_rmt4_7 y0 y1 y2 y3 zb5 zb7 zc8 hzc8 hzb7 hzb5)
  have ET3 := (own_rmt4_8 y0 y1 y2 y3 zb5 zc6 hzc6 hzb5)
  rw [ET0, ET1, ET2, ET3] at VrT
  subst hA₀
  obtain ⟨fs, hr, hrun, hended, hW, hsame⟩ := X119.leave (v := some (.ref b118)) (fun h => by rw [Bd.returns] at h; cases h)
  refine ⟨_, _, s120.trans ?_, hrun, hended, _, _, rfl, ?_, ⟨_, rfl⟩, hW, hsame.mono (by decide) (by decide)⟩
  · show Steps p.tables e below (T119.setTop (mkF m 126 #[.val (.ref p0), .val (.int (4 : Int32)), .val (.ref b2), .val (.ref b3), .val (.int zb11), .val (.int (-1 : Int32))] [(.ref b118)])) _
    jvm_step X119.here [X119.here.top, hx, (hb hby d1_126), X119.method', Bd.returns, Value.isRef, FieldType.isReference]
    first | (intro acts; rw [hr _ acts rfl rfl rfl]) | rw [hr _ _ rfl rfl rfl]
    exact Steps.refl _
  · show Qt4 Z p0 kz y0 y1 y2 y3 h0 n0 _ T119.heap _
    exact ⟨b118, b2, b3, k2, k3, rfl, N119, K119, f119_0, f119_1, f119_2, VrF, VrT⟩
theorem ef_rmfill5 (m : MethodId) (p0 : Addr) : entryFrame m #[(.ref p0), (.int (-1 : Int32))] 4 = mkF m 0 #[.val (.ref p0), .val (.int (-1 : Int32)), .unset, .unset] [] := by first | (simp [entryFrame, mkF, argsToLocals, Value.category]; done) | rfl
def Qfill5 (Z : State) (p0 : Addr) (k1 : ClassId) (x0 : Int32) (x1 : Int32) (x2 : Int32) (x3 : Int32) (x4 : Int32) (h0 : Heap) (n0 : Nat) (v : Option Value) (h : Heap) (L : List Loc) : Prop := v = none ∧ Fr n0 L ∧ Keep h0 h [p0] ∧ (Arv Z h p0 k1 .int (5 : Int32) [(.int (-1 : Int32)), (.int (-1 : Int32)), (.int (-1 : Int32)), (.int (-1 : Int32)), (.int (-1 : Int32))] (.int (0 : Int32)))
set_option maxRecDepth 65536 in
set_option maxHeartbeats 40000000 in
theorem rmfill5 (l : Launch) (Z : State) (a0 : Array Value) (hw : ∀ d ∈ tables_1, d.before a0 Z = true) (ws : List Jvm.Cond) (p0 : Addr) (k1 : ClassId) (x0 : Int32) (x1 : Int32) (x2 : Int32) (x3 : Int32) (x4 : Int32) (h0 : Heap) (n0 : Nat) (O0 : Old Z n0 h0) (F0_ : Arv Z h0 p0 k1 .int (5 : Int32) [(.int x0), (.int x1), (.int x2), (.int x3), (.int x4)] (.int (0 : Int32))) (F1_ : n0 ≤ p0) :
    MetFree l nm7 (head1 (Jvm.Cond.code nm7 jdk_65_method_103_code 4 none :: ws) ({ frames := 0, cells := 0, slots := 0, locals := 0 } : Room)) (fun a U => a = #[(.ref p0), (.int (-1 : Int32))] ∧ Z.Warmed39 U.vm ∧ U.heap = h0) (fun _ _ _ _ _ => True) (fun _ U o U' => ∃ v L, o = .returned v ∧ Qfill5 Z p0 k1 x0 x1 x2 x3 x4 h0 n0 v U'.heap L ∧ FrameEnd U o U' L ({ frames := 0, cells := 0, slots := 0, locals := 0 } : Room).cells ({ frames := 0, cells := 0, slots := 0, locals := 0 } : Room).slots) := by
  refine MetFree.of_bodySF (plainFor_of_name pn_10) hisR ?_
  intro p e s m args below meth c s₁ Bd hml0 hP hK
  obtain ⟨rfl, hZ, hh⟩ := hP
  have hx := Bd.exec
  have hby := Bd.bytes
  have hml : c.maxLocals = 4 := hml0
  have hown : s.vm.findClass "java/util/Arrays" = some m.cls := findClass_of_methodNamed Bd.named
  have hnm := (name_of_methodNamed Bd.named Bd.method).1
  have X0 : Stand p l e ({ frames := 0, cells := 0, slots := 0, locals := 0 } : Room) s m #[(.ref p0), (.int (-1 : Int32))] below meth c s₁ [] 0 0 := Stand.of_body Bd
  have e0 : s₁.heap = h0 := by rw [← hh, Bd.state]; rfl
  have N0 := Fr.nil n0
  have s0 : Steps p.tables e below (s₁.setTop (entryFrame m #[(.ref p0), (.int (-1 : Int32))] 4)) (s₁.setTop (mkF m 0 #[.val (.ref p0), .val (.int (-1 : Int32)), .unset, .unset] [])) := castTop (ef_rmfill5 m p0) (Steps.refl _)
  obtain ⟨A₀, hA₀⟩ : ∃ z, z = (s₁.setTop (entryFrame m #[(.ref p0), (.int (-1 : Int32))] 4)) := ⟨_, rfl⟩
  rw [← hA₀] at s0
  obtain ⟨cla1, Ara1, qa1, Sa1, Za1, Ha1, Ga1⟩ := id F0_
  have hin2 : ¬ ((0 : Int32) < 0 ∨ cla1.slots.size ≤ ((0 : Int32)).toNatClampNeg) := inb_of Sa1 ⟨by decide, by decide⟩
  obtain ⟨T3, h3, X3, e3, W3, st3⟩ := stI X0 hx hZ e0 Ara1 (j := (0 : Int32)) hin2 (g := (mkF m 13 #[.val (.ref p0), .val (.int (-1 : Int32)), .val (.int (0 : Int32)), .val (.int (5 : Int32))] [(.int (-1 : Int32)), (.int (0 : Int32)), (.ref p0)])) rfl rfl (hb hby d10_13)
  have O3 := O0.wr W3 F1_
  have K3 : Keep h0 h3 [p0] := (Keep.refl h0 [p0]).wr W3 (Or.inl (List.mem_of_getElem? (i := 0) rfl))
  have N3 := Fr.snoc X3 N0 F1_
  have V3 : Arv Z h3 p0 k1 .int (5 : Int32) [(.int (-1 : Int32)), (.int x1), (.int x2), (.int x3), (.int x4)] (.int (0 : Int32)) := Arv.set Ara1 qa1 Sa1 Za1 Ha1 Ga1 rfl W3 0 rfl (Nat.le_of_ble_eq_true rfl)
  obtain ⟨cla4, Ara4, qa4, Sa4, Za4, Ha4, Ga4⟩ := id V3
  have hin5 : ¬ ((1 : Int32) < 0 ∨ cla4.slots.size ≤ ((1 : Int32)).toNatClampNeg) := inb_of Sa4 ⟨by decide, by decide⟩
  obtain ⟨T6, h6, X6, e6, W6, st6⟩ := stI X3 hx hZ e3 Ara4 (j := (1 : Int32)) hin5 (g := (mkF m 13 #[.val (.ref p0), .val (.int (-1 : Int32)), .val (.int (1 : Int32)), .val (.int (5 : Int32))] [(.int (-1 : Int32)), (.int (1 : Int32)), (.ref p0)])) rfl rfl (hb hby d10_13)
  have O6 := O3.wr W6 F1_
  have K6 : Keep h0 h6 [p0] := K3.wr W6 (Or.inl (List.mem_of_getElem? (i := 0) rfl))
  have N6 := Fr.snoc X6 N3 F1_
  have V6 : Arv Z h6 p0 k1 .int (5 : Int32) [(.int (-1 : Int32)), (.int (-1 : Int32)), (.int x2), (.int x3), (.int x4)] (.int (0 : Int32)) := Arv.set Ara4 qa4 Sa4 Za4 Ha4 Ga4 rfl W6 1 rfl (Nat.le_of_ble_eq_true rfl)
  obtain ⟨cla7, Ara7, qa7, Sa7, Za7, Ha7, Ga7⟩ := id V6
  have hin8 : ¬ ((2 : Int32) < 0 ∨ cla7.slots.size ≤ ((2 : Int32)).toNatClampNeg) := inb_of Sa7 ⟨by decide, by decide⟩
  obtain ⟨T9, h9, X9, e9, W9, st9⟩ := stI X6 hx hZ e6 Ara7 (j := (2 : Int32)) hin8 (g := (mkF m 13 #[.val (.ref p0), .val (.int (-1 : Int32)), .val (.int (2 : Int32)), .val (.int (5 : Int32))] [(.int (-1 : Int32)), (.int (2 : Int32)), (.ref p0)])) rfl rfl (hb hby d10_13)
  have O9 := O6.wr W9 F1_
  have K9 : Keep h0 h9 [p0] := K6.wr W9 (Or.inl (List.mem_of_getElem? (i := 0) rfl))
  have N9 := Fr.snoc X9 N6 F1_
  have V9 : Arv Z h9 p0 k1 .int (5 : Int32) [(.int (-1 : Int32)), (.int (-1 : Int32)), (.int (-1 : Int32)), (.int x3), (.int x4)] (.int (0 : Int32)) := Arv.set Ara7 qa7 Sa7 Za7 Ha7 Ga7 rfl W9 2 rfl (Nat.le_of_ble_eq_true rfl)
  obtain ⟨cla10, Ara10, qa10, Sa10, Za10, Ha10, Ga10⟩ := id V9
  have hin11 : ¬ ((3 : Int32) < 0 ∨ cla10.slots.size ≤ ((3 : Int32)).toNatClampNeg) := inb_of Sa10 ⟨by decide, by decide⟩
  obtain ⟨T12, h12, X12, e12, W12, st12⟩ := stI X9 hx hZ e9 Ara10 (j := (3 : Int32)) hin11 (g := (mkF m 13 #[.val (.ref p0), .val (.int (-1 : Int32)), .val (.int (3 : Int32)), .val (.int (5 : Int32))] [(.int (-1 : Int32)), (.int (3 : Int32)), (.ref p0)])) rfl rfl (hb hby d10_13)
  have O12 := O9.wr W12 F1_
  have K12 : Keep h0 h12 [p0] := K9.wr W12 (Or.inl (List.mem_of_getElem? (i := 0) rfl))
  have N12 := Fr.snoc X12 N9 F1_
  have V12 : Arv Z h12 p0 k1 .int (5 : Int32) [(.int (-1 : Int32)), (.int (-1 : Int32)), (.int (-1 : Int32)), (.int (-1 : Int32)), (.int x4)] (.int (0 : Int32)) := Arv.set Ara10 qa10 Sa10 Za10 Ha10 Ga10 rfl W12 3 rfl (Nat.le_of_ble_eq_true rfl)
  obtain ⟨cla13, Ara13, qa13, Sa13, Za13, Ha13, Ga13⟩ := id V12
  have hin14 : ¬ ((4 : Int32) < 0 ∨ cla13.slots.size ≤ ((4 : Int32)).toNatClampNeg) := inb_of Sa13 ⟨by decide, by decide⟩
  obtain ⟨T15, h15, X15, e15, W15, st15⟩ := stI X12 hx hZ e12 Ara13 (j := (4 : Int32)) hin14 (g := (mkF m 13 #[.val (.ref p0), .val (.int (-1 : Int32)), .val (.int (4 : Int32)), .val (.int (5 : Int32))] [(.int (-1 : Int32)), (.int (4 : Int32)), (.ref p0)])) rfl rfl (hb hby d10_13)
  have O15 := O12.wr W15 F1_
  have K15 : Keep h0 h15 [p0] := K12.wr W15 (Or.inl (List.mem_of_getElem? (i := 0) rfl))
  have N15 := Fr.snoc X15 N12 F1_
  have V15 : Arv Z h15 p0 k1 .int (5 : Int32) [(.int (-1 : Int32)), (.int (-1 : Int32)), (.int (-1 : Int32)), (.int (-1 : Int32)), (.int (-1 : Int32))] (.int (0 : Int32)) := Arv.set Ara13 qa13 Sa13 Za13 Ha13 Ga13 rfl W15 4 rfl (Nat.le_of_ble_eq_true rfl)
  have s16 : Steps p.tables e below A₀ (T15.setTop (mkF m 20 #[.val (.ref p0), .val (.int (-1 : Int32)), .val (.int (5 : Int32)), .val (.int (5 : Int32))] [])) := by
    refine s0.trans ?_
    refine XS.iconst X0.here hx rfl (hb hby d10_0) ?_
    show Steps p.tables e below (s₁.setTop (mkF m 1 #[.val (.ref p0), .val (.int (-1 : Int32)), .unset, .unset] [(.int (0 : Int32))])) _
    refine XS.istoreN X0.here hx rfl (hb hby d10_1) rfl (l' := #[.val (.ref p0), .val (.int (-1 : Int32)), .val (.int (0 : Int32)), .unset]) rfl ?_
    refine XS.aloadN X0.here hx rfl (hb hby d10_2) rfl rfl ?_
    refine X0.arraylength hx (by rw [e0]; exact Ara1.1) (State.isArrayOf_alike hZ.alike Ara1.2.1) (g := (mkF m 3 #[.val (.ref p0), .val (.int (-1 : Int32)), .val (.int (0 : Int32)), .unset] [(.ref p0)])) rfl rfl (hb hby d10_3) _ ?_
    rw [len_of Sa1 Za1]
    show Steps p.tables e below (s₁.setTop (mkF m 4 #[.val (.ref p0), .val (.int (-1 : Int32)), .val (.int (0 : Int32)), .unset] [(.int (5 : Int32))])) _
    refine XS.istoreN X0.here hx rfl (hb hby d10_4) rfl (l' := #[.val (.ref p0), .val (.int (-1 : Int32)), .val (.int (0 : Int32)), .val (.int (5 : Int32))]) rfl ?_
    refine XS.iloadN X0.here hx rfl (hb hby d10_5) rfl ?_
    refine XS.iloadN X0.here hx rfl (hb hby d10_6) rfl ?_
    refine XS.icmpNo X0.here hx rfl (hb hby d10_7) rfl (tlt (by decide)).2.1 ?_
    refine XS.aloadN X0.here hx rfl (hb hby d10_10) rfl rfl ?_
    refine XS.iloadN X0.here hx rfl (hb hby d10_11) rfl ?_
    show Steps p.tables e below (s₁.setTop (mkF m 12 #[.val (.ref p0), .val (.int (-1 : Int32)), .val (.int (0 : Int32)), .val (.int (5 : Int32))] [(.int (0 : Int32)), (.ref p0)])) _
    refine XS.iloadN X0.here hx rfl (hb hby d10_12) rfl ?_
    refine st3 _ ?_
    refine XS.iinc X3.here hx rfl (hb hby d10_14) rfl (l' := #[.val (.ref p0), .val (.int (-1 : Int32)), .val (.int (1 : Int32)), .val (.int (5 : Int32))]) rfl ?_
    refine XS.goto X3.here hx rfl (pc0 := 17) (pc' := 5) rfl (hb hby d10_17) (by decide) (by decide) ?_
    refine XS.iloadN X3.here hx rfl (hb hby d10_5) rfl ?_
    refine XS.iloadN X3.here hx rfl (hb hby d10_6) rfl ?_
    show Steps p.tables e below (T3.setTop (mkF m 7 #[.val (.ref p0), .val (.int (-1 : Int32)), .val (.int (1 : Int32)), .val (.int (5 : Int32))] [(.int (5 : Int32)), (.int (1 : Int32))])) _
    refine XS.icmpNo X3.here hx rfl (hb hby d10_7) rfl (tlt (by decide)).2.1 ?_
    refine XS.aloadN X3.here hx rfl (hb hby d10_10) rfl rfl ?_
    refine XS.iloadN X3.here hx rfl (hb hby d10_11) rfl ?_
    refine XS.iloadN X3.here hx rfl (hb hby d10_12) rfl ?_
    refine st6 _ ?_
    refine XS.iinc X6.here hx rfl (hb hby d10_14) rfl (l' := #[.val (.ref p0), .val (.int (-1 : Int32)), .val (.int (2 : Int32)), .val (.int (5 : Int32))]) rfl ?_
    show Steps p.tables e below (T6.setTop (mkF m 17 #[.val (.ref p0), .val (.int (-1 : Int32)), .val (.int (2 : Int32)), .val (.int (5 : Int32))] [])) _
    refine XS.goto X6.here hx rfl (pc0 := 17) (pc' := 5) rfl (hb hby d10_17) (by decide) (by decide) ?_
    refine XS.iloadN X6.here hx rfl (hb hby d10_5) rfl ?_
    refine XS.iloadN X6.here hx rfl (hb hby d10_6) rfl ?_
    refine XS.icmpNo X6.here hx rfl (hb hby d10_7) rfl (tlt (by decide)).2.1 ?_
    refine XS.aloadN X6.here hx rfl (hb hby d10_10) rfl rfl ?_
    refine XS.iloadN X6.here hx rfl (hb hby d10_11) rfl ?_
    show Steps p.tables e below (T6.setTop (mkF m 12 #[.val (.ref p0), .val (.int (-1 : Int32)), .val (.int (2 : Int32)), .val (.int (5 : Int32))] [(.int (2 : Int32)), (.ref p0)])) _
    refine XS.iloadN X6.here hx rfl (hb hby d10_12) rfl ?_
    refine st9 _ ?_
    refine XS.iinc X9.here hx rfl (hb hby d10_14) rfl (l' := #[.val (.ref p0), .val (.int (-1 : Int32)), .val (.int (3 : Int32)), .val (.int (5 : Int32))]) rfl ?_
    refine XS.goto X9.here hx rfl (pc0 := 17) (pc' := 5) rfl (hb hby d10_17) (by decide) (by decide) ?_
    refine XS.iloadN X9.here hx rfl (hb hby d10_5) rfl ?_
    refine XS.iloadN X9.here hx rfl (hb hby d10_6) rfl ?_
    show Steps p.tables e below (T9.setTop (mkF m 7 #[.val (.ref p0), .val (.int (-1 : Int32)), .val (.int (3 : Int32)), .val (.int (5 : Int32))] [(.int (5 : Int32)), (.int (3 : Int32))])) _
    refine XS.icmpNo X9.here hx rfl (hb hby d10_7) rfl (tlt (by decide)).2.1 ?_
    refine XS.aloadN X9.here hx rfl (hb hby d10_10) rfl rfl ?_
    refine XS.iloadN X9.here hx rfl (hb hby d10_11) rfl ?_
    refine XS.iloadN X9.here hx rfl (hb hby d10_12) rfl ?_
    refine st12 _ ?_
    refine XS.iinc X12.here hx rfl (hb hby d10_14) rfl (l' := #[.val (.ref p0), .val (.int (-1 : Int32)), .val (.int (4 : Int32)), .val (.int (5 : Int32))]) rfl ?_
    show Steps p.tables e below (T12.setTop (mkF m 17 #[.val (.ref p0), .val (.int (-1 : Int32)), .val (.int (4 : Int32)), .val (.int (5 : Int32))] [])) _
    refine XS.goto X12.here hx rfl (pc0 := 17) (pc' := 5) rfl (hb hby d10_17) (by decide) (by decide) ?_
    refine XS.iloadN X12.here hx rfl (hb hby d10_5) rfl ?_
    refine XS.iloadN X12.here hx rfl (hb hby d10_6) rfl ?_
    refine XS.icmpNo X12.here hx rfl (hb hby d10_7) rfl (tlt (by decide)).2.1 ?_
    refine XS.aloadN X12.here hx rfl (hb hby d10_10) rfl rfl ?_
    refine XS.iloadN X12.here hx rfl (hb hby d10_11) rfl ?_
    show Steps p.tables e below (T12.setTop (mkF m 12 #[.val (.ref p0), .val (.int (-1 : Int32)), .val (.int (4 : Int32)), .val (.int (5 : Int32))] [(.int (4 : Int32)), (.ref p0)])) _
    refine XS.iloadN X12.here hx rfl (hb hby d10_12) rfl ?_
    refine st15 _ ?_
    refine XS.iinc X15.here hx rfl (hb hby d10_14) rfl (l' := #[.val (.ref p0), .val (.int (-1 : Int32)), .val (.int (5 : Int32)), .val (.int (5 : Int32))]) rfl ?_
    refine XS.goto X15.here hx rfl (pc0 := 17) (pc' := 5) rfl (hb hby d10_17) (by decide) (by decide) ?_
    refine XS.iloadN X15.here hx rfl (hb hby d10_5) rfl ?_
    refine XS.iloadN X15.here hx rfl (hb hby d10_6) rfl ?_
    show Steps p.tables e below (T15.setTop (mkF m 7 #[.val (.ref p0), .val (.int (-1 : Int32)), .val (.int (5 : Int32)), .val (.int (5 : Int32))] [(.int (5 : Int32)), (.int (5 : Int32))])) _
    refine XS.icmpYes X15.here hx rfl (pc0 := 7) (pc' := 20) rfl (hb hby d10_7) rfl (flt (by decide)).2.1 (by decide) (by decide) ?_
    exact Steps.refl _
  subst hA₀
  obtain ⟨fs, hr, hrun, hended, hW, hsame⟩ := X15.leave (v := none) (fun _ => rfl)
  refine ⟨_, _, s16.trans ?_, hrun, hended, _, _, rfl, ?_, ⟨_, rfl⟩, hW, hsame.mono (by decide) (by decide)⟩
  · show Steps p.tables e below (T15.setTop (mkF m 20 #[.val (.ref p0), .val (.int (-1 : Int32)), .val (.int (5 : Int32)), .val (.int (5 : Int32))] [])) _
    exact X15.returnOut hx Bd.returns (hb hby d10_20) hr
  · show Qfill5 Z p0 k1 x0 x1 x2 x3 x4 h0 n0 _ T15.heap _
    rw [e15]
    exact ⟨rfl, N15, K15, V15⟩
theorem own_rmt5_1 (y0 : Int32) (y1 : Int32) (y2 : Int32) (y3 : Int32) (y4 : Int32) (za1 : Int32) (zb6 : Int32) (zb8 : Int32) (zb10 : Int32) (zb12 : Int32) (zb14 : Int32) (z138 : Int32) (hz138 : z138 = (if zb14 < (0 : Int32) then (-1 : Int32) else (own_max za1 (0 : Int32)))) (hza1 : za1 = (if y0 = (0 : Int32) then (0 : Int32) else (-1 : Int32))) (hzb14 : zb14 = (if y0 = (0 : Int32) then (0 : Int32) else zb12)) (hzb12 : zb12 = (if y1 = (0 : Int32) then (1 : Int32) else zb10)) (hzb10 : zb10 = (if y2 = (0 : Int32) then (2 : Int32) else zb8)) (hzb8 : zb8 = (if y3 = (0 : Int32) then (3 : Int32) else zb6)) (hzb6 : zb6 = (if y4 = (0 : Int32) then (4 : Int32) else (-1 : Int32))) : z138 = (own_F5_0 y0 y1 y2 y3 y4) := by
  unfold own_F5_0
  by_cases qy0 : y0 = (0 : Int32) <;> by_cases qy1 : y1 = (0 : Int32) <;> by_cases qy2 : y2 = (0 : Int32) <;> by_cases qy3 : y3 = (0 : Int32) <;> by_cases qy4 : y4 = (0 : Int32) <;> simp_all [own_max]
theorem own_rmt5_2 (y0 : Int32) (y1 : Int32) (y2 : Int32) (y3 : Int32) (y4 : Int32) (za1 : Int32) (za2 : Int32) (zb6 : Int32) (zb8 : Int32) (zb10 : Int32) (zb12 : Int32) (zb14 : Int32) (z139 : Int32) (hz139 : z139 = (if zb14 < (0 : Int32) then (-1 : Int32) else (own_max za2 (0 : Int32)))) (hza2 : za2 = (if y1 = (0 : Int32) then (1 : Int32) else za1)) (hza1 : za1 = (if y0 = (0 : Int32) then (0 : Int32) else (-1 : Int32))) (hzb14 : zb14 = (if y0 = (0 : Int32) then (0 : Int32) else zb12)) (hzb12 : zb12 = (if y1 = (0 : Int32) then (1 : Int32) else zb10)) (hzb10 : zb10 = (if y2 = (0 : Int32) then (2 : Int32) else zb8)) (hzb8 : zb8 = (if y3 = (0 : Int32) then (3 : Int32) else zb6)) (hzb6 : zb6 = (if y4 = (0 : Int32) then (4 : Int32) else (-1 : Int32))) : z139 = (own_F5_1 y0 y1 y2 y3 y4) := by
  unfold own_F5_1
  by_cases qy0 : y0 = (0 : Int32) <;> by_cases qy1 : y1 = (0 : Int32) <;> by_cases qy2 : y2 = (0 : Int32) <;> by_cases qy3 : y3 = (0 : Int32) <;> by_cases qy4 : y4 = (0 : Int32) <;> simp_all [own_max]
theorem own_rmt5_3 (y0 : Int32) (y1 : Int32) (y2 : Int32) (y3 : Int32) (y4 : Int32) (za1 : Int32) (za2 : Int32) (za3 : Int32) (zb6 : Int32) (zb8 : Int32) (zb10 : Int32) (zb12 : Int32) (zb14 : Int32) (z140 : Int32) (hz140 : z140 = (if zb14 < (0 : Int32) then (-1 : Int32) else (own_max za3 (0 : Int32)))) (hza3 : za3 = (if y2 = (0 : Int32) then (2 : Int32) else za2)) (hza2 : za2 = (if y1 = (0 : Int32) then (1 : Int32) else za1)) (hza1 : za1 = (if y0 = (0 : Int32) then (0 : Int32) else (-1 : Int32))) (hzb14 : zb14 = (if y0 = (0 : Int32) then (0 : Int32) else zb12)) (hzb12 : zb12 = (if y1 = (0 : Int32) then (1 : Int32) else zb10)) (hzb10 : zb10 = (if y2 = (0 : Int32) then (2 : Int32) else zb8)) (hzb8 : zb8 = (if y3 = (0 : Int32) then (3 : Int32) else zb6)) (hzb6 : zb6 = (if y4 = (0 : Int32) then (4 : Int32) else (-1 : Int32))) : z140 = (own_F5_2 y0 y1 y2 y3 y4) := by
  unfold own_F5_2
  by_cases qy0 : y0 = (0 : Int32) <;> by_cases qy1 : y1 = (0 : Int32) <;> by_cases qy2 : y2 = (0 : Int32) <;> by_cases qy3 : y3 = (0 : Int32) <;> by_cases qy4 : y4 = (0 : Int32) <;> simp_all [own_max]
theorem own_rmt5_4 (y0 : Int32) (y1 : Int32) (y2 : Int32) (y3 : Int32) (y4 : Int32) (za1 : Int32) (za2 : Int32) (za3 : Int32) (za4 : Int32) (zb6 : Int32) (zb8 : Int32) (zb10 : Int32) (zb12 : Int32) (zb14 : Int32) (z141 : Int32) (hz141 : z141 = (if zb14 < (0 : Int32) then (-1 : Int32) else (own_max za4 (0 : Int32)))) (hza4 : za4 = (if y3 = (0 : Int32) then (3 : Int32) else za3)) (hza3 : za3 = (if y2 = (0 : Int32) then (2 : Int32) else za2)) (hza2 : za2 = (if y1 = (0 : Int32) then (1 : Int32) else za1)) (hza1 : za1 = (if y0 = (0 : Int32) then (0 : Int32) else (-1 : Int32))) (hzb14 : zb14 = (if y0 = (0 : Int32) then (0 : Int32) else zb12)) (hzb12 : zb12 = (if y1 = (0 : Int32) then (1 : Int32) else zb10)) (hzb10 : zb10 = (if y2 = (0 : Int32) then (2 : Int32) else zb8)) (hzb8 : zb8 = (if y3 = (0 : Int32) then (3 : Int32) else zb6)) (hzb6 : zb6 = (if y4 = (0 : Int32) then (4 : Int32) else (-1 : Int32))) : z141 = (own_F5_3 y0 y1 y2 y3 y4) := by
  unfold own_F5_3
  by_cases qy0 : y0 = (0 : Int32) <;> by_cases qy1 : y1 = (0 : Int32) <;> by_cases qy2 : y2 = (0 : Int32) <;> by_cases qy3 : y3 = (0 : Int32) <;> by_cases qy4 : y4 = (0 : Int32) <;> simp_all [own_max]
theorem own_rmt5_5 (y0 : Int32) (y1 : Int32) (y2 : Int32) (y3 : Int32) (y4 : Int32) (za1 : Int32) (za2 : Int32) (za3 : Int32) (za4 : Int32) (za5 : Int32) (zb6 : Int32) (zb8 : Int32) (zb10 : Int32) (zb12 : Int32) (zb14 : Int32) (z142 : Int32) (hz142 : z142 = (if zb14 < (0 : Int32) then (-1 : Int32) else (own_max za5 (0 : Int32)))) (hza5 : za5 = (if y4 = (0 : Int32) then (4 : Int32) else za4)) (hza4 : za4 = (if y3 = (0 : Int32) then (3 : Int32) else za3)) (hza3 : za3 = (if y2 = (0 : Int32) then (2 : Int32) else za2)) (hza2 : za2 = (if y1 = (0 : Int32) then (1 : Int32) else za1)) (hza1 : za1 = (if y0 = (0 : Int32) then (0 : Int32) else (-1 : Int32))) (hzb14 : zb14 = (if y0 = (0 : Int32) then (0 : Int32) else zb12)) (hzb12 : zb12 = (if y1 = (0 : Int32) then (1 : Int32) else zb10)) (hzb10 : zb10 = (if y2 = (0 : Int32) then (2 : Int32) else zb8)) (hzb8 : zb8 = (if y3 = (0 : Int32) then (3 : Int32) else zb6)) (hzb6 : zb6 = (if y4 = (0 : Int32) then (4 : Int32) else (-1 : Int32))) : z142 = (own_F5_4 y0 y1 y2 y3 y4) := by
  unfold own_F5_4
  by_cases qy0 : y0 = (0 : Int32) <;> by_cases qy1 : y1 = (0 : Int32) <;> by_cases qy2 : y2 = (0 : Int32) <;> by_cases qy3 : y3 = (0 : Int32) <;> by_cases qy4 : y4 = (0 : Int32) <;> simp_all [own_max]
theorem own_rmt5_6 (y0 : Int32) (y1 : Int32) (y2 : Int32) (y3 : Int32) (y4 : Int32) (zb6 : Int32) (zb8 : Int32) (zb10 : Int32) (zb12 : Int32) (zb14 : Int32) (zc15 : Int32) (hzc15 : zc15 = (if zb14 < (0 : Int32) then (4 : Int32) else zb14)) (hzb14 : zb14 = (if y0 = (0 : Int32) then (0 : Int32) else zb12)) (hzb12 : zb12 = (if y1 = (0 : Int32) then (1 : Int32) else zb10)) (hzb10 : zb10 = (if y2 = (0 : Int32) then (2 : Int32) else zb8)) (hzb8 : zb8 = (if y3 = (0 : Int32) then (3 : Int32) else zb6)) (hzb6 : zb6 = (if y4 = (0 : Int32) then (4 : Int32) else (-1 : Int32))) : zc15 = (own_T5_0 y0 y1 y2 y3 y4) := by
  unfold own_T5_0
  by_cases qy0 : y0 = (0 : Int32) <;> by_cases qy1 : y1 = (0 : Int32) <;> by_cases qy2 : y2 = (0 : Int32) <;> by_cases qy3 : y3 = (0 : Int32) <;> by_cases qy4 : y4 = (0 : Int32) <;> simp_all [own_max]
theorem own_rmt5_7 (y0 : Int32) (y1 : Int32) (y2 : Int32) (y3 : Int32) (y4 : Int32) (zb6 : Int32) (zb8 : Int32) (zb10 : Int32) (zb12 : Int32) (zc13 : Int32) (hzc13 : zc13 = (if zb12 < (0 : Int32) then (4 : Int32) else zb12)) (hzb12 : zb12 = (if y1 = (0 : Int32) then (1 : Int32) else zb10)) (hzb10 : zb10 = (if y2 = (0 : Int32) then (2 : Int32) else zb8)) (hzb8 : zb8 = (if y3 = (0 : Int32) then (3 : Int32) else zb6)) (hzb6 : zb6 = (if y4 = (0 : Int32) then (4 : Int32) else (-1 : Int32))) : zc13 = (own_T5_1 y0 y1 y2 y3 y4) := by
  unfold own_T5_1
  by_cases qy0 : y0 = (0 : Int32) <;> by_cases qy1 : y1 = (0 : Int32) <;> by_cases qy2 : y2 = (0 : Int32) <;> by_cases qy3 : y3 = (0 : Int32) <;> by_cases qy4 : y4 = (0 : Int32) <;> simp_all [own_max]
theorem own_rmt5_8 (y0 : Int32) (y1 : Int32) (y2 : Int32) (y3 : Int32) (y4 : Int32) (zb6 : Int32) (zb8 : Int32) (zb10 : Int32) (zc11 : Int32) (hzc11 : zc11 = (if zb10 < (0 : Int32) then (4 : Int32) else zb10)) (hzb10 : zb10 = (if y2 = (0 : Int32) then (2 : Int32) else zb8)) (hzb8 : zb8 = (if y3 = (0 : Int32) then (3 : Int32) else zb6)) (hzb6 : zb6 = (if y4 = (0 : Int32) then (4 : Int32) else (-1 : Int32))) : zc11 = (own_T5_2 y0 y1 y2 y3 y4) := by
  unfold own_T5_2
  by_cases qy0 : y0 = (0 : Int32) <;> by_cases qy1 : y1 = (0 : Int32) <;> by_cases qy2 : y2 = (0 : Int32) <;> by_cases qy3 : y3 = (0 : Int32) <;> by_cases qy4 : y4 = (0 : Int32) <;> simp_all [own_max]
theorem own_rmt5_9 (y0 : Int32) (y1 : Int32) (y2 : Int32) (y3 : Int32) (y4 : Int32) (zb6 : Int32) (zb8 : Int32) (zc9 : Int32) (hzc9 : zc9 = (if zb8 < (0 : Int32) then (4 : Int32) else zb8)) (hzb8 : zb8 = (if y3 = (0 : Int32) then (3 : Int32) else zb6)) (hzb6 : zb6 = (if y4 = (0 : Int32) then (4 : Int32) else (-1 : Int32))) : zc9 = (own_T5_3 y0 y1 y2 y3 y4) := by
  unfold own_T5_3
  by_cases qy0 : y0 = (0 : Int32) <;> by_cases qy1 : y1 = (0 : Int32) <;> by_cases qy2 : y2 = (0 : Int32) <;> by_cases qy3 : y3 = (0 : Int32) <;> by_cases qy4 : y4 = (0 : Int32) <;> simp_all [own_max]
theorem own_rmt5_10 (y0 : Int32) (y1 : Int32) (y2 : Int32) (y3 : Int32) (y4 : Int32) (zb6 : Int32) (zc7 : Int32) (hzc7 : zc7 = (if zb6 < (0 : Int32) then (4 : Int32) else zb6)) (hzb6 : zb6 = (if y4 = (0 : Int32) then (4 : Int32) else (-1 : Int32))) : zc7 = (own_T5_4 y0 y1 y2 y3 y4) := by
  unfold own_T5_4
  by_cases qy0 : y0 = (0 : Int32) <;> by_cases qy1 : y1 = (0 : Int32) <;> by_cases qy2 : y2 = (0 : Int32) <;> by_cases qy3 : y3 = (0 : Int32) <;> by_cases qy4 : y4 = (0 : Int32) <;> simp_all [own_max]
theorem pd_rmt5_0 : parseMethodDescriptor "(II)I" = some ⟨[.int, .int], some .int⟩ := by decide +kernel
theorem pd_rmt5_1 : parseMethodDescriptor "([II)V" = some ⟨[(.array .int), .int], none⟩ := by decide +kernel
theorem pd_rmt5_2 : parseMethodDescriptor "([I[I)V" = some ⟨[(.array .int), (.array .int)], none⟩ := by decide +kernel
theorem ef_rmt5 (m : MethodId) (p0 : Addr) : entryFrame m #[(.ref p0)] 6 = mkF m 0 #[.val (.ref p0), .unset, .unset, .unset, .unset, .unset] [] := by first | (simp [entryFrame, mkF, argsToLocals, Value.category]; done) | rfl
def Qt5 (Z : State) (p0 : Addr) (kz : ClassId) (y0 : Int32) (y1 : Int32) (y2 : Int32) (y3 : Int32) (y4 : Int32) (h0 : Heap) (n0 : Nat) (v : Option Value) (h : Heap) (L : List Loc) : Prop := ∃ b : Addr, ∃ f : Addr, ∃ t : Addr, ∃ kf : ClassId, ∃ kt : ClassId, v = some (.ref b) ∧ Fr n0 L ∧ Keep h0 h [] ∧ (Exa Z h b "com/example/libprox/libprox/Cpe$1") ∧ (Fld Z h b "com/example/libprox/libprox/Cpe$1" "val$from" "[I" (.ref f)) ∧ (Fld Z h b "com/example/libprox/libprox/Cpe$1" "val$to" "[I" (.ref t)) ∧ (Arv Z h f kf .int (5 : Int32) [(.int (own_F5_0 y0 y1 y2 y3 y4)), (.int (own_F5_1 y0 y1 y2 y3 y4)), (.int (own_F5_2 y0 y1 y2 y3 y4)), (.int (own_F5_3 y0 y1 y2 y3 y4)), (.int (own_F5_4 y0 y1 y2 y3 y4))] (.int (0 : Int32))) ∧ (Arv Z h t kt .int (5 : Int32) [(.int (own_T5_0 y0 y1 y2 y3 y4)), (.int (own_T5_1 y0 y1 y2 y3 y4)), (.int (own_T5_2 y0 y1 y2 y3 y4)), (.int (own_T5_3 y0 y1 y2 y3 y4)), (.int (own_T5_4 y0 y1 y2 y3 y4))] (.int (0 : Int32)))
set_option maxRecDepth 65536 in
set_option maxHeartbeats 40000000 in
theorem rmt5 (l : Launch) (Z : State) (a0 : Array Value) (hw : ∀ d ∈ tables_1, d.before a0 Z = true) (ws : List Jvm.Cond) (p0 : Addr) (kz : ClassId) (y0 : Int32) (y1 : Int32) (y2 : Int32) (y3 : Int32) (y4 : Int32) (h0 : Heap) (n0 : Nat) (O0 : Old Z n0 h0) (F0_ : Arv Z h0 p0 kz .boolean (5 : Int32) [(.int y0), (.int y1), (.int y2), (.int y3), (.int y4)] (.int (0 : Int32))) :
    MetFree l nm8 (head1 (Jvm.Cond.code nm8 prog_8_method_5_code 6 (some (.object "com/example/libprox/libprox/Combinations$Rule")) :: ws) ({ frames := 2, cells := 3, slots := 12, locals := 27 } : Room)) (fun a U => a = #[(.ref p0)] ∧ Z.Warmed39 U.vm ∧ U.heap = h0) (fun _ _ _ _ _ => True) (fun _ U o U' => ∃ v L, o = .returned v ∧ Qt5 Z p0 kz y0 y1 y2 y3 y4 h0 n0 v U'.heap L ∧ FrameEnd U o U' L ({ frames := 2, cells := 3, slots := 12, locals := 27 } : Room).cells ({ frames := 2, cells := 3, slots := 12, locals := 27 } : Room).slots) := by
  refine MetFree.of_bodySF (plainFor_of_name pn_1) hisR ?_
  intro p e s m args below meth c s₁ Bd hml0 hP hK
  obtain ⟨rfl, hZ, hh⟩ := hP
  have hx := Bd.exec
  have hby := Bd.bytes
  have hml : c.maxLocals = 6 := hml0
  have hown : s.vm.findClass "com/example/libprox/libprox/Cpe" = some m.cls := findClass_of_methodNamed Bd.named
  have hnm := (name_of_methodNamed Bd.named Bd.method).1
  have X0 : Stand p l e ({ frames := 2, cells := 3, slots := 12, locals := 27 } : Room) s m #[(.ref p0)] below meth c s₁ [] 0 0 := Stand.of_body Bd
  have e0 : s₁.heap = h0 := by rw [← hh, Bd.state]; rfl
  have N0 := Fr.nil n0
  have s0 : Steps p.tables e below (s₁.setTop (entryFrame m #[(.ref p0)] 6)) (s₁.setTop (mkF m 0 #[.val (.ref p0), .unset, .unset, .unset, .unset, .unset] [])) := castTop (ef_rmt5 m p0) (Steps.refl _)
  obtain ⟨A₀, hA₀⟩ : ∃ z, z = (s₁.setTop (entryFrame m #[(.ref p0)] 6)) := ⟨_, rfl⟩
  rw [← hA₀] at s0
  obtain ⟨cla1, Ara1, qa1, Sa1, Za1, Ha1, Ga1⟩ := id F0_
  obtain ⟨T2, h2, k2, X2, e2, E2, A2, st2⟩ := newP X0 hx hZ (hw _ (List.mem_of_getElem? (i := 6) rfl)) e0 (g := (mkF m 4 #[.val (.ref p0), .val (.int (5 : Int32)), .unset, .unset, .unset, .unset] [(.int (5 : Int32))])) rfl (hb hby d1_4) rfl (by decide) (cap := 5) (by decide) (by decide) (by decide) (by decide)
  obtain ⟨b2, g2⟩ : ∃ z, z = h0.size := ⟨_, rfl⟩
  rw [← g2] at A2 st2
  have ne_p0_b2 : p0 ≠ b2 := Nat.ne_of_lt (Nat.lt_of_lt_of_le F0_.lt (Nat.le_of_eq g2.symm))
  have g_b2 : n0 ≤ b2 := Nat.le_trans (Nat.le_of_eq O0.1.symm) (Nat.le_trans O0.2.1 (Nat.le_of_eq g2.symm))
  have sz_b2 : h0.size ≤ b2 := Nat.le_trans (Keep.refl h0 []).1 (Nat.le_of_eq g2.symm)
  have O2 := O0.ext E2
  have K2 : Keep h0 h2 [] := (Keep.refl h0 []).ext E2
  have V2 : Arv Z h2 b2 k2 .int (5 : Int32) [(.int (0 : Int32)), (.int (0 : Int32)), (.int (0 : Int32)), (.int (0 : Int32)), (.int (0 : Int32))] (.int (0 : Int32)) := (Arv.new A2 (by decide)).pad (pad_rep [] (.int (0 : Int32)) 5)
  obtain ⟨T3, h3, k3, X3, e3, E3, A3, st3⟩ := newP X2 hx hZ (hw _ (List.mem_of_getElem? (i := 6) rfl)) e2 (g := (mkF m 8 #[.val (.ref p0), .val (.int (5 : Int32)), .val (.ref b2), .unset, .unset, .unset] [(.int (5 : Int32))])) rfl (hb hby d1_8) rfl (by decide) (cap := 5) (by decide) (by decide) (by decide) (by decide)
  obtain ⟨b3, g3⟩ : ∃ z, z = h2.size := ⟨_, rfl⟩
  rw [← g3] at A3 st3
  have c4 : Arv Z h2 p0 kz .boolean (5 : Int32) [(.int y0), (.int y1), (.int y2), (.int y3), (.int y4)] (.int (0 : Int32)) := (F0_.ext E2)
  have ne_p0_b3 : p0 ≠ b3 := Nat.ne_of_lt (Nat.lt_of_lt_of_le c4.lt (Nat.le_of_eq g3.symm))
  have ne_b2_b3 : b2 ≠ b3 := Nat.ne_of_lt (Nat.lt_of_lt_of_le V2.lt (Nat.le_of_eq g3.symm))
  have g_b3 : n0 ≤ b3 := Nat.le_trans (Nat.le_of_eq O2.1.symm) (Nat.le_trans O2.2.1 (Nat.le_of_eq g3.symm))
  have sz_b3 : h0.size ≤ b3 := Nat.le_trans K2.1 (Nat.le_of_eq g3.symm)
  have O3 := O2.ext E3
  have K3 : Keep h0 h3 [] := K2.ext E3
  have V3 : Arv Z h3 b3 k3 .int (5 : Int32) [(.int (0 : Int32)), (.int (0 : Int32)), (.int (0 : Int32)), (.int (0 : Int32)), (.int (0 : Int32))] (.int (0 : Int32)) := (Arv.new A3 (by decide)).pad (pad_rep [] (.int (0 : Int32)) 5)
  have c5 : Arv Z h3 p0 kz .boolean (5 : Int32) [(.int y0), (.int y1), (.int y2), (.int y3), (.int y4)] (.int (0 : Int32)) := (c4.ext E3)
  obtain ⟨cla6, Ara6, qa6, Sa6, Za6, Ha6, Ga6⟩ := id c5
  have hin7 : ¬ ((0 : Int32) < 0 ∨ cla6.slots.size ≤ ((0 : Int32)).toNatClampNeg) := inb_of Sa6 ⟨by decide, by decide⟩
  have hat8 : cla6.slots[((0 : Int32)).toNatClampNeg]? = some (.int y0) := Has.at Ha6 hin7 rfl
  have s9 : Steps p.tables e below A₀ (T3.setTop (mkF m 27 #[.val (.ref p0), .val (.int (5 : Int32)), .val (.ref b2), .val (.ref b3), .val (.int (-1 : Int32)), .val (.int (0 : Int32))] [(.int y0)])) := by
    refine s0.trans ?_
    refine XS.aloadN X0.here hx rfl (hb hby d1_0) rfl rfl ?_
    show Steps p.tables e below (s₁.setTop (mkF m 1 #[.val (.ref p0), .unset, .unset, .unset, .unset, .unset] [(.ref p0)])) _
    refine X0.arraylength hx (by rw [e0]; exact Ara1.1) (State.isArrayOf_alike hZ.alike Ara1.2.1) (g := (mkF m 1 #[.val (.ref p0), .unset, .unset, .unset, .unset, .unset] [(.ref p0)])) rfl rfl (hb hby d1_1) _ ?_
    rw [len_of Sa1 Za1]
    show Steps p.tables e below (s₁.setTop (mkF m 2 #[.val (.ref p0), .unset, .unset, .unset, .unset, .unset] [(.int (5 : Int32))])) _
    refine XS.istoreN X0.here hx rfl (hb hby d1_2) rfl (l' := #[.val (.ref p0), .val (.int (5 : Int32)), .unset, .unset, .unset, .unset]) rfl ?_
    refine XS.iloadN X0.here hx rfl (hb hby d1_3) rfl ?_
    refine st2 _ ?_
    refine XS.astoreN X2.here hx rfl (hb hby d1_6) rfl rfl (l' := #[.val (.ref p0), .val (.int (5 : Int32)), .val (.ref b2), .unset, .unset, .unset]) rfl ?_
    refine XS.iloadN X2.here hx rfl (hb hby d1_7) rfl ?_
    refine st3 _ ?_
    show Steps p.tables e below (T3.setTop (mkF m 10 #[.val (.ref p0), .val (.int (5 : Int32)), .val (.ref b2), .unset, .unset, .unset] [(.ref b3)])) _
    refine XS.astoreN X3.here hx rfl (hb hby d1_10) rfl rfl (l' := #[.val (.ref p0), .val (.int (5 : Int32)), .val (.ref b2), .val (.ref b3), .unset, .unset]) rfl ?_
    refine XS.iconst X3.here hx rfl (hb hby d1_11) ?_
    refine XS.istore X3.here hx rfl (hb hby d1_12) rfl (l' := #[.val (.ref p0), .val (.int (5 : Int32)), .val (.ref b2), .val (.ref b3), .val (.int (-1 : Int32)), .unset]) rfl ?_
    refine XS.iconst X3.here hx rfl (hb hby d1_14) ?_
    refine XS.istore X3.here hx rfl (hb hby d1_15) rfl (l' := #[.val (.ref p0), .val (.int (5 : Int32)), .val (.ref b2), .val (.ref b3), .val (.int (-1 : Int32)), .val (.int (0 : Int32))]) rfl ?_
    refine XS.iload X3.here hx rfl (hb hby d1_17) rfl ?_
    show Steps p.tables e below (T3.setTop (mkF m 19 #[.val (.ref p0), .val (.int (5 : Int32)), .val (.ref b2), .val (.ref b3), .val (.int (-1 : Int32)), .val (.int (0 : Int32))] [(.int (0 : Int32))])) _
    refine XS.iloadN X3.here hx rfl (hb hby d1_19) rfl ?_
    refine XS.icmpNo X3.here hx rfl (hb hby d1_20) rfl (tlt (by decide)).2.1 ?_
    refine XS.aloadN X3.here hx rfl (hb hby d1_23) rfl rfl ?_
    refine XS.iload X3.here hx rfl (hb hby d1_24) rfl ?_
    refine X3.baloadBooleans hx (j := (0 : Int32)) (v := (.int y0)) (by rw [e3]; exact Ara6.1) (State.isArrayOf_alike hZ.alike Ara6.2.1) Ara6.2.2 hin7 hat8 (g := (mkF m 26 #[.val (.ref p0), .val (.int (5 : Int32)), .val (.ref b2), .val (.ref b3), .val (.int (-1 : Int32)), .val (.int (0 : Int32))] [(.int (0 : Int32)), (.ref p0)])) rfl rfl (hb hby d1_26) _ ?_
    exact Steps.refl _
  have s11 : Steps p.tables e below A₀ (T3.setTop (mkF m 37 #[.val (.ref p0), .val (.int (5 : Int32)), .val (.ref b2), .val (.ref b3), .val (.int (-1 : Int32)), .val (.int (0 : Int32))] [(.int (if y0 = (0 : Int32) then (0 : Int32) else (-1 : Int32)))])) := by
    by_cases hm10 : y0 = (0 : Int32)
    · simp only [if_pos hm10]
      refine s9.trans ?_
      refine XS.ifYes X3.here hx rfl (pc0 := 27) (pc' := 35) rfl (hb hby d1_27) rfl ((if0 _ _).trans (teq hm10).1) (by decide) (by decide) ?_
      show Steps p.tables e below (T3.setTop (mkF m 35 #[.val (.ref p0), .val (.int (5 : Int32)), .val (.ref b2), .val (.ref b3), .val (.int (-1 : Int32)), .val (.int (0 : Int32))] [])) _
      refine XS.iload X3.here hx rfl (hb hby d1_35) rfl ?_
      exact Steps.refl _
    · simp only [if_neg hm10]
      refine s9.trans ?_
      refine XS.ifNo X3.here hx rfl (hb hby d1_27) rfl ((if0 _ _).trans (feq hm10).1) ?_
      show Steps p.tables e below (T3.setTop (mkF m 30 #[.val (.ref p0), .val (.int (5 : Int32)), .val (.ref b2), .val (.ref b3), .val (.int (-1 : Int32)), .val (.int (0 : Int32))] [])) _
      refine XS.iload X3.here hx rfl (hb hby d1_30) rfl ?_
      refine XS.goto X3.here hx rfl (pc0 := 32) (pc' := 37) rfl (hb hby d1_32) (by decide) (by decide) ?_
      exact Steps.refl _
  obtain ⟨za1, hza1⟩ : ∃ z, z = (if y0 = (0 : Int32) then (0 : Int32) else (-1 : Int32)) := ⟨_, rfl⟩
  rw [← hza1] at s11
  obtain ⟨T12, L12, X12, e12, N12, st12⟩ := own_callP X3 hx hZ hown (wk7 hw) (wk8 hw) (wk9 hw) (wk10 hw) (by decide) (rm2 l Z a0 hw [] za1 (0 : Int32) h3 n0 O3 ) e3 N0 (W := 2) (by decide) (by decide) (by decide) (by decide) (g := (mkF m 45 #[.val (.ref p0), .val (.int (5 : Int32)), .val (.ref b2), .val (.ref b3), .val (.int za1), .val (.int (0 : Int32))] [(.int (0 : Int32)), (.int za1), (.int (0 : Int32)), (.ref b2)])) rfl (by rw [hml]; rfl) (argsL := [(.int za1), (.int (0 : Int32))]) (rest := [(.int (0 : Int32)), (.ref b2)]) (lenOf pd_rmt5_0 rfl) rfl (by show 2 * 0 + _ ≤ _; exact Nat.le_of_eq rfl) (hb hby d1_45)
  have c13 : Arv Z h3 b2 k2 .int (5 : Int32) [(.int (0 : Int32)), (.int (0 : Int32)), (.int (0 : Int32)), (.int (0 : Int32)), (.int (0 : Int32))] (.int (0 : Int32)) := (V2.ext E3)
  obtain ⟨cla14, Ara14, qa14, Sa14, Za14, Ha14, Ga14⟩ := id c13
  have hin15 : ¬ ((0 : Int32) < 0 ∨ cla14.slots.size ≤ ((0 : Int32)).toNatClampNeg) := inb_of Sa14 ⟨by decide, by decide⟩
  obtain ⟨T16, h16, X16, e16, W16, st16⟩ := stI X12 hx hZ e12 Ara14 (j := (0 : Int32)) hin15 (g := (mkF m 48 #[.val (.ref p0), .val (.int (5 : Int32)), .val (.ref b2), .val (.ref b3), .val (.int za1), .val (.int (0 : Int32))] [(.int (own_max za1 (0 : Int32))), (.int (0 : Int32)), (.ref b2)])) rfl rfl (hb hby d1_48)
  have O16 := O3.wr W16 g_b2
  have K16 : Keep h0 h16 [] := K3.wr W16 (Or.inr sz_b2)
  have N16 := Fr.snoc X16 N12 g_b2
  have V16 : Arv Z h16 b2 k2 .int (5 : Int32) [(.int (own_max za1 (0 : Int32))), (.int (0 : Int32)), (.int (0 : Int32)), (.int (0 : Int32)), (.int (0 : Int32))] (.int (0 : Int32)) := Arv.set Ara14 qa14 Sa14 Za14 Ha14 Ga14 rfl W16 0 rfl (Nat.le_of_ble_eq_true rfl)
  have c17 : Arv Z h16 p0 kz .boolean (5 : Int32) [(.int y0), (.int y1), (.int y2), (.int y3), (.int y4)] (.int (0 : Int32)) := (c5.other W16 ne_p0_b2)
  obtain ⟨cla18, Ara18, qa18, Sa18, Za18, Ha18, Ga18⟩ := id c17
  have hin19 : ¬ ((1 : Int32) < 0 ∨ cla18.slots.size ≤ ((1 : Int32)).toNatClampNeg) := inb_of Sa18 ⟨by decide, by decide⟩
  have hat20 : cla18.slots[((1 : Int32)).toNatClampNeg]? = some (.int y1) := Has.at Ha18 hin19 rfl
  have s21 : Steps p.tables e below A₀ (T16.setTop (mkF m 27 #[.val (.ref p0), .val (.int (5 : Int32)), .val (.ref b2), .val (.ref b3), .val (.int za1), .val (.int (1 : Int32))] [(.int y1)])) := by
    refine s11.trans ?_
    refine XS.istore X3.here hx rfl (hb hby d1_37) rfl (l' := #[.val (.ref p0), .val (.int (5 : Int32)), .val (.ref b2), .val (.ref b3), .val (.int za1), .val (.int (0 : Int32))]) rfl ?_
    show Steps p.tables e below (T3.setTop (mkF m 39 #[.val (.ref p0), .val (.int (5 : Int32)), .val (.ref b2), .val (.ref b3), .val (.int za1), .val (.int (0 : Int32))] [])) _
    refine XS.aloadN X3.here hx rfl (hb hby d1_39) rfl rfl ?_
    refine XS.iload X3.here hx rfl (hb hby d1_40) rfl ?_
    refine XS.iload X3.here hx rfl (hb hby d1_42) rfl ?_
    refine XS.iconst X3.here hx rfl (hb hby d1_44) ?_
    refine st12 _ ?_
    refine st16 _ ?_
    show Steps p.tables e below (T16.setTop (mkF m 49 #[.val (.ref p0), .val (.int (5 : Int32)), .val (.ref b2), .val (.ref b3), .val (.int za1), .val (.int (0 : Int32))] [])) _
    refine XS.iinc X16.here hx rfl (hb hby d1_49) rfl (l' := #[.val (.ref p0), .val (.int (5 : Int32)), .val (.ref b2), .val (.ref b3), .val (.int za1), .val (.int (1 : Int32))]) rfl ?_
    refine XS.goto X16.here hx rfl (pc0 := 52) (pc' := 17) rfl (hb hby d1_52) (by decide) (by decide) ?_
    refine XS.iload X16.here hx rfl (hb hby d1_17) rfl ?_
    refine XS.iloadN X16.here hx rfl (hb hby d1_19) rfl ?_
    refine XS.icmpNo X16.here hx rfl (hb hby d1_20) rfl (tlt (by decide)).2.1 ?_
    refine XS.aloadN X16.here hx rfl (hb hby d1_23) rfl rfl ?_
    show Steps p.tables e below (T16.setTop (mkF m 24 #[.val (.ref p0), .val (.int (5 : Int32)), .val (.ref b2), .val (.ref b3), .val (.int za1), .val (.int (1 : Int32))] [(.ref p0)])) _
    refine XS.iload X16.here hx rfl (hb hby d1_24) rfl ?_
    refine X16.baloadBooleans hx (j := (1 : Int32)) (v := (.int y1)) (by rw [e16]; exact Ara18.1) (State.isArrayOf_alike hZ.alike Ara18.2.1) Ara18.2.2 hin19 hat20 (g := (mkF m 26 #[.val (.ref p0), .val (.int (5 : Int32)), .val (.ref b2), .val (.ref b3), .val (.int za1), .val (.int (1 : Int32))] [(.int (1 : Int32)), (.ref p0)])) rfl rfl (hb hby d1_26) _ ?_
    exact Steps.refl _
  have s23 : Steps p.tables e below A₀ (T16.setTop (mkF m 37 #[.val (.ref p0), .val (.int (5 : Int32)), .val (.ref b2), .val (.ref b3), .val (.int za1), .val (.int (1 : Int32))] [(.int (if y1 = (0 : Int32) then (1 : Int32) else za1))])) := by
    by_cases hm22 : y1 = (0 : Int32)
    · simp only [if_pos hm22]
      refine s21.trans ?_
      refine XS.ifYes X16.here hx rfl (pc0 := 27) (pc' := 35) rfl (hb hby d1_27) rfl ((if0 _ _).trans (teq hm22).1) (by decide) (by decide) ?_
      show Steps p.tables e below (T16.setTop (mkF m 35 #[.val (.ref p0), .val (.int (5 : Int32)), .val (.ref b2), .val (.ref b3), .val (.int za1), .val (.int (1 : Int32))] [])) _
      refine XS.iload X16.here hx rfl (hb hby d1_35) rfl ?_
      exact Steps.refl _
    · simp only [if_neg hm22]
      refine s21.trans ?_
      refine XS.ifNo X16.here hx rfl (hb hby d1_27) rfl ((if0 _ _).trans (feq hm22).1) ?_
      show Steps p.tables e below (T16.setTop (mkF m 30 #[.val (.ref p0), .val (.int (5 : Int32)), .val (.ref b2), .val (.ref b3), .val (.int za1), .val (.int (1 : Int32))] [])) _
      refine XS.iload X16.here hx rfl (hb hby d1_30) rfl ?_
      refine XS.goto X16.here hx rfl (pc0 := 32) (pc' := 37) rfl (hb hby d1_32) (by decide) (by decide) ?_
      exact Steps.refl _
  obtain ⟨za2, hza2⟩ : ∃ z, z = (if y1 = (0 : Int32) then (1 : Int32) else za1) := ⟨_, rfl⟩
  rw [← hza2] at s23
  obtain ⟨T24, L24, X24, e24, N24, st24⟩ := own_callP X16 hx hZ hown (wk7 hw) (wk8 hw) (wk9 hw) (wk10 hw) (by decide) (rm2 l Z a0 hw [] za2 (0 : Int32) h16 n0 O16 ) e16 N16 (W := 2) (by decide) (by decide) (by decide) (by decide) (g := (mkF m 45 #[.val (.ref p0), .val (.int (5 : Int32)), .val (.ref b2), .val (.ref b3), .val (.int za2), .val (.int (1 : Int32))] [(.int (0 : Int32)), (.int za2), (.int (1 : Int32)), (.ref b2)])) rfl (by rw [hml]; rfl) (argsL := [(.int za2), (.int (0 : Int32))]) (rest := [(.int (1 : Int32)), (.ref b2)]) (lenOf pd_rmt5_0 rfl) rfl (by show 2 * 0 + _ ≤ _; exact Nat.le_of_eq rfl) (hb hby d1_45)
  obtain ⟨cla25, Ara25, qa25, Sa25, Za25, Ha25, Ga25⟩ := id V16
  have hin26 : ¬ ((1 : Int32) < 0 ∨ cla25.slots.size ≤ ((1 : Int32)).toNatClampNeg) := inb_of Sa25 ⟨by decide, by decide⟩
  obtain ⟨T27, h27, X27, e27, W27, st27⟩ := stI X24 hx hZ e24 Ara25 (j := (1 : Int32)) hin26 (g := (mkF m 48 #[.val (.ref p0), .val (.int (5 : Int32)), .val (.ref b2), .val (.ref b3), .val (.int za2), .val (.int (1 : Int32))] [(.int (own_max za2 (0 : Int32))), (.int (1 : Int32)), (.ref b2)])) rfl rfl (hb hby d1_48)
  have O27 := O16.wr W27 g_b2
  have K27 : Keep h0 h27 [] := K16.wr W27 (Or.inr sz_b2)
  have N27 := Fr.snoc X27 N24 g_b2
  have V27 : Arv Z h27 b2 k2 .int (5 : Int32) [(.int (own_max za1 (0 : Int32))), (.int (own_max za2 (0 : Int32))), (.int (0 : Int32)), (.int (0 : Int32)), (.int (0 : Int32))] (.int (0 : Int32)) := Arv.set Ara25 qa25 Sa25 Za25 Ha25 Ga25 rfl W27 1 rfl (Nat.le_of_ble_eq_true rfl)
  have c28 : Arv Z h27 p0 kz .boolean (5 : Int32) [(.int y0), (.int y1), (.int y2), (.int y3), (.int y4)] (.int (0 : Int32)) := (c17.other W27 ne_p0_b2)
  obtain ⟨cla29, Ara29, qa29, Sa29, Za29, Ha29, Ga29⟩ := id c28
  have hin30 : ¬ ((2 : Int32) < 0 ∨ cla29.slots.size ≤ ((2 : Int32)).toNatClampNeg) := inb_of Sa29 ⟨by decide, by decide⟩
  have hat31 : cla29.slots[((2 : Int32)).toNatClampNeg]? = some (.int y2) := Has.at Ha29 hin30 rfl
  have s32 : Steps p.tables e below A₀ (T27.setTop (mkF m 27 #[.val (.ref p0), .val (.int (5 : Int32)), .val (.ref b2), .val (.ref b3), .val (.int za2), .val (.int (2 : Int32))] [(.int y2)])) := by
    refine s23.trans ?_
    refine XS.istore X16.here hx rfl (hb hby d1_37) rfl (l' := #[.val (.ref p0), .val (.int (5 : Int32)), .val (.ref b2), .val (.ref b3), .val (.int za2), .val (.int (1 : Int32))]) rfl ?_
    show Steps p.tables e below (T16.setTop (mkF m 39 #[.val (.ref p0), .val (.int (5 : Int32)), .val (.ref b2), .val (.ref b3), .val (.int za2), .val (.int (1 : Int32))] [])) _
    refine XS.aloadN X16.here hx rfl (hb hby d1_39) rfl rfl ?_
    refine XS.iload X16.here hx rfl (hb hby d1_40) rfl ?_
    refine XS.iload X16.here hx rfl (hb hby d1_42) rfl ?_
    refine XS.iconst X16.here hx rfl (hb hby d1_44) ?_
    refine st24 _ ?_
    refine st27 _ ?_
    show Steps p.tables e below (T27.setTop (mkF m 49 #[.val (.ref p0), .val (.int (5 : Int32)), .val (.ref b2), .val (.ref b3), .val (.int za2), .val (.int (1 : Int32))] [])) _
    refine XS.iinc X27.here hx rfl (hb hby d1_49) rfl (l' := #[.val (.ref p0), .val (.int (5 : Int32)), .val (.ref b2), .val (.ref b3), .val (.int za2), .val (.int (2 : Int32))]) rfl ?_
    refine XS.goto X27.here hx rfl (pc0 := 52) (pc' := 17) rfl (hb hby d1_52) (by decide) (by decide) ?_
    refine XS.iload X27.here hx rfl (hb hby d1_17) rfl ?_
    refine XS.iloadN X27.here hx rfl (hb hby d1_19) rfl ?_
    refine XS.icmpNo X27.here hx rfl (hb hby d1_20) rfl (tlt (by decide)).2.1 ?_
    refine XS.aloadN X27.here hx rfl (hb hby d1_23) rfl rfl ?_
    show Steps p.tables e below (T27.setTop (mkF m 24 #[.val (.ref p0), .val (.int (5 : Int32)), .val (.ref b2), .val (.ref b3), .val (.int za2), .val (.int (2 : Int32))] [(.ref p0)])) _
    refine XS.iload X27.here hx rfl (hb hby d1_24) rfl ?_
    refine X27.baloadBooleans hx (j := (2 : Int32)) (v := (.int y2)) (by rw [e27]; exact Ara29.1) (State.isArrayOf_alike hZ.alike Ara29.2.1) Ara29.2.2 hin30 hat31 (g := (mkF m 26 #[.val (.ref p0), .val (.int (5 : Int32)), .val (.ref b2), .val (.ref b3), .val (.int za2), .val (.int (2 : Int32))] [(.int (2 : Int32)), (.ref p0)])) rfl rfl (hb hby d1_26) _ ?_
    exact Steps.refl _
  have s34 : Steps p.tables e below A₀ (T27.setTop (mkF m 37 #[.val (.ref p0), .val (.int (5 : Int32)), .val (.ref b2), .val (.ref b3), .val (.int za2), .val (.int (2 : Int32))] [(.int (if y2 = (0 : Int32) then (2 : Int32) else za2))])) := by
    by_cases hm33 : y2 = (0 : Int32)
    · simp only [if_pos hm33]
      refine s32.trans ?_
      refine XS.ifYes X27.here hx rfl (pc0 := 27) (pc' := 35) rfl (hb hby d1_27) rfl ((if0 _ _).trans (teq hm33).1) (by decide) (by decide) ?_
      show Steps p.tables e below (T27.setTop (mkF m 35 #[.val (.ref p0), .val (.int (5 : Int32)), .val (.ref b2), .val (.ref b3), .val (.int za2), .val (.int (2 : Int32))] [])) _
      refine XS.iload X27.here hx rfl (hb hby d1_35) rfl ?_
      exact Steps.refl _
    · simp only [if_neg hm33]
      refine s32.trans ?_
      refine XS.ifNo X27.here hx rfl (hb hby d1_27) rfl ((if0 _ _).trans (feq hm33).1) ?_
      show Steps p.tables e below (T27.setTop (mkF m 30 #[.val (.ref p0), .val (.int (5 : Int32)), .val (.ref b2), .val (.ref b3), .val (.int za2), .val (.int (2 : Int32))] [])) _
      refine XS.iload X27.here hx rfl (hb hby d1_30) rfl ?_
      refine XS.goto X27.here hx rfl (pc0 := 32) (pc' := 37) rfl (hb hby d1_32) (by decide) (by decide) ?_
      exact Steps.refl _
  obtain ⟨za3, hza3⟩ : ∃ z, z = (if y2 = (0 : Int32) then (2 : Int32) else za2) := ⟨_, rfl⟩
  rw [← hza3] at s34
  obtain ⟨T35, L35, X35, e35, N35, st35⟩ := own_callP X27 hx hZ hown (wk7 hw) (wk8 hw) (wk9 hw) (wk10 hw) (by decide) (rm2 l Z a0 hw [] za3 (0 : Int32) h27 n0 O27 ) e27 N27 (W := 2) (by decide) (by decide) (by decide) (by decide) (g := (mkF m 45 #[.val (.ref p0), .val (.int (5 : Int32)), .val (.ref b2), .val (.ref b3), .val (.int za3), .val (.int (2 : Int32))] [(.int (0 : Int32)), (.int za3), (.int (2 : Int32)), (.ref b2)])) rfl (by rw [hml]; rfl) (argsL := [(.int za3), (.int (0 : Int32))]) (rest := [(.int (2 : Int32)), (.ref b2)]) (lenOf pd_rmt5_0 rfl) rfl (by show 2 * 0 + _ ≤ _; exact Nat.le_of_eq rfl) (hb hby d1_45)
  obtain ⟨cla36, Ara36, qa36, Sa36, Za36, Ha36, Ga36⟩ := id V27
  have hin37 : ¬ ((2 : Int32) < 0 ∨ cla36.slots.size ≤ ((2 : Int32)).toNatClampNeg) := inb_of Sa36 ⟨by decide, by decide⟩
  obtain ⟨T38, h38, X38, e38, W38, st38⟩ := stI X35 hx hZ e35 Ara36 (j := (2 : Int32)) hin37 (g := (mkF m 48 #[.val (.ref p0), .val (.int (5 : Int32)), .val (.ref b2), .val (.ref b3), .val (.int za3), .val (.int (2 : Int32))] [(.int (own_max za3 (0 : Int32))), (.int (2 : Int32)), (.ref b2)])) rfl rfl (hb hby d1_48)
  have O38 := O27.wr W38 g_b2
  have K38 : Keep h0 h38 [] := K27.wr W38 (Or.inr sz_b2)
  have N38 := Fr.snoc X38 N35 g_b2
  have V38 : Arv Z h38 b2 k2 .int (5 : Int32) [(.int (own_max za1 (0 : Int32))), (.int (own_max za2 (0 : Int32))), (.int (own_max za3 (0 : Int32))), (.int (0 : Int32)), (.int (0 : Int32))] (.int (0 : Int32)) := Arv.set Ara36 qa36 Sa36 Za36 Ha36 Ga36 rfl W38 2 rfl (Nat.le_of_ble_eq_true rfl)
  have c39 : Arv Z h38 p0 kz .boolean (5 : Int32) [(.int y0), (.int y1), (.int y2), (.int y3), (.int y4)] (.int (0 : Int32)) := (c28.other W38 ne_p0_b2)
  obtain ⟨cla40, Ara40, qa40, Sa40, Za40, Ha40, Ga40⟩ := id c39
  have hin41 : ¬ ((3 : Int32) < 0 ∨ cla40.slots.size ≤ ((3 : Int32)).toNatClampNeg) := inb_of Sa40 ⟨by decide, by decide⟩
  have hat42 : cla40.slots[((3 : Int32)).toNatClampNeg]? = some (.int y3) := Has.at Ha40 hin41 rfl
  have s43 : Steps p.tables e below A₀ (T38.setTop (mkF m 27 #[.val (.ref p0), .val (.int (5 : Int32)), .val (.ref b2), .val (.ref b3), .val (.int za3), .val (.int (3 : Int32))] [(.int y3)])) := by
    refine s34.trans ?_
    refine XS.istore X27.here hx rfl (hb hby d1_37) rfl (l' := #[.val (.ref p0), .val (.int (5 : Int32)), .val (.ref b2), .val (.ref b3), .val (.int za3), .val (.int (2 : Int32))]) rfl ?_
    show Steps p.tables e below (T27.setTop (mkF m 39 #[.val (.ref p0), .val (.int (5 : Int32)), .val (.ref b2), .val (.ref b3), .val (.int za3), .val (.int (2 : Int32))] [])) _
    refine XS.aloadN X27.here hx rfl (hb hby d1_39) rfl rfl ?_
    refine XS.iload X27.here hx rfl (hb hby d1_40) rfl ?_
    refine XS.iload X27.here hx rfl (hb hby d1_42) rfl ?_
    refine XS.iconst X27.here hx rfl (hb hby d1_44) ?_
    refine st35 _ ?_
    refine st38 _ ?_
    show Steps p.tables e below (T38.setTop (mkF m 49 #[.val (.ref p0), .val (.int (5 : Int32)), .val (.ref b2), .val (.ref b3), .val (.int za3), .val (.int (2 : Int32))] [])) _
    refine XS.iinc X38.here hx rfl (hb hby d1_49) rfl (l' := #[.val (.ref p0), .val (.int (5 : Int32)), .val (.ref b2), .val (.ref b3), .val (.int za3), .val (.int (3 : Int32))]) rfl ?_
    refine XS.goto X38.here hx rfl (pc0 := 52) (pc' := 17) rfl (hb hby d1_52) (by decide) (by decide) ?_
    refine XS.iload X38.here hx rfl (hb hby d1_17) rfl ?_
    refine XS.iloadN X38.here hx rfl (hb hby d1_19) rfl ?_
    refine XS.icmpNo X38.here hx rfl (hb hby d1_20) rfl (tlt (by decide)).2.1 ?_
    refine XS.aloadN X38.here hx rfl (hb hby d1_23) rfl rfl ?_
    show Steps p.tables e below (T38.setTop (mkF m 24 #[.val (.ref p0), .val (.int (5 : Int32)), .val (.ref b2), .val (.ref b3), .val (.int za3), .val (.int (3 : Int32))] [(.ref p0)])) _
    refine XS.iload X38.here hx rfl (hb hby d1_24) rfl ?_
    refine X38.baloadBooleans hx (j := (3 : Int32)) (v := (.int y3)) (by rw [e38]; exact Ara40.1) (State.isArrayOf_alike hZ.alike Ara40.2.1) Ara40.2.2 hin41 hat42 (g := (mkF m 26 #[.val (.ref p0), .val (.int (5 : Int32)), .val (.ref b2), .val (.ref b3), .val (.int za3), .val (.int (3 : Int32))] [(.int (3 : Int32)), (.ref p0)])) rfl rfl (hb hby d1_26) _ ?_
    exact Steps.refl _
  have s45 : Steps p.tables e below A₀ (T38.setTop (mkF m 37 #[.val (.ref p0), .val (.int (5 : Int32)), .val (.ref b2), .val (.ref b3), .val (.int za3), .val (.int (3 : Int32))] [(.int (if y3 = (0 : Int32) then (3 : Int32) else za3))])) := by
    by_cases hm44 : y3 = (0 : Int32)
    · simp only [if_pos hm44]
      refine s43.trans ?_
      refine XS.ifYes X38.here hx rfl (pc0 := 27) (pc' := 35) rfl (hb hby d1_27) rfl ((if0 _ _).trans (teq hm44).1) (by decide) (by decide) ?_
      show Steps p.tables e below (T38.setTop (mkF m 35 #[.val (.ref p0), .val (.int (5 : Int32)), .val (.ref b2), .val (.ref b3), .val (.int za3), .val (.int (3 : Int32))] [])) _
      refine XS.iload X38.here hx rfl (hb hby d1_35) rfl ?_
      exact Steps.refl _
    · simp only [if_neg hm44]
      refine s43.trans ?_
      refine XS.ifNo X38.here hx rfl (hb hby d1_27) rfl ((if0 _ _).trans (feq hm44).1) ?_
      show Steps p.tables e below (T38.setTop (mkF m 30 #[.val (.ref p0), .val (.int (5 : Int32)), .val (.ref b2), .val (.ref b3), .val (.int za3), .val (.int (3 : Int32))] [])) _
      refine XS.iload X38.here hx rfl (hb hby d1_30) rfl ?_
      refine XS.goto X38.here hx rfl (pc0 := 32) (pc' := 37) rfl (hb hby d1_32) (by decide) (by decide) ?_
      exact Steps.refl _
  obtain ⟨za4, hza4⟩ : ∃ z, z = (if y3 = (0 : Int32) then (3 : Int32) else za3) := ⟨_, rfl⟩
  rw [← hza4] at s45
  obtain ⟨T46, L46, X46, e46, N46, st46⟩ := own_callP X38 hx hZ hown (wk7 hw) (wk8 hw) (wk9 hw) (wk10 hw) (by decide) (rm2 l Z a0 hw [] za4 (0 : Int32) h38 n0 O38 ) e38 N38 (W := 2) (by decide) (by decide) (by decide) (by decide) (g := (mkF m 45 #[.val (.ref p0), .val (.int (5 : Int32)), .val (.ref b2), .val (.ref b3), .val (.int za4), .val (.int (3 : Int32))] [(.int (0 : Int32)), (.int za4), (.int (3 : Int32)), (.ref b2)])) rfl (by rw [hml]; rfl) (argsL := [(.int za4), (.int (0 : Int32))]) (rest := [(.int (3 : Int32)), (.ref b2)]) (lenOf pd_rmt5_0 rfl) rfl (by show 2 * 0 + _ ≤ _; exact Nat.le_of_eq rfl) (hb hby d1_45)
  obtain ⟨cla47, Ara47, qa47, Sa47, Za47, Ha47, Ga47⟩ := id V38
  have hin48 : ¬ ((3 : Int32) < 0 ∨ cla47.slots.size ≤ ((3 : Int32)).toNatClampNeg) := inb_of Sa47 ⟨by decide, by decide⟩
  obtain ⟨T49, h49, X49, e49, W49, st49⟩ := stI X46 hx hZ e46 Ara47 (j := (3 : Int32)) hin48 (g := (mkF m 48 #[.val (.ref p0), .val (.int (5 : Int32)), .val (.ref b2), .val (.ref b3), .val (.int za4), .val (.int (3 : Int32))] [(.int (own_max za4 (0 : Int32))), (.int (3 : Int32)), (.ref b2)])) rfl rfl (hb hby d1_48)
  have O49 := O38.wr W49 g_b2
  have K49 : Keep h0 h49 [] := K38.wr W49 (Or.inr sz_b2)
  have N49 := Fr.snoc X49 N46 g_b2
  have V49 : Arv Z h49 b2 k2 .int (5 : Int32) [(.int (own_max za1 (0 : Int32))), (.int (own_max za2 (0 : Int32))), (.int (own_max za3 (0 : Int32))), (.int (own_max za4 (0 : Int32))), (.int (0 : Int32))] (.int (0 : Int32)) := Arv.set Ara47 qa47 Sa47 Za47 Ha47 Ga47 rfl W49 3 rfl (Nat.le_of_ble_eq_true rfl)
  have c50 : Arv Z h49 p0 kz .boolean (5 : Int32) [(.int y0), (.int y1), (.int y2), (.int y3), (.int y4)] (.int (0 : Int32)) := (c39.other W49 ne_p0_b2)
  obtain ⟨cla51, Ara51, qa51, Sa51, Za51, Ha51, Ga51⟩ := id c50
  have hin52 : ¬ ((4 : Int32) < 0 ∨ cla51.slots.size ≤ ((4 : Int32)).toNatClampNeg) := inb_of Sa51 ⟨by decide, by decide⟩
  have hat53 : cla51.slots[((4 : Int32)).toNatClampNeg]? = some (.int y4) := Has.at Ha51 hin52 rfl
  have s54 : Steps p.tables e below A₀ (T49.setTop (mkF m 27 #[.val (.ref p0), .val (.int (5 : Int32)), .val (.ref b2), .val (.ref b3), .val (.int za4), .val (.int (4 : Int32))] [(.int y4)])) := by
    refine s45.trans ?_
    refine XS.istore X38.here hx rfl (hb hby d1_37) rfl (l' := #[.val (.ref p0), .val (.int (5 : Int32)), .val (.ref b2), .val (.ref b3), .val (.int za4), .val (.int (3 : Int32))]) rfl ?_
    show Steps p.tables e below (T38.setTop (mkF m 39 #[.val (.ref p0), .val (.int (5 : Int32)), .val (.ref b2), .val (.ref b3), .val (.int za4), .val (.int (3 : Int32))] [])) _
    refine XS.aloadN X38.here hx rfl (hb hby d1_39) rfl rfl ?_
    refine XS.iload X38.here hx rfl (hb hby d1_40) rfl ?_
    refine XS.iload X38.here hx rfl (hb hby d1_42) rfl ?_
    refine XS.iconst X38.here hx rfl (hb hby d1_44) ?_
    refine st46 _ ?_
    refine st49 _ ?_
    show Steps p.tables e below (T49.setTop (mkF m 49 #[.val (.ref p0), .val (.int (5 : Int32)), .val (.ref b2), .val (.ref b3), .val (.int za4), .val (.int (3 : Int32))] [])) _
    refine XS.iinc X49.here hx rfl (hb hby d1_49) rfl (l' := #[.val (.ref p0), .val (.int (5 : Int32)), .val (.ref b2), .val (.ref b3), .val (.int za4), .val (.int (4 : Int32))]) rfl ?_
    refine XS.goto X49.here hx rfl (pc0 := 52) (pc' := 17) rfl (hb hby d1_52) (by decide) (by decide) ?_
    refine XS.iload X49.here hx rfl (hb hby d1_17) rfl ?_
    refine XS.iloadN X49.here hx rfl (hb hby d1_19) rfl ?_
    refine XS.icmpNo X49.here hx rfl (hb hby d1_20) rfl (tlt (by decide)).2.1 ?_
    refine XS.aloadN X49.here hx rfl (hb hby d1_23) rfl rfl ?_
    show Steps p.tables e below (T49.setTop (mkF m 24 #[.val (.ref p0), .val (.int (5 : Int32)), .val (.ref b2), .val (.ref b3), .val (.int za4), .val (.int (4 : Int32))] [(.ref p0)])) _
    refine XS.iload X49.here hx rfl (hb hby d1_24) rfl ?_
    refine X49.baloadBooleans hx (j := (4 : Int32)) (v := (.int y4)) (by rw [e49]; exact Ara51.1) (State.isArrayOf_alike hZ.alike Ara51.2.1) Ara51.2.2 hin52 hat53 (g := (mkF m 26 #[.val (.ref p0), .val (.int (5 : Int32)), .val (.ref b2), .val (.ref b3), .val (.int za4), .val (.int (4 : Int32))] [(.int (4 : Int32)), (.ref p0)])) rfl rfl (hb hby d1_26) _ ?_
    exact Steps.refl _
  have s56 : Steps p.tables e below A₀ (T49.setTop (mkF m 37 #[.val (.ref p0), .val (.int (5 : Int32)), .val (.ref b2), .val (.ref b3), .val (.int za4), .val (.int (4 : Int32))] [(.int (if y4 = (0 : Int32) then (4 : Int32) else za4))])) := by
    by_cases hm55 : y4 = (0 : Int32)
    · simp only [if_pos hm55]
      refine s54.trans ?_
      refine XS.ifYes X49.here hx rfl (pc0 := 27) (pc' := 35) rfl (hb hby d1_27) rfl ((if0 _ _).trans (teq hm55).1) (by decide) (by decide) ?_
      show Steps p.tables e below (T49.setTop (mkF m 35 #[.val (.ref p0), .val (.int (5 : Int32)), .val (.ref b2), .val (.ref b3), .val (.int za4), .val (.int (4 : Int32))] [])) _
      refine XS.iload X49.here hx rfl (hb hby d1_35) rfl ?_
      exact Steps.refl _
    · simp only [if_neg hm55]
      refine s54.trans ?_
      refine XS.ifNo X49.here hx rfl (hb hby d1_27) rfl ((if0 _ _).trans (feq hm55).1) ?_
      show Steps p.tables e below (T49.setTop (mkF m 30 #[.val (.ref p0), .val (.int (5 : Int32)), .val (.ref b2), .val (.ref b3), .val (.int za4), .val (.int (4 : Int32))] [])) _
      refine XS.iload X49.here hx rfl (hb hby d1_30) rfl ?_
      refine XS.goto X49.here hx rfl (pc0 := 32) (pc' := 37) rfl (hb hby d1_32) (by decide) (by decide) ?_
      exact Steps.refl _
  obtain ⟨za5, hza5⟩ : ∃ z, z = (if y4 = (0 : Int32) then (4 : Int32) else za4) := ⟨_, rfl⟩
  rw [← hza5] at s56
  obtain ⟨T57, L57, X57, e57, N57, st57⟩ := own_callP X49 hx hZ hown (wk7 hw) (wk8 hw) (wk9 hw) (wk10 hw) (by decide) (rm2 l Z a0 hw [] za5 (0 : Int32) h49 n0 O49 ) e49 N49 (W := 2) (by decide) (by decide) (by decide) (by decide) (g := (mkF m 45 #[.val (.ref p0), .val (.int (5 : Int32)), .val (.ref b2), .val (.ref b3), .val (.int za5), .val (.int (4 : Int32))] [(.int (0 : Int32)), (.int za5), (.int (4 : Int32)), (.ref b2)])) rfl (by rw [hml]; rfl) (argsL := [(.int za5), (.int (0 : Int32))]) (rest := [(.int (4 : Int32)), (.ref b2)]) (lenOf pd_rmt5_0 rfl) rfl (by show 2 * 0 + _ ≤ _; exact Nat.le_of_eq rfl) (hb hby d1_45)
  obtain ⟨cla58, Ara58, qa58, Sa58, Za58, Ha58, Ga58⟩ := id V49
  have hin59 : ¬ ((4 : Int32) < 0 ∨ cla58.slots.size ≤ ((4 : Int32)).toNatClampNeg) := inb_of Sa58 ⟨by decide, by decide⟩
  obtain ⟨T60, h60, X60, e60, W60, st60⟩ := stI X57 hx hZ e57 Ara58 (j := (4 : Int32)) hin59 (g := (mkF m 48 #[.val (.ref p0), .val (.int (5 : Int32)), .val (.ref b2), .val (.ref b3), .val (.int za5), .val (.int (4 : Int32))] [(.int (own_max za5 (0 : Int32))), (.int (4 : Int32)), (.ref b2)])) rfl rfl (hb hby d1_48)
  have O60 := O49.wr W60 g_b2
  have K60 : Keep h0 h60 [] := K49.wr W60 (Or.inr sz_b2)
  have N60 := Fr.snoc X60 N57 g_b2
  have V60 : Arv Z h60 b2 k2 .int (5 : Int32) [(.int (own_max za1 (0 : Int32))), (.int (own_max za2 (0 : Int32))), (.int (own_max za3 (0 : Int32))), (.int (own_max za4 (0 : Int32))), (.int (own_max za5 (0 : Int32)))] (.int (0 : Int32)) := Arv.set Ara58 qa58 Sa58 Za58 Ha58 Ga58 rfl W60 4 rfl (Nat.le_of_ble_eq_true rfl)
  have c61 : Arv Z h60 p0 kz .boolean (5 : Int32) [(.int y0), (.int y1), (.int y2), (.int y3), (.int y4)] (.int (0 : Int32)) := (c50.other W60 ne_p0_b2)
  obtain ⟨cla62, Ara62, qa62, Sa62, Za62, Ha62, Ga62⟩ := id c61
  have hin63 : ¬ ((4 : Int32) < 0 ∨ cla62.slots.size ≤ ((4 : Int32)).toNatClampNeg) := inb_of Sa62 ⟨by decide, by decide⟩
  have hat64 : cla62.slots[((4 : Int32)).toNatClampNeg]? = some (.int y4) := Has.at Ha62 hin63 rfl
  have s65 : Steps p.tables e below A₀ (T60.setTop (mkF m 72 #[.val (.ref p0), .val (.int (5 : Int32)), .val (.ref b2), .val (.ref b3), .val (.int (-1 : Int32)), .val (.int (4 : Int32))] [(.int y4)])) := by
    refine s56.trans ?_
    refine XS.istore X49.here hx rfl (hb hby d1_37) rfl (l' := #[.val (.ref p0), .val (.int (5 : Int32)), .val (.ref b2), .val (.ref b3), .val (.int za5), .val (.int (4 : Int32))]) rfl ?_
    show Steps p.tables e below (T49.setTop (mkF m 39 #[.val (.ref p0), .val (.int (5 : Int32)), .val (.ref b2), .val (.ref b3), .val (.int za5), .val (.int (4 : Int32))] [])) _
    refine XS.aloadN X49.here hx rfl (hb hby d1_39) rfl rfl ?_
    refine XS.iload X49.here hx rfl (hb hby d1_40) rfl ?_
    refine XS.iload X49.here hx rfl (hb hby d1_42) rfl ?_
    refine XS.iconst X49.here hx rfl (hb hby d1_44) ?_
    refine st57 _ ?_
    refine st60 _ ?_
    show Steps p.tables e below (T60.setTop (mkF m 49 #[.val (.ref p0), .val (.int (5 : Int32)), .val (.ref b2), .val (.ref b3), .val (.int za5), .val (.int (4 : Int32))] [])) _
    refine XS.iinc X60.here hx rfl (hb hby d1_49) rfl (l' := #[.val (.ref p0), .val (.int (5 : Int32)), .val (.ref b2), .val (.ref b3), .val (.int za5), .val (.int (5 : Int32))]) rfl ?_
    refine XS.goto X60.here hx rfl (pc0 := 52) (pc' := 17) rfl (hb hby d1_52) (by decide) (by decide) ?_
    refine XS.iload X60.here hx rfl (hb hby d1_17) rfl ?_
    refine XS.iloadN X60.here hx rfl (hb hby d1_19) rfl ?_
    refine XS.icmpYes X60.here hx rfl (pc0 := 20) (pc' := 55) rfl (hb hby d1_20) rfl (flt (by decide)).2.1 (by decide) (by decide) ?_
    refine XS.iconst X60.here hx rfl (hb hby d1_55) ?_
    show Steps p.tables e below (T60.setTop (mkF m 56 #[.val (.ref p0), .val (.int (5 : Int32)), .val (.ref b2), .val (.ref b3), .val (.int za5), .val (.int (5 : Int32))] [(.int (-1 : Int32))])) _
    refine XS.istore X60.here hx rfl (hb hby d1_56) rfl (l' := #[.val (.ref p0), .val (.int (5 : Int32)), .val (.ref b2), .val (.ref b3), .val (.int (-1 : Int32)), .val (.int (5 : Int32))]) rfl ?_
    refine XS.iloadN X60.here hx rfl (hb hby d1_58) rfl ?_
    refine XS.iconst X60.here hx rfl (hb hby d1_59) ?_
    refine XS.isub X60.here hx rfl (hb hby d1_60) rfl ?_
    refine XS.istore X60.here hx rfl (hb hby d1_61) rfl (l' := #[.val (.ref p0), .val (.int (5 : Int32)), .val (.ref b2), .val (.ref b3), .val (.int (-1 : Int32)), .val (.int (4 : Int32))]) rfl ?_
    refine XS.iload X60.here hx rfl (hb hby d1_63) rfl ?_
    show Steps p.tables e below (T60.setTop (mkF m 65 #[.val (.ref p0), .val (.int (5 : Int32)), .val (.ref b2), .val (.ref b3), .val (.int (-1 : Int32)), .val (.int (4 : Int32))] [(.int (4 : Int32))])) _
    refine XS.ifNo X60.here hx rfl (hb hby d1_65) rfl ((if0 _ _).trans (flt (by decide)).1) ?_
    refine XS.aloadN X60.here hx rfl (hb hby d1_68) rfl rfl ?_
    refine XS.iload X60.here hx rfl (hb hby d1_69) rfl ?_
    refine X60.baloadBooleans hx (j := (4 : Int32)) (v := (.int y4)) (by rw [e60]; exact Ara62.1) (State.isArrayOf_alike hZ.alike Ara62.2.1) Ara62.2.2 hin63 hat64 (g := (mkF m 71 #[.val (.ref p0), .val (.int (5 : Int32)), .val (.ref b2), .val (.ref b3), .val (.int (-1 : Int32)), .val (.int (4 : Int32))] [(.int (4 : Int32)), (.ref p0)])) rfl rfl (hb hby d1_71) _ ?_
    exact Steps.refl _
  have s67 : Steps p.tables e below A₀ (T60.setTop (mkF m 82 #[.val (.ref p0), .val (.int (5 : Int32)), .val (.ref b2), .val (.ref b3), .val (.int (-1 : Int32)), .val (.int (4 : Int32))] [(.int (if y4 = (0 : Int32) then (4 : Int32) else (-1 : Int32)))])) := by
    by_cases hm66 : y4 = (0 : Int32)
    · simp only [if_pos hm66]
      refine s65.trans ?_
      refine XS.ifYes X60.here hx rfl (pc0 := 72) (pc' := 80) rfl (hb hby d1_72) rfl ((if0 _ _).trans (teq hm66).1) (by decide) (by decide) ?_
      show Steps p.tables e below (T60.setTop (mkF m 80 #[.val (.ref p0), .val (.int (5 : Int32)), .val (.ref b2), .val (.ref b3), .val (.int (-1 : Int32)), .val (.int (4 : Int32))] [])) _
      refine XS.iload X60.here hx rfl (hb hby d1_80) rfl ?_
      exact Steps.refl _
    · simp only [if_neg hm66]
      refine s65.trans ?_
      refine XS.ifNo X60.here hx rfl (hb hby d1_72) rfl ((if0 _ _).trans (feq hm66).1) ?_
      show Steps p.tables e below (T60.setTop (mkF m 75 #[.val (.ref p0), .val (.int (5 : Int32)), .val (.ref b2), .val (.ref b3), .val (.int (-1 : Int32)), .val (.int (4 : Int32))] [])) _
      refine XS.iload X60.here hx rfl (hb hby d1_75) rfl ?_
      refine XS.goto X60.here hx rfl (pc0 := 77) (pc' := 82) rfl (hb hby d1_77) (by decide) (by decide) ?_
      exact Steps.refl _
  obtain ⟨zb6, hzb6⟩ : ∃ z, z = (if y4 = (0 : Int32) then (4 : Int32) else (-1 : Int32)) := ⟨_, rfl⟩
  rw [← hzb6] at s67
  have s68 : Steps p.tables e below A₀ (T60.setTop (mkF m 89 #[.val (.ref p0), .val (.int (5 : Int32)), .val (.ref b2), .val (.ref b3), .val (.int zb6), .val (.int (4 : Int32))] [(.int zb6), (.int (4 : Int32)), (.ref b3)])) := by
    refine s67.trans ?_
    refine XS.istore X60.here hx rfl (hb hby d1_82) rfl (l' := #[.val (.ref p0), .val (.int (5 : Int32)), .val (.ref b2), .val (.ref b3), .val (.int zb6), .val (.int (4 : Int32))]) rfl ?_
    show Steps p.tables e below (T60.setTop (mkF m 84 #[.val (.ref p0), .val (.int (5 : Int32)), .val (.ref b2), .val (.ref b3), .val (.int zb6), .val (.int (4 : Int32))] [])) _
    refine XS.aloadN X60.here hx rfl (hb hby d1_84) rfl rfl ?_
    refine XS.iload X60.here hx rfl (hb hby d1_85) rfl ?_
    refine XS.iload X60.here hx rfl (hb hby d1_87) rfl ?_
    exact Steps.refl _
  have s70 : Steps p.tables e below A₀ (T60.setTop (mkF m 100 #[.val (.ref p0), .val (.int (5 : Int32)), .val (.ref b2), .val (.ref b3), .val (.int zb6), .val (.int (4 : Int32))] [(.int (if zb6 < (0 : Int32) then (4 : Int32) else zb6)), (.int (4 : Int32)), (.ref b3)])) := by
    by_cases hm69 : zb6 < (0 : Int32)
    · simp only [if_pos hm69]
      refine s68.trans ?_
      refine XS.ifNo X60.here hx rfl (hb hby d1_89) rfl ((if0 _ _).trans (tlt hm69).2.1) ?_
      show Steps p.tables e below (T60.setTop (mkF m 92 #[.val (.ref p0), .val (.int (5 : Int32)), .val (.ref b2), .val (.ref b3), .val (.int zb6), .val (.int (4 : Int32))] [(.int (4 : Int32)), (.ref b3)])) _
      refine XS.iloadN X60.here hx rfl (hb hby d1_92) rfl ?_
      refine XS.iconst X60.here hx rfl (hb hby d1_93) ?_
      refine XS.isub X60.here hx rfl (hb hby d1_94) rfl ?_
      refine XS.goto X60.here hx rfl (pc0 := 95) (pc' := 100) rfl (hb hby d1_95) (by decide) (by decide) ?_
      exact Steps.refl _
    · simp only [if_neg hm69]
      refine s68.trans ?_
      refine XS.ifYes X60.here hx rfl (pc0 := 89) (pc' := 98) rfl (hb hby d1_89) rfl ((if0 _ _).trans (flt hm69).2.1) (by decide) (by decide) ?_
      show Steps p.tables e below (T60.setTop (mkF m 98 #[.val (.ref p0), .val (.int (5 : Int32)), .val (.ref b2), .val (.ref b3), .val (.int zb6), .val (.int (4 : Int32))] [(.int (4 : Int32)), (.ref b3)])) _
      refine XS.iload X60.here hx rfl (hb hby d1_98) rfl ?_
      exact Steps.refl _
  obtain ⟨zc7, hzc7⟩ : ∃ z, z = (if zb6 < (0 : Int32) then (4 : Int32) else zb6) := ⟨_, rfl⟩
  rw [← hzc7] at s70
  have c71 : Arv Z h60 b3 k3 .int (5 : Int32) [(.int (0 : Int32)), (.int (0 : Int32)), (.int (0 : Int32)), (.int (0 : Int32)), (.int (0 : Int32))] (.int (0 : Int32)) := (((((V3.other W16 (Ne.symm ne_b2_b3)).other W27 (Ne.symm ne_b2_b3)).other W38 (Ne.symm ne_b2_b3)).other W49 (Ne.symm ne_b2_b3)).other W60 (Ne.symm ne_b2_b3))
  obtain ⟨cla72, Ara72, qa72, Sa72, Za72, Ha72, Ga72⟩ := id c71
  have hin73 : ¬ ((4 : Int32) < 0 ∨ cla72.slots.size ≤ ((4 : Int32)).toNatClampNeg) := inb_of Sa72 ⟨by decide, by decide⟩
  obtain ⟨T74, h74, X74, e74, W74, st74⟩ := stI X60 hx hZ e60 Ara72 (j := (4 : Int32)) hin73 (g := (mkF m 100 #[.val (.ref p0), .val (.int (5 : Int32)), .val (.ref b2), .val (.ref b3), .val (.int zb6), .val (.int (4 : Int32))] [(.int zc7), (.int (4 : Int32)), (.ref b3)])) rfl rfl (hb hby d1_100)
  have O74 := O60.wr W74 g_b3
  have K74 : Keep h0 h74 [] := K60.wr W74 (Or.inr sz_b3)
  have N74 := Fr.snoc X74 N60 g_b3
  have V74 : Arv Z h74 b3 k3 .int (5 : Int32) [(.int (0 : Int32)), (.int (0 : Int32)), (.int (0 : Int32)), (.int (0 : Int32)), (.int zc7)] (.int (0 : Int32)) := Arv.set Ara72 qa72 Sa72 Za72 Ha72 Ga72 rfl W74 4 rfl (Nat.le_of_ble_eq_true rfl)
  have c75 : Arv Z h74 p0 kz .boolean (5 : Int32) [(.int y0), (.int y1), (.int y2), (.int y3), (.int y4)] (.int (0 : Int32)) := (c61.other W74 ne_p0_b3)
  obtain ⟨cla76, Ara76, qa76, Sa76, Za76, Ha76, Ga76⟩ := id c75
  have hin77 : ¬ ((3 : Int32) < 0 ∨ cla76.slots.size ≤ ((3 : Int32)).toNatClampNeg) := inb_of Sa76 ⟨by decide, by decide⟩
  have hat78 : cla76.slots[((3 : Int32)).toNatClampNeg]? = some (.int y3) := Has.at Ha76 hin77 rfl
  have s79 : Steps p.tables e below A₀ (T74.setTop (mkF m 72 #[.val (.ref p0), .val (.int (5 : Int32)), .val (.ref b2), .val (.ref b3), .val (.int zb6), .val (.int (3 : Int32))] [(.int y3)])) := by
    refine s70.trans ?_
    refine st74 _ ?_
    show Steps p.tables e below (T74.setTop (mkF m 101 #[.val (.ref p0), .val (.int (5 : Int32)), .val (.ref b2), .val (.ref b3), .val (.int zb6), .val (.int (4 : Int32))] [])) _
    refine XS.iinc X74.here hx rfl (hb hby d1_101) rfl (l' := #[.val (.ref p0), .val (.int (5 : Int32)), .val (.ref b2), .val (.ref b3), .val (.int zb6), .val (.int (3 : Int32))]) rfl ?_
    refine XS.goto X74.here hx rfl (pc0 := 104) (pc' := 63) rfl (hb hby d1_104) (by decide) (by decide) ?_
    refine XS.iload X74.here hx rfl (hb hby d1_63) rfl ?_
    refine XS.ifNo X74.here hx rfl (hb hby d1_65) rfl ((if0 _ _).trans (flt (by decide)).1) ?_
    refine XS.aloadN X74.here hx rfl (hb hby d1_68) rfl rfl ?_
    refine XS.iload X74.here hx rfl (hb hby d1_69) rfl ?_
    show Steps p.tables e below (T74.setTop (mkF m 71 #[.val (.ref p0), .val (.int (5 : Int32)), .val (.ref b2), .val (.ref b3), .val (.int zb6), .val (.int (3 : Int32))] [(.int (3 : Int32)), (.ref p0)])) _
    refine X74.baloadBooleans hx (j := (3 : Int32)) (v := (.int y3)) (by rw [e74]; exact Ara76.1) (State.isArrayOf_alike hZ.alike Ara76.2.1) Ara76.2.2 hin77 hat78 (g := (mkF m 71 #[.val (.ref p0), .val (.int (5 : Int32)), .val (.ref b2), .val (.ref b3), .val (.int zb6), .val (.int (3 : Int32))] [(.int (3 : Int32)), (.ref p0)])) rfl rfl (hb hby d1_71) _ ?_
    exact Steps.refl _
  have s81 : Steps p.tables e below A₀ (T74.setTop (mkF m 82 #[.val (.ref p0), .val (.int (5 : Int32)), .val (.ref b2), .val (.ref b3), .val (.int zb6), .val (.int (3 : Int32))] [(.int (if y3 = (0 : Int32) then (3 : Int32) else zb6))])) := by
    by_cases hm80 : y3 = (0 : Int32)
    · simp only [if_pos hm80]
      refine s79.trans ?_
      refine XS.ifYes X74.here hx rfl (pc0 := 72) (pc' := 80) rfl (hb hby d1_72) rfl ((if0 _ _).trans (teq hm80).1) (by decide) (by decide) ?_
      show Steps p.tables e below (T74.setTop (mkF m 80 #[.val (.ref p0), .val (.int (5 : Int32)), .val (.ref b2), .val (.ref b3), .val (.int zb6), .val (.int (3 : Int32))] [])) _
      refine XS.iload X74.here hx rfl (hb hby d1_80) rfl ?_
      exact Steps.refl _
    · simp only [if_neg hm80]
      refine s79.trans ?_
      refine XS.ifNo X74.here hx rfl (hb hby d1_72) rfl ((if0 _ _).trans (feq hm80).1) ?_
      show Steps p.tables e below (T74.setTop (mkF m 75 #[.val (.ref p0), .val (.int (5 : Int32)), .val (.ref b2), .val (.ref b3), .val (.int zb6), .val (.int (3 : Int32))] [])) _
      refine XS.iload X74.here hx rfl (hb hby d1_75) rfl ?_
      refine XS.goto X74.here hx rfl (pc0 := 77) (pc' := 82) rfl (hb hby d1_77) (by decide) (by decide) ?_
      exact Steps.refl _
  obtain ⟨zb8, hzb8⟩ : ∃ z, z = (if y3 = (0 : Int32) then (3 : Int32) else zb6) := ⟨_, rfl⟩
  rw [← hzb8] at s81
  have s82 : Steps p.tables e below A₀ (T74.setTop (mkF m 89 #[.val (.ref p0), .val (.int (5 : Int32)), .val (.ref b2), .val (.ref b3), .val (.int zb8), .val (.int (3 : Int32))] [(.int zb8), (.int (3 : Int32)), (.ref b3)])) := by
    refine s81.trans ?_
    refine XS.istore X74.here hx rfl (hb hby d1_82) rfl (l' := #[.val (.ref p0), .val (.int (5 : Int32)), .val (.ref b2), .val (.ref b3), .val (.int zb8), .val (.int (3 : Int32))]) rfl ?_
    show Steps p.tables e below (T74.setTop (mkF m 84 #[.val (.ref p0), .val (.int (5 : Int32)), .val (.ref b2), .val (.ref b3), .val (.int zb8), .val (.int (3 : Int32))] [])) _
    refine XS.aloadN X74.here hx rfl (hb hby d1_84) rfl rfl ?_
    refine XS.iload X74.here hx rfl (hb hby d1_85) rfl ?_
    refine XS.iload X74.here hx rfl (hb hby d1_87) rfl ?_
    exact Steps.refl _
  have s84 : Steps p.tables e below A₀ (T74.setTop (mkF m 100 #[.val (.ref p0), .val (.int (5 : Int32)), .val (.ref b2), .val (.ref b3), .val (.int zb8), .val (.int (3 : Int32))] [(.int (if zb8 < (0 : Int32) then (4 : Int32) else zb8)), (.int (3 : Int32)), (.ref b3)])) := by
    by_cases hm83 : zb8 < (0 : Int32)
    · simp only [if_pos hm83]
      refine s82.trans ?_
      refine XS.ifNo X74.here hx rfl (hb hby d1_89) rfl ((if0 _ _).trans (tlt hm83).2.1) ?_
      show Steps p.tables e below (T74.setTop (mkF m 92 #[.val (.ref p0), .val (.int (5 : Int32)), .val (.ref b2), .val (.ref b3), .val (.int zb8), .val (.int (3 : Int32))] [(.int (3 : Int32)), (.ref b3)])) _
      refine XS.iloadN X74.here hx rfl (hb hby d1_92) rfl ?_
      refine XS.iconst X74.here hx rfl (hb hby d1_93) ?_
      refine XS.isub X74.here hx rfl (hb hby d1_94) rfl ?_
      refine XS.goto X74.here hx rfl (pc0 := 95) (pc' := 100) rfl (hb hby d1_95) (by decide) (by decide) ?_
      exact Steps.refl _
    · simp only [if_neg hm83]
      refine s82.trans ?_
      refine XS.ifYes X74.here hx rfl (pc0 := 89) (pc' := 98) rfl (hb hby d1_89) rfl ((if0 _ _).trans (flt hm83).2.1) (by decide) (by decide) ?_
      show Steps p.tables e below (T74.setTop (mkF m 98 #[.val (.ref p0), .val (.int (5 : Int32)), .val (.ref b2), .val (.ref b3), .val (.int zb8), .val (.int (3 : Int32))] [(.int (3 : Int32)), (.ref b3)])) _
      refine XS.iload X74.here hx rfl (hb hby d1_98) rfl ?_
      exact Steps.refl _
  obtain ⟨zc9, hzc9⟩ : ∃ z, z = (if zb8 < (0 : Int32) then (4 : Int32) else zb8) := ⟨_, rfl⟩
  rw [← hzc9] at s84
  obtain ⟨cla85, Ara85, qa85, Sa85, Za85, Ha85, Ga85⟩ := id V74
  have hin86 : ¬ ((3 : Int32) < 0 ∨ cla85.slots.size ≤ ((3 : Int32)).toNatClampNeg) := inb_of Sa85 ⟨by decide, by decide⟩
  obtain ⟨T87, h87, X87, e87, W87, st87⟩ := stI X74 hx hZ e74 Ara85 (j := (3 : Int32)) hin86 (g := (mkF m 100 #[.val (.ref p0), .val (.int (5 : Int32)), .val (.ref b2), .val (.ref b3), .val (.int zb8), .val (.int (3 : Int32))] [(.int zc9), (.int (3 : Int32)), (.ref b3)])) rfl rfl (hb hby d1_100)
  have O87 := O74.wr W87 g_b3
  have K87 : Keep h0 h87 [] := K74.wr W87 (Or.inr sz_b3)
  have N87 := Fr.snoc X87 N74 g_b3
  have V87 : Arv Z h87 b3 k3 .int (5 : Int32) [(.int (0 : Int32)), (.int (0 : Int32)), (.int (0 : Int32)), (.int zc9), (.int zc7)] (.int (0 : Int32)) := Arv.set Ara85 qa85 Sa85 Za85 Ha85 Ga85 rfl W87 3 rfl (Nat.le_of_ble_eq_true rfl)
  have c88 : Arv Z h87 p0 kz .boolean (5 : Int32) [(.int y0), (.int y1), (.int y2), (.int y3), (.int y4)] (.int (0 : Int32)) := (c75.other W87 ne_p0_b3)
  obtain ⟨cla89, Ara89, qa89, Sa89, Za89, Ha89, Ga89⟩ := id c88
  have hin90 : ¬ ((2 : Int32) < 0 ∨ cla89.slots.size ≤ ((2 : Int32)).toNatClampNeg) := inb_of Sa89 ⟨by decide, by decide⟩
  have hat91 : cla89.slots[((2 : Int32)).toNatClampNeg]? = some (.int y2) := Has.at Ha89 hin90 rfl
  have s92 : Steps p.tables e below A₀ (T87.setTop (mkF m 72 #[.val (.ref p0), .val (.int (5 : Int32)), .val (.ref b2), .val (.ref b3), .val (.int zb8), .val (.int (2 : Int32))] [(.int y2)])) := by
    refine s84.trans ?_
    refine st87 _ ?_
    show Steps p.tables e below (T87.setTop (mkF m 101 #[.val (.ref p0), .val (.int (5 : Int32)), .val (.ref b2), .val (.ref b3), .val (.int zb8), .val (.int (3 : Int32))] [])) _
    refine XS.iinc X87.here hx rfl (hb hby d1_101) rfl (l' := #[.val (.ref p0), .val (.int (5 : Int32)), .val (.ref b2), .val (.ref b3), .val (.int zb8), .val (.int (2 : Int32))]) rfl ?_
    refine XS.goto X87.here hx rfl (pc0 := 104) (pc' := 63) rfl (hb hby d1_104) (by decide) (by decide) ?_
    refine XS.iload X87.here hx rfl (hb hby d1_63) rfl ?_
    refine XS.ifNo X87.here hx rfl (hb hby d1_65) rfl ((if0 _ _).trans (flt (by decide)).1) ?_
    refine XS.aloadN X87.here hx rfl (hb hby d1_68) rfl rfl ?_
    refine XS.iload X87.here hx rfl (hb hby d1_69) rfl ?_
    show Steps p.tables e below (T87.setTop (mkF m 71 #[.val (.ref p0), .val (.int (5 : Int32)), .val (.ref b2), .val (.ref b3), .val (.int zb8), .val (.int (2 : Int32))] [(.int (2 : Int32)), (.ref p0)])) _
    refine X87.baloadBooleans hx (j := (2 : Int32)) (v := (.int y2)) (by rw [e87]; exact Ara89.1) (State.isArrayOf_alike hZ.alike Ara89.2.1) Ara89.2.2 hin90 hat91 (g := (mkF m 71 #[.val (.ref p0), .val (.int (5 : Int32)), .val (.ref b2), .val (.ref b3), .val (.int zb8), .val (.int (2 : Int32))] [(.int (2 : Int32)), (.ref p0)])) rfl rfl (hb hby d1_71) _ ?_
    exact Steps.refl _
  have s94 : Steps p.tables e below A₀ (T87.setTop (mkF m 82 #[.val (.ref p0), .val (.int (5 : Int32)), .val (.ref b2), .val (.ref b3), .val (.int zb8), .val (.int (2 : Int32))] [(.int (if y2 = (0 : Int32) then (2 : Int32) else zb8))])) := by
    by_cases hm93 : y2 = (0 : Int32)
    · simp only [if_pos hm93]
      refine s92.trans ?_
      refine XS.ifYes X87.here hx rfl (pc0 := 72) (pc' := 80) rfl (hb hby d1_72) rfl ((if0 _ _).trans (teq hm93).1) (by decide) (by decide) ?_
      show Steps p.tables e below (T87.setTop (mkF m 80 #[.val (.ref p0), .val (.int (5 : Int32)), .val (.ref b2), .val (.ref b3), .val (.int zb8), .val (.int (2 : Int32))] [])) _
      refine XS.iload X87.here hx rfl (hb hby d1_80) rfl ?_
      exact Steps.refl _
    · simp only [if_neg hm93]
      refine s92.trans ?_
      refine XS.ifNo X87.here hx rfl (hb hby d1_72) rfl ((if0 _ _).trans (feq hm93).1) ?_
      show Steps p.tables e below (T87.setTop (mkF m 75 #[.val (.ref p0), .val (.int (5 : Int32)), .val (.ref b2), .val (.ref b3), .val (.int zb8), .val (.int (2 : Int32))] [])) _
      refine XS.iload X87.here hx rfl (hb hby d1_75) rfl ?_
      refine XS.goto X87.here hx rfl (pc0 := 77) (pc' := 82) rfl (hb hby d1_77) (by decide) (by decide) ?_
      exact Steps.refl _
  obtain ⟨zb10, hzb10⟩ : ∃ z, z = (if y2 = (0 : Int32) then (2 : Int32) else zb8) := ⟨_, rfl⟩
  rw [← hzb10] at s94
  have s95 : Steps p.tables e below A₀ (T87.setTop (mkF m 89 #[.val (.ref p0), .val (.int (5 : Int32)), .val (.ref b2), .val (.ref b3), .val (.int zb10), .val (.int (2 : Int32))] [(.int zb10), (.int (2 : Int32)), (.ref b3)])) := by
    refine s94.trans ?_
    refine XS.istore X87.here hx rfl (hb hby d1_82) rfl (l' := #[.val (.ref p0), .val (.int (5 : Int32)), .val (.ref b2), .val (.ref b3), .val (.int zb10), .val (.int (2 : Int32))]) rfl ?_
    show Steps p.tables e below (T87.setTop (mkF m 84 #[.val (.ref p0), .val (.int (5 : Int32)), .val (.ref b2), .val (.ref b3), .val (.int zb10), .val (.int (2 : Int32))] [])) _
    refine XS.aloadN X87.here hx rfl (hb hby d1_84) rfl rfl ?_
    refine XS.iload X87.here hx rfl (hb hby d1_85) rfl ?_
    refine XS.iload X87.here hx rfl (hb hby d1_87) rfl ?_
    exact Steps.refl _
  have s97 : Steps p.tables e below A₀ (T87.setTop (mkF m 100 #[.val (.ref p0), .val (.int (5 : Int32)), .val (.ref b2), .val (.ref b3), .val (.int zb10), .val (.int (2 : Int32))] [(.int (if zb10 < (0 : Int32) then (4 : Int32) else zb10)), (.int (2 : Int32)), (.ref b3)])) := by
    by_cases hm96 : zb10 < (0 : Int32)
    · simp only [if_pos hm96]
      refine s95.trans ?_
      refine XS.ifNo X87.here hx rfl (hb hby d1_89) rfl ((if0 _ _).trans (tlt hm96).2.1) ?_
      show Steps p.tables e below (T87.setTop (mkF m 92 #[.val (.ref p0), .val (.int (5 : Int32)), .val (.ref b2), .val (.ref b3), .val (.int zb10), .val (.int (2 : Int32))] [(.int (2 : Int32)), (.ref b3)])) _
      refine XS.iloadN X87.here hx rfl (hb hby d1_92) rfl ?_
      refine XS.iconst X87.here hx rfl (hb hby d1_93) ?_
      refine XS.isub X87.here hx rfl (hb hby d1_94) rfl ?_
      refine XS.goto X87.here hx rfl (pc0 := 95) (pc' := 100) rfl (hb hby d1_95) (by decide) (by decide) ?_
      exact Steps.refl _
    · simp only [if_neg hm96]
      refine s95.trans ?_
      refine XS.ifYes X87.here hx rfl (pc0 := 89) (pc' := 98) rfl (hb hby d1_89) rfl ((if0 _ _).trans (flt hm96).2.1) (by decide) (by decide) ?_
      show Steps p.tables e below (T87.setTop (mkF m 98 #[.val (.ref p0), .val (.int (5 : Int32)), .val (.ref b2), .val (.ref b3), .val (.int zb10), .val (.int (2 : Int32))] [(.int (2 : Int32)), (.ref b3)])) _
      refine XS.iload X87.here hx rfl (hb hby d1_98) rfl ?_
      exact Steps.refl _
  obtain ⟨zc11, hzc11⟩ : ∃ z, z = (if zb10 < (0 : Int32) then (4 : Int32) else zb10) := ⟨_, rfl⟩
  rw [← hzc11] at s97
  obtain ⟨cla98, Ara98, qa98, Sa98, Za98, Ha98, Ga98⟩ := id V87
  have hin99 : ¬ ((2 : Int32) < 0 ∨ cla98.slots.size ≤ ((2 : Int32)).toNatClampNeg) := inb_of Sa98 ⟨by decide, by decide⟩
  obtain ⟨T100, h100, X100, e100, W100, st100⟩ := stI X87 hx hZ e87 Ara98 (j := (2 : Int32)) hin99 (g := (mkF m 100 #[.val (.ref p0), .val (.int (5 : Int32)), .val (.ref b2), .val (.ref b3), .val (.int zb10), .val (.int (2 : Int32))] [(.int zc11), (.int (2 : Int32)), (.ref b3)])) rfl rfl (hb hby d1_100)
  have O100 := O87.wr W100 g_b3
  have K100 : Keep h0 h100 [] := K87.wr W100 (Or.inr sz_b3)
  have N100 := Fr.snoc X100 N87 g_b3
  have V100 : Arv Z h100 b3 k3 .int (5 : Int32) [(.int (0 : Int32)), (.int (0 : Int32)), (.int zc11), (.int zc9), (.int zc7)] (.int (0 : Int32)) := Arv.set Ara98 qa98 Sa98 Za98 Ha98 Ga98 rfl W100 2 rfl (Nat.le_of_ble_eq_true rfl)
  have c101 : Arv Z h100 p0 kz .boolean (5 : Int32) [(.int y0), (.int y1), (.int y2), (.int y3), (.int y4)] (.int (0 : Int32)) := (c88.other W100 ne_p0_b3)
  obtain ⟨cla102, Ara102, qa102, Sa102, Za102, Ha102, Ga102⟩ := id c101
  have hin103 : ¬ ((1 : Int32) < 0 ∨ cla102.slots.size ≤ ((1 : Int32)).toNatClampNeg) := inb_of Sa102 ⟨by decide, by decide⟩
  have hat104 : cla102.slots[((1 : Int32)).toNatClampNeg]? = some (.int y1) := Has.at Ha102 hin103 rfl
  have s105 : Steps p.tables e below A₀ (T100.setTop (mkF m 72 #[.val (.ref p0), .val (.int (5 : Int32)), .val (.ref b2), .val (.ref b3), .val (.int zb10), .val (.int (1 : Int32))] [(.int y1)])) := by
    refine s97.trans ?_
    refine st100 _ ?_
    show Steps p.tables e below (T100.setTop (mkF m 101 #[.val (.ref p0), .val (.int (5 : Int32)), .val (.ref b2), .val (.ref b3), .val (.int zb10), .val (.int (2 : Int32))] [])) _
    refine XS.iinc X100.here hx rfl (hb hby d1_101) rfl (l' := #[.val (.ref p0), .val (.int (5 : Int32)), .val (.ref b2), .val (.ref b3), .val (.int zb10), .val (.int (1 : Int32))]) rfl ?_
    refine XS.goto X100.here hx rfl (pc0 := 104) (pc' := 63) rfl (hb hby d1_104) (by decide) (by decide) ?_
    refine XS.iload X100.here hx rfl (hb hby d1_63) rfl ?_
    refine XS.ifNo X100.here hx rfl (hb hby d1_65) rfl ((if0 _ _).trans (flt (by decide)).1) ?_
    refine XS.aloadN X100.here hx rfl (hb hby d1_68) rfl rfl ?_
    refine XS.iload X100.here hx rfl (hb hby d1_69) rfl ?_
    show Steps p.tables e below (T100.setTop (mkF m 71 #[.val (.ref p0), .val (.int (5 : Int32)), .val (.ref b2), .val (.ref b3), .val (.int zb10), .val (.int (1 : Int32))] [(.int (1 : Int32)), (.ref p0)])) _
    refine X100.baloadBooleans hx (j := (1 : Int32)) (v := (.int y1)) (by rw [e100]; exact Ara102.1) (State.isArrayOf_alike hZ.alike Ara102.2.1) Ara102.2.2 hin103 hat104 (g := (mkF m 71 #[.val (.ref p0), .val (.int (5 : Int32)), .val (.ref b2), .val (.ref b3), .val (.int zb10), .val (.int (1 : Int32))] [(.int (1 : Int32)), (.ref p0)])) rfl rfl (hb hby d1_71) _ ?_
    exact Steps.refl _
  have s107 : Steps p.tables e below A₀ (T100.setTop (mkF m 82 #[.val (.ref p0), .val (.int (5 : Int32)), .val (.ref b2), .val (.ref b3), .val (.int zb10), .val (.int (1 : Int32))] [(.int (if y1 = (0 : Int32) then (1 : Int32) else zb10))])) := by
    by_cases hm106 : y1 = (0 : Int32)
    · simp only [if_pos hm106]
      refine s105.trans ?_
      refine XS.ifYes X100.here hx rfl (pc0 := 72) (pc' := 80) rfl (hb hby d1_72) rfl ((if0 _ _).trans (teq hm106).1) (by decide) (by decide) ?_
      show Steps p.tables e below (T100.setTop (mkF m 80 #[.val (.ref p0), .val (.int (5 : Int32)), .val (.ref b2), .val (.ref b3), .val (.int zb10), .val (.int (1 : Int32))] [])) _
      refine XS.iload X100.here hx rfl (hb hby d1_80) rfl ?_
      exact Steps.refl _
    · simp only [if_neg hm106]
      refine s105.trans ?_
      refine XS.ifNo X100.here hx rfl (hb hby d1_72) rfl ((if0 _ _).trans (feq hm106).1) ?_
      show Steps p.tables e below (T100.setTop (mkF m 75 #[.val (.ref p0), .val (.int (5 : Int32)), .val (.ref b2), .val (.ref b3), .val (.int zb10), .val (.int (1 : Int32))] [])) _
      refine XS.iload X100.here hx rfl (hb hby d1_75) rfl ?_
      refine XS.goto X100.here hx rfl (pc0 := 77) (pc' := 82) rfl (hb hby d1_77) (by decide) (by decide) ?_
      exact Steps.refl _
  obtain ⟨zb12, hzb12⟩ : ∃ z, z = (if y1 = (0 : Int32) then (1 : Int32) else zb10) := ⟨_, rfl⟩
  rw [← hzb12] at s107
  have s108 : Steps p.tables e below A₀ (T100.setTop (mkF m 89 #[.val (.ref p0), .val (.int (5 : Int32)), .val (.ref b2), .val (.ref b3), .val (.int zb12), .val (.int (1 : Int32))] [(.int zb12), (.int (1 : Int32)), (.ref b3)])) := by
    refine s107.trans ?_
    refine XS.istore X100.here hx rfl (hb hby d1_82) rfl (l' := #[.val (.ref p0), .val (.int (5 : Int32)), .val (.ref b2), .val (.ref b3), .val (.int zb12), .val (.int (1 : Int32))]) rfl ?_
    show Steps p.tables e below (T100.setTop (mkF m 84 #[.val (.ref p0), .val (.int (5 : Int32)), .val (.ref b2), .val (.ref b3), .val (.int zb12), .val (.int (1 : Int32))] [])) _
    refine XS.aloadN X100.here hx rfl (hb hby d1_84) rfl rfl ?_
    refine XS.iload X100.here hx rfl (hb hby d1_85) rfl ?_
    refine XS.iload X100.here hx rfl (hb hby d1_87) rfl ?_
    exact Steps.refl _
  have s110 : Steps p.tables e below A₀ (T100.setTop (mkF m 100 #[.val (.ref p0), .val (.int (5 : Int32)), .val (.ref b2), .val (.ref b3), .val (.int zb12), .val (.int (1 : Int32))] [(.int (if zb12 < (0 : Int32) then (4 : Int32) else zb12)), (.int (1 : Int32)), (.ref b3)])) := by
    by_cases hm109 : zb12 < (0 : Int32)
    · simp only [if_pos hm109]
      refine s108.trans ?_
      refine XS.ifNo X100.here hx rfl (hb hby d1_89) rfl ((if0 _ _).trans (tlt hm109).2.1) ?_
      show Steps p.tables e below (T100.setTop (mkF m 92 #[.val (.ref p0), .val (.int (5 : Int32)), .val (.ref b2), .val (.ref b3), .val (.int zb12), .val (.int (1 : Int32))] [(.int (1 : Int32)), (.ref b3)])) _
      refine XS.iloadN X100.here hx rfl (hb hby d1_92) rfl ?_
      refine XS.iconst X100.here hx rfl (hb hby d1_93) ?_
      refine XS.isub X100.here hx rfl (hb hby d1_94) rfl ?_
      refine XS.goto X100.here hx rfl (pc0 := 95) (pc' := 100) rfl (hb hby d1_95) (by decide) (by decide) ?_
      exact Steps.refl _
    · simp only [if_neg hm109]
      refine s108.trans ?_
      refine XS.ifYes X100.here hx rfl (pc0 := 89) (pc' := 98) rfl (hb hby d1_89) rfl ((if0 _ _).trans (flt hm109).2.1) (by decide) (by decide) ?_
      show Steps p.tables e below (T100.setTop (mkF m 98 #[.val (.ref p0), .val (.int (5 : Int32)), .val (.ref b2), .val (.ref b3), .val (.int zb12), .val (.int (1 : Int32))] [(.int (1 : Int32)), (.ref b3)])) _
      refine XS.iload X100.here hx rfl (hb hby d1_98) rfl ?_
      exact Steps.refl _
  obtain ⟨zc13, hzc13⟩ : ∃ z, z = (if zb12 < (0 : Int32) then (4 : Int32) else zb12) := ⟨_, rfl⟩
  rw [← hzc13] at s110
  obtain ⟨cla111, Ara111, qa111, Sa111, Za111, Ha111, Ga111⟩ := id V100
  have hin112 : ¬ ((1 : Int32) < 0 ∨ cla111.slots.size ≤ ((1 : Int32)).toNatClampNeg) := inb_of Sa111 ⟨by decide, by decide⟩
  obtain ⟨T113, h113, X113, e113, W113, st113⟩ := stI X100 hx hZ e100 Ara111 (j := (1 : Int32)) hin112 (g := (mkF m 100 #[.val (.ref p0), .val (.int (5 : Int32)), .val (.ref b2), .val (.ref b3), .val (.int zb12), .val (.int (1 : Int32))] [(.int zc13), (.int (1 : Int32)), (.ref b3)])) rfl rfl (hb hby d1_100)
  have O113 := O100.wr W113 g_b3
  have K113 : Keep h0 h113 [] := K100.wr W113 (Or.inr sz_b3)
  have N113 := Fr.snoc X113 N100 g_b3
  have V113 : Arv Z h113 b3 k3 .int (5 : Int32) [(.int (0 : Int32)), (.int zc13), (.int zc11), (.int zc9), (.int zc7)] (.int (0 : Int32)) := Arv.set Ara111 qa111 Sa111 Za111 Ha111 Ga111 rfl W113 1 rfl (Nat.le_of_ble_eq_true rfl)
  have c114 : Arv Z h113 p0 kz .boolean (5 : Int32) [(.int y0), (.int y1), (.int y2), (.int y3), (.int y4)] (.int (0 : Int32)) := (c101.other W113 ne_p0_b3)
  obtain ⟨cla115, Ara115, qa115, Sa115, Za115, Ha115, Ga115⟩ := id c114
  have hin116 : ¬ ((0 : Int32) < 0 ∨ cla115.slots.size ≤ ((0 : Int32)).toNatClampNeg) := inb_of Sa115 ⟨by decide, by decide⟩
  have hat117 : cla115.slots[((0 : Int32)).toNatClampNeg]? = some (.int y0) := Has.at Ha115 hin116 rfl
  have s118 : Steps p.tables e below A₀ (T113.setTop (mkF m 72 #[.val (.ref p0), .val (.int (5 : Int32)), .val (.ref b2), .val (.ref b3), .val (.int zb12), .val (.int (0 : Int32))] [(.int y0)])) := by
    refine s110.trans ?_
    refine st113 _ ?_
    show Steps p.tables e below (T113.setTop (mkF m 101 #[.val (.ref p0), .val (.int (5 : Int32)), .val (.ref b2), .val (.ref b3), .val (.int zb12), .val (.int (1 : Int32))] [])) _
    refine XS.iinc X113.here hx rfl (hb hby d1_101) rfl (l' := #[.val (.ref p0), .val (.int (5 : Int32)), .val (.ref b2), .val (.ref b3), .val (.int zb12), .val (.int (0 : Int32))]) rfl ?_
    refine XS.goto X113.here hx rfl (pc0 := 104) (pc' := 63) rfl (hb hby d1_104) (by decide) (by decide) ?_
    refine XS.iload X113.here hx rfl (hb hby d1_63) rfl ?_
    refine XS.ifNo X113.here hx rfl (hb hby d1_65) rfl ((if0 _ _).trans (flt (by decide)).1) ?_
    refine XS.aloadN X113.here hx rfl (hb hby d1_68) rfl rfl ?_
    refine XS.iload X113.here hx rfl (hb hby d1_69) rfl ?_
    show Steps p.tables e below (T113.setTop (mkF m 71 #[.val (.ref p0), .val (.int (5 : Int32)), .val (.ref b2), .val (.ref b3), .val (.int zb12), .val (.int (0 : Int32))] [(.int (0 : Int32)), (.ref p0)])) _
    refine X113.baloadBooleans hx (j := (0 : Int32)) (v := (.int y0)) (by rw [e113]; exact Ara115.1) (State.isArrayOf_alike hZ.alike Ara115.2.1) Ara115.2.2 hin116 hat117 (g := (mkF m 71 #[.val (.ref p0), .val (.int (5 : Int32)), .val (.ref b2), .val (.ref b3), .val (.int zb12), .val (.int (0 : Int32))] [(.int (0 : Int32)), (.ref p0)])) rfl rfl (hb hby d1_71) _ ?_
    exact Steps.refl _
  have s120 : Steps p.tables e below A₀ (T113.setTop (mkF m 82 #[.val (.ref p0), .val (.int (5 : Int32)), .val (.ref b2), .val (.ref b3), .val (.int zb12), .val (.int (0 : Int32))] [(.int (if y0 = (0 : Int32) then (0 : Int32) else zb12))])) := by
    by_cases hm119 : y0 = (0 : Int32)
    · simp only [if_pos hm119]
      refine s118.trans ?_
      refine XS.ifYes X113.here hx rfl (pc0 := 72) (pc' := 80) rfl (hb hby d1_72) rfl ((if0 _ _).trans (teq hm119).1) (by decide) (by decide) ?_
      show Steps p.tables e below (T113.setTop (mkF m 80 #[.val (.ref p0), .val (.int (5 : Int32)), .val (.ref b2), .val (.ref b3), .val (.int zb12), .val (.int (0 : Int32))] [])) _
      refine XS.iload X113.here hx rfl (hb hby d1_80) rfl ?_
      exact Steps.refl _
    · simp only [if_neg hm119]
      refine s118.trans ?_
      refine XS.ifNo X113.here hx rfl (hb hby d1_72) rfl ((if0 _ _).trans (feq hm119).1) ?_
      show Steps p.tables e below (T113.setTop (mkF m 75 #[.val (.ref p0), .val (.int (5 : Int32)), .val (.ref b2), .val (.ref b3), .val (.int zb12), .val (.int (0 : Int32))] [])) _
      refine XS.iload X113.here hx rfl (hb hby d1_75) rfl ?_
      refine XS.goto X113.here hx rfl (pc0 := 77) (pc' := 82) rfl (hb hby d1_77) (by decide) (by decide) ?_
      exact Steps.refl _
  obtain ⟨zb14, hzb14⟩ : ∃ z, z = (if y0 = (0 : Int32) then (0 : Int32) else zb12) := ⟨_, rfl⟩
  rw [← hzb14] at s120
  have s121 : Steps p.tables e below A₀ (T113.setTop (mkF m 89 #[.val (.ref p0), .val (.int (5 : Int32)), .val (.ref b2), .val (.ref b3), .val (.int zb14), .val (.int (0 : Int32))] [(.int zb14), (.int (0 : Int32)), (.ref b3)])) := by
    refine s120.trans ?_
    refine XS.istore X113.here hx rfl (hb hby d1_82) rfl (l' := #[.val (.ref p0), .val (.int (5 : Int32)), .val (.ref b2), .val (.ref b3), .val (.int zb14), .val (.int (0 : Int32))]) rfl ?_
    show Steps p.tables e below (T113.setTop (mkF m 84 #[.val (.ref p0), .val (.int (5 : Int32)), .val (.ref b2), .val (.ref b3), .val (.int zb14), .val (.int (0 : Int32))] [])) _
    refine XS.aloadN X113.here hx rfl (hb hby d1_84) rfl rfl ?_
    refine XS.iload X113.here hx rfl (hb hby d1_85) rfl ?_
    refine XS.iload X113.here hx rfl (hb hby d1_87) rfl ?_
    exact Steps.refl _
  have s123 : Steps p.tables e below A₀ (T113.setTop (mkF m 100 #[.val (.ref p0), .val (.int (5 : Int32)), .val (.ref b2), .val (.ref b3), .val (.int zb14), .val (.int (0 : Int32))] [(.int (if zb14 < (0 : Int32) then (4 : Int32) else zb14)), (.int (0 : Int32)), (.ref b3)])) := by
    by_cases hm122 : zb14 < (0 : Int32)
    · simp only [if_pos hm122]
      refine s121.trans ?_
      refine XS.ifNo X113.here hx rfl (hb hby d1_89) rfl ((if0 _ _).trans (tlt hm122).2.1) ?_
      show Steps p.tables e below (T113.setTop (mkF m 92 #[.val (.ref p0), .val (.int (5 : Int32)), .val (.ref b2), .val (.ref b3), .val (.int zb14), .val (.int (0 : Int32))] [(.int (0 : Int32)), (.ref b3)])) _
      refine XS.iloadN X113.here hx rfl (hb hby d1_92) rfl ?_
      refine XS.iconst X113.here hx rfl (hb hby d1_93) ?_
      refine XS.isub X113.here hx rfl (hb hby d1_94) rfl ?_
      refine XS.goto X113.here hx rfl (pc0 := 95) (pc' := 100) rfl (hb hby d1_95) (by decide) (by decide) ?_
      exact Steps.refl _
    · simp only [if_neg hm122]
      refine s121.trans ?_
      refine XS.ifYes X113.here hx rfl (pc0 := 89) (pc' := 98) rfl (hb hby d1_89) rfl ((if0 _ _).trans (flt hm122).2.1) (by decide) (by decide) ?_
      show Steps p.tables e below (T113.setTop (mkF m 98 #[.val (.ref p0), .val (.int (5 : Int32)), .val (.ref b2), .val (.ref b3), .val (.int zb14), .val (.int (0 : Int32))] [(.int (0 : Int32)), (.ref b3)])) _
      refine XS.iload X113.here hx rfl (hb hby d1_98) rfl ?_
      exact Steps.refl _
  obtain ⟨zc15, hzc15⟩ : ∃ z, z = (if zb14 < (0 : Int32) then (4 : Int32) else zb14) := ⟨_, rfl⟩
  rw [← hzc15] at s123
  obtain ⟨cla124, Ara124, qa124, Sa124, Za124, Ha124, Ga124⟩ := id V113
  have hin125 : ¬ ((0 : Int32) < 0 ∨ cla124.slots.size ≤ ((0 : Int32)).toNatClampNeg) := inb_of Sa124 ⟨by decide, by decide⟩
  obtain ⟨T126, h126, X126, e126, W126, st126⟩ := stI X113 hx hZ e113 Ara124 (j := (0 : Int32)) hin125 (g := (mkF m 100 #[.val (.ref p0), .val (.int (5 : Int32)), .val (.ref b2), .val (.ref b3), .val (.int zb14), .val (.int (0 : Int32))] [(.int zc15), (.int (0 : Int32)), (.ref b3)])) rfl rfl (hb hby d1_100)
  have O126 := O113.wr W126 g_b3
  have K126 : Keep h0 h126 [] := K113.wr W126 (Or.inr sz_b3)
  have N126 := Fr.snoc X126 N113 g_b3
  have V126 : Arv Z h126 b3 k3 .int (5 : Int32) [(.int zc15), (.int zc13), (.int zc11), (.int zc9), (.int zc7)] (.int (0 : Int32)) := Arv.set Ara124 qa124 Sa124 Za124 Ha124 Ga124 rfl W126 0 rfl (Nat.le_of_ble_eq_true rfl)
  have s127 : Steps p.tables e below A₀ (T126.setTop (mkF m 109 #[.val (.ref p0), .val (.int (5 : Int32)), .val (.ref b2), .val (.ref b3), .val (.int zb14), .val (.int (-1 : Int32))] [(.int zb14)])) := by
    refine s123.trans ?_
    refine st126 _ ?_
    show Steps p.tables e below (T126.setTop (mkF m 101 #[.val (.ref p0), .val (.int (5 : Int32)), .val (.ref b2), .val (.ref b3), .val (.int zb14), .val (.int (0 : Int32))] [])) _
    refine XS.iinc X126.here hx rfl (hb hby d1_101) rfl (l' := #[.val (.ref p0), .val (.int (5 : Int32)), .val (.ref b2), .val (.ref b3), .val (.int zb14), .val (.int (-1 : Int32))]) rfl ?_
    refine XS.goto X126.here hx rfl (pc0 := 104) (pc' := 63) rfl (hb hby d1_104) (by decide) (by decide) ?_
    refine XS.iload X126.here hx rfl (hb hby d1_63) rfl ?_
    refine XS.ifYes X126.here hx rfl (pc0 := 65) (pc' := 107) rfl (hb hby d1_65) rfl ((if0 _ _).trans (tlt (by decide)).1) (by decide) (by decide) ?_
    refine XS.iload X126.here hx rfl (hb hby d1_107) rfl ?_
    exact Steps.refl _
  obtain ⟨T133, h133, L133, X133, e133, O133, N133, K133, f133_0, f133_1, f133_2, s133⟩ : ∃ (T : State) (h : Heap) (L : List Loc), (Stand p l e ({ frames := 2, cells := 3, slots := 12, locals := 27 } : Room) s m #[(.ref p0)] below meth c T L 2 10) ∧ (T.heap = h) ∧ (Old Z n0 h) ∧ (Fr n0 L) ∧ (Keep h0 h []) ∧ (Arv Z h p0 kz .boolean (5 : Int32) [(.int y0), (.int y1), (.int y2), (.int y3), (.int y4)] (.int (0 : Int32))) ∧ (Arv Z h b3 k3 .int (5 : Int32) [(.int zc15), (.int zc13), (.int zc11), (.int zc9), (.int zc7)] (.int (0 : Int32))) ∧ (Arv Z h b2 k2 .int (5 : Int32) [(.int (if zb14 < (0 : Int32) then (-1 : Int32) else (own_max za1 (0 : Int32)))), (.int (if zb14 < (0 : Int32) then (-1 : Int32) else (own_max za2 (0 : Int32)))), (.int (if zb14 < (0 : Int32) then (-1 : Int32) else (own_max za3 (0 : Int32)))), (.int (if zb14 < (0 : Int32) then (-1 : Int32) else (own_max za4 (0 : Int32)))), (.int (if zb14 < (0 : Int32) then (-1 : Int32) else (own_max za5 (0 : Int32))))] (.int (0 : Int32))) ∧ (Steps p.tables e below A₀ (T.setTop (mkF m 117 #[.val (.ref p0), .val (.int (5 : Int32)), .val (.ref b2), .val (.ref b3), .val (.int zb14), .val (.int (-1 : Int32))] []))) := by
    by_cases hc128 : zb14 < (0 : Int32)
    · have c129 : Arv Z h126 b2 k2 .int (5 : Int32) [(.int (own_max za1 (0 : Int32))), (.int (own_max za2 (0 : Int32))), (.int (own_max za3 (0 : Int32))), (.int (own_max za4 (0 : Int32))), (.int (own_max za5 (0 : Int32)))] (.int (0 : Int32)) := (((((V60.other W74 ne_b2_b3).other W87 ne_b2_b3).other W100 ne_b2_b3).other W113 ne_b2_b3).other W126 ne_b2_b3)
      obtain ⟨_, _, ⟨T130, L130, k130, n130⟩, -, X130, ⟨Lc130, hQ130, l130, y130, z130⟩, st130⟩ := Jvm.LawKit.callS X126 hx (y := (⟨"java/util/Arrays", "fill", "([II)V"⟩ : MethodName)) hown (mvT hZ (hw _ (List.mem_of_getElem? (i := 51) rfl))) (mvT hZ (hw _ (List.mem_of_getElem? (i := 52) rfl))) (mvT hZ (hw _ (List.mem_of_getElem? (i := 53) rfl))) (mvT hZ (hw _ (List.mem_of_getElem? (i := 54) rfl))) (by decide) (backOf (W := 0) (rmfill5 l Z a0 hw [] b2 k2 (own_max za1 (0 : Int32)) (own_max za2 (0 : Int32)) (own_max za3 (0 : Int32)) (own_max za4 (0 : Int32)) (own_max za5 (0 : Int32)) h126 n0 O126 c129 g_b2) hZ (hw _ (List.mem_of_getElem? (i := 54) rfl)) (hw _ (List.mem_of_getElem? (i := 53) rfl)) (by decide) (by decide)) (g := (mkF m 114 #[.val (.ref p0), .val (.int (5 : Int32)), .val (.ref b2), .val (.ref b3), .val (.int zb14), .val (.int (-1 : Int32))] [(.int (-1 : Int32)), (.ref b2)])) rfl (by rw [hml]; rfl) (argsL := [(.ref b2), (.int (-1 : Int32))]) (rest := []) (lenOf pd_rmt5_1 rfl) rfl (by show 2 * 0 + _ ≤ _; exact Nat.le_of_eq rfl) (hb hby d1_114) (fun _ _ => ⟨rfl, e126, (by decide : 2 + 0 ≤ _), (by decide : 10 + 0 ≤ _)⟩)
      dsimp only [Pt.U, Pt.locs, Pt.cells, Pt.slots] at X130 l130 y130 z130 st130 hQ130
      subst l130 y130 z130
      obtain ⟨rfl, Nq130, Kc130, f130_0⟩ := hQ130
      have N130 := Fr.app N126 Nq130
      have K130 : Keep h0 T130.heap [] := K126.trans Kc130 (allS (Or.inr sz_b2) all0)
      have O130 := O126.keep Kc130 (allS g_b2 all0)
      have s131 : Steps p.tables e below A₀ (T130.setTop (mkF m 117 #[.val (.ref p0), .val (.int (5 : Int32)), .val (.ref b2), .val (.ref b3), .val (.int zb14), .val (.int (-1 : Int32))] [])) := by
        refine s127.trans ?_
        refine XS.ifNo X126.here hx rfl (hb hby d1_109) rfl ((if0 _ _).trans (tlt hc128).2.1) ?_
        show Steps p.tables e below (T126.setTop (mkF m 112 #[.val (.ref p0), .val (.int (5 : Int32)), .val (.ref b2), .val (.ref b3), .val (.int zb14), .val (.int (-1 : Int32))] [])) _
        refine XS.aloadN X126.here hx rfl (hb hby d1_112) rfl rfl ?_
        refine XS.iconst X126.here hx rfl (hb hby d1_113) ?_
        refine st130 _ ?_
        exact Steps.refl _
      have c134 : Arv Z T130.heap p0 kz .boolean (5 : Int32) [(.int y0), (.int y1), (.int y2), (.int y3), (.int y4)] (.int (0 : Int32)) := ((c114.other W126 ne_p0_b3).keep Kc130 (ninS ne_p0_b2 nin0))
      have c135 : Arv Z T130.heap b3 k3 .int (5 : Int32) [(.int zc15), (.int zc13), (.int zc11), (.int zc9), (.int zc7)] (.int (0 : Int32)) := (V126.keep Kc130 (ninS (Ne.symm ne_b2_b3) nin0))
      simp only [if_pos hc128]
      exact ⟨T130, T130.heap, _, X130, (rfl : T130.heap = T130.heap), O130, N130, K130, c134, c135, f130_0, s131⟩
    · have s132 : Steps p.tables e below A₀ (T126.setTop (mkF m 117 #[.val (.ref p0), .val (.int (5 : Int32)), .val (.ref b2), .val (.ref b3), .val (.int zb14), .val (.int (-1 : Int32))] [])) := by
        refine s127.trans ?_
        refine XS.ifYes X126.here hx rfl (pc0 := 109) (pc' := 117) rfl (hb hby d1_109) rfl ((if0 _ _).trans (flt hc128).2.1) (by decide) (by decide) ?_
        exact Steps.refl _
      have c136 : Arv Z h126 p0 kz .boolean (5 : Int32) [(.int y0), (.int y1), (.int y2), (.int y3), (.int y4)] (.int (0 : Int32)) := (c114.other W126 ne_p0_b3)
      have c137 : Arv Z h126 b2 k2 .int (5 : Int32) [(.int (own_max za1 (0 : Int32))), (.int (own_max za2 (0 : Int32))), (.int (own_max za3 (0 : Int32))), (.int (own_max za4 (0 : Int32))), (.int (own_max za5 (0 : Int32)))] (.int (0 : Int32)) := (((((V60.other W74 ne_b2_b3).other W87 ne_b2_b3).other W100 ne_b2_b3).other W113 ne_b2_b3).other W126 ne_b2_b3)
      simp only [if_neg hc128]
      exact ⟨T126, h126, _, X126, e126, O126, N126, K126, c136, V126, c137, s132⟩
  obtain ⟨z138, hz138⟩ : ∃ z, z = (if zb14 < (0 : Int32) then (-1 : Int32) else (own_max za1 (0 : Int32))) := ⟨_, rfl⟩
  rw [← hz138] at f133_2
  obtain ⟨z139, hz139⟩ : ∃ z, z = (if zb14 < (0 : Int32) then (-1 : Int32) else (own_max za2 (0 : Int32))) := ⟨_, rfl⟩
  rw [← hz139] at f133_2
  obtain ⟨z140, hz140⟩ : ∃ z, z = (if zb14 < (0 : Int32) then (-1 : Int32) else (own_max za3 (0 : Int32))) := ⟨_, rfl⟩
  rw [← hz140] at f133_2
  obtain ⟨z141, hz141⟩ : ∃ z, z = (if zb14 < (0 : Int32) then (-1 : Int32) else (own_max za4 (0 : Int32))) := ⟨_, rfl⟩
  rw [← hz141] at f133_2
  obtain ⟨z142, hz142⟩ : ∃ z, z = (if zb14 < (0 : Int32) then (-1 : Int32) else (own_max za5 (0 : Int32))) := ⟨_, rfl⟩
  rw [← hz142] at f133_2
  obtain ⟨T143, h143, X143, e143, E143, A143, D143, -, st143⟩ := newO X133 hx hZ hown (hw _ (List.mem_of_getElem? (i := 11) rfl)) (hw _ (List.mem_of_getElem? (i := 12) rfl)) (hw _ (List.mem_of_getElem? (i := 13) rfl)) e133 (g := (mkF m 117 #[.val (.ref p0), .val (.int (5 : Int32)), .val (.ref b2), .val (.ref b3), .val (.int zb14), .val (.int (-1 : Int32))] [])) rfl (hb hby d1_117) (by decide) (by decide)
  obtain ⟨b143, g143⟩ : ∃ z, z = h133.size := ⟨_, rfl⟩
  rw [← g143] at A143 D143 st143
  have ne_p0_b143 : p0 ≠ b143 := Nat.ne_of_lt (Nat.lt_of_lt_of_le f133_0.lt (Nat.le_of_eq g143.symm))
  have ne_b2_b143 : b2 ≠ b143 := Nat.ne_of_lt (Nat.lt_of_lt_of_le f133_2.lt (Nat.le_of_eq g143.symm))
  have ne_b3_b143 : b3 ≠ b143 := Nat.ne_of_lt (Nat.lt_of_lt_of_le f133_1.lt (Nat.le_of_eq g143.symm))
  have g_b143 : n0 ≤ b143 := Nat.le_trans (Nat.le_of_eq O133.1.symm) (Nat.le_trans O133.2.1 (Nat.le_of_eq g143.symm))
  have sz_b143 : h0.size ≤ b143 := Nat.le_trans K133.1 (Nat.le_of_eq g143.symm)
  have O143 := O133.ext E143
  have K143 : Keep h0 h143 [] := K133.ext E143
  have F143_val_from : Fld Z h143 b143 "com/example/libprox/libprox/Cpe$1" "val$from" "[I" .null := D143 (Or.inr (hw _ (List.mem_of_getElem? (i := 18) rfl))) (ty := (.array .int)) (by decide)
  have F143_val_to : Fld Z h143 b143 "com/example/libprox/libprox/Cpe$1" "val$to" "[I" .null := D143 (Or.inr (hw _ (List.mem_of_getElem? (i := 20) rfl))) (ty := (.array .int)) (by decide)
  obtain ⟨_, _, ⟨T144, L144, k144, n144⟩, -, X144, ⟨Lc144, hQ144, l144, y144, z144⟩, st144⟩ := X143.specialBack hx (y := (⟨"com/example/libprox/libprox/Cpe$1", "<init>", "([I[I)V"⟩ : MethodName)) rfl hown (mvT hZ (hw _ (List.mem_of_getElem? (i := 14) rfl))) (mvT hZ (hw _ (List.mem_of_getElem? (i := 15) rfl))) (mvT hZ (hw _ (List.mem_of_getElem? (i := 16) rfl))) (by decide) (backOf (W := 1) (rm3 l Z a0 hw [] b143 b2 b3 h143 n0 O143 A143 F143_val_from F143_val_to g_b143) hZ (hw _ (List.mem_of_getElem? (i := 16) rfl)) (hw _ (List.mem_of_getElem? (i := 13) rfl)) (by decide) (by decide)) (g := (mkF m 123 #[.val (.ref p0), .val (.int (5 : Int32)), .val (.ref b2), .val (.ref b3), .val (.int zb14), .val (.int (-1 : Int32))] [(.ref b3), (.ref b2), (.ref b143), (.ref b143)])) rfl (by rw [hml]; rfl) (Steps.refl _) (a := b143) (argsL := [(.ref b2), (.ref b3)]) (rest := [(.ref b143)]) (lenOf pd_rmt5_2 rfl) rfl (by show 2 * 0 + _ ≤ _; exact Nat.le_of_eq rfl) (hb hby d1_123) (fun _ _ => ⟨rfl, e143, (by decide : 3 + 0 ≤ _), (by decide : 12 + 0 ≤ _)⟩)
  dsimp only [Pt.U, Pt.locs, Pt.cells, Pt.slots] at X144 l144 y144 z144 st144 hQ144
  subst l144 y144 z144
  obtain ⟨rfl, Nq144, Kc144, f144_0, f144_1, f144_2⟩ := hQ144
  have N144 := Fr.app N133 Nq144
  have K144 : Keep h0 T144.heap [] := K143.trans Kc144 (allS (Or.inr sz_b143) all0)
  have O144 := O143.keep Kc144 (allS g_b143 all0)
  have s145 : Steps p.tables e below A₀ (T144.setTop (mkF m 126 #[.val (.ref p0), .val (.int (5 : Int32)), .val (.ref b2), .val (.ref b3), .val (.int zb14), .val (.int (-1 : Int32))] [(.ref b143)])) := by
    refine s133.trans ?_
    refine st143 _ ?_
    show Steps p.tables e below (T143.setTop (mkF m 120 #[.val (.ref p0), .val (.int (5 : Int32)), .val (.ref b2), .val (.ref b3), .val (.int zb14), .val (.int (-1 : Int32))] [(.ref b143)])) _
    refine XS.dup X143.here hx rfl (hb hby d1_120) rfl rfl ?_
    refine XS.aloadN X143.here hx rfl (hb hby d1_121) rfl rfl ?_
    refine XS.aloadN X143.here hx rfl (hb hby d1_122) rfl rfl ?_
    refine st144.trans ?_
    exact Steps.refl _
  have c146 : Arv Z T144.heap b2 k2 .int (5 : Int32) [(.int z138), (.int z139), (.int z140), (.int z141), (.int z142)] (.int (0 : Int32)) := ((f133_2.ext E143).keep Kc144 (ninS ne_b2_b143 nin0))
  have VrF := c146
  have EF0 := (own_rmt5_1 y0 y1 y2 y3 y4 za1 zb6 zb8 zb10 zb12 zb14 z138 hz138 hza1 hzb14 hzb12 hzb10 hzb8 hzb6)
  have EF1 := (own_rmt5_2 y0 y1 y2 y3 y4 za1 za2 zb6 zb8 zb10 zb12 zb14 z139 hz139 hza2 hza1 hzb14 hzb12 hzb10 hzb8 hzb6)
  have EF2 := (own_rmt5_3 y0 y1 y2 y3 y4 za1 za2 za3 zb6 zb8 zb10 zb12 zb14 z140 hz140 hza3 hza2 hza1 hzb14 hzb12 hzb10 hzb8 hzb6)
  have EF3 := (own_rmt5_4 y0 y1 y2 y3 y4 za1 za2 za3 za4 zb6 zb8 zb10 zb12 zb14 z141 hz141 hza4 hza3 hza2 hza1 hzb14 hzb12 hzb10 hzb8 hzb6)
  have EF4 := (own_rmt5_5 y0 y1 y2 y3 y4 za1 za2 za3 za4 za5 zb6 zb8 zb10 zb12 zb14 z142 hz142 hza5 hza4 hza3 hza2 hza1 hzb14 hzb12 hzb10 hzb8 hzb6)
  rw [EF0, EF1, EF2, EF3, EF4] at VrF
  have c147 : Arv Z T144.heap b3 k3 .int (5 : Int32) [(.int zc15), (.int zc13), (.int zc11), (.int zc9), (.int zc7)] (.int (0 : Int32)) := ((f133_1.ext E143).keep Kc144 (ninS ne_b3_b143 nin0))
  have VrT := c147
  have ET0 := (own_rmt5_6 y0 y1 y2 y3 y4 zb6 zb8 zb10 zb12 zb14 zc15 hzc15 hzb14 hzb12 hzb10 hzb8 hzb6)
  have ET1 := (own_rmt5_7 y0 y1 y2 y3 y4 zb6 zb8 zb10 zb12 zc13 hzc13 hzb12 hzb10 hzb8 hzb6)
  have ET2 := (own_rmt5_8 y0 y1 y2 y3 y4 zb6 zb8 zb10 zc11 hzc11 hzb10 hzb8 hzb6)
  have ET3 := (own_rmt5_9 y0 y1 y2 y3 y4 zb6 zb8 zc9 hzc9 hzb8 hzb6)
  have ET4 := (own_rmt5_10 y0 y1 y2 y3 y4 zb6 zc7 hzc7 hzb6)
  rw [ET0, ET1, ET2, ET3, ET4] at VrT
  subst hA₀
  obtain ⟨fs, hr, hrun, hended, hW, hsame⟩ := X144.leave (v := some (.ref b143)) (fun h => by rw [Bd.returns] at h; cases h)
  refine ⟨_, _, s145.trans ?_, hrun, hended, _, _, rfl, ?_, ⟨_, rfl⟩, hW, hsame.mono (by decide) (by decide)⟩
  · show Steps p.tables e below (T144.setTop (mkF m 126 #[.val (.ref p0), .val (.int (5 : Int32)), .val (.ref b2), .val (.ref b3), .val (.int zb14), .val (.int (-1 : Int32))] [(.ref b143)])) _
    jvm_step X144.here [X144.here.top, hx, (hb hby d1_126), X144.method', Bd.returns, Value.isRef, FieldType.isReference]
    first | (intro acts; rw [hr _ acts rfl rfl rfl]) | rw [hr _ _ rfl rfl rfl]
    exact Steps.refl _
  · show Qt5 Z p0 kz y0 y1 y2 y3 y4 h0 n0 _ T144.heap _
    exact ⟨b143, b2, b3, k2, k3, rfl, N144, K144, f144_0, f144_1, f144_2, VrF, VrT⟩
theorem pd_rm0_0 : parseMethodDescriptor "([Z)Lcom/example/libprox/libprox/Combinations$Rule;" = some ⟨[(.array .boolean)], some (.object "com/example/libprox/libprox/Combinations$Rule")⟩ := by decide +kernel
theorem pd_rm0_1 : parseMethodDescriptor "(I)I" = some ⟨[.int], some .int⟩ := by decide +kernel
theorem pd_rm0_2 : parseMethodDescriptor "([ZII)I" = some ⟨[(.array .boolean), .int, .int], some .int⟩ := by decide +kernel
theorem ef_rm0 (m : MethodId) (p0 : Int32) (p1 : Int32) (p2 : Int32) : entryFrame m #[(.int p0), (.int p1), (.int p2)] maxLocals = mkF m 0 #[.val (.int p0), .val (.int p1), .val (.int p2), .unset, .unset, .unset, .unset, .unset, .unset] [] := by first | (simp [entryFrame, mkF, argsToLocals, Value.category, maxLocals]; done) | rfl
def Q0 (Z : State) (p0 : Int32) (p1 : Int32) (p2 : Int32) (h0 : Heap) (n0 : Nat) (v : Option Value) (h : Heap) (L : List Loc) : Prop := v = some (.int (1 : Int32)) ∧ Fr n0 L
set_option maxRecDepth 65536 in
set_option maxHeartbeats 40000000 in
theorem rm0 (l : Launch) (Z : State) (a0 : Array Value) (hw : ∀ d ∈ tables_1, d.before a0 Z = true) (ws : List Jvm.Cond) (p0 : Int32) (p1 : Int32) (p2 : Int32) (h0 : Heap) (n0 : Nat) (O0 : Old Z n0 h0) :
    MetFree l x (head1 (Jvm.Cond.code x code maxLocals ret :: ws) room_1) (fun a U => a = #[(.int p0), (.int p1), (.int p2)] ∧ Z.Warmed39 U.vm ∧ U.heap = h0) (fun _ _ _ _ _ => True) (fun _ U o U' => ∃ v L, o = .returned v ∧ Q0 Z p0 p1 p2 h0 n0 v U'.heap L ∧ FrameEnd U o U' L room_1.cells room_1.slots) := by
  refine MetFree.of_bodySF (plainFor_of_name pn_8) hisR ?_
  intro p e s m args below meth c s₁ Bd hml0 hP hK
  obtain ⟨rfl, hZ, hh⟩ := hP
  have hx := Bd.exec
  have hby := Bd.bytes
  have hml : c.maxLocals = 9 := hml0
  have hown : s.vm.findClass "com/example/libprox/libprox/CpeTiedStopWordsPinLaw" = some m.cls := findClass_of_methodNamed Bd.named
  have hnm := (name_of_methodNamed Bd.named Bd.method).1
  have X0 : Stand p l e room_1 s m #[(.int p0), (.int p1), (.int p2)] below meth c s₁ [] 0 0 := Stand.of_body Bd
  have e0 : s₁.heap = h0 := by rw [← hh, Bd.state]; rfl
  have N0 := Fr.nil n0
  have s0 : Steps p.tables e below (s₁.setTop (entryFrame m #[(.int p0), (.int p1), (.int p2)] maxLocals)) (s₁.setTop (mkF m 0 #[.val (.int p0), .val (.int p1), .val (.int p2), .unset, .unset, .unset, .unset, .unset, .unset] [])) := castTop (ef_rm0 m p0 p1 p2) (Steps.refl _)
  obtain ⟨A₀, hA₀⟩ : ∃ z, z = (s₁.setTop (entryFrame m #[(.int p0), (.int p1), (.int p2)] maxLocals)) := ⟨_, rfl⟩
  rw [← hA₀] at s0
  have s1 : Steps p.tables e below A₀ (s₁.setTop (mkF m 7 #[.val (.int p0), .val (.int p1), .val (.int p2), .unset, .unset, .unset, .unset, .unset, .unset] [(.int ((p1 &&& (2147483647 : Int32)) % (6 : Int32)))])) := by
    refine s0.trans ?_
    refine XS.iloadN X0.here hx rfl (hb hby at_0) rfl ?_
    show Steps p.tables e below (s₁.setTop (mkF m 1 #[.val (.int p0), .val (.int p1), .val (.int p2), .unset, .unset, .unset, .unset, .unset, .unset] [(.int p1)])) _
    refine X0.ldcInt hx hown (mvT hZ (hw _ (List.mem_of_getElem? (i := 0) rfl))) (g := (mkF m 1 #[.val (.int p0), .val (.int p1), .val (.int p2), .unset, .unset, .unset, .unset, .unset, .unset] [(.int p1)])) rfl (hb hby at_1) _ ?_
    refine XS.iand X0.here hx rfl (hb hby at_3) rfl ?_
    refine XS.bipush X0.here hx rfl (hb hby at_4) ?_
    refine Jvm.RoadKit.iremM (g := (mkF m 6 #[.val (.int p0), .val (.int p1), .val (.int p2), .unset, .unset, .unset, .unset, .unset, .unset] [(.int (6 : Int32)), (.int (p1 &&& (2147483647 : Int32)))])) X0 hx rfl (hb hby at_6) rfl (by decide) ?_
    exact Steps.refl _
  rcases own_mod6 p1 with hk2 | hk2 | hk2 | hk2 | hk2 | hk2
  · have s3 := s1
    rw [hk2] at s3
    obtain ⟨T4, h4, k4, X4, e4, E4, A4, st4⟩ := newP X0 hx hZ (hw _ (List.mem_of_getElem? (i := 1) rfl)) e0 (g := (mkF m 9 #[.val (.int p0), .val (.int p1), .val (.int p2), .val (.int (0 : Int32)), .unset, .unset, .unset, .unset, .unset] [(.int (0 : Int32))])) rfl (hb hby at_9) rfl (by decide) (cap := 0) (by decide) (by decide) (by decide) (by decide)
    obtain ⟨b4, g4⟩ : ∃ z, z = h0.size := ⟨_, rfl⟩
    rw [← g4] at A4 st4
    have g_b4 : n0 ≤ b4 := Nat.le_trans (Nat.le_of_eq O0.1.symm) (Nat.le_trans O0.2.1 (Nat.le_of_eq g4.symm))
    have O4 := O0.ext E4
    have V4 : Arv Z h4 b4 k4 .boolean (0 : Int32) [] (.int (0 : Int32)) := (Arv.new A4 (by decide)).pad (pad_rep [] (.int (0 : Int32)) 0)
    obtain ⟨_, _, ⟨T5, L5, k5, n5⟩, -, X5, ⟨Lc5, hQ5, l5, y5, z5⟩, st5⟩ := Jvm.LawKit.callS X4 hx (y := (⟨"com/example/libprox/libprox/Cpe", "tiedStopWords", "([Z)Lcom/example/libprox/libprox/Combinations$Rule;"⟩ : MethodName)) hown (mvT hZ (hw _ (List.mem_of_getElem? (i := 2) rfl))) (mvT hZ (hw _ (List.mem_of_getElem? (i := 3) rfl))) (mvT hZ (hw _ (List.mem_of_getElem? (i := 4) rfl))) (mvT hZ (hw _ (List.mem_of_getElem? (i := 5) rfl))) (by decide) (backOf (W := 0) (rmt0 l Z a0 hw [] b4 k4 h4 n0 O4 V4) hZ (hw _ (List.mem_of_getElem? (i := 5) rfl)) (hw _ (List.mem_of_getElem? (i := 4) rfl)) (by decide) (by decide)) (g := (mkF m 116 #[.val (.int p0), .val (.int p1), .val (.int p2), .val (.int (0 : Int32)), .val (.ref b4), .unset, .unset, .unset, .unset] [(.ref b4)])) rfl (by rw [hml]; rfl) (argsL := [(.ref b4)]) (rest := []) (lenOf pd_rm0_0 rfl) rfl (by show 2 * 0 + _ ≤ _; exact Nat.le_of_eq rfl) (hb hby at_116) (fun _ _ => ⟨rfl, e4, (by decide : 1 + 3 ≤ _), (by decide : 0 + 2 ≤ _)⟩)
    dsimp only [Pt.U, Pt.locs, Pt.cells, Pt.slots] at X5 l5 y5 z5 st5 hQ5
    subst l5 y5 z5
    obtain ⟨u6, u7, u8, u9, u10, rfl, Nq5, Kc5, f5_0, f5_1, f5_2, f5_3, f5_4⟩ := hQ5
    have N5 := Fr.app N0 Nq5
    have O5 := O4.keep Kc5 all0
    have s11 : Steps p.tables e below A₀ (T5.setTop (mkF m 135 #[.val (.int p0), .val (.int p1), .val (.int p2), .val (.int (0 : Int32)), .val (.ref b4), .val (.ref u6), .unset, .unset, .unset] [(.int (1 : Int32))])) := by
      refine s3.trans ?_
      refine XS.istoreN X0.here hx rfl (hb hby at_7) rfl (l' := #[.val (.int p0), .val (.int p1), .val (.int p2), .val (.int (0 : Int32)), .unset, .unset, .unset, .unset, .unset]) rfl ?_
      show Steps p.tables e below (s₁.setTop (mkF m 8 #[.val (.int p0), .val (.int p1), .val (.int p2), .val (.int (0 : Int32)), .unset, .unset, .unset, .unset, .unset] [])) _
      refine XS.iloadN X0.here hx rfl (hb hby at_8) rfl ?_
      refine st4 _ ?_
      refine XS.astore X4.here hx rfl (hb hby at_11) rfl rfl (l' := #[.val (.int p0), .val (.int p1), .val (.int p2), .val (.int (0 : Int32)), .val (.ref b4), .unset, .unset, .unset, .unset]) rfl ?_
      refine XS.iloadN X4.here hx rfl (hb hby at_13) rfl ?_
      refine XS.ifYes X4.here hx rfl (pc0 := 14) (pc' := 32) rfl (hb hby at_14) rfl ((if0 _ _).trans (flt (by decide)).2.2.2) (by decide) (by decide) ?_
      refine XS.iloadN X4.here hx rfl (hb hby at_32) rfl ?_
      show Steps p.tables e below (T4.setTop (mkF m 33 #[.val (.int p0), .val (.int p1), .val (.int p2), .val (.int (0 : Int32)), .val (.ref b4), .unset, .unset, .unset, .unset] [(.int (0 : Int32))])) _
      refine XS.iconst X4.here hx rfl (hb hby at_33) ?_
      refine XS.icmpYes X4.here hx rfl (pc0 := 34) (pc' := 52) rfl (hb hby at_34) rfl (flt (by decide)).2.2.2 (by decide) (by decide) ?_
      refine XS.iloadN X4.here hx rfl (hb hby at_52) rfl ?_
      refine XS.iconst X4.here hx rfl (hb hby at_53) ?_
      refine XS.icmpYes X4.here hx rfl (pc0 := 54) (pc' := 72) rfl (hb hby at_54) rfl (flt (by decide)).2.2.2 (by decide) (by decide) ?_
      refine XS.iloadN X4.here hx rfl (hb hby at_72) rfl ?_
      show Steps p.tables e below (T4.setTop (mkF m 73 #[.val (.int p0), .val (.int p1), .val (.int p2), .val (.int (0 : Int32)), .val (.ref b4), .unset, .unset, .unset, .unset] [(.int (0 : Int32))])) _
      refine XS.iconst X4.here hx rfl (hb hby at_73) ?_
      refine XS.icmpYes X4.here hx rfl (pc0 := 74) (pc' := 93) rfl (hb hby at_74) rfl (flt (by decide)).2.2.2 (by decide) (by decide) ?_
      refine XS.iloadN X4.here hx rfl (hb hby at_93) rfl ?_
      refine XS.iconst X4.here hx rfl (hb hby at_94) ?_
      refine XS.icmpYes X4.here hx rfl (pc0 := 95) (pc' := 114) rfl (hb hby at_95) rfl (flt (by decide)).2.2.2 (by decide) (by decide) ?_
      refine XS.aload X4.here hx rfl (hb hby at_114) rfl rfl ?_
      show Steps p.tables e below (T4.setTop (mkF m 116 #[.val (.int p0), .val (.int p1), .val (.int p2), .val (.int (0 : Int32)), .val (.ref b4), .unset, .unset, .unset, .unset] [(.ref b4)])) _
      refine st5 _ ?_
      refine XS.astore X5.here hx rfl (hb hby at_119) rfl rfl (l' := #[.val (.int p0), .val (.int p1), .val (.int p2), .val (.int (0 : Int32)), .val (.ref b4), .val (.ref u6), .unset, .unset, .unset]) rfl ?_
      refine XS.iloadN X5.here hx rfl (hb hby at_121) rfl ?_
      refine XS.ifNo X5.here hx rfl (hb hby at_122) rfl ((if0 _ _).trans (teq (by decide)).2) ?_
      refine XS.aload X5.here hx rfl (hb hby at_125) rfl rfl ?_
      refine XS.ifnullNo X5.here hx rfl (hb hby at_127) rfl ?_
      show Steps p.tables e below (T5.setTop (mkF m 130 #[.val (.int p0), .val (.int p1), .val (.int p2), .val (.int (0 : Int32)), .val (.ref b4), .val (.ref u6), .unset, .unset, .unset] [])) _
      refine XS.iconst X5.here hx rfl (hb hby at_130) ?_
      refine XS.goto X5.here hx rfl (pc0 := 131) (pc' := 135) rfl (hb hby at_131) (by decide) (by decide) ?_
      exact Steps.refl _
    subst hA₀
    obtain ⟨fs, hr, hrun, hended, hW, hsame⟩ := X5.leave (v := some (.int (1 : Int32))) (fun h => by rw [Bd.returns] at h; cases h)
    refine ⟨_, _, s11.trans ?_, hrun, hended, _, _, rfl, ?_, ⟨_, rfl⟩, hW, hsame.mono (by decide) (by decide)⟩
    · show Steps p.tables e below (T5.setTop (mkF m 135 #[.val (.int p0), .val (.int p1), .val (.int p2), .val (.int (0 : Int32)), .val (.ref b4), .val (.ref u6), .unset, .unset, .unset] [(.int (1 : Int32))])) _
      exact retN X5 hx (t := .boolean) Bd.returns (by simp) (hb hby at_135) hr
    · show Q0 Z p0 p1 p2 h0 n0 _ T5.heap _
      exact ⟨rfl, N5⟩
  · have s12 := s1
    rw [hk2] at s12
    obtain ⟨T13, h13, k13, X13, e13, E13, A13, st13⟩ := newP X0 hx hZ (hw _ (List.mem_of_getElem? (i := 1) rfl)) e0 (g := (mkF m 9 #[.val (.int p0), .val (.int p1), .val (.int p2), .val (.int (1 : Int32)), .unset, .unset, .unset, .unset, .unset] [(.int (1 : Int32))])) rfl (hb hby at_9) rfl (by decide) (cap := 1) (by decide) (by decide) (by decide) (by decide)
    obtain ⟨b13, g13⟩ : ∃ z, z = h0.size := ⟨_, rfl⟩
    rw [← g13] at A13 st13
    have g_b13 : n0 ≤ b13 := Nat.le_trans (Nat.le_of_eq O0.1.symm) (Nat.le_trans O0.2.1 (Nat.le_of_eq g13.symm))
    have O13 := O0.ext E13
    have V13 : Arv Z h13 b13 k13 .boolean (1 : Int32) [(.int (0 : Int32))] (.int (0 : Int32)) := (Arv.new A13 (by decide)).pad (pad_rep [] (.int (0 : Int32)) 1)
    have s14 : Steps p.tables e below A₀ (T13.setTop (mkF m 23 #[.val (.int p0), .val (.int p1), .val (.int p2), .val (.int (1 : Int32)), .val (.ref b13), .unset, .unset, .unset, .unset] [(.int (p0 &&& (1 : Int32))), (.int (0 : Int32)), (.ref b13)])) := by
      refine s12.trans ?_
      refine XS.istoreN X0.here hx rfl (hb hby at_7) rfl (l' := #[.val (.int p0), .val (.int p1), .val (.int p2), .val (.int (1 : Int32)), .unset, .unset, .unset, .unset, .unset]) rfl ?_
      show Steps p.tables e below (s₁.setTop (mkF m 8 #[.val (.int p0), .val (.int p1), .val (.int p2), .val (.int (1 : Int32)), .unset, .unset, .unset, .unset, .unset] [])) _
      refine XS.iloadN X0.here hx rfl (hb hby at_8) rfl ?_
      refine st13 _ ?_
      refine XS.astore X13.here hx rfl (hb hby at_11) rfl rfl (l' := #[.val (.int p0), .val (.int p1), .val (.int p2), .val (.int (1 : Int32)), .val (.ref b13), .unset, .unset, .unset, .unset]) rfl ?_
      refine XS.iloadN X13.here hx rfl (hb hby at_13) rfl ?_
      refine XS.ifNo X13.here hx rfl (hb hby at_14) rfl ((if0 _ _).trans (tlt (by decide)).2.2.2) ?_
      refine XS.aload X13.here hx rfl (hb hby at_17) rfl rfl ?_
      show Steps p.tables e below (T13.setTop (mkF m 19 #[.val (.int p0), .val (.int p1), .val (.int p2), .val (.int (1 : Int32)), .val (.ref b13), .unset, .unset, .unset, .unset] [(.ref b13)])) _
      refine XS.iconst X13.here hx rfl (hb hby at_19) ?_
      refine XS.iloadN X13.here hx rfl (hb hby at_20) rfl ?_
      refine XS.iconst X13.here hx rfl (hb hby at_21) ?_
      refine XS.iand X13.here hx rfl (hb hby at_22) rfl ?_
      exact Steps.refl _
    have s16 : Steps p.tables e below A₀ (T13.setTop (mkF m 31 #[.val (.int p0), .val (.int p1), .val (.int p2), .val (.int (1 : Int32)), .val (.ref b13), .unset, .unset, .unset, .unset] [(.int (if (p0 &&& (1 : Int32)) = (0 : Int32) then (0 : Int32) else (1 : Int32))), (.int (0 : Int32)), (.ref b13)])) := by
      by_cases hm15 : (p0 &&& (1 : Int32)) = (0 : Int32)
      · simp only [if_pos hm15]
        refine s14.trans ?_
        refine XS.ifYes X13.here hx rfl (pc0 := 23) (pc' := 30) rfl (hb hby at_23) rfl ((if0 _ _).trans (teq hm15).1) (by decide) (by decide) ?_
        show Steps p.tables e below (T13.setTop (mkF m 30 #[.val (.int p0), .val (.int p1), .val (.int p2), .val (.int (1 : Int32)), .val (.ref b13), .unset, .unset, .unset, .unset] [(.int (0 : Int32)), (.ref b13)])) _
        refine XS.iconst X13.here hx rfl (hb hby at_30) ?_
        exact Steps.refl _
      · simp only [if_neg hm15]
        refine s14.trans ?_
        refine XS.ifNo X13.here hx rfl (hb hby at_23) rfl ((if0 _ _).trans (feq hm15).1) ?_
        show Steps p.tables e below (T13.setTop (mkF m 26 #[.val (.int p0), .val (.int p1), .val (.int p2), .val (.int (1 : Int32)), .val (.ref b13), .unset, .unset, .unset, .unset] [(.int (0 : Int32)), (.ref b13)])) _
        refine XS.iconst X13.here hx rfl (hb hby at_26) ?_
        refine XS.goto X13.here hx rfl (pc0 := 27) (pc' := 31) rfl (hb hby at_27) (by decide) (by decide) ?_
        exact Steps.refl _
    obtain ⟨z0, hz0⟩ : ∃ z, z = (if (p0 &&& (1 : Int32)) = (0 : Int32) then (0 : Int32) else (1 : Int32)) := ⟨_, rfl⟩
    rw [← hz0] at s16
    obtain ⟨cla17, Ara17, qa17, Sa17, Za17, Ha17, Ga17⟩ := id V13
    have hin18 : ¬ ((0 : Int32) < 0 ∨ cla17.slots.size ≤ ((0 : Int32)).toNatClampNeg) := inb_of Sa17 ⟨by decide, by decide⟩
    obtain ⟨T19, h19, X19, e19, W19, st19⟩ := stZ X13 hx hZ e13 Ara17 (j := (0 : Int32)) hin18 (g := (mkF m 31 #[.val (.int p0), .val (.int p1), .val (.int p2), .val (.int (1 : Int32)), .val (.ref b13), .unset, .unset, .unset, .unset] [(.int z0), (.int (0 : Int32)), (.ref b13)])) rfl rfl (hb hby at_31)
    have O19 := O13.wr W19 g_b13
    have N19 := Fr.snoc X19 N0 g_b13
    have V19 : Arv Z h19 b13 k13 .boolean (1 : Int32) [(.int (nar .boolean z0))] (.int (0 : Int32)) := Arv.set Ara17 qa17 Sa17 Za17 Ha17 Ga17 (fits_nar_bool _) W19 0 rfl (Nat.le_of_ble_eq_true rfl)
    obtain ⟨_, _, ⟨T20, L20, k20, n20⟩, -, X20, ⟨Lc20, hQ20, l20, y20, z20⟩, st20⟩ := Jvm.LawKit.callS X19 hx (y := (⟨"com/example/libprox/libprox/Cpe", "tiedStopWords", "([Z)Lcom/example/libprox/libprox/Combinations$Rule;"⟩ : MethodName)) hown (mvT hZ (hw _ (List.mem_of_getElem? (i := 2) rfl))) (mvT hZ (hw _ (List.mem_of_getElem? (i := 3) rfl))) (mvT hZ (hw _ (List.mem_of_getElem? (i := 4) rfl))) (mvT hZ (hw _ (List.mem_of_getElem? (i := 5) rfl))) (by decide) (backOf (W := 0) (rmt1 l Z a0 hw [] b13 k13 (nar .boolean z0) h19 n0 O19 V19) hZ (hw _ (List.mem_of_getElem? (i := 5) rfl)) (hw _ (List.mem_of_getElem? (i := 4) rfl)) (by decide) (by decide)) (g := (mkF m 116 #[.val (.int p0), .val (.int p1), .val (.int p2), .val (.int (1 : Int32)), .val (.ref b13), .unset, .unset, .unset, .unset] [(.ref b13)])) rfl (by rw [hml]; rfl) (argsL := [(.ref b13)]) (rest := []) (lenOf pd_rm0_0 rfl) rfl (by show 2 * 0 + _ ≤ _; exact Nat.le_of_eq rfl) (hb hby at_116) (fun _ _ => ⟨rfl, e19, (by decide : 1 + 3 ≤ _), (by decide : 1 + 4 ≤ _)⟩)
    dsimp only [Pt.U, Pt.locs, Pt.cells, Pt.slots] at X20 l20 y20 z20 st20 hQ20
    subst l20 y20 z20
    obtain ⟨u21, u22, u23, u24, u25, rfl, Nq20, Kc20, f20_0, f20_1, f20_2, f20_3, f20_4⟩ := hQ20
    have N20 := Fr.app N19 Nq20
    have O20 := O19.keep Kc20 all0
    have s26 : Steps p.tables e below A₀ (T20.setTop (mkF m 142 #[.val (.int p0), .val (.int p1), .val (.int p2), .val (.int (1 : Int32)), .val (.ref b13), .val (.ref u21), .unset, .unset, .unset] [(.int ((p2 &&& (2147483647 : Int32)) % (1 : Int32)))])) := by
      refine s16.trans ?_
      refine st19 _ ?_
      show Steps p.tables e below (T19.setTop (mkF m 32 #[.val (.int p0), .val (.int p1), .val (.int p2), .val (.int (1 : Int32)), .val (.ref b13), .unset, .unset, .unset, .unset] [])) _
      refine XS.iloadN X19.here hx rfl (hb hby at_32) rfl ?_
      refine XS.iconst X19.here hx rfl (hb hby at_33) ?_
      refine XS.icmpYes X19.here hx rfl (pc0 := 34) (pc' := 52) rfl (hb hby at_34) rfl (flt (by decide)).2.2.2 (by decide) (by decide) ?_
      refine XS.iloadN X19.here hx rfl (hb hby at_52) rfl ?_
      refine XS.iconst X19.here hx rfl (hb hby at_53) ?_
      refine XS.icmpYes X19.here hx rfl (pc0 := 54) (pc' := 72) rfl (hb hby at_54) rfl (flt (by decide)).2.2.2 (by decide) (by decide) ?_
      show Steps p.tables e below (T19.setTop (mkF m 72 #[.val (.int p0), .val (.int p1), .val (.int p2), .val (.int (1 : Int32)), .val (.ref b13), .unset, .unset, .unset, .unset] [])) _
      refine XS.iloadN X19.here hx rfl (hb hby at_72) rfl ?_
      refine XS.iconst X19.here hx rfl (hb hby at_73) ?_
      refine XS.icmpYes X19.here hx rfl (pc0 := 74) (pc' := 93) rfl (hb hby at_74) rfl (flt (by decide)).2.2.2 (by decide) (by decide) ?_
      refine XS.iloadN X19.here hx rfl (hb hby at_93) rfl ?_
      refine XS.iconst X19.here hx rfl (hb hby at_94) ?_
      refine XS.icmpYes X19.here hx rfl (pc0 := 95) (pc' := 114) rfl (hb hby at_95) rfl (flt (by decide)).2.2.2 (by decide) (by decide) ?_
      show Steps p.tables e below (T19.setTop (mkF m 114 #[.val (.int p0), .val (.int p1), .val (.int p2), .val (.int (1 : Int32)), .val (.ref b13), .unset, .unset, .unset, .unset] [])) _
      refine XS.aload X19.here hx rfl (hb hby at_114) rfl rfl ?_
      refine st20 _ ?_
      refine XS.astore X20.here hx rfl (hb hby at_119) rfl rfl (l' := #[.val (.int p0), .val (.int p1), .val (.int p2), .val (.int (1 : Int32)), .val (.ref b13), .val (.ref u21), .unset, .unset, .unset]) rfl ?_
      refine XS.iloadN X20.here hx rfl (hb hby at_121) rfl ?_
      refine XS.ifYes X20.here hx rfl (pc0 := 122) (pc' := 136) rfl (hb hby at_122) rfl ((if0 _ _).trans (feq (by decide)).2) (by decide) (by decide) ?_
      refine XS.iloadN X20.here hx rfl (hb hby at_136) rfl ?_
      show Steps p.tables e below (T20.setTop (mkF m 137 #[.val (.int p0), .val (.int p1), .val (.int p2), .val (.int (1 : Int32)), .val (.ref b13), .val (.ref u21), .unset, .unset, .unset] [(.int p2)])) _
      refine X20.ldcInt hx hown (mvT hZ (hw _ (List.mem_of_getElem? (i := 0) rfl))) (g := (mkF m 137 #[.val (.int p0), .val (.int p1), .val (.int p2), .val (.int (1 : Int32)), .val (.ref b13), .val (.ref u21), .unset, .unset, .unset] [(.int p2)])) rfl (hb hby at_137) _ ?_
      refine XS.iand X20.here hx rfl (hb hby at_139) rfl ?_
      refine XS.iloadN X20.here hx rfl (hb hby at_140) rfl ?_
      refine Jvm.RoadKit.iremM (g := (mkF m 141 #[.val (.int p0), .val (.int p1), .val (.int p2), .val (.int (1 : Int32)), .val (.ref b13), .val (.ref u21), .unset, .unset, .unset] [(.int (1 : Int32)), (.int (p2 &&& (2147483647 : Int32)))])) X20 hx rfl (hb hby at_141) rfl (by decide) ?_
      exact Steps.refl _
    rcases own_mod1 p2 with hk27
    · have s28 := s26
      rw [hk27] at s28
      obtain ⟨cq29, kq29, q29a, q29b, q29c⟩ := isOf hZ (rfl : T20.heap = T20.heap) f20_0
      obtain ⟨_, _, ⟨T29, L29, k29, n29⟩, -, X29, ⟨Lc29, hQ29, l29, y29, z29⟩, st29⟩ := X20.interfaceBack hx (xi := (⟨"com/example/libprox/libprox/Combinations$Rule", "tiedFrom", "(I)I"⟩ : MethodName)) (y := (⟨"com/example/libprox/libprox/Cpe$1", "tiedFrom", "(I)I"⟩ : MethodName)) hown (mvT hZ (hw _ (List.mem_of_getElem? (i := 24) rfl))) (mvT hZ (hw _ (List.mem_of_getElem? (i := 25) rfl))) (mvT hZ (hw _ (List.mem_of_getElem? (i := 26) rfl))) (mvT hZ (hw _ (List.mem_of_getElem? (i := 27) rfl))) (mvT hZ (hw _ (List.mem_of_getElem? (i := 28) rfl))) (mvT hZ (hw _ (List.mem_of_getElem? (i := 29) rfl))) (mvT hZ (hw _ (List.mem_of_getElem? (i := 30) rfl))) (mvT hZ (hw _ (List.mem_of_getElem? (i := 31) rfl))) (by decide) (backOf (W := 0) (rmtiedFrom l Z a0 hw [] u21 (0 : Int32) u22 u24 (1 : Int32) [(.int (own_F1_0 (nar .boolean z0)))] (own_F1_0 (nar .boolean z0)) T20.heap n0 O20 f20_1 f20_3 ⟨by decide, by decide⟩ rfl) hZ (hw _ (List.mem_of_getElem? (i := 32) rfl)) (hw _ (List.mem_of_getElem? (i := 13) rfl)) (by decide) (by decide)) q29a q29b q29c (g := (mkF m 148 #[.val (.int p0), .val (.int p1), .val (.int p2), .val (.int (1 : Int32)), .val (.ref b13), .val (.ref u21), .val (.int (0 : Int32)), .unset, .unset] [(.int (0 : Int32)), (.ref u21)])) rfl (by rw [hml]; rfl) (Steps.refl _) (argsL := [(.int (0 : Int32))]) (rest := []) (lenOf pd_rm0_1 rfl) rfl (by show 2 * 0 + _ ≤ _; exact Nat.le_of_eq rfl) (hb hby at_148) (fun _ _ => ⟨rfl, (rfl : T20.heap = T20.heap), (by decide : 4 + 0 ≤ _), (by decide : 5 + 0 ≤ _)⟩)
      dsimp only [Pt.U, Pt.locs, Pt.cells, Pt.slots] at X29 l29 y29 z29 st29 hQ29
      subst l29 y29 z29
      obtain ⟨rfl, Nq29, e29⟩ := hQ29
      have N29 := Fr.app N20 Nq29
      obtain ⟨cq30, kq30, q30a, q30b, q30c⟩ := isOf hZ e29 f20_0
      obtain ⟨_, _, ⟨T30, L30, k30, n30⟩, -, X30, ⟨Lc30, hQ30, l30, y30, z30⟩, st30⟩ := X29.interfaceBack hx (xi := (⟨"com/example/libprox/libprox/Combinations$Rule", "tiedTo", "(I)I"⟩ : MethodName)) (y := (⟨"com/example/libprox/libprox/Cpe$1", "tiedTo", "(I)I"⟩ : MethodName)) hown (mvT hZ (hw _ (List.mem_of_getElem? (i := 33) rfl))) (mvT hZ (hw _ (List.mem_of_getElem? (i := 34) rfl))) (mvT hZ (hw _ (List.mem_of_getElem? (i := 35) rfl))) (mvT hZ (hw _ (List.mem_of_getElem? (i := 36) rfl))) (mvT hZ (hw _ (List.mem_of_getElem? (i := 37) rfl))) (mvT hZ (hw _ (List.mem_of_getElem? (i := 38) rfl))) (mvT hZ (hw _ (List.mem_of_getElem? (i := 39) rfl))) (mvT hZ (hw _ (List.mem_of_getElem? (i := 31) rfl))) (by decide) (backOf (W := 0) (rmtiedTo l Z a0 hw [] u21 (0 : Int32) u23 u25 (1 : Int32) [(.int (own_T1_0 (nar .boolean z0)))] (own_T1_0 (nar .boolean z0)) T20.heap n0 O20 f20_2 f20_4 ⟨by decide, by decide⟩ rfl) hZ (hw _ (List.mem_of_getElem? (i := 40) rfl)) (hw _ (List.mem_of_getElem? (i := 13) rfl)) (by decide) (by decide)) q30a q30b q30c (g := (mkF m 159 #[.val (.int p0), .val (.int p1), .val (.int p2), .val (.int (1 : Int32)), .val (.ref b13), .val (.ref u21), .val (.int (0 : Int32)), .val (.int (own_F1_0 (nar .boolean z0))), .unset] [(.int (0 : Int32)), (.ref u21)])) rfl (by rw [hml]; rfl) (Steps.refl _) (argsL := [(.int (0 : Int32))]) (rest := []) (lenOf pd_rm0_1 rfl) rfl (by show 2 * 0 + _ ≤ _; exact Nat.le_of_eq rfl) (hb hby at_159) (fun _ _ => ⟨rfl, e29, (by decide : 4 + 0 ≤ _), (by decide : 5 + 0 ≤ _)⟩)
      dsimp only [Pt.U, Pt.locs, Pt.cells, Pt.slots] at X30 l30 y30 z30 st30 hQ30
      subst l30 y30 z30
      obtain ⟨rfl, Nq30, e30⟩ := hQ30
      have N30 := Fr.app N29 Nq30
      have c31 : Arv Z T20.heap b13 k13 .boolean (1 : Int32) [(.int (nar .boolean z0))] (.int (0 : Int32)) := (V19.keep Kc20 nin0)
      obtain ⟨T32, L32, X32, e32, N32, st32⟩ := own_callP X30 hx hZ hown (wk41 hw) (wk42 hw) (wk43 hw) (wk44 hw) (by decide) (rmrefFrom l Z a0 hw [] b13 (1 : Int32) (0 : Int32) k13 [(nar .boolean z0)] T20.heap n0 O20 c31) e30 N30 (W := 1) (by decide) (by decide) (by decide) (by decide) (g := (mkF m 173 #[.val (.int p0), .val (.int p1), .val (.int p2), .val (.int (1 : Int32)), .val (.ref b13), .val (.ref u21), .val (.int (0 : Int32)), .val (.int (own_F1_0 (nar .boolean z0))), .val (.int (own_T1_0 (nar .boolean z0)))] [(.int (0 : Int32)), (.int (1 : Int32)), (.ref b13), (.int (own_F1_0 (nar .boolean z0)))])) rfl (by rw [hml]; rfl) (argsL := [(.ref b13), (.int (1 : Int32)), (.int (0 : Int32))]) (rest := [(.int (own_F1_0 (nar .boolean z0)))]) (lenOf pd_rm0_2 rfl) rfl (by show 2 * 0 + _ ≤ _; exact Nat.le_of_eq rfl) (hb hby at_173)
      obtain ⟨T33, L33, X33, e33, N33, st33⟩ := own_callP X32 hx hZ hown (wk48 hw) (wk49 hw) (wk43 hw) (wk50 hw) (by decide) (rmrefTo l Z a0 hw [] b13 (1 : Int32) (0 : Int32) k13 [(nar .boolean z0)] T20.heap n0 O20 c31) e32 N32 (W := 1) (by decide) (by decide) (by decide) (by decide) (g := (mkF m 186 #[.val (.int p0), .val (.int p1), .val (.int p2), .val (.int (1 : Int32)), .val (.ref b13), .val (.ref u21), .val (.int (0 : Int32)), .val (.int (own_F1_0 (nar .boolean z0))), .val (.int (own_T1_0 (nar .boolean z0)))] [(.int (0 : Int32)), (.int (1 : Int32)), (.ref b13), (.int (own_T1_0 (nar .boolean z0)))])) rfl (by rw [hml]; rfl) (argsL := [(.ref b13), (.int (1 : Int32)), (.int (0 : Int32))]) (rest := [(.int (own_T1_0 (nar .boolean z0)))]) (lenOf pd_rm0_2 rfl) rfl (by show 2 * 0 + _ ≤ _; exact Nat.le_of_eq rfl) (hb hby at_186)
      have s34 : Steps p.tables e below A₀ (T33.setTop (mkF m 197 #[.val (.int p0), .val (.int p1), .val (.int p2), .val (.int (1 : Int32)), .val (.ref b13), .val (.ref u21), .val (.int (0 : Int32)), .val (.int (own_F1_0 (nar .boolean z0))), .val (.int (own_T1_0 (nar .boolean z0)))] [(.int (1 : Int32))])) := by
        refine s28.trans ?_
        refine XS.istore X20.here hx rfl (hb hby at_142) rfl (l' := #[.val (.int p0), .val (.int p1), .val (.int p2), .val (.int (1 : Int32)), .val (.ref b13), .val (.ref u21), .val (.int (0 : Int32)), .unset, .unset]) rfl ?_
        show Steps p.tables e below (T20.setTop (mkF m 144 #[.val (.int p0), .val (.int p1), .val (.int p2), .val (.int (1 : Int32)), .val (.ref b13), .val (.ref u21), .val (.int (0 : Int32)), .unset, .unset] [])) _
        refine XS.aload X20.here hx rfl (hb hby at_144) rfl rfl ?_
        refine XS.iload X20.here hx rfl (hb hby at_146) rfl ?_
        refine st29.trans ?_
        refine XS.istore X29.here hx rfl (hb hby at_153) rfl (l' := #[.val (.int p0), .val (.int p1), .val (.int p2), .val (.int (1 : Int32)), .val (.ref b13), .val (.ref u21), .val (.int (0 : Int32)), .val (.int (own_F1_0 (nar .boolean z0))), .unset]) rfl ?_
        refine XS.aload X29.here hx rfl (hb hby at_155) rfl rfl ?_
        refine XS.iload X29.here hx rfl (hb hby at_157) rfl ?_
        show Steps p.tables e below (T29.setTop (mkF m 159 #[.val (.int p0), .val (.int p1), .val (.int p2), .val (.int (1 : Int32)), .val (.ref b13), .val (.ref u21), .val (.int (0 : Int32)), .val (.int (own_F1_0 (nar .boolean z0))), .unset] [(.int (0 : Int32)), (.ref u21)])) _
        refine st30.trans ?_
        refine XS.istore X30.here hx rfl (hb hby at_164) rfl (l' := #[.val (.int p0), .val (.int p1), .val (.int p2), .val (.int (1 : Int32)), .val (.ref b13), .val (.ref u21), .val (.int (0 : Int32)), .val (.int (own_F1_0 (nar .boolean z0))), .val (.int (own_T1_0 (nar .boolean z0)))]) rfl ?_
        refine XS.iload X30.here hx rfl (hb hby at_166) rfl ?_
        refine XS.aload X30.here hx rfl (hb hby at_168) rfl rfl ?_
        refine XS.iloadN X30.here hx rfl (hb hby at_170) rfl ?_
        refine XS.iload X30.here hx rfl (hb hby at_171) rfl ?_
        show Steps p.tables e below (T30.setTop (mkF m 173 #[.val (.int p0), .val (.int p1), .val (.int p2), .val (.int (1 : Int32)), .val (.ref b13), .val (.ref u21), .val (.int (0 : Int32)), .val (.int (own_F1_0 (nar .boolean z0))), .val (.int (own_T1_0 (nar .boolean z0)))] [(.int (0 : Int32)), (.int (1 : Int32)), (.ref b13), (.int (own_F1_0 (nar .boolean z0)))])) _
        refine st32 _ ?_
        refine XS.icmpNo X32.here hx rfl (hb hby at_176) rfl (teq (own_finF1_0 (nar .boolean z0))).2 ?_
        refine XS.iload X32.here hx rfl (hb hby at_179) rfl ?_
        refine XS.aload X32.here hx rfl (hb hby at_181) rfl rfl ?_
        refine XS.iloadN X32.here hx rfl (hb hby at_183) rfl ?_
        refine XS.iload X32.here hx rfl (hb hby at_184) rfl ?_
        show Steps p.tables e below (T32.setTop (mkF m 186 #[.val (.int p0), .val (.int p1), .val (.int p2), .val (.int (1 : Int32)), .val (.ref b13), .val (.ref u21), .val (.int (0 : Int32)), .val (.int (own_F1_0 (nar .boolean z0))), .val (.int (own_T1_0 (nar .boolean z0)))] [(.int (0 : Int32)), (.int (1 : Int32)), (.ref b13), (.int (own_T1_0 (nar .boolean z0)))])) _
        refine st33 _ ?_
        refine XS.icmpNo X33.here hx rfl (hb hby at_189) rfl (teq (own_finT1_0 (nar .boolean z0))).2 ?_
        refine XS.iconst X33.here hx rfl (hb hby at_192) ?_
        refine XS.goto X33.here hx rfl (pc0 := 193) (pc' := 197) rfl (hb hby at_193) (by decide) (by decide) ?_
        exact Steps.refl _
      subst hA₀
      obtain ⟨fs, hr, hrun, hended, hW, hsame⟩ := X33.leave (v := some (.int (1 : Int32))) (fun h => by rw [Bd.returns] at h; cases h)
      refine ⟨_, _, s34.trans ?_, hrun, hended, _, _, rfl, ?_, ⟨_, rfl⟩, hW, hsame.mono (by decide) (by decide)⟩
      · show Steps p.tables e below (T33.setTop (mkF m 197 #[.val (.int p0), .val (.int p1), .val (.int p2), .val (.int (1 : Int32)), .val (.ref b13), .val (.ref u21), .val (.int (0 : Int32)), .val (.int (own_F1_0 (nar .boolean z0))), .val (.int (own_T1_0 (nar .boolean z0)))] [(.int (1 : Int32))])) _
        exact retN X33 hx (t := .boolean) Bd.returns (by simp) (hb hby at_197) hr
      · show Q0 Z p0 p1 p2 h0 n0 _ T33.heap _
        rw [e33]
        exact ⟨rfl, N33⟩
  · have s35 := s1
    rw [hk2] at s35
    obtain ⟨T36, h36, k36, X36, e36, E36, A36, st36⟩ := newP X0 hx hZ (hw _ (List.mem_of_getElem? (i := 1) rfl)) e0 (g := (mkF m 9 #[.val (.int p0), .val (.int p1), .val (.int p2), .val (.int (2 : Int32)), .unset, .unset, .unset, .unset, .unset] [(.int (2 : Int32))])) rfl (hb hby at_9) rfl (by decide) (cap := 2) (by decide) (by decide) (by decide) (by decide)
    obtain ⟨b36, g36⟩ : ∃ z, z = h0.size := ⟨_, rfl⟩
    rw [← g36] at A36 st36
    have g_b36 : n0 ≤ b36 := Nat.le_trans (Nat.le_of_eq O0.1.symm) (Nat.le_trans O0.2.1 (Nat.le_of_eq g36.symm))
    have O36 := O0.ext E36
    have V36 : Arv Z h36 b36 k36 .boolean (2 : Int32) [(.int (0 : Int32)), (.int (0 : Int32))] (.int (0 : Int32)) := (Arv.new A36 (by decide)).pad (pad_rep [] (.int (0 : Int32)) 2)
    have s37 : Steps p.tables e below A₀ (T36.setTop (mkF m 23 #[.val (.int p0), .val (.int p1), .val (.int p2), .val (.int (2 : Int32)), .val (.ref b36), .unset, .unset, .unset, .unset] [(.int (p0 &&& (1 : Int32))), (.int (0 : Int32)), (.ref b36)])) := by
      refine s35.trans ?_
      refine XS.istoreN X0.here hx rfl (hb hby at_7) rfl (l' := #[.val (.int p0), .val (.int p1), .val (.int p2), .val (.int (2 : Int32)), .unset, .unset, .unset, .unset, .unset]) rfl ?_
      show Steps p.tables e below (s₁.setTop (mkF m 8 #[.val (.int p0), .val (.int p1), .val (.int p2), .val (.int (2 : Int32)), .unset, .unset, .unset, .unset, .unset] [])) _
      refine XS.iloadN X0.here hx rfl (hb hby at_8) rfl ?_
      refine st36 _ ?_
      refine XS.astore X36.here hx rfl (hb hby at_11) rfl rfl (l' := #[.val (.int p0), .val (.int p1), .val (.int p2), .val (.int (2 : Int32)), .val (.ref b36), .unset, .unset, .unset, .unset]) rfl ?_
      refine XS.iloadN X36.here hx rfl (hb hby at_13) rfl ?_
      refine XS.ifNo X36.here hx rfl (hb hby at_14) rfl ((if0 _ _).trans (tlt (by decide)).2.2.2) ?_
      refine XS.aload X36.here hx rfl (hb hby at_17) rfl rfl ?_
      show Steps p.tables e below (T36.setTop (mkF m 19 #[.val (.int p0), .val (.int p1), .val (.int p2), .val (.int (2 : Int32)), .val (.ref b36), .unset, .unset, .unset, .unset] [(.ref b36)])) _
      refine XS.iconst X36.here hx rfl (hb hby at_19) ?_
      refine XS.iloadN X36.here hx rfl (hb hby at_20) rfl ?_
      refine XS.iconst X36.here hx rfl (hb hby at_21) ?_
      refine XS.iand X36.here hx rfl (hb hby at_22) rfl ?_
      exact Steps.refl _
    have s39 : Steps p.tables e below A₀ (T36.setTop (mkF m 31 #[.val (.int p0), .val (.int p1), .val (.int p2), .val (.int (2 : Int32)), .val (.ref b36), .unset, .unset, .unset, .unset] [(.int (if (p0 &&& (1 : Int32)) = (0 : Int32) then (0 : Int32) else (1 : Int32))), (.int (0 : Int32)), (.ref b36)])) := by
      by_cases hm38 : (p0 &&& (1 : Int32)) = (0 : Int32)
      · simp only [if_pos hm38]
        refine s37.trans ?_
        refine XS.ifYes X36.here hx rfl (pc0 := 23) (pc' := 30) rfl (hb hby at_23) rfl ((if0 _ _).trans (teq hm38).1) (by decide) (by decide) ?_
        show Steps p.tables e below (T36.setTop (mkF m 30 #[.val (.int p0), .val (.int p1), .val (.int p2), .val (.int (2 : Int32)), .val (.ref b36), .unset, .unset, .unset, .unset] [(.int (0 : Int32)), (.ref b36)])) _
        refine XS.iconst X36.here hx rfl (hb hby at_30) ?_
        exact Steps.refl _
      · simp only [if_neg hm38]
        refine s37.trans ?_
        refine XS.ifNo X36.here hx rfl (hb hby at_23) rfl ((if0 _ _).trans (feq hm38).1) ?_
        show Steps p.tables e below (T36.setTop (mkF m 26 #[.val (.int p0), .val (.int p1), .val (.int p2), .val (.int (2 : Int32)), .val (.ref b36), .unset, .unset, .unset, .unset] [(.int (0 : Int32)), (.ref b36)])) _
        refine XS.iconst X36.here hx rfl (hb hby at_26) ?_
        refine XS.goto X36.here hx rfl (pc0 := 27) (pc' := 31) rfl (hb hby at_27) (by decide) (by decide) ?_
        exact Steps.refl _
    obtain ⟨z0, hz0⟩ : ∃ z, z = (if (p0 &&& (1 : Int32)) = (0 : Int32) then (0 : Int32) else (1 : Int32)) := ⟨_, rfl⟩
    rw [← hz0] at s39
    obtain ⟨cla40, Ara40, qa40, Sa40, Za40, Ha40, Ga40⟩ := id V36
    have hin41 : ¬ ((0 : Int32) < 0 ∨ cla40.slots.size ≤ ((0 : Int32)).toNatClampNeg) := inb_of Sa40 ⟨by decide, by decide⟩
    obtain ⟨T42, h42, X42, e42, W42, st42⟩ := stZ X36 hx hZ e36 Ara40 (j := (0 : Int32)) hin41 (g := (mkF m 31 #[.val (.int p0), .val (.int p1), .val (.int p2), .val (.int (2 : Int32)), .val (.ref b36), .unset, .unset, .unset, .unset] [(.int z0), (.int (0 : Int32)), (.ref b36)])) rfl rfl (hb hby at_31)
    have O42 := O36.wr W42 g_b36
    have N42 := Fr.snoc X42 N0 g_b36
    have V42 : Arv Z h42 b36 k36 .boolean (2 : Int32) [(.int (nar .boolean z0)), (.int (0 : Int32))] (.int (0 : Int32)) := Arv.set Ara40 qa40 Sa40 Za40 Ha40 Ga40 (fits_nar_bool _) W42 0 rfl (Nat.le_of_ble_eq_true rfl)
    have s43 : Steps p.tables e below A₀ (T42.setTop (mkF m 43 #[.val (.int p0), .val (.int p1), .val (.int p2), .val (.int (2 : Int32)), .val (.ref b36), .unset, .unset, .unset, .unset] [(.int (p0 &&& (2 : Int32))), (.int (1 : Int32)), (.ref b36)])) := by
      refine s39.trans ?_
      refine st42 _ ?_
      show Steps p.tables e below (T42.setTop (mkF m 32 #[.val (.int p0), .val (.int p1), .val (.int p2), .val (.int (2 : Int32)), .val (.ref b36), .unset, .unset, .unset, .unset] [])) _
      refine XS.iloadN X42.here hx rfl (hb hby at_32) rfl ?_
      refine XS.iconst X42.here hx rfl (hb hby at_33) ?_
      refine XS.icmpNo X42.here hx rfl (hb hby at_34) rfl (tlt (by decide)).2.2.2 ?_
      refine XS.aload X42.here hx rfl (hb hby at_37) rfl rfl ?_
      refine XS.iconst X42.here hx rfl (hb hby at_39) ?_
      refine XS.iloadN X42.here hx rfl (hb hby at_40) rfl ?_
      show Steps p.tables e below (T42.setTop (mkF m 41 #[.val (.int p0), .val (.int p1), .val (.int p2), .val (.int (2 : Int32)), .val (.ref b36), .unset, .unset, .unset, .unset] [(.int p0), (.int (1 : Int32)), (.ref b36)])) _
      refine XS.iconst X42.here hx rfl (hb hby at_41) ?_
      refine XS.iand X42.here hx rfl (hb hby at_42) rfl ?_
      exact Steps.refl _
    have s45 : Steps p.tables e below A₀ (T42.setTop (mkF m 51 #[.val (.int p0), .val (.int p1), .val (.int p2), .val (.int (2 : Int32)), .val (.ref b36), .unset, .unset, .unset, .unset] [(.int (if (p0 &&& (2 : Int32)) = (0 : Int32) then (0 : Int32) else (1 : Int32))), (.int (1 : Int32)), (.ref b36)])) := by
      by_cases hm44 : (p0 &&& (2 : Int32)) = (0 : Int32)
      · simp only [if_pos hm44]
        refine s43.trans ?_
        refine XS.ifYes X42.here hx rfl (pc0 := 43) (pc' := 50) rfl (hb hby at_43) rfl ((if0 _ _).trans (teq hm44).1) (by decide) (by decide) ?_
        show Steps p.tables e below (T42.setTop (mkF m 50 #[.val (.int p0), .val (.int p1), .val (.int p2), .val (.int (2 : Int32)), .val (.ref b36), .unset, .unset, .unset, .unset] [(.int (1 : Int32)), (.ref b36)])) _
        refine XS.iconst X42.here hx rfl (hb hby at_50) ?_
        exact Steps.refl _
      · simp only [if_neg hm44]
        refine s43.trans ?_
        refine XS.ifNo X42.here hx rfl (hb hby at_43) rfl ((if0 _ _).trans (feq hm44).1) ?_
        show Steps p.tables e below (T42.setTop (mkF m 46 #[.val (.int p0), .val (.int p1), .val (.int p2), .val (.int (2 : Int32)), .val (.ref b36), .unset, .unset, .unset, .unset] [(.int (1 : Int32)), (.ref b36)])) _
        refine XS.iconst X42.here hx rfl (hb hby at_46) ?_
        refine XS.goto X42.here hx rfl (pc0 := 47) (pc' := 51) rfl (hb hby at_47) (by decide) (by decide) ?_
        exact Steps.refl _
    obtain ⟨z1, hz1⟩ : ∃ z, z = (if (p0 &&& (2 : Int32)) = (0 : Int32) then (0 : Int32) else (1 : Int32)) := ⟨_, rfl⟩
    rw [← hz1] at s45
    obtain ⟨cla46, Ara46, qa46, Sa46, Za46, Ha46, Ga46⟩ := id V42
    have hin47 : ¬ ((1 : Int32) < 0 ∨ cla46.slots.size ≤ ((1 : Int32)).toNatClampNeg) := inb_of Sa46 ⟨by decide, by decide⟩
    obtain ⟨T48, h48, X48, e48, W48, st48⟩ := stZ X42 hx hZ e42 Ara46 (j := (1 : Int32)) hin47 (g := (mkF m 51 #[.val (.int p0), .val (.int p1), .val (.int p2), .val (.int (2 : Int32)), .val (.ref b36), .unset, .unset, .unset, .unset] [(.int z1), (.int (1 : Int32)), (.ref b36)])) rfl rfl (hb hby at_51)
    have O48 := O42.wr W48 g_b36
    have N48 := Fr.snoc X48 N42 g_b36
    have V48 : Arv Z h48 b36 k36 .boolean (2 : Int32) [(.int (nar .boolean z0)), (.int (nar .boolean z1))] (.int (0 : Int32)) := Arv.set Ara46 qa46 Sa46 Za46 Ha46 Ga46 (fits_nar_bool _) W48 1 rfl (Nat.le_of_ble_eq_true rfl)
    obtain ⟨_, _, ⟨T49, L49, k49, n49⟩, -, X49, ⟨Lc49, hQ49, l49, y49, z49⟩, st49⟩ := Jvm.LawKit.callS X48 hx (y := (⟨"com/example/libprox/libprox/Cpe", "tiedStopWords", "([Z)Lcom/example/libprox/libprox/Combinations$Rule;"⟩ : MethodName)) hown (mvT hZ (hw _ (List.mem_of_getElem? (i := 2) rfl))) (mvT hZ (hw _ (List.mem_of_getElem? (i := 3) rfl))) (mvT hZ (hw _ (List.mem_of_getElem? (i := 4) rfl))) (mvT hZ (hw _ (List.mem_of_getElem? (i := 5) rfl))) (by decide) (backOf (W := 0) (rmt2 l Z a0 hw [] b36 k36 (nar .boolean z0) (nar .boolean z1) h48 n0 O48 V48) hZ (hw _ (List.mem_of_getElem? (i := 5) rfl)) (hw _ (List.mem_of_getElem? (i := 4) rfl)) (by decide) (by decide)) (g := (mkF m 116 #[.val (.int p0), .val (.int p1), .val (.int p2), .val (.int (2 : Int32)), .val (.ref b36), .unset, .unset, .unset, .unset] [(.ref b36)])) rfl (by rw [hml]; rfl) (argsL := [(.ref b36)]) (rest := []) (lenOf pd_rm0_0 rfl) rfl (by show 2 * 0 + _ ≤ _; exact Nat.le_of_eq rfl) (hb hby at_116) (fun _ _ => ⟨rfl, e48, (by decide : 1 + 3 ≤ _), (by decide : 2 + 6 ≤ _)⟩)
    dsimp only [Pt.U, Pt.locs, Pt.cells, Pt.slots] at X49 l49 y49 z49 st49 hQ49
    subst l49 y49 z49
    obtain ⟨u50, u51, u52, u53, u54, rfl, Nq49, Kc49, f49_0, f49_1, f49_2, f49_3, f49_4⟩ := hQ49
    have N49 := Fr.app N48 Nq49
    have O49 := O48.keep Kc49 all0
    have s55 : Steps p.tables e below A₀ (T49.setTop (mkF m 142 #[.val (.int p0), .val (.int p1), .val (.int p2), .val (.int (2 : Int32)), .val (.ref b36), .val (.ref u50), .unset, .unset, .unset] [(.int ((p2 &&& (2147483647 : Int32)) % (2 : Int32)))])) := by
      refine s45.trans ?_
      refine st48 _ ?_
      show Steps p.tables e below (T48.setTop (mkF m 52 #[.val (.int p0), .val (.int p1), .val (.int p2), .val (.int (2 : Int32)), .val (.ref b36), .unset, .unset, .unset, .unset] [])) _
      refine XS.iloadN X48.here hx rfl (hb hby at_52) rfl ?_
      refine XS.iconst X48.here hx rfl (hb hby at_53) ?_
      refine XS.icmpYes X48.here hx rfl (pc0 := 54) (pc' := 72) rfl (hb hby at_54) rfl (flt (by decide)).2.2.2 (by decide) (by decide) ?_
      refine XS.iloadN X48.here hx rfl (hb hby at_72) rfl ?_
      refine XS.iconst X48.here hx rfl (hb hby at_73) ?_
      refine XS.icmpYes X48.here hx rfl (pc0 := 74) (pc' := 93) rfl (hb hby at_74) rfl (flt (by decide)).2.2.2 (by decide) (by decide) ?_
      show Steps p.tables e below (T48.setTop (mkF m 93 #[.val (.int p0), .val (.int p1), .val (.int p2), .val (.int (2 : Int32)), .val (.ref b36), .unset, .unset, .unset, .unset] [])) _
      refine XS.iloadN X48.here hx rfl (hb hby at_93) rfl ?_
      refine XS.iconst X48.here hx rfl (hb hby at_94) ?_
      refine XS.icmpYes X48.here hx rfl (pc0 := 95) (pc' := 114) rfl (hb hby at_95) rfl (flt (by decide)).2.2.2 (by decide) (by decide) ?_
      refine XS.aload X48.here hx rfl (hb hby at_114) rfl rfl ?_
      refine st49 _ ?_
      refine XS.astore X49.here hx rfl (hb hby at_119) rfl rfl (l' := #[.val (.int p0), .val (.int p1), .val (.int p2), .val (.int (2 : Int32)), .val (.ref b36), .val (.ref u50), .unset, .unset, .unset]) rfl ?_
      show Steps p.tables e below (T49.setTop (mkF m 121 #[.val (.int p0), .val (.int p1), .val (.int p2), .val (.int (2 : Int32)), .val (.ref b36), .val (.ref u50), .unset, .unset, .unset] [])) _
      refine XS.iloadN X49.here hx rfl (hb hby at_121) rfl ?_
      refine XS.ifYes X49.here hx rfl (pc0 := 122) (pc' := 136) rfl (hb hby at_122) rfl ((if0 _ _).trans (feq (by decide)).2) (by decide) (by decide) ?_
      refine XS.iloadN X49.here hx rfl (hb hby at_136) rfl ?_
      refine X49.ldcInt hx hown (mvT hZ (hw _ (List.mem_of_getElem? (i := 0) rfl))) (g := (mkF m 137 #[.val (.int p0), .val (.int p1), .val (.int p2), .val (.int (2 : Int32)), .val (.ref b36), .val (.ref u50), .unset, .unset, .unset] [(.int p2)])) rfl (hb hby at_137) _ ?_
      refine XS.iand X49.here hx rfl (hb hby at_139) rfl ?_
      refine XS.iloadN X49.here hx rfl (hb hby at_140) rfl ?_
      show Steps p.tables e below (T49.setTop (mkF m 141 #[.val (.int p0), .val (.int p1), .val (.int p2), .val (.int (2 : Int32)), .val (.ref b36), .val (.ref u50), .unset, .unset, .unset] [(.int (2 : Int32)), (.int (p2 &&& (2147483647 : Int32)))])) _
      refine Jvm.RoadKit.iremM (g := (mkF m 141 #[.val (.int p0), .val (.int p1), .val (.int p2), .val (.int (2 : Int32)), .val (.ref b36), .val (.ref u50), .unset, .unset, .unset] [(.int (2 : Int32)), (.int (p2 &&& (2147483647 : Int32)))])) X49 hx rfl (hb hby at_141) rfl (by decide) ?_
      exact Steps.refl _
    rcases own_mod2 p2 with hk56 | hk56
    · have s57 := s55
      rw [hk56] at s57
      obtain ⟨cq58, kq58, q58a, q58b, q58c⟩ := isOf hZ (rfl : T49.heap = T49.heap) f49_0
      obtain ⟨_, _, ⟨T58, L58, k58, n58⟩, -, X58, ⟨Lc58, hQ58, l58, y58, z58⟩, st58⟩ := X49.interfaceBack hx (xi := (⟨"com/example/libprox/libprox/Combinations$Rule", "tiedFrom", "(I)I"⟩ : MethodName)) (y := (⟨"com/example/libprox/libprox/Cpe$1", "tiedFrom", "(I)I"⟩ : MethodName)) hown (mvT hZ (hw _ (List.mem_of_getElem? (i := 24) rfl))) (mvT hZ (hw _ (List.mem_of_getElem? (i := 25) rfl))) (mvT hZ (hw _ (List.mem_of_getElem? (i := 26) rfl))) (mvT hZ (hw _ (List.mem_of_getElem? (i := 27) rfl))) (mvT hZ (hw _ (List.mem_of_getElem? (i := 28) rfl))) (mvT hZ (hw _ (List.mem_of_getElem? (i := 29) rfl))) (mvT hZ (hw _ (List.mem_of_getElem? (i := 30) rfl))) (mvT hZ (hw _ (List.mem_of_getElem? (i := 31) rfl))) (by decide) (backOf (W := 0) (rmtiedFrom l Z a0 hw [] u50 (0 : Int32) u51 u53 (2 : Int32) [(.int (own_F2_0 (nar .boolean z0) (nar .boolean z1))), (.int (own_F2_1 (nar .boolean z0) (nar .boolean z1)))] (own_F2_0 (nar .boolean z0) (nar .boolean z1)) T49.heap n0 O49 f49_1 f49_3 ⟨by decide, by decide⟩ rfl) hZ (hw _ (List.mem_of_getElem? (i := 32) rfl)) (hw _ (List.mem_of_getElem? (i := 13) rfl)) (by decide) (by decide)) q58a q58b q58c (g := (mkF m 148 #[.val (.int p0), .val (.int p1), .val (.int p2), .val (.int (2 : Int32)), .val (.ref b36), .val (.ref u50), .val (.int (0 : Int32)), .unset, .unset] [(.int (0 : Int32)), (.ref u50)])) rfl (by rw [hml]; rfl) (Steps.refl _) (argsL := [(.int (0 : Int32))]) (rest := []) (lenOf pd_rm0_1 rfl) rfl (by show 2 * 0 + _ ≤ _; exact Nat.le_of_eq rfl) (hb hby at_148) (fun _ _ => ⟨rfl, (rfl : T49.heap = T49.heap), (by decide : 4 + 0 ≤ _), (by decide : 8 + 0 ≤ _)⟩)
      dsimp only [Pt.U, Pt.locs, Pt.cells, Pt.slots] at X58 l58 y58 z58 st58 hQ58
      subst l58 y58 z58
      obtain ⟨rfl, Nq58, e58⟩ := hQ58
      have N58 := Fr.app N49 Nq58
      obtain ⟨cq59, kq59, q59a, q59b, q59c⟩ := isOf hZ e58 f49_0
      obtain ⟨_, _, ⟨T59, L59, k59, n59⟩, -, X59, ⟨Lc59, hQ59, l59, y59, z59⟩, st59⟩ := X58.interfaceBack hx (xi := (⟨"com/example/libprox/libprox/Combinations$Rule", "tiedTo", "(I)I"⟩ : MethodName)) (y := (⟨"com/example/libprox/libprox/Cpe$1", "tiedTo", "(I)I"⟩ : MethodName)) hown (mvT hZ (hw _ (List.mem_of_getElem? (i := 33) rfl))) (mvT hZ (hw _ (List.mem_of_getElem? (i := 34) rfl))) (mvT hZ (hw _ (List.mem_of_getElem? (i := 35) rfl))) (mvT hZ (hw _ (List.mem_of_getElem? (i := 36) rfl))) (mvT hZ (hw _ (List.mem_of_getElem? (i := 37) rfl))) (mvT hZ (hw _ (List.mem_of_getElem? (i := 38) rfl))) (mvT hZ (hw _ (List.mem_of_getElem? (i := 39) rfl))) (mvT hZ (hw _ (List.mem_of_getElem? (i := 31) rfl))) (by decide) (backOf (W := 0) (rmtiedTo l Z a0 hw [] u50 (0 : Int32) u52 u54 (2 : Int32) [(.int (own_T2_0 (nar .boolean z0) (nar .boolean z1))), (.int (own_T2_1 (nar .boolean z0) (nar .boolean z1)))] (own_T2_0 (nar .boolean z0) (nar .boolean z1)) T49.heap n0 O49 f49_2 f49_4 ⟨by decide, by decide⟩ rfl) hZ (hw _ (List.mem_of_getElem? (i := 40) rfl)) (hw _ (List.mem_of_getElem? (i := 13) rfl)) (by decide) (by decide)) q59a q59b q59c (g := (mkF m 159 #[.val (.int p0), .val (.int p1), .val (.int p2), .val (.int (2 : Int32)), .val (.ref b36), .val (.ref u50), .val (.int (0 : Int32)), .val (.int (own_F2_0 (nar .boolean z0) (nar .boolean z1))), .unset] [(.int (0 : Int32)), (.ref u50)])) rfl (by rw [hml]; rfl) (Steps.refl _) (argsL := [(.int (0 : Int32))]) (rest := []) (lenOf pd_rm0_1 rfl) rfl (by show 2 * 0 + _ ≤ _; exact Nat.le_of_eq rfl) (hb hby at_159) (fun _ _ => ⟨rfl, e58, (by decide : 4 + 0 ≤ _), (by decide : 8 + 0 ≤ _)⟩)
      dsimp only [Pt.U, Pt.locs, Pt.cells, Pt.slots] at X59 l59 y59 z59 st59 hQ59
      subst l59 y59 z59
      obtain ⟨rfl, Nq59, e59⟩ := hQ59
      have N59 := Fr.app N58 Nq59
      have c60 : Arv Z T49.heap b36 k36 .boolean (2 : Int32) [(.int (nar .boolean z0)), (.int (nar .boolean z1))] (.int (0 : Int32)) := (V48.keep Kc49 nin0)
      obtain ⟨T61, L61, X61, e61, N61, st61⟩ := own_callP X59 hx hZ hown (wk41 hw) (wk42 hw) (wk43 hw) (wk44 hw) (by decide) (rmrefFrom l Z a0 hw [] b36 (2 : Int32) (0 : Int32) k36 [(nar .boolean z0), (nar .boolean z1)] T49.heap n0 O49 c60) e59 N59 (W := 1) (by decide) (by decide) (by decide) (by decide) (g := (mkF m 173 #[.val (.int p0), .val (.int p1), .val (.int p2), .val (.int (2 : Int32)), .val (.ref b36), .val (.ref u50), .val (.int (0 : Int32)), .val (.int (own_F2_0 (nar .boolean z0) (nar .boolean z1))), .val (.int (own_T2_0 (nar .boolean z0) (nar .boolean z1)))] [(.int (0 : Int32)), (.int (2 : Int32)), (.ref b36), (.int (own_F2_0 (nar .boolean z0) (nar .boolean z1)))])) rfl (by rw [hml]; rfl) (argsL := [(.ref b36), (.int (2 : Int32)), (.int (0 : Int32))]) (rest := [(.int (own_F2_0 (nar .boolean z0) (nar .boolean z1)))]) (lenOf pd_rm0_2 rfl) rfl (by show 2 * 0 + _ ≤ _; exact Nat.le_of_eq rfl) (hb hby at_173)
      obtain ⟨T62, L62, X62, e62, N62, st62⟩ := own_callP X61 hx hZ hown (wk48 hw) (wk49 hw) (wk43 hw) (wk50 hw) (by decide) (rmrefTo l Z a0 hw [] b36 (2 : Int32) (0 : Int32) k36 [(nar .boolean z0), (nar .boolean z1)] T49.heap n0 O49 c60) e61 N61 (W := 1) (by decide) (by decide) (by decide) (by decide) (g := (mkF m 186 #[.val (.int p0), .val (.int p1), .val (.int p2), .val (.int (2 : Int32)), .val (.ref b36), .val (.ref u50), .val (.int (0 : Int32)), .val (.int (own_F2_0 (nar .boolean z0) (nar .boolean z1))), .val (.int (own_T2_0 (nar .boolean z0) (nar .boolean z1)))] [(.int (0 : Int32)), (.int (2 : Int32)), (.ref b36), (.int (own_T2_0 (nar .boolean z0) (nar .boolean z1)))])) rfl (by rw [hml]; rfl) (argsL := [(.ref b36), (.int (2 : Int32)), (.int (0 : Int32))]) (rest := [(.int (own_T2_0 (nar .boolean z0) (nar .boolean z1)))]) (lenOf pd_rm0_2 rfl) rfl (by show 2 * 0 + _ ≤ _; exact Nat.le_of_eq rfl) (hb hby at_186)
      have s63 : Steps p.tables e below A₀ (T62.setTop (mkF m 197 #[.val (.int p0), .val (.int p1), .val (.int p2), .val (.int (2 : Int32)), .val (.ref b36), .val (.ref u50), .val (.int (0 : Int32)), .val (.int (own_F2_0 (nar .boolean z0) (nar .boolean z1))), .val (.int (own_T2_0 (nar .boolean z0) (nar .boolean z1)))] [(.int (1 : Int32))])) := by
        refine s57.trans ?_
        refine XS.istore X49.here hx rfl (hb hby at_142) rfl (l' := #[.val (.int p0), .val (.int p1), .val (.int p2), .val (.int (2 : Int32)), .val (.ref b36), .val (.ref u50), .val (.int (0 : Int32)), .unset, .unset]) rfl ?_
        show Steps p.tables e below (T49.setTop (mkF m 144 #[.val (.int p0), .val (.int p1), .val (.int p2), .val (.int (2 : Int32)), .val (.ref b36), .val (.ref u50), .val (.int (0 : Int32)), .unset, .unset] [])) _
        refine XS.aload X49.here hx rfl (hb hby at_144) rfl rfl ?_
        refine XS.iload X49.here hx rfl (hb hby at_146) rfl ?_
        refine st58.trans ?_
        refine XS.istore X58.here hx rfl (hb hby at_153) rfl (l' := #[.val (.int p0), .val (.int p1), .val (.int p2), .val (.int (2 : Int32)), .val (.ref b36), .val (.ref u50), .val (.int (0 : Int32)), .val (.int (own_F2_0 (nar .boolean z0) (nar .boolean z1))), .unset]) rfl ?_
        refine XS.aload X58.here hx rfl (hb hby at_155) rfl rfl ?_
        refine XS.iload X58.here hx rfl (hb hby at_157) rfl ?_
        show Steps p.tables e below (T58.setTop (mkF m 159 #[.val (.int p0), .val (.int p1), .val (.int p2), .val (.int (2 : Int32)), .val (.ref b36), .val (.ref u50), .val (.int (0 : Int32)), .val (.int (own_F2_0 (nar .boolean z0) (nar .boolean z1))), .unset] [(.int (0 : Int32)), (.ref u50)])) _
        refine st59.trans ?_
        refine XS.istore X59.here hx rfl (hb hby at_164) rfl (l' := #[.val (.int p0), .val (.int p1), .val (.int p2), .val (.int (2 : Int32)), .val (.ref b36), .val (.ref u50), .val (.int (0 : Int32)), .val (.int (own_F2_0 (nar .boolean z0) (nar .boolean z1))), .val (.int (own_T2_0 (nar .boolean z0) (nar .boolean z1)))]) rfl ?_
        refine XS.iload X59.here hx rfl (hb hby at_166) rfl ?_
        refine XS.aload X59.here hx rfl (hb hby at_168) rfl rfl ?_
        refine XS.iloadN X59.here hx rfl (hb hby at_170) rfl ?_
        refine XS.iload X59.here hx rfl (hb hby at_171) rfl ?_
        show Steps p.tables e below (T59.setTop (mkF m 173 #[.val (.int p0), .val (.int p1), .val (.int p2), .val (.int (2 : Int32)), .val (.ref b36), .val (.ref u50), .val (.int (0 : Int32)), .val (.int (own_F2_0 (nar .boolean z0) (nar .boolean z1))), .val (.int (own_T2_0 (nar .boolean z0) (nar .boolean z1)))] [(.int (0 : Int32)), (.int (2 : Int32)), (.ref b36), (.int (own_F2_0 (nar .boolean z0) (nar .boolean z1)))])) _
        refine st61 _ ?_
        refine XS.icmpNo X61.here hx rfl (hb hby at_176) rfl (teq (own_finF2_0 (nar .boolean z0) (nar .boolean z1))).2 ?_
        refine XS.iload X61.here hx rfl (hb hby at_179) rfl ?_
        refine XS.aload X61.here hx rfl (hb hby at_181) rfl rfl ?_
        refine XS.iloadN X61.here hx rfl (hb hby at_183) rfl ?_
        refine XS.iload X61.here hx rfl (hb hby at_184) rfl ?_
        show Steps p.tables e below (T61.setTop (mkF m 186 #[.val (.int p0), .val (.int p1), .val (.int p2), .val (.int (2 : Int32)), .val (.ref b36), .val (.ref u50), .val (.int (0 : Int32)), .val (.int (own_F2_0 (nar .boolean z0) (nar .boolean z1))), .val (.int (own_T2_0 (nar .boolean z0) (nar .boolean z1)))] [(.int (0 : Int32)), (.int (2 : Int32)), (.ref b36), (.int (own_T2_0 (nar .boolean z0) (nar .boolean z1)))])) _
        refine st62 _ ?_
        refine XS.icmpNo X62.here hx rfl (hb hby at_189) rfl (teq (own_finT2_0 (nar .boolean z0) (nar .boolean z1))).2 ?_
        refine XS.iconst X62.here hx rfl (hb hby at_192) ?_
        refine XS.goto X62.here hx rfl (pc0 := 193) (pc' := 197) rfl (hb hby at_193) (by decide) (by decide) ?_
        exact Steps.refl _
      subst hA₀
      obtain ⟨fs, hr, hrun, hended, hW, hsame⟩ := X62.leave (v := some (.int (1 : Int32))) (fun h => by rw [Bd.returns] at h; cases h)
      refine ⟨_, _, s63.trans ?_, hrun, hended, _, _, rfl, ?_, ⟨_, rfl⟩, hW, hsame.mono (by decide) (by decide)⟩
      · show Steps p.tables e below (T62.setTop (mkF m 197 #[.val (.int p0), .val (.int p1), .val (.int p2), .val (.int (2 : Int32)), .val (.ref b36), .val (.ref u50), .val (.int (0 : Int32)), .val (.int (own_F2_0 (nar .boolean z0) (nar .boolean z1))), .val (.int (own_T2_0 (nar .boolean z0) (nar .boolean z1)))] [(.int (1 : Int32))])) _
        exact retN X62 hx (t := .boolean) Bd.returns (by simp) (hb hby at_197) hr
      · show Q0 Z p0 p1 p2 h0 n0 _ T62.heap _
        rw [e62]
        exact ⟨rfl, N62⟩
    · have s64 := s55
      rw [hk56] at s64
      obtain ⟨cq65, kq65, q65a, q65b, q65c⟩ := isOf hZ (rfl : T49.heap = T49.heap) f49_0
      obtain ⟨_, _, ⟨T65, L65, k65, n65⟩, -, X65, ⟨Lc65, hQ65, l65, y65, z65⟩, st65⟩ := X49.interfaceBack hx (xi := (⟨"com/example/libprox/libprox/Combinations$Rule", "tiedFrom", "(I)I"⟩ : MethodName)) (y := (⟨"com/example/libprox/libprox/Cpe$1", "tiedFrom", "(I)I"⟩ : MethodName)) hown (mvT hZ (hw _ (List.mem_of_getElem? (i := 24) rfl))) (mvT hZ (hw _ (List.mem_of_getElem? (i := 25) rfl))) (mvT hZ (hw _ (List.mem_of_getElem? (i := 26) rfl))) (mvT hZ (hw _ (List.mem_of_getElem? (i := 27) rfl))) (mvT hZ (hw _ (List.mem_of_getElem? (i := 28) rfl))) (mvT hZ (hw _ (List.mem_of_getElem? (i := 29) rfl))) (mvT hZ (hw _ (List.mem_of_getElem? (i := 30) rfl))) (mvT hZ (hw _ (List.mem_of_getElem? (i := 31) rfl))) (by decide) (backOf (W := 0) (rmtiedFrom l Z a0 hw [] u50 (1 : Int32) u51 u53 (2 : Int32) [(.int (own_F2_0 (nar .boolean z0) (nar .boolean z1))), (.int (own_F2_1 (nar .boolean z0) (nar .boolean z1)))] (own_F2_1 (nar .boolean z0) (nar .boolean z1)) T49.heap n0 O49 f49_1 f49_3 ⟨by decide, by decide⟩ rfl) hZ (hw _ (List.mem_of_getElem? (i := 32) rfl)) (hw _ (List.mem_of_getElem? (i := 13) rfl)) (by decide) (by decide)) q65a q65b q65c (g := (mkF m 148 #[.val (.int p0), .val (.int p1), .val (.int p2), .val (.int (2 : Int32)), .val (.ref b36), .val (.ref u50), .val (.int (1 : Int32)), .unset, .unset] [(.int (1 : Int32)), (.ref u50)])) rfl (by rw [hml]; rfl) (Steps.refl _) (argsL := [(.int (1 : Int32))]) (rest := []) (lenOf pd_rm0_1 rfl) rfl (by show 2 * 0 + _ ≤ _; exact Nat.le_of_eq rfl) (hb hby at_148) (fun _ _ => ⟨rfl, (rfl : T49.heap = T49.heap), (by decide : 4 + 0 ≤ _), (by decide : 8 + 0 ≤ _)⟩)
      dsimp only [Pt.U, Pt.locs, Pt.cells, Pt.slots] at X65 l65 y65 z65 st65 hQ65
      subst l65 y65 z65
      obtain ⟨rfl, Nq65, e65⟩ := hQ65
      have N65 := Fr.app N49 Nq65
      obtain ⟨cq66, kq66, q66a, q66b, q66c⟩ := isOf hZ e65 f49_0
      obtain ⟨_, _, ⟨T66, L66, k66, n66⟩, -, X66, ⟨Lc66, hQ66, l66, y66, z66⟩, st66⟩ := X65.interfaceBack hx (xi := (⟨"com/example/libprox/libprox/Combinations$Rule", "tiedTo", "(I)I"⟩ : MethodName)) (y := (⟨"com/example/libprox/libprox/Cpe$1", "tiedTo", "(I)I"⟩ : MethodName)) hown (mvT hZ (hw _ (List.mem_of_getElem? (i := 33) rfl))) (mvT hZ (hw _ (List.mem_of_getElem? (i := 34) rfl))) (mvT hZ (hw _ (List.mem_of_getElem? (i := 35) rfl))) (mvT hZ (hw _ (List.mem_of_getElem? (i := 36) rfl))) (mvT hZ (hw _ (List.mem_of_getElem? (i := 37) rfl))) (mvT hZ (hw _ (List.mem_of_getElem? (i := 38) rfl))) (mvT hZ (hw _ (List.mem_of_getElem? (i := 39) rfl))) (mvT hZ (hw _ (List.mem_of_getElem? (i := 31) rfl))) (by decide) (backOf (W := 0) (rmtiedTo l Z a0 hw [] u50 (1 : Int32) u52 u54 (2 : Int32) [(.int (own_T2_0 (nar .boolean z0) (nar .boolean z1))), (.int (own_T2_1 (nar .boolean z0) (nar .boolean z1)))] (own_T2_1 (nar .boolean z0) (nar .boolean z1)) T49.heap n0 O49 f49_2 f49_4 ⟨by decide, by decide⟩ rfl) hZ (hw _ (List.mem_of_getElem? (i := 40) rfl)) (hw _ (List.mem_of_getElem? (i := 13) rfl)) (by decide) (by decide)) q66a q66b q66c (g := (mkF m 159 #[.val (.int p0), .val (.int p1), .val (.int p2), .val (.int (2 : Int32)), .val (.ref b36), .val (.ref u50), .val (.int (1 : Int32)), .val (.int (own_F2_1 (nar .boolean z0) (nar .boolean z1))), .unset] [(.int (1 : Int32)), (.ref u50)])) rfl (by rw [hml]; rfl) (Steps.refl _) (argsL := [(.int (1 : Int32))]) (rest := []) (lenOf pd_rm0_1 rfl) rfl (by show 2 * 0 + _ ≤ _; exact Nat.le_of_eq rfl) (hb hby at_159) (fun _ _ => ⟨rfl, e65, (by decide : 4 + 0 ≤ _), (by decide : 8 + 0 ≤ _)⟩)
      dsimp only [Pt.U, Pt.locs, Pt.cells, Pt.slots] at X66 l66 y66 z66 st66 hQ66
      subst l66 y66 z66
      obtain ⟨rfl, Nq66, e66⟩ := hQ66
      have N66 := Fr.app N65 Nq66
      have c67 : Arv Z T49.heap b36 k36 .boolean (2 : Int32) [(.int (nar .boolean z0)), (.int (nar .boolean z1))] (.int (0 : Int32)) := (V48.keep Kc49 nin0)
      obtain ⟨T68, L68, X68, e68, N68, st68⟩ := own_callP X66 hx hZ hown (wk41 hw) (wk42 hw) (wk43 hw) (wk44 hw) (by decide) (rmrefFrom l Z a0 hw [] b36 (2 : Int32) (1 : Int32) k36 [(nar .boolean z0), (nar .boolean z1)] T49.heap n0 O49 c67) e66 N66 (W := 1) (by decide) (by decide) (by decide) (by decide) (g := (mkF m 173 #[.val (.int p0), .val (.int p1), .val (.int p2), .val (.int (2 : Int32)), .val (.ref b36), .val (.ref u50), .val (.int (1 : Int32)), .val (.int (own_F2_1 (nar .boolean z0) (nar .boolean z1))), .val (.int (own_T2_1 (nar .boolean z0) (nar .boolean z1)))] [(.int (1 : Int32)), (.int (2 : Int32)), (.ref b36), (.int (own_F2_1 (nar .boolean z0) (nar .boolean z1)))])) rfl (by rw [hml]; rfl) (argsL := [(.ref b36), (.int (2 : Int32)), (.int (1 : Int32))]) (rest := [(.int (own_F2_1 (nar .boolean z0) (nar .boolean z1)))]) (lenOf pd_rm0_2 rfl) rfl (by show 2 * 0 + _ ≤ _; exact Nat.le_of_eq rfl) (hb hby at_173)
      obtain ⟨T69, L69, X69, e69, N69, st69⟩ := own_callP X68 hx hZ hown (wk48 hw) (wk49 hw) (wk43 hw) (wk50 hw) (by decide) (rmrefTo l Z a0 hw [] b36 (2 : Int32) (1 : Int32) k36 [(nar .boolean z0), (nar .boolean z1)] T49.heap n0 O49 c67) e68 N68 (W := 1) (by decide) (by decide) (by decide) (by decide) (g := (mkF m 186 #[.val (.int p0), .val (.int p1), .val (.int p2), .val (.int (2 : Int32)), .val (.ref b36), .val (.ref u50), .val (.int (1 : Int32)), .val (.int (own_F2_1 (nar .boolean z0) (nar .boolean z1))), .val (.int (own_T2_1 (nar .boolean z0) (nar .boolean z1)))] [(.int (1 : Int32)), (.int (2 : Int32)), (.ref b36), (.int (own_T2_1 (nar .boolean z0) (nar .boolean z1)))])) rfl (by rw [hml]; rfl) (argsL := [(.ref b36), (.int (2 : Int32)), (.int (1 : Int32))]) (rest := [(.int (own_T2_1 (nar .boolean z0) (nar .boolean z1)))]) (lenOf pd_rm0_2 rfl) rfl (by show 2 * 0 + _ ≤ _; exact Nat.le_of_eq rfl) (hb hby at_186)
      have s70 : Steps p.tables e below A₀ (T69.setTop (mkF m 197 #[.val (.int p0), .val (.int p1), .val (.int p2), .val (.int (2 : Int32)), .val (.ref b36), .val (.ref u50), .val (.int (1 : Int32)), .val (.int (own_F2_1 (nar .boolean z0) (nar .boolean z1))), .val (.int (own_T2_1 (nar .boolean z0) (nar .boolean z1)))] [(.int (1 : Int32))])) := by
        refine s64.trans ?_
        refine XS.istore X49.here hx rfl (hb hby at_142) rfl (l' := #[.val (.int p0), .val (.int p1), .val (.int p2), .val (.int (2 : Int32)), .val (.ref b36), .val (.ref u50), .val (.int (1 : Int32)), .unset, .unset]) rfl ?_
        show Steps p.tables e below (T49.setTop (mkF m 144 #[.val (.int p0), .val (.int p1), .val (.int p2), .val (.int (2 : Int32)), .val (.ref b36), .val (.ref u50), .val (.int (1 : Int32)), .unset, .unset] [])) _
        refine XS.aload X49.here hx rfl (hb hby at_144) rfl rfl ?_
        refine XS.iload X49.here hx rfl (hb hby at_146) rfl ?_
        refine st65.trans ?_
        refine XS.istore X65.here hx rfl (hb hby at_153) rfl (l' := #[.val (.int p0), .val (.int p1), .val (.int p2), .val (.int (2 : Int32)), .val (.ref b36), .val (.ref u50), .val (.int (1 : Int32)), .val (.int (own_F2_1 (nar .boolean z0) (nar .boolean z1))), .unset]) rfl ?_
        refine XS.aload X65.here hx rfl (hb hby at_155) rfl rfl ?_
        refine XS.iload X65.here hx rfl (hb hby at_157) rfl ?_
        show Steps p.tables e below (T65.setTop (mkF m 159 #[.val (.int p0), .val (.int p1), .val (.int p2), .val (.int (2 : Int32)), .val (.ref b36), .val (.ref u50), .val (.int (1 : Int32)), .val (.int (own_F2_1 (nar .boolean z0) (nar .boolean z1))), .unset] [(.int (1 : Int32)), (.ref u50)])) _
        refine st66.trans ?_
        refine XS.istore X66.here hx rfl (hb hby at_164) rfl (l' := #[.val (.int p0), .val (.int p1), .val (.int p2), .val (.int (2 : Int32)), .val (.ref b36), .val (.ref u50), .val (.int (1 : Int32)), .val (.int (own_F2_1 (nar .boolean z0) (nar .boolean z1))), .val (.int (own_T2_1 (nar .boolean z0) (nar .boolean z1)))]) rfl ?_
        refine XS.iload X66.here hx rfl (hb hby at_166) rfl ?_
        refine XS.aload X66.here hx rfl (hb hby at_168) rfl rfl ?_
        refine XS.iloadN X66.here hx rfl (hb hby at_170) rfl ?_
        refine XS.iload X66.here hx rfl (hb hby at_171) rfl ?_
        show Steps p.tables e below (T66.setTop (mkF m 173 #[.val (.int p0), .val (.int p1), .val (.int p2), .val (.int (2 : Int32)), .val (.ref b36), .val (.ref u50), .val (.int (1 : Int32)), .val (.int (own_F2_1 (nar .boolean z0) (nar .boolean z1))), .val (.int (own_T2_1 (nar .boolean z0) (nar .boolean z1)))] [(.int (1 : Int32)), (.int (2 : Int32)), (.ref b36), (.int (own_F2_1 (nar .boolean z0) (nar .boolean z1)))])) _
        refine st68 _ ?_
        refine XS.icmpNo X68.here hx rfl (hb hby at_176) rfl (teq (own_finF2_1 (nar .boolean z0) (nar .boolean z1))).2 ?_
        refine XS.iload X68.here hx rfl (hb hby at_179) rfl ?_
        refine XS.aload X68.here hx rfl (hb hby at_181) rfl rfl ?_
        refine XS.iloadN X68.here hx rfl (hb hby at_183) rfl ?_
        refine XS.iload X68.here hx rfl (hb hby at_184) rfl ?_
        show Steps p.tables e below (T68.setTop (mkF m 186 #[.val (.int p0), .val (.int p1), .val (.int p2), .val (.int (2 : Int32)), .val (.ref b36), .val (.ref u50), .val (.int (1 : Int32)), .val (.int (own_F2_1 (nar .boolean z0) (nar .boolean z1))), .val (.int (own_T2_1 (nar .boolean z0) (nar .boolean z1)))] [(.int (1 : Int32)), (.int (2 : Int32)), (.ref b36), (.int (own_T2_1 (nar .boolean z0) (nar .boolean z1)))])) _
        refine st69 _ ?_
        refine XS.icmpNo X69.here hx rfl (hb hby at_189) rfl (teq (own_finT2_1 (nar .boolean z0) (nar .boolean z1))).2 ?_
        refine XS.iconst X69.here hx rfl (hb hby at_192) ?_
        refine XS.goto X69.here hx rfl (pc0 := 193) (pc' := 197) rfl (hb hby at_193) (by decide) (by decide) ?_
        exact Steps.refl _
      subst hA₀
      obtain ⟨fs, hr, hrun, hended, hW, hsame⟩ := X69.leave (v := some (.int (1 : Int32))) (fun h => by rw [Bd.returns] at h; cases h)
      refine ⟨_, _, s70.trans ?_, hrun, hended, _, _, rfl, ?_, ⟨_, rfl⟩, hW, hsame.mono (by decide) (by decide)⟩
      · show Steps p.tables e below (T69.setTop (mkF m 197 #[.val (.int p0), .val (.int p1), .val (.int p2), .val (.int (2 : Int32)), .val (.ref b36), .val (.ref u50), .val (.int (1 : Int32)), .val (.int (own_F2_1 (nar .boolean z0) (nar .boolean z1))), .val (.int (own_T2_1 (nar .boolean z0) (nar .boolean z1)))] [(.int (1 : Int32))])) _
        exact retN X69 hx (t := .boolean) Bd.returns (by simp) (hb hby at_197) hr
      · show Q0 Z p0 p1 p2 h0 n0 _ T69.heap _
        rw [e69]
        exact ⟨rfl, N69⟩
  · have s71 := s1
    rw [hk2] at s71
    obtain ⟨T72, h72, k72, X72, e72, E72, A72, st72⟩ := newP X0 hx hZ (hw _ (List.mem_of_getElem? (i := 1) rfl)) e0 (g := (mkF m 9 #[.val (.int p0), .val (.int p1), .val (.int p2), .val (.int (3 : Int32)), .unset, .unset, .unset, .unset, .unset] [(.int (3 : Int32))])) rfl (hb hby at_9) rfl (by decide) (cap := 3) (by decide) (by decide) (by decide) (by decide)
    obtain ⟨b72, g72⟩ : ∃ z, z = h0.size := ⟨_, rfl⟩
    rw [← g72] at A72 st72
    have g_b72 : n0 ≤ b72 := Nat.le_trans (Nat.le_of_eq O0.1.symm) (Nat.le_trans O0.2.1 (Nat.le_of_eq g72.symm))
    have O72 := O0.ext E72
    have V72 : Arv Z h72 b72 k72 .boolean (3 : Int32) [(.int (0 : Int32)), (.int (0 : Int32)), (.int (0 : Int32))] (.int (0 : Int32)) := (Arv.new A72 (by decide)).pad (pad_rep [] (.int (0 : Int32)) 3)
    have s73 : Steps p.tables e below A₀ (T72.setTop (mkF m 23 #[.val (.int p0), .val (.int p1), .val (.int p2), .val (.int (3 : Int32)), .val (.ref b72), .unset, .unset, .unset, .unset] [(.int (p0 &&& (1 : Int32))), (.int (0 : Int32)), (.ref b72)])) := by
      refine s71.trans ?_
      refine XS.istoreN X0.here hx rfl (hb hby at_7) rfl (l' := #[.val (.int p0), .val (.int p1), .val (.int p2), .val (.int (3 : Int32)), .unset, .unset, .unset, .unset, .unset]) rfl ?_
      show Steps p.tables e below (s₁.setTop (mkF m 8 #[.val (.int p0), .val (.int p1), .val (.int p2), .val (.int (3 : Int32)), .unset, .unset, .unset, .unset, .unset] [])) _
      refine XS.iloadN X0.here hx rfl (hb hby at_8) rfl ?_
      refine st72 _ ?_
      refine XS.astore X72.here hx rfl (hb hby at_11) rfl rfl (l' := #[.val (.int p0), .val (.int p1), .val (.int p2), .val (.int (3 : Int32)), .val (.ref b72), .unset, .unset, .unset, .unset]) rfl ?_
      refine XS.iloadN X72.here hx rfl (hb hby at_13) rfl ?_
      refine XS.ifNo X72.here hx rfl (hb hby at_14) rfl ((if0 _ _).trans (tlt (by decide)).2.2.2) ?_
      refine XS.aload X72.here hx rfl (hb hby at_17) rfl rfl ?_
      show Steps p.tables e below (T72.setTop (mkF m 19 #[.val (.int p0), .val (.int p1), .val (.int p2), .val (.int (3 : Int32)), .val (.ref b72), .unset, .unset, .unset, .unset] [(.ref b72)])) _
      refine XS.iconst X72.here hx rfl (hb hby at_19) ?_
      refine XS.iloadN X72.here hx rfl (hb hby at_20) rfl ?_
      refine XS.iconst X72.here hx rfl (hb hby at_21) ?_
      refine XS.iand X72.here hx rfl (hb hby at_22) rfl ?_
      exact Steps.refl _
    have s75 : Steps p.tables e below A₀ (T72.setTop (mkF m 31 #[.val (.int p0), .val (.int p1), .val (.int p2), .val (.int (3 : Int32)), .val (.ref b72), .unset, .unset, .unset, .unset] [(.int (if (p0 &&& (1 : Int32)) = (0 : Int32) then (0 : Int32) else (1 : Int32))), (.int (0 : Int32)), (.ref b72)])) := by
      by_cases hm74 : (p0 &&& (1 : Int32)) = (0 : Int32)
      · simp only [if_pos hm74]
        refine s73.trans ?_
        refine XS.ifYes X72.here hx rfl (pc0 := 23) (pc' := 30) rfl (hb hby at_23) rfl ((if0 _ _).trans (teq hm74).1) (by decide) (by decide) ?_
        show Steps p.tables e below (T72.setTop (mkF m 30 #[.val (.int p0), .val (.int p1), .val (.int p2), .val (.int (3 : Int32)), .val (.ref b72), .unset, .unset, .unset, .unset] [(.int (0 : Int32)), (.ref b72)])) _
        refine XS.iconst X72.here hx rfl (hb hby at_30) ?_
        exact Steps.refl _
      · simp only [if_neg hm74]
        refine s73.trans ?_
        refine XS.ifNo X72.here hx rfl (hb hby at_23) rfl ((if0 _ _).trans (feq hm74).1) ?_
        show Steps p.tables e below (T72.setTop (mkF m 26 #[.val (.int p0), .val (.int p1), .val (.int p2), .val (.int (3 : Int32)), .val (.ref b72), .unset, .unset, .unset, .unset] [(.int (0 : Int32)), (.ref b72)])) _
        refine XS.iconst X72.here hx rfl (hb hby at_26) ?_
        refine XS.goto X72.here hx rfl (pc0 := 27) (pc' := 31) rfl (hb hby at_27) (by decide) (by decide) ?_
        exact Steps.refl _
    obtain ⟨z0, hz0⟩ : ∃ z, z = (if (p0 &&& (1 : Int32)) = (0 : Int32) then (0 : Int32) else (1 : Int32)) := ⟨_, rfl⟩
    rw [← hz0] at s75
    obtain ⟨cla76, Ara76, qa76, Sa76, Za76, Ha76, Ga76⟩ := id V72
    have hin77 : ¬ ((0 : Int32) < 0 ∨ cla76.slots.size ≤ ((0 : Int32)).toNatClampNeg) := inb_of Sa76 ⟨by decide, by decide⟩
    obtain ⟨T78, h78, X78, e78, W78, st78⟩ := stZ X72 hx hZ e72 Ara76 (j := (0 : Int32)) hin77 (g := (mkF m 31 #[.val (.int p0), .val (.int p1), .val (.int p2), .val (.int (3 : Int32)), .val (.ref b72), .unset, .unset, .unset, .unset] [(.int z0), (.int (0 : Int32)), (.ref b72)])) rfl rfl (hb hby at_31)
    have O78 := O72.wr W78 g_b72
    have N78 := Fr.snoc X78 N0 g_b72
    have V78 : Arv Z h78 b72 k72 .boolean (3 : Int32) [(.int (nar .boolean z0)), (.int (0 : Int32)), (.int (0 : Int32))] (.int (0 : Int32)) := Arv.set Ara76 qa76 Sa76 Za76 Ha76 Ga76 (fits_nar_bool _) W78 0 rfl (Nat.le_of_ble_eq_true rfl)
    have s79 : Steps p.tables e below A₀ (T78.setTop (mkF m 43 #[.val (.int p0), .val (.int p1), .val (.int p2), .val (.int (3 : Int32)), .val (.ref b72), .unset, .unset, .unset, .unset] [(.int (p0 &&& (2 : Int32))), (.int (1 : Int32)), (.ref b72)])) := by
      refine s75.trans ?_
      refine st78 _ ?_
      show Steps p.tables e below (T78.setTop (mkF m 32 #[.val (.int p0), .val (.int p1), .val (.int p2), .val (.int (3 : Int32)), .val (.ref b72), .unset, .unset, .unset, .unset] [])) _
      refine XS.iloadN X78.here hx rfl (hb hby at_32) rfl ?_
      refine XS.iconst X78.here hx rfl (hb hby at_33) ?_
      refine XS.icmpNo X78.here hx rfl (hb hby at_34) rfl (tlt (by decide)).2.2.2 ?_
      refine XS.aload X78.here hx rfl (hb hby at_37) rfl rfl ?_
      refine XS.iconst X78.here hx rfl (hb hby at_39) ?_
      refine XS.iloadN X78.here hx rfl (hb hby at_40) rfl ?_
      show Steps p.tables e below (T78.setTop (mkF m 41 #[.val (.int p0), .val (.int p1), .val (.int p2), .val (.int (3 : Int32)), .val (.ref b72), .unset, .unset, .unset, .unset] [(.int p0), (.int (1 : Int32)), (.ref b72)])) _
      refine XS.iconst X78.here hx rfl (hb hby at_41) ?_
      refine XS.iand X78.here hx rfl (hb hby at_42) rfl ?_
      exact Steps.refl _
    have s81 : Steps p.tables e below A₀ (T78.setTop (mkF m 51 #[.val (.int p0), .val (.int p1), .val (.int p2), .val (.int (3 : Int32)), .val (.ref b72), .unset, .unset, .unset, .unset] [(.int (if (p0 &&& (2 : Int32)) = (0 : Int32) then (0 : Int32) else (1 : Int32))), (.int (1 : Int32)), (.ref b72)])) := by
      by_cases hm80 : (p0 &&& (2 : Int32)) = (0 : Int32)
      · simp only [if_pos hm80]
        refine s79.trans ?_
        refine XS.ifYes X78.here hx rfl (pc0 := 43) (pc' := 50) rfl (hb hby at_43) rfl ((if0 _ _).trans (teq hm80).1) (by decide) (by decide) ?_
        show Steps p.tables e below (T78.setTop (mkF m 50 #[.val (.int p0), .val (.int p1), .val (.int p2), .val (.int (3 : Int32)), .val (.ref b72), .unset, .unset, .unset, .unset] [(.int (1 : Int32)), (.ref b72)])) _
        refine XS.iconst X78.here hx rfl (hb hby at_50) ?_
        exact Steps.refl _
      · simp only [if_neg hm80]
        refine s79.trans ?_
        refine XS.ifNo X78.here hx rfl (hb hby at_43) rfl ((if0 _ _).trans (feq hm80).1) ?_
        show Steps p.tables e below (T78.setTop (mkF m 46 #[.val (.int p0), .val (.int p1), .val (.int p2), .val (.int (3 : Int32)), .val (.ref b72), .unset, .unset, .unset, .unset] [(.int (1 : Int32)), (.ref b72)])) _
        refine XS.iconst X78.here hx rfl (hb hby at_46) ?_
        refine XS.goto X78.here hx rfl (pc0 := 47) (pc' := 51) rfl (hb hby at_47) (by decide) (by decide) ?_
        exact Steps.refl _
    obtain ⟨z1, hz1⟩ : ∃ z, z = (if (p0 &&& (2 : Int32)) = (0 : Int32) then (0 : Int32) else (1 : Int32)) := ⟨_, rfl⟩
    rw [← hz1] at s81
    obtain ⟨cla82, Ara82, qa82, Sa82, Za82, Ha82, Ga82⟩ := id V78
    have hin83 : ¬ ((1 : Int32) < 0 ∨ cla82.slots.size ≤ ((1 : Int32)).toNatClampNeg) := inb_of Sa82 ⟨by decide, by decide⟩
    obtain ⟨T84, h84, X84, e84, W84, st84⟩ := stZ X78 hx hZ e78 Ara82 (j := (1 : Int32)) hin83 (g := (mkF m 51 #[.val (.int p0), .val (.int p1), .val (.int p2), .val (.int (3 : Int32)), .val (.ref b72), .unset, .unset, .unset, .unset] [(.int z1), (.int (1 : Int32)), (.ref b72)])) rfl rfl (hb hby at_51)
    have O84 := O78.wr W84 g_b72
    have N84 := Fr.snoc X84 N78 g_b72
    have V84 : Arv Z h84 b72 k72 .boolean (3 : Int32) [(.int (nar .boolean z0)), (.int (nar .boolean z1)), (.int (0 : Int32))] (.int (0 : Int32)) := Arv.set Ara82 qa82 Sa82 Za82 Ha82 Ga82 (fits_nar_bool _) W84 1 rfl (Nat.le_of_ble_eq_true rfl)
    have s85 : Steps p.tables e below A₀ (T84.setTop (mkF m 63 #[.val (.int p0), .val (.int p1), .val (.int p2), .val (.int (3 : Int32)), .val (.ref b72), .unset, .unset, .unset, .unset] [(.int (p0 &&& (4 : Int32))), (.int (2 : Int32)), (.ref b72)])) := by
      refine s81.trans ?_
      refine st84 _ ?_
      show Steps p.tables e below (T84.setTop (mkF m 52 #[.val (.int p0), .val (.int p1), .val (.int p2), .val (.int (3 : Int32)), .val (.ref b72), .unset, .unset, .unset, .unset] [])) _
      refine XS.iloadN X84.here hx rfl (hb hby at_52) rfl ?_
      refine XS.iconst X84.here hx rfl (hb hby at_53) ?_
      refine XS.icmpNo X84.here hx rfl (hb hby at_54) rfl (tlt (by decide)).2.2.2 ?_
      refine XS.aload X84.here hx rfl (hb hby at_57) rfl rfl ?_
      refine XS.iconst X84.here hx rfl (hb hby at_59) ?_
      refine XS.iloadN X84.here hx rfl (hb hby at_60) rfl ?_
      show Steps p.tables e below (T84.setTop (mkF m 61 #[.val (.int p0), .val (.int p1), .val (.int p2), .val (.int (3 : Int32)), .val (.ref b72), .unset, .unset, .unset, .unset] [(.int p0), (.int (2 : Int32)), (.ref b72)])) _
      refine XS.iconst X84.here hx rfl (hb hby at_61) ?_
      refine XS.iand X84.here hx rfl (hb hby at_62) rfl ?_
      exact Steps.refl _
    have s87 : Steps p.tables e below A₀ (T84.setTop (mkF m 71 #[.val (.int p0), .val (.int p1), .val (.int p2), .val (.int (3 : Int32)), .val (.ref b72), .unset, .unset, .unset, .unset] [(.int (if (p0 &&& (4 : Int32)) = (0 : Int32) then (0 : Int32) else (1 : Int32))), (.int (2 : Int32)), (.ref b72)])) := by
      by_cases hm86 : (p0 &&& (4 : Int32)) = (0 : Int32)
      · simp only [if_pos hm86]
        refine s85.trans ?_
        refine XS.ifYes X84.here hx rfl (pc0 := 63) (pc' := 70) rfl (hb hby at_63) rfl ((if0 _ _).trans (teq hm86).1) (by decide) (by decide) ?_
        show Steps p.tables e below (T84.setTop (mkF m 70 #[.val (.int p0), .val (.int p1), .val (.int p2), .val (.int (3 : Int32)), .val (.ref b72), .unset, .unset, .unset, .unset] [(.int (2 : Int32)), (.ref b72)])) _
        refine XS.iconst X84.here hx rfl (hb hby at_70) ?_
        exact Steps.refl _
      · simp only [if_neg hm86]
        refine s85.trans ?_
        refine XS.ifNo X84.here hx rfl (hb hby at_63) rfl ((if0 _ _).trans (feq hm86).1) ?_
        show Steps p.tables e below (T84.setTop (mkF m 66 #[.val (.int p0), .val (.int p1), .val (.int p2), .val (.int (3 : Int32)), .val (.ref b72), .unset, .unset, .unset, .unset] [(.int (2 : Int32)), (.ref b72)])) _
        refine XS.iconst X84.here hx rfl (hb hby at_66) ?_
        refine XS.goto X84.here hx rfl (pc0 := 67) (pc' := 71) rfl (hb hby at_67) (by decide) (by decide) ?_
        exact Steps.refl _
    obtain ⟨z2, hz2⟩ : ∃ z, z = (if (p0 &&& (4 : Int32)) = (0 : Int32) then (0 : Int32) else (1 : Int32)) := ⟨_, rfl⟩
    rw [← hz2] at s87
    obtain ⟨cla88, Ara88, qa88, Sa88, Za88, Ha88, Ga88⟩ := id V84
    have hin89 : ¬ ((2 : Int32) < 0 ∨ cla88.slots.size ≤ ((2 : Int32)).toNatClampNeg) := inb_of Sa88 ⟨by decide, by decide⟩
    obtain ⟨T90, h90, X90, e90, W90, st90⟩ := stZ X84 hx hZ e84 Ara88 (j := (2 : Int32)) hin89 (g := (mkF m 71 #[.val (.int p0), .val (.int p1), .val (.int p2), .val (.int (3 : Int32)), .val (.ref b72), .unset, .unset, .unset, .unset] [(.int z2), (.int (2 : Int32)), (.ref b72)])) rfl rfl (hb hby at_71)
    have O90 := O84.wr W90 g_b72
    have N90 := Fr.snoc X90 N84 g_b72
    have V90 : Arv Z h90 b72 k72 .boolean (3 : Int32) [(.int (nar .boolean z0)), (.int (nar .boolean z1)), (.int (nar .boolean z2))] (.int (0 : Int32)) := Arv.set Ara88 qa88 Sa88 Za88 Ha88 Ga88 (fits_nar_bool _) W90 2 rfl (Nat.le_of_ble_eq_true rfl)
    obtain ⟨_, _, ⟨T91, L91, k91, n91⟩, -, X91, ⟨Lc91, hQ91, l91, y91, z91⟩, st91⟩ := Jvm.LawKit.callS X90 hx (y := (⟨"com/example/libprox/libprox/Cpe", "tiedStopWords", "([Z)Lcom/example/libprox/libprox/Combinations$Rule;"⟩ : MethodName)) hown (mvT hZ (hw _ (List.mem_of_getElem? (i := 2) rfl))) (mvT hZ (hw _ (List.mem_of_getElem? (i := 3) rfl))) (mvT hZ (hw _ (List.mem_of_getElem? (i := 4) rfl))) (mvT hZ (hw _ (List.mem_of_getElem? (i := 5) rfl))) (by decide) (backOf (W := 0) (rmt3 l Z a0 hw [] b72 k72 (nar .boolean z0) (nar .boolean z1) (nar .boolean z2) h90 n0 O90 V90) hZ (hw _ (List.mem_of_getElem? (i := 5) rfl)) (hw _ (List.mem_of_getElem? (i := 4) rfl)) (by decide) (by decide)) (g := (mkF m 116 #[.val (.int p0), .val (.int p1), .val (.int p2), .val (.int (3 : Int32)), .val (.ref b72), .unset, .unset, .unset, .unset] [(.ref b72)])) rfl (by rw [hml]; rfl) (argsL := [(.ref b72)]) (rest := []) (lenOf pd_rm0_0 rfl) rfl (by show 2 * 0 + _ ≤ _; exact Nat.le_of_eq rfl) (hb hby at_116) (fun _ _ => ⟨rfl, e90, (by decide : 1 + 3 ≤ _), (by decide : 3 + 8 ≤ _)⟩)
    dsimp only [Pt.U, Pt.locs, Pt.cells, Pt.slots] at X91 l91 y91 z91 st91 hQ91
    subst l91 y91 z91
    obtain ⟨u92, u93, u94, u95, u96, rfl, Nq91, Kc91, f91_0, f91_1, f91_2, f91_3, f91_4⟩ := hQ91
    have N91 := Fr.app N90 Nq91
    have O91 := O90.keep Kc91 all0
    have s97 : Steps p.tables e below A₀ (T91.setTop (mkF m 142 #[.val (.int p0), .val (.int p1), .val (.int p2), .val (.int (3 : Int32)), .val (.ref b72), .val (.ref u92), .unset, .unset, .unset] [(.int ((p2 &&& (2147483647 : Int32)) % (3 : Int32)))])) := by
      refine s87.trans ?_
      refine st90 _ ?_
      show Steps p.tables e below (T90.setTop (mkF m 72 #[.val (.int p0), .val (.int p1), .val (.int p2), .val (.int (3 : Int32)), .val (.ref b72), .unset, .unset, .unset, .unset] [])) _
      refine XS.iloadN X90.here hx rfl (hb hby at_72) rfl ?_
      refine XS.iconst X90.here hx rfl (hb hby at_73) ?_
      refine XS.icmpYes X90.here hx rfl (pc0 := 74) (pc' := 93) rfl (hb hby at_74) rfl (flt (by decide)).2.2.2 (by decide) (by decide) ?_
      refine XS.iloadN X90.here hx rfl (hb hby at_93) rfl ?_
      refine XS.iconst X90.here hx rfl (hb hby at_94) ?_
      refine XS.icmpYes X90.here hx rfl (pc0 := 95) (pc' := 114) rfl (hb hby at_95) rfl (flt (by decide)).2.2.2 (by decide) (by decide) ?_
      show Steps p.tables e below (T90.setTop (mkF m 114 #[.val (.int p0), .val (.int p1), .val (.int p2), .val (.int (3 : Int32)), .val (.ref b72), .unset, .unset, .unset, .unset] [])) _
      refine XS.aload X90.here hx rfl (hb hby at_114) rfl rfl ?_
      refine st91 _ ?_
      refine XS.astore X91.here hx rfl (hb hby at_119) rfl rfl (l' := #[.val (.int p0), .val (.int p1), .val (.int p2), .val (.int (3 : Int32)), .val (.ref b72), .val (.ref u92), .unset, .unset, .unset]) rfl ?_
      refine XS.iloadN X91.here hx rfl (hb hby at_121) rfl ?_
      refine XS.ifYes X91.here hx rfl (pc0 := 122) (pc' := 136) rfl (hb hby at_122) rfl ((if0 _ _).trans (feq (by decide)).2) (by decide) (by decide) ?_
      refine XS.iloadN X91.here hx rfl (hb hby at_136) rfl ?_
      show Steps p.tables e below (T91.setTop (mkF m 137 #[.val (.int p0), .val (.int p1), .val (.int p2), .val (.int (3 : Int32)), .val (.ref b72), .val (.ref u92), .unset, .unset, .unset] [(.int p2)])) _
      refine X91.ldcInt hx hown (mvT hZ (hw _ (List.mem_of_getElem? (i := 0) rfl))) (g := (mkF m 137 #[.val (.int p0), .val (.int p1), .val (.int p2), .val (.int (3 : Int32)), .val (.ref b72), .val (.ref u92), .unset, .unset, .unset] [(.int p2)])) rfl (hb hby at_137) _ ?_
      refine XS.iand X91.here hx rfl (hb hby at_139) rfl ?_
      refine XS.iloadN X91.here hx rfl (hb hby at_140) rfl ?_
      refine Jvm.RoadKit.iremM (g := (mkF m 141 #[.val (.int p0), .val (.int p1), .val (.int p2), .val (.int (3 : Int32)), .val (.ref b72), .val (.ref u92), .unset, .unset, .unset] [(.int (3 : Int32)), (.int (p2 &&& (2147483647 : Int32)))])) X91 hx rfl (hb hby at_141) rfl (by decide) ?_
      exact Steps.refl _
    rcases own_mod3 p2 with hk98 | hk98 | hk98
    · have s99 := s97
      rw [hk98] at s99
      obtain ⟨cq100, kq100, q100a, q100b, q100c⟩ := isOf hZ (rfl : T91.heap = T91.heap) f91_0
      obtain ⟨_, _, ⟨T100, L100, k100, n100⟩, -, X100, ⟨Lc100, hQ100, l100, y100, z100⟩, st100⟩ := X91.interfaceBack hx (xi := (⟨"com/example/libprox/libprox/Combinations$Rule", "tiedFrom", "(I)I"⟩ : MethodName)) (y := (⟨"com/example/libprox/libprox/Cpe$1", "tiedFrom", "(I)I"⟩ : MethodName)) hown (mvT hZ (hw _ (List.mem_of_getElem? (i := 24) rfl))) (mvT hZ (hw _ (List.mem_of_getElem? (i := 25) rfl))) (mvT hZ (hw _ (List.mem_of_getElem? (i := 26) rfl))) (mvT hZ (hw _ (List.mem_of_getElem? (i := 27) rfl))) (mvT hZ (hw _ (List.mem_of_getElem? (i := 28) rfl))) (mvT hZ (hw _ (List.mem_of_getElem? (i := 29) rfl))) (mvT hZ (hw _ (List.mem_of_getElem? (i := 30) rfl))) (mvT hZ (hw _ (List.mem_of_getElem? (i := 31) rfl))) (by decide) (backOf (W := 0) (rmtiedFrom l Z a0 hw [] u92 (0 : Int32) u93 u95 (3 : Int32) [(.int (own_F3_0 (nar .boolean z0) (nar .boolean z1) (nar .boolean z2))), (.int (own_F3_1 (nar .boolean z0) (nar .boolean z1) (nar .boolean z2))), (.int (own_F3_2 (nar .boolean z0) (nar .boolean z1) (nar .boolean z2)))] (own_F3_0 (nar .boolean z0) (nar .boolean z1) (nar .boolean z2)) T91.heap n0 O91 f91_1 f91_3 ⟨by decide, by decide⟩ rfl) hZ (hw _ (List.mem_of_getElem? (i := 32) rfl)) (hw _ (List.mem_of_getElem? (i := 13) rfl)) (by decide) (by decide)) q100a q100b q100c (g := (mkF m 148 #[.val (.int p0), .val (.int p1), .val (.int p2), .val (.int (3 : Int32)), .val (.ref b72), .val (.ref u92), .val (.int (0 : Int32)), .unset, .unset] [(.int (0 : Int32)), (.ref u92)])) rfl (by rw [hml]; rfl) (Steps.refl _) (argsL := [(.int (0 : Int32))]) (rest := []) (lenOf pd_rm0_1 rfl) rfl (by show 2 * 0 + _ ≤ _; exact Nat.le_of_eq rfl) (hb hby at_148) (fun _ _ => ⟨rfl, (rfl : T91.heap = T91.heap), (by decide : 4 + 0 ≤ _), (by decide : 11 + 0 ≤ _)⟩)
      dsimp only [Pt.U, Pt.locs, Pt.cells, Pt.slots] at X100 l100 y100 z100 st100 hQ100
      subst l100 y100 z100
      obtain ⟨rfl, Nq100, e100⟩ := hQ100
      have N100 := Fr.app N91 Nq100
      obtain ⟨cq101, kq101, q101a, q101b, q101c⟩ := isOf hZ e100 f91_0
      obtain ⟨_, _, ⟨T101, L101, k101, n101⟩, -, X101, ⟨Lc101, hQ101, l101, y101, z101⟩, st101⟩ := X100.interfaceBack hx (xi := (⟨"com/example/libprox/libprox/Combinations$Rule", "tiedTo", "(I)I"⟩ : MethodName)) (y := (⟨"com/example/libprox/libprox/Cpe$1", "tiedTo", "(I)I"⟩ : MethodName)) hown (mvT hZ (hw _ (List.mem_of_getElem? (i := 33) rfl))) (mvT hZ (hw _ (List.mem_of_getElem? (i := 34) rfl))) (mvT hZ (hw _ (List.mem_of_getElem? (i := 35) rfl))) (mvT hZ (hw _ (List.mem_of_getElem? (i := 36) rfl))) (mvT hZ (hw _ (List.mem_of_getElem? (i := 37) rfl))) (mvT hZ (hw _ (List.mem_of_getElem? (i := 38) rfl))) (mvT hZ (hw _ (List.mem_of_getElem? (i := 39) rfl))) (mvT hZ (hw _ (List.mem_of_getElem? (i := 31) rfl))) (by decide) (backOf (W := 0) (rmtiedTo l Z a0 hw [] u92 (0 : Int32) u94 u96 (3 : Int32) [(.int (own_T3_0 (nar .boolean z0) (nar .boolean z1) (nar .boolean z2))), (.int (own_T3_1 (nar .boolean z0) (nar .boolean z1) (nar .boolean z2))), (.int (own_T3_2 (nar .boolean z0) (nar .boolean z1) (nar .boolean z2)))] (own_T3_0 (nar .boolean z0) (nar .boolean z1) (nar .boolean z2)) T91.heap n0 O91 f91_2 f91_4 ⟨by decide, by decide⟩ rfl) hZ (hw _ (List.mem_of_getElem? (i := 40) rfl)) (hw _ (List.mem_of_getElem? (i := 13) rfl)) (by decide) (by decide)) q101a q101b q101c (g := (mkF m 159 #[.val (.int p0), .val (.int p1), .val (.int p2), .val (.int (3 : Int32)), .val (.ref b72), .val (.ref u92), .val (.int (0 : Int32)), .val (.int (own_F3_0 (nar .boolean z0) (nar .boolean z1) (nar .boolean z2))), .unset] [(.int (0 : Int32)), (.ref u92)])) rfl (by rw [hml]; rfl) (Steps.refl _) (argsL := [(.int (0 : Int32))]) (rest := []) (lenOf pd_rm0_1 rfl) rfl (by show 2 * 0 + _ ≤ _; exact Nat.le_of_eq rfl) (hb hby at_159) (fun _ _ => ⟨rfl, e100, (by decide : 4 + 0 ≤ _), (by decide : 11 + 0 ≤ _)⟩)
      dsimp only [Pt.U, Pt.locs, Pt.cells, Pt.slots] at X101 l101 y101 z101 st101 hQ101
      subst l101 y101 z101
      obtain ⟨rfl, Nq101, e101⟩ := hQ101
      have N101 := Fr.app N100 Nq101
      have c102 : Arv Z T91.heap b72 k72 .boolean (3 : Int32) [(.int (nar .boolean z0)), (.int (nar .boolean z1)), (.int (nar .boolean z2))] (.int (0 : Int32)) := (V90.keep Kc91 nin0)
      obtain ⟨T103, L103, X103, e103, N103, st103⟩ := own_callP X101 hx hZ hown (wk41 hw) (wk42 hw) (wk43 hw) (wk44 hw) (by decide) (rmrefFrom l Z a0 hw [] b72 (3 : Int32) (0 : Int32) k72 [(nar .boolean z0), (nar .boolean z1), (nar .boolean z2)] T91.heap n0 O91 c102) e101 N101 (W := 1) (by decide) (by decide) (by decide) (by decide) (g := (mkF m 173 #[.val (.int p0), .val (.int p1), .val (.int p2), .val (.int (3 : Int32)), .val (.ref b72), .val (.ref u92), .val (.int (0 : Int32)), .val (.int (own_F3_0 (nar .boolean z0) (nar .boolean z1) (nar .boolean z2))), .val (.int (own_T3_0 (nar .boolean z0) (nar .boolean z1) (nar .boolean z2)))] [(.int (0 : Int32)), (.int (3 : Int32)), (.ref b72), (.int (own_F3_0 (nar .boolean z0) (nar .boolean z1) (nar .boolean z2)))])) rfl (by rw [hml]; rfl) (argsL := [(.ref b72), (.int (3 : Int32)), (.int (0 : Int32))]) (rest := [(.int (own_F3_0 (nar .boolean z0) (nar .boolean z1) (nar .boolean z2)))]) (lenOf pd_rm0_2 rfl) rfl (by show 2 * 0 + _ ≤ _; exact Nat.le_of_eq rfl) (hb hby at_173)
      obtain ⟨T104, L104, X104, e104, N104, st104⟩ := own_callP X103 hx hZ hown (wk48 hw) (wk49 hw) (wk43 hw) (wk50 hw) (by decide) (rmrefTo l Z a0 hw [] b72 (3 : Int32) (0 : Int32) k72 [(nar .boolean z0), (nar .boolean z1), (nar .boolean z2)] T91.heap n0 O91 c102) e103 N103 (W := 1) (by decide) (by decide) (by decide) (by decide) (g := (mkF m 186 #[.val (.int p0), .val (.int p1), .val (.int p2), .val (.int (3 : Int32)), .val (.ref b72), .val (.ref u92), .val (.int (0 : Int32)), .val (.int (own_F3_0 (nar .boolean z0) (nar .boolean z1) (nar .boolean z2))), .val (.int (own_T3_0 (nar .boolean z0) (nar .boolean z1) (nar .boolean z2)))] [(.int (0 : Int32)), (.int (3 : Int32)), (.ref b72), (.int (own_T3_0 (nar .boolean z0) (nar .boolean z1) (nar .boolean z2)))])) rfl (by rw [hml]; rfl) (argsL := [(.ref b72), (.int (3 : Int32)), (.int (0 : Int32))]) (rest := [(.int (own_T3_0 (nar .boolean z0) (nar .boolean z1) (nar .boolean z2)))]) (lenOf pd_rm0_2 rfl) rfl (by show 2 * 0 + _ ≤ _; exact Nat.le_of_eq rfl) (hb hby at_186)
      have s105 : Steps p.tables e below A₀ (T104.setTop (mkF m 197 #[.val (.int p0), .val (.int p1), .val (.int p2), .val (.int (3 : Int32)), .val (.ref b72), .val (.ref u92), .val (.int (0 : Int32)), .val (.int (own_F3_0 (nar .boolean z0) (nar .boolean z1) (nar .boolean z2))), .val (.int (own_T3_0 (nar .boolean z0) (nar .boolean z1) (nar .boolean z2)))] [(.int (1 : Int32))])) := by
        refine s99.trans ?_
        refine XS.istore X91.here hx rfl (hb hby at_142) rfl (l' := #[.val (.int p0), .val (.int p1), .val (.int p2), .val (.int (3 : Int32)), .val (.ref b72), .val (.ref u92), .val (.int (0 : Int32)), .unset, .unset]) rfl ?_
        show Steps p.tables e below (T91.setTop (mkF m 144 #[.val (.int p0), .val (.int p1), .val (.int p2), .val (.int (3 : Int32)), .val (.ref b72), .val (.ref u92), .val (.int (0 : Int32)), .unset, .unset] [])) _
        refine XS.aload X91.here hx rfl (hb hby at_144) rfl rfl ?_
        refine XS.iload X91.here hx rfl (hb hby at_146) rfl ?_
        refine st100.trans ?_
        refine XS.istore X100.here hx rfl (hb hby at_153) rfl (l' := #[.val (.int p0), .val (.int p1), .val (.int p2), .val (.int (3 : Int32)), .val (.ref b72), .val (.ref u92), .val (.int (0 : Int32)), .val (.int (own_F3_0 (nar .boolean z0) (nar .boolean z1) (nar .boolean z2))), .unset]) rfl ?_
        refine XS.aload X100.here hx rfl (hb hby at_155) rfl rfl ?_
        refine XS.iload X100.here hx rfl (hb hby at_157) rfl ?_
        show Steps p.tables e below (T100.setTop (mkF m 159 #[.val (.int p0), .val (.int p1), .val (.int p2), .val (.int (3 : Int32)), .val (.ref b72), .val (.ref u92), .val (.int (0 : Int32)), .val (.int (own_F3_0 (nar .boolean z0) (nar .boolean z1) (nar .boolean z2))), .unset] [(.int (0 : Int32)), (.ref u92)])) _
        refine st101.trans ?_
        refine XS.istore X101.here hx rfl (hb hby at_164) rfl (l' := #[.val (.int p0), .val (.int p1), .val (.int p2), .val (.int (3 : Int32)), .val (.ref b72), .val (.ref u92), .val (.int (0 : Int32)), .val (.int (own_F3_0 (nar .boolean z0) (nar .boolean z1) (nar .boolean z2))), .val (.int (own_T3_0 (nar .boolean z0) (nar .boolean z1) (nar .boolean z2)))]) rfl ?_
        refine XS.iload X101.here hx rfl (hb hby at_166) rfl ?_
        refine XS.aload X101.here hx rfl (hb hby at_168) rfl rfl ?_
        refine XS.iloadN X101.here hx rfl (hb hby at_170) rfl ?_
        refine XS.iload X101.here hx rfl (hb hby at_171) rfl ?_
        show Steps p.tables e below (T101.setTop (mkF m 173 #[.val (.int p0), .val (.int p1), .val (.int p2), .val (.int (3 : Int32)), .val (.ref b72), .val (.ref u92), .val (.int (0 : Int32)), .val (.int (own_F3_0 (nar .boolean z0) (nar .boolean z1) (nar .boolean z2))), .val (.int (own_T3_0 (nar .boolean z0) (nar .boolean z1) (nar .boolean z2)))] [(.int (0 : Int32)), (.int (3 : Int32)), (.ref b72), (.int (own_F3_0 (nar .boolean z0) (nar .boolean z1) (nar .boolean z2)))])) _
        refine st103 _ ?_
        refine XS.icmpNo X103.here hx rfl (hb hby at_176) rfl (teq (own_finF3_0 (nar .boolean z0) (nar .boolean z1) (nar .boolean z2))).2 ?_
        refine XS.iload X103.here hx rfl (hb hby at_179) rfl ?_
        refine XS.aload X103.here hx rfl (hb hby at_181) rfl rfl ?_
        refine XS.iloadN X103.here hx rfl (hb hby at_183) rfl ?_
        refine XS.iload X103.here hx rfl (hb hby at_184) rfl ?_
        show Steps p.tables e below (T103.setTop (mkF m 186 #[.val (.int p0), .val (.int p1), .val (.int p2), .val (.int (3 : Int32)), .val (.ref b72), .val (.ref u92), .val (.int (0 : Int32)), .val (.int (own_F3_0 (nar .boolean z0) (nar .boolean z1) (nar .boolean z2))), .val (.int (own_T3_0 (nar .boolean z0) (nar .boolean z1) (nar .boolean z2)))] [(.int (0 : Int32)), (.int (3 : Int32)), (.ref b72), (.int (own_T3_0 (nar .boolean z0) (nar .boolean z1) (nar .boolean z2)))])) _
        refine st104 _ ?_
        refine XS.icmpNo X104.here hx rfl (hb hby at_189) rfl (teq (own_finT3_0 (nar .boolean z0) (nar .boolean z1) (nar .boolean z2))).2 ?_
        refine XS.iconst X104.here hx rfl (hb hby at_192) ?_
        refine XS.goto X104.here hx rfl (pc0 := 193) (pc' := 197) rfl (hb hby at_193) (by decide) (by decide) ?_
        exact Steps.refl _
      subst hA₀
      obtain ⟨fs, hr, hrun, hended, hW, hsame⟩ := X104.leave (v := some (.int (1 : Int32))) (fun h => by rw [Bd.returns] at h; cases h)
      refine ⟨_, _, s105.trans ?_, hrun, hended, _, _, rfl, ?_, ⟨_, rfl⟩, hW, hsame.mono (by decide) (by decide)⟩
      · show Steps p.tables e below (T104.setTop (mkF m 197 #[.val (.int p0), .val (.int p1), .val (.int p2), .val (.int (3 : Int32)), .val (.ref b72), .val (.ref u92), .val (.int (0 : Int32)), .val (.int (own_F3_0 (nar .boolean z0) (nar .boolean z1) (nar .boolean z2))), .val (.int (own_T3_0 (nar .boolean z0) (nar .boolean z1) (nar .boolean z2)))] [(.int (1 : Int32))])) _
        exact retN X104 hx (t := .boolean) Bd.returns (by simp) (hb hby at_197) hr
      · show Q0 Z p0 p1 p2 h0 n0 _ T104.heap _
        rw [e104]
        exact ⟨rfl, N104⟩
    · have s106 := s97
      rw [hk98] at s106
      obtain ⟨cq107, kq107, q107a, q107b, q107c⟩ := isOf hZ (rfl : T91.heap = T91.heap) f91_0
      obtain ⟨_, _, ⟨T107, L107, k107, n107⟩, -, X107, ⟨Lc107, hQ107, l107, y107, z107⟩, st107⟩ := X91.interfaceBack hx (xi := (⟨"com/example/libprox/libprox/Combinations$Rule", "tiedFrom", "(I)I"⟩ : MethodName)) (y := (⟨"com/example/libprox/libprox/Cpe$1", "tiedFrom", "(I)I"⟩ : MethodName)) hown (mvT hZ (hw _ (List.mem_of_getElem? (i := 24) rfl))) (mvT hZ (hw _ (List.mem_of_getElem? (i := 25) rfl))) (mvT hZ (hw _ (List.mem_of_getElem? (i := 26) rfl))) (mvT hZ (hw _ (List.mem_of_getElem? (i := 27) rfl))) (mvT hZ (hw _ (List.mem_of_getElem? (i := 28) rfl))) (mvT hZ (hw _ (List.mem_of_getElem? (i := 29) rfl))) (mvT hZ (hw _ (List.mem_of_getElem? (i := 30) rfl))) (mvT hZ (hw _ (List.mem_of_getElem? (i := 31) rfl))) (by decide) (backOf (W := 0) (rmtiedFrom l Z a0 hw [] u92 (1 : Int32) u93 u95 (3 : Int32) [(.int (own_F3_0 (nar .boolean z0) (nar .boolean z1) (nar .boolean z2))), (.int (own_F3_1 (nar .boolean z0) (nar .boolean z1) (nar .boolean z2))), (.int (own_F3_2 (nar .boolean z0) (nar .boolean z1) (nar .boolean z2)))] (own_F3_1 (nar .boolean z0) (nar .boolean z1) (nar .boolean z2)) T91.heap n0 O91 f91_1 f91_3 ⟨by decide, by decide⟩ rfl) hZ (hw _ (List.mem_of_getElem? (i := 32) rfl)) (hw _ (List.mem_of_getElem? (i := 13) rfl)) (by decide) (by decide)) q107a q107b q107c (g := (mkF m 148 #[.val (.int p0), .val (.int p1), .val (.int p2), .val (.int (3 : Int32)), .val (.ref b72), .val (.ref u92), .val (.int (1 : Int32)), .unset, .unset] [(.int (1 : Int32)), (.ref u92)])) rfl (by rw [hml]; rfl) (Steps.refl _) (argsL := [(.int (1 : Int32))]) (rest := []) (lenOf pd_rm0_1 rfl) rfl (by show 2 * 0 + _ ≤ _; exact Nat.le_of_eq rfl) (hb hby at_148) (fun _ _ => ⟨rfl, (rfl : T91.heap = T91.heap), (by decide : 4 + 0 ≤ _), (by decide : 11 + 0 ≤ _)⟩)
      dsimp only [Pt.U, Pt.locs, Pt.cells, Pt.slots] at X107 l107 y107 z107 st107 hQ107
      subst l107 y107 z107
      obtain ⟨rfl, Nq107, e107⟩ := hQ107
      have N107 := Fr.app N91 Nq107
      obtain ⟨cq108, kq108, q108a, q108b, q108c⟩ := isOf hZ e107 f91_0
      obtain ⟨_, _, ⟨T108, L108, k108, n108⟩, -, X108, ⟨Lc108, hQ108, l108, y108, z108⟩, st108⟩ := X107.interfaceBack hx (xi := (⟨"com/example/libprox/libprox/Combinations$Rule", "tiedTo", "(I)I"⟩ : MethodName)) (y := (⟨"com/example/libprox/libprox/Cpe$1", "tiedTo", "(I)I"⟩ : MethodName)) hown (mvT hZ (hw _ (List.mem_of_getElem? (i := 33) rfl))) (mvT hZ (hw _ (List.mem_of_getElem? (i := 34) rfl))) (mvT hZ (hw _ (List.mem_of_getElem? (i := 35) rfl))) (mvT hZ (hw _ (List.mem_of_getElem? (i := 36) rfl))) (mvT hZ (hw _ (List.mem_of_getElem? (i := 37) rfl))) (mvT hZ (hw _ (List.mem_of_getElem? (i := 38) rfl))) (mvT hZ (hw _ (List.mem_of_getElem? (i := 39) rfl))) (mvT hZ (hw _ (List.mem_of_getElem? (i := 31) rfl))) (by decide) (backOf (W := 0) (rmtiedTo l Z a0 hw [] u92 (1 : Int32) u94 u96 (3 : Int32) [(.int (own_T3_0 (nar .boolean z0) (nar .boolean z1) (nar .boolean z2))), (.int (own_T3_1 (nar .boolean z0) (nar .boolean z1) (nar .boolean z2))), (.int (own_T3_2 (nar .boolean z0) (nar .boolean z1) (nar .boolean z2)))] (own_T3_1 (nar .boolean z0) (nar .boolean z1) (nar .boolean z2)) T91.heap n0 O91 f91_2 f91_4 ⟨by decide, by decide⟩ rfl) hZ (hw _ (List.mem_of_getElem? (i := 40) rfl)) (hw _ (List.mem_of_getElem? (i := 13) rfl)) (by decide) (by decide)) q108a q108b q108c (g := (mkF m 159 #[.val (.int p0), .val (.int p1), .val (.int p2), .val (.int (3 : Int32)), .val (.ref b72), .val (.ref u92), .val (.int (1 : Int32)), .val (.int (own_F3_1 (nar .boolean z0) (nar .boolean z1) (nar .boolean z2))), .unset] [(.int (1 : Int32)), (.ref u92)])) rfl (by rw [hml]; rfl) (Steps.refl _) (argsL := [(.int (1 : Int32))]) (rest := []) (lenOf pd_rm0_1 rfl) rfl (by show 2 * 0 + _ ≤ _; exact Nat.le_of_eq rfl) (hb hby at_159) (fun _ _ => ⟨rfl, e107, (by decide : 4 + 0 ≤ _), (by decide : 11 + 0 ≤ _)⟩)
      dsimp only [Pt.U, Pt.locs, Pt.cells, Pt.slots] at X108 l108 y108 z108 st108 hQ108
      subst l108 y108 z108
      obtain ⟨rfl, Nq108, e108⟩ := hQ108
      have N108 := Fr.app N107 Nq108
      have c109 : Arv Z T91.heap b72 k72 .boolean (3 : Int32) [(.int (nar .boolean z0)), (.int (nar .boolean z1)), (.int (nar .boolean z2))] (.int (0 : Int32)) := (V90.keep Kc91 nin0)
      obtain ⟨T110, L110, X110, e110, N110, st110⟩ := own_callP X108 hx hZ hown (wk41 hw) (wk42 hw) (wk43 hw) (wk44 hw) (by decide) (rmrefFrom l Z a0 hw [] b72 (3 : Int32) (1 : Int32) k72 [(nar .boolean z0), (nar .boolean z1), (nar .boolean z2)] T91.heap n0 O91 c109) e108 N108 (W := 1) (by decide) (by decide) (by decide) (by decide) (g := (mkF m 173 #[.val (.int p0), .val (.int p1), .val (.int p2), .val (.int (3 : Int32)), .val (.ref b72), .val (.ref u92), .val (.int (1 : Int32)), .val (.int (own_F3_1 (nar .boolean z0) (nar .boolean z1) (nar .boolean z2))), .val (.int (own_T3_1 (nar .boolean z0) (nar .boolean z1) (nar .boolean z2)))] [(.int (1 : Int32)), (.int (3 : Int32)), (.ref b72), (.int (own_F3_1 (nar .boolean z0) (nar .boolean z1) (nar .boolean z2)))])) rfl (by rw [hml]; rfl) (argsL := [(.ref b72), (.int (3 : Int32)), (.int (1 : Int32))]) (rest := [(.int (own_F3_1 (nar .boolean z0) (nar .boolean z1) (nar .boolean z2)))]) (lenOf pd_rm0_2 rfl) rfl (by show 2 * 0 + _ ≤ _; exact Nat.le_of_eq rfl) (hb hby at_173)
      obtain ⟨T111, L111, X111, e111, N111, st111⟩ := own_callP X110 hx hZ hown (wk48 hw) (wk49 hw) (wk43 hw) (wk50 hw) (by decide) (rmrefTo l Z a0 hw [] b72 (3 : Int32) (1 : Int32) k72 [(nar .boolean z0), (nar .boolean z1), (nar .boolean z2)] T91.heap n0 O91 c109) e110 N110 (W := 1) (by decide) (by decide) (by decide) (by decide) (g := (mkF m 186 #[.val (.int p0), .val (.int p1), .val (.int p2), .val (.int (3 : Int32)), .val (.ref b72), .val (.ref u92), .val (.int (1 : Int32)), .val (.int (own_F3_1 (nar .boolean z0) (nar .boolean z1) (nar .boolean z2))), .val (.int (own_T3_1 (nar .boolean z0) (nar .boolean z1) (nar .boolean z2)))] [(.int (1 : Int32)), (.int (3 : Int32)), (.ref b72), (.int (own_T3_1 (nar .boolean z0) (nar .boolean z1) (nar .boolean z2)))])) rfl (by rw [hml]; rfl) (argsL := [(.ref b72), (.int (3 : Int32)), (.int (1 : Int32))]) (rest := [(.int (own_T3_1 (nar .boolean z0) (nar .boolean z1) (nar .boolean z2)))]) (lenOf pd_rm0_2 rfl) rfl (by show 2 * 0 + _ ≤ _; exact Nat.le_of_eq rfl) (hb hby at_186)
      have s112 : Steps p.tables e below A₀ (T111.setTop (mkF m 197 #[.val (.int p0), .val (.int p1), .val (.int p2), .val (.int (3 : Int32)), .val (.ref b72), .val (.ref u92), .val (.int (1 : Int32)), .val (.int (own_F3_1 (nar .boolean z0) (nar .boolean z1) (nar .boolean z2))), .val (.int (own_T3_1 (nar .boolean z0) (nar .boolean z1) (nar .boolean z2)))] [(.int (1 : Int32))])) := by
        refine s106.trans ?_
        refine XS.istore X91.here hx rfl (hb hby at_142) rfl (l' := #[.val (.int p0), .val (.int p1), .val (.int p2), .val (.int (3 : Int32)), .val (.ref b72), .val (.ref u92), .val (.int (1 : Int32)), .unset, .unset]) rfl ?_
        show Steps p.tables e below (T91.setTop (mkF m 144 #[.val (.int p0), .val (.int p1), .val (.int p2), .val (.int (3 : Int32)), .val (.ref b72), .val (.ref u92), .val (.int (1 : Int32)), .unset, .unset] [])) _
        refine XS.aload X91.here hx rfl (hb hby at_144) rfl rfl ?_
        refine XS.iload X91.here hx rfl (hb hby at_146) rfl ?_
        refine st107.trans ?_
        refine XS.istore X107.here hx rfl (hb hby at_153) rfl (l' := #[.val (.int p0), .val (.int p1), .val (.int p2), .val (.int (3 : Int32)), .val (.ref b72), .val (.ref u92), .val (.int (1 : Int32)), .val (.int (own_F3_1 (nar .boolean z0) (nar .boolean z1) (nar .boolean z2))), .unset]) rfl ?_
        refine XS.aload X107.here hx rfl (hb hby at_155) rfl rfl ?_
        refine XS.iload X107.here hx rfl (hb hby at_157) rfl ?_
        show Steps p.tables e below (T107.setTop (mkF m 159 #[.val (.int p0), .val (.int p1), .val (.int p2), .val (.int (3 : Int32)), .val (.ref b72), .val (.ref u92), .val (.int (1 : Int32)), .val (.int (own_F3_1 (nar .boolean z0) (nar .boolean z1) (nar .boolean z2))), .unset] [(.int (1 : Int32)), (.ref u92)])) _
        refine st108.trans ?_
        refine XS.istore X108.here hx rfl (hb hby at_164) rfl (l' := #[.val (.int p0), .val (.int p1), .val (.int p2), .val (.int (3 : Int32)), .val (.ref b72), .val (.ref u92), .val (.int (1 : Int32)), .val (.int (own_F3_1 (nar .boolean z0) (nar .boolean z1) (nar .boolean z2))), .val (.int (own_T3_1 (nar .boolean z0) (nar .boolean z1) (nar .boolean z2)))]) rfl ?_
        refine XS.iload X108.here hx rfl (hb hby at_166) rfl ?_
        refine XS.aload X108.here hx rfl (hb hby at_168) rfl rfl ?_
        refine XS.iloadN X108.here hx rfl (hb hby at_170) rfl ?_
        refine XS.iload X108.here hx rfl (hb hby at_171) rfl ?_
        show Steps p.tables e below (T108.setTop (mkF m 173 #[.val (.int p0), .val (.int p1), .val (.int p2), .val (.int (3 : Int32)), .val (.ref b72), .val (.ref u92), .val (.int (1 : Int32)), .val (.int (own_F3_1 (nar .boolean z0) (nar .boolean z1) (nar .boolean z2))), .val (.int (own_T3_1 (nar .boolean z0) (nar .boolean z1) (nar .boolean z2)))] [(.int (1 : Int32)), (.int (3 : Int32)), (.ref b72), (.int (own_F3_1 (nar .boolean z0) (nar .boolean z1) (nar .boolean z2)))])) _
        refine st110 _ ?_
        refine XS.icmpNo X110.here hx rfl (hb hby at_176) rfl (teq (own_finF3_1 (nar .boolean z0) (nar .boolean z1) (nar .boolean z2))).2 ?_
        refine XS.iload X110.here hx rfl (hb hby at_179) rfl ?_
        refine XS.aload X110.here hx rfl (hb hby at_181) rfl rfl ?_
        refine XS.iloadN X110.here hx rfl (hb hby at_183) rfl ?_
        refine XS.iload X110.here hx rfl (hb hby at_184) rfl ?_
        show Steps p.tables e below (T110.setTop (mkF m 186 #[.val (.int p0), .val (.int p1), .val (.int p2), .val (.int (3 : Int32)), .val (.ref b72), .val (.ref u92), .val (.int (1 : Int32)), .val (.int (own_F3_1 (nar .boolean z0) (nar .boolean z1) (nar .boolean z2))), .val (.int (own_T3_1 (nar .boolean z0) (nar .boolean z1) (nar .boolean z2)))] [(.int (1 : Int32)), (.int (3 : Int32)), (.ref b72), (.int (own_T3_1 (nar .boolean z0) (nar .boolean z1) (nar .boolean z2)))])) _
        refine st111 _ ?_
        refine XS.icmpNo X111.here hx rfl (hb hby at_189) rfl (teq (own_finT3_1 (nar .boolean z0) (nar .boolean z1) (nar .boolean z2))).2 ?_
        refine XS.iconst X111.here hx rfl (hb hby at_192) ?_
        refine XS.goto X111.here hx rfl (pc0 := 193) (pc' := 197) rfl (hb hby at_193) (by decide) (by decide) ?_
        exact Steps.refl _
      subst hA₀
      obtain ⟨fs, hr, hrun, hended, hW, hsame⟩ := X111.leave (v := some (.int (1 : Int32))) (fun h => by rw [Bd.returns] at h; cases h)
      refine ⟨_, _, s112.trans ?_, hrun, hended, _, _, rfl, ?_, ⟨_, rfl⟩, hW, hsame.mono (by decide) (by decide)⟩
      · show Steps p.tables e below (T111.setTop (mkF m 197 #[.val (.int p0), .val (.int p1), .val (.int p2), .val (.int (3 : Int32)), .val (.ref b72), .val (.ref u92), .val (.int (1 : Int32)), .val (.int (own_F3_1 (nar .boolean z0) (nar .boolean z1) (nar .boolean z2))), .val (.int (own_T3_1 (nar .boolean z0) (nar .boolean z1) (nar .boolean z2)))] [(.int (1 : Int32))])) _
        exact retN X111 hx (t := .boolean) Bd.returns (by simp) (hb hby at_197) hr
      · show Q0 Z p0 p1 p2 h0 n0 _ T111.heap _
        rw [e111]
        exact ⟨rfl, N111⟩
    · have s113 := s97
      rw [hk98] at s113
      obtain ⟨cq114, kq114, q114a, q114b, q114c⟩ := isOf hZ (rfl : T91.heap = T91.heap) f91_0
      obtain ⟨_, _, ⟨T114, L114, k114, n114⟩, -, X114, ⟨Lc114, hQ114, l114, y114, z114⟩, st114⟩ := X91.interfaceBack hx (xi := (⟨"com/example/libprox/libprox/Combinations$Rule", "tiedFrom", "(I)I"⟩ : MethodName)) (y := (⟨"com/example/libprox/libprox/Cpe$1", "tiedFrom", "(I)I"⟩ : MethodName)) hown (mvT hZ (hw _ (List.mem_of_getElem? (i := 24) rfl))) (mvT hZ (hw _ (List.mem_of_getElem? (i := 25) rfl))) (mvT hZ (hw _ (List.mem_of_getElem? (i := 26) rfl))) (mvT hZ (hw _ (List.mem_of_getElem? (i := 27) rfl))) (mvT hZ (hw _ (List.mem_of_getElem? (i := 28) rfl))) (mvT hZ (hw _ (List.mem_of_getElem? (i := 29) rfl))) (mvT hZ (hw _ (List.mem_of_getElem? (i := 30) rfl))) (mvT hZ (hw _ (List.mem_of_getElem? (i := 31) rfl))) (by decide) (backOf (W := 0) (rmtiedFrom l Z a0 hw [] u92 (2 : Int32) u93 u95 (3 : Int32) [(.int (own_F3_0 (nar .boolean z0) (nar .boolean z1) (nar .boolean z2))), (.int (own_F3_1 (nar .boolean z0) (nar .boolean z1) (nar .boolean z2))), (.int (own_F3_2 (nar .boolean z0) (nar .boolean z1) (nar .boolean z2)))] (own_F3_2 (nar .boolean z0) (nar .boolean z1) (nar .boolean z2)) T91.heap n0 O91 f91_1 f91_3 ⟨by decide, by decide⟩ rfl) hZ (hw _ (List.mem_of_getElem? (i := 32) rfl)) (hw _ (List.mem_of_getElem? (i := 13) rfl)) (by decide) (by decide)) q114a q114b q114c (g := (mkF m 148 #[.val (.int p0), .val (.int p1), .val (.int p2), .val (.int (3 : Int32)), .val (.ref b72), .val (.ref u92), .val (.int (2 : Int32)), .unset, .unset] [(.int (2 : Int32)), (.ref u92)])) rfl (by rw [hml]; rfl) (Steps.refl _) (argsL := [(.int (2 : Int32))]) (rest := []) (lenOf pd_rm0_1 rfl) rfl (by show 2 * 0 + _ ≤ _; exact Nat.le_of_eq rfl) (hb hby at_148) (fun _ _ => ⟨rfl, (rfl : T91.heap = T91.heap), (by decide : 4 + 0 ≤ _), (by decide : 11 + 0 ≤ _)⟩)
      dsimp only [Pt.U, Pt.locs, Pt.cells, Pt.slots] at X114 l114 y114 z114 st114 hQ114
      subst l114 y114 z114
      obtain ⟨rfl, Nq114, e114⟩ := hQ114
      have N114 := Fr.app N91 Nq114
      obtain ⟨cq115, kq115, q115a, q115b, q115c⟩ := isOf hZ e114 f91_0
      obtain ⟨_, _, ⟨T115, L115, k115, n115⟩, -, X115, ⟨Lc115, hQ115, l115, y115, z115⟩, st115⟩ := X114.interfaceBack hx (xi := (⟨"com/example/libprox/libprox/Combinations$Rule", "tiedTo", "(I)I"⟩ : MethodName)) (y := (⟨"com/example/libprox/libprox/Cpe$1", "tiedTo", "(I)I"⟩ : MethodName)) hown (mvT hZ (hw _ (List.mem_of_getElem? (i := 33) rfl))) (mvT hZ (hw _ (List.mem_of_getElem? (i := 34) rfl))) (mvT hZ (hw _ (List.mem_of_getElem? (i := 35) rfl))) (mvT hZ (hw _ (List.mem_of_getElem? (i := 36) rfl))) (mvT hZ (hw _ (List.mem_of_getElem? (i := 37) rfl))) (mvT hZ (hw _ (List.mem_of_getElem? (i := 38) rfl))) (mvT hZ (hw _ (List.mem_of_getElem? (i := 39) rfl))) (mvT hZ (hw _ (List.mem_of_getElem? (i := 31) rfl))) (by decide) (backOf (W := 0) (rmtiedTo l Z a0 hw [] u92 (2 : Int32) u94 u96 (3 : Int32) [(.int (own_T3_0 (nar .boolean z0) (nar .boolean z1) (nar .boolean z2))), (.int (own_T3_1 (nar .boolean z0) (nar .boolean z1) (nar .boolean z2))), (.int (own_T3_2 (nar .boolean z0) (nar .boolean z1) (nar .boolean z2)))] (own_T3_2 (nar .boolean z0) (nar .boolean z1) (nar .boolean z2)) T91.heap n0 O91 f91_2 f91_4 ⟨by decide, by decide⟩ rfl) hZ (hw _ (List.mem_of_getElem? (i := 40) rfl)) (hw _ (List.mem_of_getElem? (i := 13) rfl)) (by decide) (by decide)) q115a q115b q115c (g := (mkF m 159 #[.val (.int p0), .val (.int p1), .val (.int p2), .val (.int (3 : Int32)), .val (.ref b72), .val (.ref u92), .val (.int (2 : Int32)), .val (.int (own_F3_2 (nar .boolean z0) (nar .boolean z1) (nar .boolean z2))), .unset] [(.int (2 : Int32)), (.ref u92)])) rfl (by rw [hml]; rfl) (Steps.refl _) (argsL := [(.int (2 : Int32))]) (rest := []) (lenOf pd_rm0_1 rfl) rfl (by show 2 * 0 + _ ≤ _; exact Nat.le_of_eq rfl) (hb hby at_159) (fun _ _ => ⟨rfl, e114, (by decide : 4 + 0 ≤ _), (by decide : 11 + 0 ≤ _)⟩)
      dsimp only [Pt.U, Pt.locs, Pt.cells, Pt.slots] at X115 l115 y115 z115 st115 hQ115
      subst l115 y115 z115
      obtain ⟨rfl, Nq115, e115⟩ := hQ115
      have N115 := Fr.app N114 Nq115
      have c116 : Arv Z T91.heap b72 k72 .boolean (3 : Int32) [(.int (nar .boolean z0)), (.int (nar .boolean z1)), (.int (nar .boolean z2))] (.int (0 : Int32)) := (V90.keep Kc91 nin0)
      obtain ⟨T117, L117, X117, e117, N117, st117⟩ := own_callP X115 hx hZ hown (wk41 hw) (wk42 hw) (wk43 hw) (wk44 hw) (by decide) (rmrefFrom l Z a0 hw [] b72 (3 : Int32) (2 : Int32) k72 [(nar .boolean z0), (nar .boolean z1), (nar .boolean z2)] T91.heap n0 O91 c116) e115 N115 (W := 1) (by decide) (by decide) (by decide) (by decide) (g := (mkF m 173 #[.val (.int p0), .val (.int p1), .val (.int p2), .val (.int (3 : Int32)), .val (.ref b72), .val (.ref u92), .val (.int (2 : Int32)), .val (.int (own_F3_2 (nar .boolean z0) (nar .boolean z1) (nar .boolean z2))), .val (.int (own_T3_2 (nar .boolean z0) (nar .boolean z1) (nar .boolean z2)))] [(.int (2 : Int32)), (.int (3 : Int32)), (.ref b72), (.int (own_F3_2 (nar .boolean z0) (nar .boolean z1) (nar .boolean z2)))])) rfl (by rw [hml]; rfl) (argsL := [(.ref b72), (.int (3 : Int32)), (.int (2 : Int32))]) (rest := [(.int (own_F3_2 (nar .boolean z0) (nar .boolean z1) (nar .boolean z2)))]) (lenOf pd_rm0_2 rfl) rfl (by show 2 * 0 + _ ≤ _; exact Nat.le_of_eq rfl) (hb hby at_173)
      obtain ⟨T118, L118, X118, e118, N118, st118⟩ := own_callP X117 hx hZ hown (wk48 hw) (wk49 hw) (wk43 hw) (wk50 hw) (by decide) (rmrefTo l Z a0 hw [] b72 (3 : Int32) (2 : Int32) k72 [(nar .boolean z0), (nar .boolean z1), (nar .boolean z2)] T91.heap n0 O91 c116) e117 N117 (W := 1) (by decide) (by decide) (by decide) (by decide) (g := (mkF m 186 #[.val (.int p0), .val (.int p1), .val (.int p2), .val (.int (3 : Int32)), .val (.ref b72), .val (.ref u92), .val (.int (2 : Int32)), .val (.int (own_F3_2 (nar .boolean z0) (nar .boolean z1) (nar .boolean z2))), .val (.int (own_T3_2 (nar .boolean z0) (nar .boolean z1) (nar .boolean z2)))] [(.int (2 : Int32)), (.int (3 : Int32)), (.ref b72), (.int (own_T3_2 (nar .boolean z0) (nar .boolean z1) (nar .boolean z2)))])) rfl (by rw [hml]; rfl) (argsL := [(.ref b72), (.int (3 : Int32)), (.int (2 : Int32))]) (rest := [(.int (own_T3_2 (nar .boolean z0) (nar .boolean z1) (nar .boolean z2)))]) (lenOf pd_rm0_2 rfl) rfl (by show 2 * 0 + _ ≤ _; exact Nat.le_of_eq rfl) (hb hby at_186)
      have s119 : Steps p.tables e below A₀ (T118.setTop (mkF m 197 #[.val (.int p0), .val (.int p1), .val (.int p2), .val (.int (3 : Int32)), .val (.ref b72), .val (.ref u92), .val (.int (2 : Int32)), .val (.int (own_F3_2 (nar .boolean z0) (nar .boolean z1) (nar .boolean z2))), .val (.int (own_T3_2 (nar .boolean z0) (nar .boolean z1) (nar .boolean z2)))] [(.int (1 : Int32))])) := by
        refine s113.trans ?_
        refine XS.istore X91.here hx rfl (hb hby at_142) rfl (l' := #[.val (.int p0), .val (.int p1), .val (.int p2), .val (.int (3 : Int32)), .val (.ref b72), .val (.ref u92), .val (.int (2 : Int32)), .unset, .unset]) rfl ?_
        show Steps p.tables e below (T91.setTop (mkF m 144 #[.val (.int p0), .val (.int p1), .val (.int p2), .val (.int (3 : Int32)), .val (.ref b72), .val (.ref u92), .val (.int (2 : Int32)), .unset, .unset] [])) _
        refine XS.aload X91.here hx rfl (hb hby at_144) rfl rfl ?_
        refine XS.iload X91.here hx rfl (hb hby at_146) rfl ?_
        refine st114.trans ?_
        refine XS.istore X114.here hx rfl (hb hby at_153) rfl (l' := #[.val (.int p0), .val (.int p1), .val (.int p2), .val (.int (3 : Int32)), .val (.ref b72), .val (.ref u92), .val (.int (2 : Int32)), .val (.int (own_F3_2 (nar .boolean z0) (nar .boolean z1) (nar .boolean z2))), .unset]) rfl ?_
        refine XS.aload X114.here hx rfl (hb hby at_155) rfl rfl ?_
        refine XS.iload X114.here hx rfl (hb hby at_157) rfl ?_
        show Steps p.tables e below (T114.setTop (mkF m 159 #[.val (.int p0), .val (.int p1), .val (.int p2), .val (.int (3 : Int32)), .val (.ref b72), .val (.ref u92), .val (.int (2 : Int32)), .val (.int (own_F3_2 (nar .boolean z0) (nar .boolean z1) (nar .boolean z2))), .unset] [(.int (2 : Int32)), (.ref u92)])) _
        refine st115.trans ?_
        refine XS.istore X115.here hx rfl (hb hby at_164) rfl (l' := #[.val (.int p0), .val (.int p1), .val (.int p2), .val (.int (3 : Int32)), .val (.ref b72), .val (.ref u92), .val (.int (2 : Int32)), .val (.int (own_F3_2 (nar .boolean z0) (nar .boolean z1) (nar .boolean z2))), .val (.int (own_T3_2 (nar .boolean z0) (nar .boolean z1) (nar .boolean z2)))]) rfl ?_
        refine XS.iload X115.here hx rfl (hb hby at_166) rfl ?_
        refine XS.aload X115.here hx rfl (hb hby at_168) rfl rfl ?_
        refine XS.iloadN X115.here hx rfl (hb hby at_170) rfl ?_
        refine XS.iload X115.here hx rfl (hb hby at_171) rfl ?_
        show Steps p.tables e below (T115.setTop (mkF m 173 #[.val (.int p0), .val (.int p1), .val (.int p2), .val (.int (3 : Int32)), .val (.ref b72), .val (.ref u92), .val (.int (2 : Int32)), .val (.int (own_F3_2 (nar .boolean z0) (nar .boolean z1) (nar .boolean z2))), .val (.int (own_T3_2 (nar .boolean z0) (nar .boolean z1) (nar .boolean z2)))] [(.int (2 : Int32)), (.int (3 : Int32)), (.ref b72), (.int (own_F3_2 (nar .boolean z0) (nar .boolean z1) (nar .boolean z2)))])) _
        refine st117 _ ?_
        refine XS.icmpNo X117.here hx rfl (hb hby at_176) rfl (teq (own_finF3_2 (nar .boolean z0) (nar .boolean z1) (nar .boolean z2))).2 ?_
        refine XS.iload X117.here hx rfl (hb hby at_179) rfl ?_
        refine XS.aload X117.here hx rfl (hb hby at_181) rfl rfl ?_
        refine XS.iloadN X117.here hx rfl (hb hby at_183) rfl ?_
        refine XS.iload X117.here hx rfl (hb hby at_184) rfl ?_
        show Steps p.tables e below (T117.setTop (mkF m 186 #[.val (.int p0), .val (.int p1), .val (.int p2), .val (.int (3 : Int32)), .val (.ref b72), .val (.ref u92), .val (.int (2 : Int32)), .val (.int (own_F3_2 (nar .boolean z0) (nar .boolean z1) (nar .boolean z2))), .val (.int (own_T3_2 (nar .boolean z0) (nar .boolean z1) (nar .boolean z2)))] [(.int (2 : Int32)), (.int (3 : Int32)), (.ref b72), (.int (own_T3_2 (nar .boolean z0) (nar .boolean z1) (nar .boolean z2)))])) _
        refine st118 _ ?_
        refine XS.icmpNo X118.here hx rfl (hb hby at_189) rfl (teq (own_finT3_2 (nar .boolean z0) (nar .boolean z1) (nar .boolean z2))).2 ?_
        refine XS.iconst X118.here hx rfl (hb hby at_192) ?_
        refine XS.goto X118.here hx rfl (pc0 := 193) (pc' := 197) rfl (hb hby at_193) (by decide) (by decide) ?_
        exact Steps.refl _
      subst hA₀
      obtain ⟨fs, hr, hrun, hended, hW, hsame⟩ := X118.leave (v := some (.int (1 : Int32))) (fun h => by rw [Bd.returns] at h; cases h)
      refine ⟨_, _, s119.trans ?_, hrun, hended, _, _, rfl, ?_, ⟨_, rfl⟩, hW, hsame.mono (by decide) (by decide)⟩
      · show Steps p.tables e below (T118.setTop (mkF m 197 #[.val (.int p0), .val (.int p1), .val (.int p2), .val (.int (3 : Int32)), .val (.ref b72), .val (.ref u92), .val (.int (2 : Int32)), .val (.int (own_F3_2 (nar .boolean z0) (nar .boolean z1) (nar .boolean z2))), .val (.int (own_T3_2 (nar .boolean z0) (nar .boolean z1) (nar .boolean z2)))] [(.int (1 : Int32))])) _
        exact retN X118 hx (t := .boolean) Bd.returns (by simp) (hb hby at_197) hr
      · show Q0 Z p0 p1 p2 h0 n0 _ T118.heap _
        rw [e118]
        exact ⟨rfl, N118⟩
  · have s120 := s1
    rw [hk2] at s120
    obtain ⟨T121, h121, k121, X121, e121, E121, A121, st121⟩ := newP X0 hx hZ (hw _ (List.mem_of_getElem? (i := 1) rfl)) e0 (g := (mkF m 9 #[.val (.int p0), .val (.int p1), .val (.int p2), .val (.int (4 : Int32)), .unset, .unset, .unset, .unset, .unset] [(.int (4 : Int32))])) rfl (hb hby at_9) rfl (by decide) (cap := 4) (by decide) (by decide) (by decide) (by decide)
    obtain ⟨b121, g121⟩ : ∃ z, z = h0.size := ⟨_, rfl⟩
    rw [← g121] at A121 st121
    have g_b121 : n0 ≤ b121 := Nat.le_trans (Nat.le_of_eq O0.1.symm) (Nat.le_trans O0.2.1 (Nat.le_of_eq g121.symm))
    have O121 := O0.ext E121
    have V121 : Arv Z h121 b121 k121 .boolean (4 : Int32) [(.int (0 : Int32)), (.int (0 : Int32)), (.int (0 : Int32)), (.int (0 : Int32))] (.int (0 : Int32)) := (Arv.new A121 (by decide)).pad (pad_rep [] (.int (0 : Int32)) 4)
    have s122 : Steps p.tables e below A₀ (T121.setTop (mkF m 23 #[.val (.int p0), .val (.int p1), .val (.int p2), .val (.int (4 : Int32)), .val (.ref b121), .unset, .unset, .unset, .unset] [(.int (p0 &&& (1 : Int32))), (.int (0 : Int32)), (.ref b121)])) := by
      refine s120.trans ?_
      refine XS.istoreN X0.here hx rfl (hb hby at_7) rfl (l' := #[.val (.int p0), .val (.int p1), .val (.int p2), .val (.int (4 : Int32)), .unset, .unset, .unset, .unset, .unset]) rfl ?_
      show Steps p.tables e below (s₁.setTop (mkF m 8 #[.val (.int p0), .val (.int p1), .val (.int p2), .val (.int (4 : Int32)), .unset, .unset, .unset, .unset, .unset] [])) _
      refine XS.iloadN X0.here hx rfl (hb hby at_8) rfl ?_
      refine st121 _ ?_
      refine XS.astore X121.here hx rfl (hb hby at_11) rfl rfl (l' := #[.val (.int p0), .val (.int p1), .val (.int p2), .val (.int (4 : Int32)), .val (.ref b121), .unset, .unset, .unset, .unset]) rfl ?_
      refine XS.iloadN X121.here hx rfl (hb hby at_13) rfl ?_
      refine XS.ifNo X121.here hx rfl (hb hby at_14) rfl ((if0 _ _).trans (tlt (by decide)).2.2.2) ?_
      refine XS.aload X121.here hx rfl (hb hby at_17) rfl rfl ?_
      show Steps p.tables e below (T121.setTop (mkF m 19 #[.val (.int p0), .val (.int p1), .val (.int p2), .val (.int (4 : Int32)), .val (.ref b121), .unset, .unset, .unset, .unset] [(.ref b121)])) _
      refine XS.iconst X121.here hx rfl (hb hby at_19) ?_
      refine XS.iloadN X121.here hx rfl (hb hby at_20) rfl ?_
      refine XS.iconst X121.here hx rfl (hb hby at_21) ?_
      refine XS.iand X121.here hx rfl (hb hby at_22) rfl ?_
      exact Steps.refl _
    have s124 : Steps p.tables e below A₀ (T121.setTop (mkF m 31 #[.val (.int p0), .val (.int p1), .val (.int p2), .val (.int (4 : Int32)), .val (.ref b121), .unset, .unset, .unset, .unset] [(.int (if (p0 &&& (1 : Int32)) = (0 : Int32) then (0 : Int32) else (1 : Int32))), (.int (0 : Int32)), (.ref b121)])) := by
      by_cases hm123 : (p0 &&& (1 : Int32)) = (0 : Int32)
      · simp only [if_pos hm123]
        refine s122.trans ?_
        refine XS.ifYes X121.here hx rfl (pc0 := 23) (pc' := 30) rfl (hb hby at_23) rfl ((if0 _ _).trans (teq hm123).1) (by decide) (by decide) ?_
        show Steps p.tables e below (T121.setTop (mkF m 30 #[.val (.int p0), .val (.int p1), .val (.int p2), .val (.int (4 : Int32)), .val (.ref b121), .unset, .unset, .unset, .unset] [(.int (0 : Int32)), (.ref b121)])) _
        refine XS.iconst X121.here hx rfl (hb hby at_30) ?_
        exact Steps.refl _
      · simp only [if_neg hm123]
        refine s122.trans ?_
        refine XS.ifNo X121.here hx rfl (hb hby at_23) rfl ((if0 _ _).trans (feq hm123).1) ?_
        show Steps p.tables e below (T121.setTop (mkF m 26 #[.val (.int p0), .val (.int p1), .val (.int p2), .val (.int (4 : Int32)), .val (.ref b121), .unset, .unset, .unset, .unset] [(.int (0 : Int32)), (.ref b121)])) _
        refine XS.iconst X121.here hx rfl (hb hby at_26) ?_
        refine XS.goto X121.here hx rfl (pc0 := 27) (pc' := 31) rfl (hb hby at_27) (by decide) (by decide) ?_
        exact Steps.refl _
    obtain ⟨z0, hz0⟩ : ∃ z, z = (if (p0 &&& (1 : Int32)) = (0 : Int32) then (0 : Int32) else (1 : Int32)) := ⟨_, rfl⟩
    rw [← hz0] at s124
    obtain ⟨cla125, Ara125, qa125, Sa125, Za125, Ha125, Ga125⟩ := id V121
    have hin126 : ¬ ((0 : Int32) < 0 ∨ cla125.slots.size ≤ ((0 : Int32)).toNatClampNeg) := inb_of Sa125 ⟨by decide, by decide⟩
    obtain ⟨T127, h127, X127, e127, W127, st127⟩ := stZ X121 hx hZ e121 Ara125 (j := (0 : Int32)) hin126 (g := (mkF m 31 #[.val (.int p0), .val (.int p1), .val (.int p2), .val (.int (4 : Int32)), .val (.ref b121), .unset, .unset, .unset, .unset] [(.int z0), (.int (0 : Int32)), (.ref b121)])) rfl rfl (hb hby at_31)
    have O127 := O121.wr W127 g_b121
    have N127 := Fr.snoc X127 N0 g_b121
    have V127 : Arv Z h127 b121 k121 .boolean (4 : Int32) [(.int (nar .boolean z0)), (.int (0 : Int32)), (.int (0 : Int32)), (.int (0 : Int32))] (.int (0 : Int32)) := Arv.set Ara125 qa125 Sa125 Za125 Ha125 Ga125 (fits_nar_bool _) W127 0 rfl (Nat.le_of_ble_eq_true rfl)
    have s128 : Steps p.tables e below A₀ (T127.setTop (mkF m 43 #[.val (.int p0), .val (.int p1), .val (.int p2), .val (.int (4 : Int32)), .val (.ref b121), .unset, .unset, .unset, .unset] [(.int (p0 &&& (2 : Int32))), (.int (1 : Int32)), (.ref b121)])) := by
      refine s124.trans ?_
      refine st127 _ ?_
      show Steps p.tables e below (T127.setTop (mkF m 32 #[.val (.int p0), .val (.int p1), .val (.int p2), .val (.int (4 : Int32)), .val (.ref b121), .unset, .unset, .unset, .unset] [])) _
      refine XS.iloadN X127.here hx rfl (hb hby at_32) rfl ?_
      refine XS.iconst X127.here hx rfl (hb hby at_33) ?_
      refine XS.icmpNo X127.here hx rfl (hb hby at_34) rfl (tlt (by decide)).2.2.2 ?_
      refine XS.aload X127.here hx rfl (hb hby at_37) rfl rfl ?_
      refine XS.iconst X127.here hx rfl (hb hby at_39) ?_
      refine XS.iloadN X127.here hx rfl (hb hby at_40) rfl ?_
      show Steps p.tables e below (T127.setTop (mkF m 41 #[.val (.int p0), .val (.int p1), .val (.int p2), .val (.int (4 : Int32)), .val (.ref b121), .unset, .unset, .unset, .unset] [(.int p0), (.int (1 : Int32)), (.ref b121)])) _
      refine XS.iconst X127.here hx rfl (hb hby at_41) ?_
      refine XS.iand X127.here hx rfl (hb hby at_42) rfl ?_
      exact Steps.refl _
    have s130 : Steps p.tables e below A₀ (T127.setTop (mkF m 51 #[.val (.int p0), .val (.int p1), .val (.int p2), .val (.int (4 : Int32)), .val (.ref b121), .unset, .unset, .unset, .unset] [(.int (if (p0 &&& (2 : Int32)) = (0 : Int32) then (0 : Int32) else (1 : Int32))), (.int (1 : Int32)), (.ref b121)])) := by
      by_cases hm129 : (p0 &&& (2 : Int32)) = (0 : Int32)
      · simp only [if_pos hm129]
        refine s128.trans ?_
        refine XS.ifYes X127.here hx rfl (pc0 := 43) (pc' := 50) rfl (hb hby at_43) rfl ((if0 _ _).trans (teq hm129).1) (by decide) (by decide) ?_
        show Steps p.tables e below (T127.setTop (mkF m 50 #[.val (.int p0), .val (.int p1), .val (.int p2), .val (.int (4 : Int32)), .val (.ref b121), .unset, .unset, .unset, .unset] [(.int (1 : Int32)), (.ref b121)])) _
        refine XS.iconst X127.here hx rfl (hb hby at_50) ?_
        exact Steps.refl _
      · simp only [if_neg hm129]
        refine s128.trans ?_
        refine XS.ifNo X127.here hx rfl (hb hby at_43) rfl ((if0 _ _).trans (feq hm129).1) ?_
        show Steps p.tables e below (T127.setTop (mkF m 46 #[.val (.int p0), .val (.int p1), .val (.int p2), .val (.int (4 : Int32)), .val (.ref b121), .unset, .unset, .unset, .unset] [(.int (1 : Int32)), (.ref b121)])) _
        refine XS.iconst X127.here hx rfl (hb hby at_46) ?_
        refine XS.goto X127.here hx rfl (pc0 := 47) (pc' := 51) rfl (hb hby at_47) (by decide) (by decide) ?_
        exact Steps.refl _
    obtain ⟨z1, hz1⟩ : ∃ z, z = (if (p0 &&& (2 : Int32)) = (0 : Int32) then (0 : Int32) else (1 : Int32)) := ⟨_, rfl⟩
    rw [← hz1] at s130
    obtain ⟨cla131, Ara131, qa131, Sa131, Za131, Ha131, Ga131⟩ := id V127
    have hin132 : ¬ ((1 : Int32) < 0 ∨ cla131.slots.size ≤ ((1 : Int32)).toNatClampNeg) := inb_of Sa131 ⟨by decide, by decide⟩
    obtain ⟨T133, h133, X133, e133, W133, st133⟩ := stZ X127 hx hZ e127 Ara131 (j := (1 : Int32)) hin132 (g := (mkF m 51 #[.val (.int p0), .val (.int p1), .val (.int p2), .val (.int (4 : Int32)), .val (.ref b121), .unset, .unset, .unset, .unset] [(.int z1), (.int (1 : Int32)), (.ref b121)])) rfl rfl (hb hby at_51)
    have O133 := O127.wr W133 g_b121
    have N133 := Fr.snoc X133 N127 g_b121
    have V133 : Arv Z h133 b121 k121 .boolean (4 : Int32) [(.int (nar .boolean z0)), (.int (nar .boolean z1)), (.int (0 : Int32)), (.int (0 : Int32))] (.int (0 : Int32)) := Arv.set Ara131 qa131 Sa131 Za131 Ha131 Ga131 (fits_nar_bool _) W133 1 rfl (Nat.le_of_ble_eq_true rfl)
    have s134 : Steps p.tables e below A₀ (T133.setTop (mkF m 63 #[.val (.int p0), .val (.int p1), .val (.int p2), .val (.int (4 : Int32)), .val (.ref b121), .unset, .unset, .unset, .unset] [(.int (p0 &&& (4 : Int32))), (.int (2 : Int32)), (.ref b121)])) := by
      refine s130.trans ?_
      refine st133 _ ?_
      show Steps p.tables e below (T133.setTop (mkF m 52 #[.val (.int p0), .val (.int p1), .val (.int p2), .val (.int (4 : Int32)), .val (.ref b121), .unset, .unset, .unset, .unset] [])) _
      refine XS.iloadN X133.here hx rfl (hb hby at_52) rfl ?_
      refine XS.iconst X133.here hx rfl (hb hby at_53) ?_
      refine XS.icmpNo X133.here hx rfl (hb hby at_54) rfl (tlt (by decide)).2.2.2 ?_
      refine XS.aload X133.here hx rfl (hb hby at_57) rfl rfl ?_
      refine XS.iconst X133.here hx rfl (hb hby at_59) ?_
      refine XS.iloadN X133.here hx rfl (hb hby at_60) rfl ?_
      show Steps p.tables e below (T133.setTop (mkF m 61 #[.val (.int p0), .val (.int p1), .val (.int p2), .val (.int (4 : Int32)), .val (.ref b121), .unset, .unset, .unset, .unset] [(.int p0), (.int (2 : Int32)), (.ref b121)])) _
      refine XS.iconst X133.here hx rfl (hb hby at_61) ?_
      refine XS.iand X133.here hx rfl (hb hby at_62) rfl ?_
      exact Steps.refl _
    have s136 : Steps p.tables e below A₀ (T133.setTop (mkF m 71 #[.val (.int p0), .val (.int p1), .val (.int p2), .val (.int (4 : Int32)), .val (.ref b121), .unset, .unset, .unset, .unset] [(.int (if (p0 &&& (4 : Int32)) = (0 : Int32) then (0 : Int32) else (1 : Int32))), (.int (2 : Int32)), (.ref b121)])) := by
      by_cases hm135 : (p0 &&& (4 : Int32)) = (0 : Int32)
      · simp only [if_pos hm135]
        refine s134.trans ?_
        refine XS.ifYes X133.here hx rfl (pc0 := 63) (pc' := 70) rfl (hb hby at_63) rfl ((if0 _ _).trans (teq hm135).1) (by decide) (by decide) ?_
        show Steps p.tables e below (T133.setTop (mkF m 70 #[.val (.int p0), .val (.int p1), .val (.int p2), .val (.int (4 : Int32)), .val (.ref b121), .unset, .unset, .unset, .unset] [(.int (2 : Int32)), (.ref b121)])) _
        refine XS.iconst X133.here hx rfl (hb hby at_70) ?_
        exact Steps.refl _
      · simp only [if_neg hm135]
        refine s134.trans ?_
        refine XS.ifNo X133.here hx rfl (hb hby at_63) rfl ((if0 _ _).trans (feq hm135).1) ?_
        show Steps p.tables e below (T133.setTop (mkF m 66 #[.val (.int p0), .val (.int p1), .val (.int p2), .val (.int (4 : Int32)), .val (.ref b121), .unset, .unset, .unset, .unset] [(.int (2 : Int32)), (.ref b121)])) _
        refine XS.iconst X133.here hx rfl (hb hby at_66) ?_
        refine XS.goto X133.here hx rfl (pc0 := 67) (pc' := 71) rfl (hb hby at_67) (by decide) (by decide) ?_
        exact Steps.refl _
    obtain ⟨z2, hz2⟩ : ∃ z, z = (if (p0 &&& (4 : Int32)) = (0 : Int32) then (0 : Int32) else (1 : Int32)) := ⟨_, rfl⟩
    rw [← hz2] at s136
    obtain ⟨cla137, Ara137, qa137, Sa137, Za137, Ha137, Ga137⟩ := id V133
    have hin138 : ¬ ((2 : Int32) < 0 ∨ cla137.slots.size ≤ ((2 : Int32)).toNatClampNeg) := inb_of Sa137 ⟨by decide, by decide⟩
    obtain ⟨T139, h139, X139, e139, W139, st139⟩ := stZ X133 hx hZ e133 Ara137 (j := (2 : Int32)) hin138 (g := (mkF m 71 #[.val (.int p0), .val (.int p1), .val (.int p2), .val (.int (4 : Int32)), .val (.ref b121), .unset, .unset, .unset, .unset] [(.int z2), (.int (2 : Int32)), (.ref b121)])) rfl rfl (hb hby at_71)
    have O139 := O133.wr W139 g_b121
    have N139 := Fr.snoc X139 N133 g_b121
    have V139 : Arv Z h139 b121 k121 .boolean (4 : Int32) [(.int (nar .boolean z0)), (.int (nar .boolean z1)), (.int (nar .boolean z2)), (.int (0 : Int32))] (.int (0 : Int32)) := Arv.set Ara137 qa137 Sa137 Za137 Ha137 Ga137 (fits_nar_bool _) W139 2 rfl (Nat.le_of_ble_eq_true rfl)
    have s140 : Steps p.tables e below A₀ (T139.setTop (mkF m 84 #[.val (.int p0), .val (.int p1), .val (.int p2), .val (.int (4 : Int32)), .val (.ref b121), .unset, .unset, .unset, .unset] [(.int (p0 &&& (8 : Int32))), (.int (3 : Int32)), (.ref b121)])) := by
      refine s136.trans ?_
      refine st139 _ ?_
      show Steps p.tables e below (T139.setTop (mkF m 72 #[.val (.int p0), .val (.int p1), .val (.int p2), .val (.int (4 : Int32)), .val (.ref b121), .unset, .unset, .unset, .unset] [])) _
      refine XS.iloadN X139.here hx rfl (hb hby at_72) rfl ?_
      refine XS.iconst X139.here hx rfl (hb hby at_73) ?_
      refine XS.icmpNo X139.here hx rfl (hb hby at_74) rfl (tlt (by decide)).2.2.2 ?_
      refine XS.aload X139.here hx rfl (hb hby at_77) rfl rfl ?_
      refine XS.iconst X139.here hx rfl (hb hby at_79) ?_
      refine XS.iloadN X139.here hx rfl (hb hby at_80) rfl ?_
      show Steps p.tables e below (T139.setTop (mkF m 81 #[.val (.int p0), .val (.int p1), .val (.int p2), .val (.int (4 : Int32)), .val (.ref b121), .unset, .unset, .unset, .unset] [(.int p0), (.int (3 : Int32)), (.ref b121)])) _
      refine XS.bipush X139.here hx rfl (hb hby at_81) ?_
      refine XS.iand X139.here hx rfl (hb hby at_83) rfl ?_
      exact Steps.refl _
    have s142 : Steps p.tables e below A₀ (T139.setTop (mkF m 92 #[.val (.int p0), .val (.int p1), .val (.int p2), .val (.int (4 : Int32)), .val (.ref b121), .unset, .unset, .unset, .unset] [(.int (if (p0 &&& (8 : Int32)) = (0 : Int32) then (0 : Int32) else (1 : Int32))), (.int (3 : Int32)), (.ref b121)])) := by
      by_cases hm141 : (p0 &&& (8 : Int32)) = (0 : Int32)
      · simp only [if_pos hm141]
        refine s140.trans ?_
        refine XS.ifYes X139.here hx rfl (pc0 := 84) (pc' := 91) rfl (hb hby at_84) rfl ((if0 _ _).trans (teq hm141).1) (by decide) (by decide) ?_
        show Steps p.tables e below (T139.setTop (mkF m 91 #[.val (.int p0), .val (.int p1), .val (.int p2), .val (.int (4 : Int32)), .val (.ref b121), .unset, .unset, .unset, .unset] [(.int (3 : Int32)), (.ref b121)])) _
        refine XS.iconst X139.here hx rfl (hb hby at_91) ?_
        exact Steps.refl _
      · simp only [if_neg hm141]
        refine s140.trans ?_
        refine XS.ifNo X139.here hx rfl (hb hby at_84) rfl ((if0 _ _).trans (feq hm141).1) ?_
        show Steps p.tables e below (T139.setTop (mkF m 87 #[.val (.int p0), .val (.int p1), .val (.int p2), .val (.int (4 : Int32)), .val (.ref b121), .unset, .unset, .unset, .unset] [(.int (3 : Int32)), (.ref b121)])) _
        refine XS.iconst X139.here hx rfl (hb hby at_87) ?_
        refine XS.goto X139.here hx rfl (pc0 := 88) (pc' := 92) rfl (hb hby at_88) (by decide) (by decide) ?_
        exact Steps.refl _
    obtain ⟨z3, hz3⟩ : ∃ z, z = (if (p0 &&& (8 : Int32)) = (0 : Int32) then (0 : Int32) else (1 : Int32)) := ⟨_, rfl⟩
    rw [← hz3] at s142
    obtain ⟨cla143, Ara143, qa143, Sa143, Za143, Ha143, Ga143⟩ := id V139
    have hin144 : ¬ ((3 : Int32) < 0 ∨ cla143.slots.size ≤ ((3 : Int32)).toNatClampNeg) := inb_of Sa143 ⟨by decide, by decide⟩
    obtain ⟨T145, h145, X145, e145, W145, st145⟩ := stZ X139 hx hZ e139 Ara143 (j := (3 : Int32)) hin144 (g := (mkF m 92 #[.val (.int p0), .val (.int p1), .val (.int p2), .val (.int (4 : Int32)), .val (.ref b121), .unset, .unset, .unset, .unset] [(.int z3), (.int (3 : Int32)), (.ref b121)])) rfl rfl (hb hby at_92)
    have O145 := O139.wr W145 g_b121
    have N145 := Fr.snoc X145 N139 g_b121
    have V145 : Arv Z h145 b121 k121 .boolean (4 : Int32) [(.int (nar .boolean z0)), (.int (nar .boolean z1)), (.int (nar .boolean z2)), (.int (nar .boolean z3))] (.int (0 : Int32)) := Arv.set Ara143 qa143 Sa143 Za143 Ha143 Ga143 (fits_nar_bool _) W145 3 rfl (Nat.le_of_ble_eq_true rfl)
    obtain ⟨_, _, ⟨T146, L146, k146, n146⟩, -, X146, ⟨Lc146, hQ146, l146, y146, z146⟩, st146⟩ := Jvm.LawKit.callS X145 hx (y := (⟨"com/example/libprox/libprox/Cpe", "tiedStopWords", "([Z)Lcom/example/libprox/libprox/Combinations$Rule;"⟩ : MethodName)) hown (mvT hZ (hw _ (List.mem_of_getElem? (i := 2) rfl))) (mvT hZ (hw _ (List.mem_of_getElem? (i := 3) rfl))) (mvT hZ (hw _ (List.mem_of_getElem? (i := 4) rfl))) (mvT hZ (hw _ (List.mem_of_getElem? (i := 5) rfl))) (by decide) (backOf (W := 0) (rmt4 l Z a0 hw [] b121 k121 (nar .boolean z0) (nar .boolean z1) (nar .boolean z2) (nar .boolean z3) h145 n0 O145 V145) hZ (hw _ (List.mem_of_getElem? (i := 5) rfl)) (hw _ (List.mem_of_getElem? (i := 4) rfl)) (by decide) (by decide)) (g := (mkF m 116 #[.val (.int p0), .val (.int p1), .val (.int p2), .val (.int (4 : Int32)), .val (.ref b121), .unset, .unset, .unset, .unset] [(.ref b121)])) rfl (by rw [hml]; rfl) (argsL := [(.ref b121)]) (rest := []) (lenOf pd_rm0_0 rfl) rfl (by show 2 * 0 + _ ≤ _; exact Nat.le_of_eq rfl) (hb hby at_116) (fun _ _ => ⟨rfl, e145, (by decide : 1 + 3 ≤ _), (by decide : 4 + 10 ≤ _)⟩)
    dsimp only [Pt.U, Pt.locs, Pt.cells, Pt.slots] at X146 l146 y146 z146 st146 hQ146
    subst l146 y146 z146
    obtain ⟨u147, u148, u149, u150, u151, rfl, Nq146, Kc146, f146_0, f146_1, f146_2, f146_3, f146_4⟩ := hQ146
    have N146 := Fr.app N145 Nq146
    have O146 := O145.keep Kc146 all0
    have s152 : Steps p.tables e below A₀ (T146.setTop (mkF m 142 #[.val (.int p0), .val (.int p1), .val (.int p2), .val (.int (4 : Int32)), .val (.ref b121), .val (.ref u147), .unset, .unset, .unset] [(.int ((p2 &&& (2147483647 : Int32)) % (4 : Int32)))])) := by
      refine s142.trans ?_
      refine st145 _ ?_
      show Steps p.tables e below (T145.setTop (mkF m 93 #[.val (.int p0), .val (.int p1), .val (.int p2), .val (.int (4 : Int32)), .val (.ref b121), .unset, .unset, .unset, .unset] [])) _
      refine XS.iloadN X145.here hx rfl (hb hby at_93) rfl ?_
      refine XS.iconst X145.here hx rfl (hb hby at_94) ?_
      refine XS.icmpYes X145.here hx rfl (pc0 := 95) (pc' := 114) rfl (hb hby at_95) rfl (flt (by decide)).2.2.2 (by decide) (by decide) ?_
      refine XS.aload X145.here hx rfl (hb hby at_114) rfl rfl ?_
      refine st146 _ ?_
      refine XS.astore X146.here hx rfl (hb hby at_119) rfl rfl (l' := #[.val (.int p0), .val (.int p1), .val (.int p2), .val (.int (4 : Int32)), .val (.ref b121), .val (.ref u147), .unset, .unset, .unset]) rfl ?_
      show Steps p.tables e below (T146.setTop (mkF m 121 #[.val (.int p0), .val (.int p1), .val (.int p2), .val (.int (4 : Int32)), .val (.ref b121), .val (.ref u147), .unset, .unset, .unset] [])) _
      refine XS.iloadN X146.here hx rfl (hb hby at_121) rfl ?_
      refine XS.ifYes X146.here hx rfl (pc0 := 122) (pc' := 136) rfl (hb hby at_122) rfl ((if0 _ _).trans (feq (by decide)).2) (by decide) (by decide) ?_
      refine XS.iloadN X146.here hx rfl (hb hby at_136) rfl ?_
      refine X146.ldcInt hx hown (mvT hZ (hw _ (List.mem_of_getElem? (i := 0) rfl))) (g := (mkF m 137 #[.val (.int p0), .val (.int p1), .val (.int p2), .val (.int (4 : Int32)), .val (.ref b121), .val (.ref u147), .unset, .unset, .unset] [(.int p2)])) rfl (hb hby at_137) _ ?_
      refine XS.iand X146.here hx rfl (hb hby at_139) rfl ?_
      refine XS.iloadN X146.here hx rfl (hb hby at_140) rfl ?_
      show Steps p.tables e below (T146.setTop (mkF m 141 #[.val (.int p0), .val (.int p1), .val (.int p2), .val (.int (4 : Int32)), .val (.ref b121), .val (.ref u147), .unset, .unset, .unset] [(.int (4 : Int32)), (.int (p2 &&& (2147483647 : Int32)))])) _
      refine Jvm.RoadKit.iremM (g := (mkF m 141 #[.val (.int p0), .val (.int p1), .val (.int p2), .val (.int (4 : Int32)), .val (.ref b121), .val (.ref u147), .unset, .unset, .unset] [(.int (4 : Int32)), (.int (p2 &&& (2147483647 : Int32)))])) X146 hx rfl (hb hby at_141) rfl (by decide) ?_
      exact Steps.refl _
    rcases own_mod4 p2 with hk153 | hk153 | hk153 | hk153
    · have s154 := s152
      rw [hk153] at s154
      obtain ⟨cq155, kq155, q155a, q155b, q155c⟩ := isOf hZ (rfl : T146.heap = T146.heap) f146_0
      obtain ⟨_, _, ⟨T155, L155, k155, n155⟩, -, X155, ⟨Lc155, hQ155, l155, y155, z155⟩, st155⟩ := X146.interfaceBack hx (xi := (⟨"com/example/libprox/libprox/Combinations$Rule", "tiedFrom", "(I)I"⟩ : MethodName)) (y := (⟨"com/example/libprox/libprox/Cpe$1", "tiedFrom", "(I)I"⟩ : MethodName)) hown (mvT hZ (hw _ (List.mem_of_getElem? (i := 24) rfl))) (mvT hZ (hw _ (List.mem_of_getElem? (i := 25) rfl))) (mvT hZ (hw _ (List.mem_of_getElem? (i := 26) rfl))) (mvT hZ (hw _ (List.mem_of_getElem? (i := 27) rfl))) (mvT hZ (hw _ (List.mem_of_getElem? (i := 28) rfl))) (mvT hZ (hw _ (List.mem_of_getElem? (i := 29) rfl))) (mvT hZ (hw _ (List.mem_of_getElem? (i := 30) rfl))) (mvT hZ (hw _ (List.mem_of_getElem? (i := 31) rfl))) (by decide) (backOf (W := 0) (rmtiedFrom l Z a0 hw [] u147 (0 : Int32) u148 u150 (4 : Int32) [(.int (own_F4_0 (nar .boolean z0) (nar .boolean z1) (nar .boolean z2) (nar .boolean z3))), (.int (own_F4_1 (nar .boolean z0) (nar .boolean z1) (nar .boolean z2) (nar .boolean z3))), (.int (own_F4_2 (nar .boolean z0) (nar .boolean z1) (nar .boolean z2) (nar .boolean z3))), (.int (own_F4_3 (nar .boolean z0) (nar .boolean z1) (nar .boolean z2) (nar .boolean z3)))] (own_F4_0 (nar .boolean z0) (nar .boolean z1) (nar .boolean z2) (nar .boolean z3)) T146.heap n0 O146 f146_1 f146_3 ⟨by decide, by decide⟩ rfl) hZ (hw _ (List.mem_of_getElem? (i := 32) rfl)) (hw _ (List.mem_of_getElem? (i := 13) rfl)) (by decide) (by decide)) q155a q155b q155c (g := (mkF m 148 #[.val (.int p0), .val (.int p1), .val (.int p2), .val (.int (4 : Int32)), .val (.ref b121), .val (.ref u147), .val (.int (0 : Int32)), .unset, .unset] [(.int (0 : Int32)), (.ref u147)])) rfl (by rw [hml]; rfl) (Steps.refl _) (argsL := [(.int (0 : Int32))]) (rest := []) (lenOf pd_rm0_1 rfl) rfl (by show 2 * 0 + _ ≤ _; exact Nat.le_of_eq rfl) (hb hby at_148) (fun _ _ => ⟨rfl, (rfl : T146.heap = T146.heap), (by decide : 4 + 0 ≤ _), (by decide : 14 + 0 ≤ _)⟩)
      dsimp only [Pt.U, Pt.locs, Pt.cells, Pt.slots] at X155 l155 y155 z155 st155 hQ155
      subst l155 y155 z155
      obtain ⟨rfl, Nq155, e155⟩ := hQ155
      have N155 := Fr.app N146 Nq155
      obtain ⟨cq156, kq156, q156a, q156b, q156c⟩ := isOf hZ e155 f146_0
      obtain ⟨_, _, ⟨T156, L156, k156, n156⟩, -, X156, ⟨Lc156, hQ156, l156, y156, z156⟩, st156⟩ := X155.interfaceBack hx (xi := (⟨"com/example/libprox/libprox/Combinations$Rule", "tiedTo", "(I)I"⟩ : MethodName)) (y := (⟨"com/example/libprox/libprox/Cpe$1", "tiedTo", "(I)I"⟩ : MethodName)) hown (mvT hZ (hw _ (List.mem_of_getElem? (i := 33) rfl))) (mvT hZ (hw _ (List.mem_of_getElem? (i := 34) rfl))) (mvT hZ (hw _ (List.mem_of_getElem? (i := 35) rfl))) (mvT hZ (hw _ (List.mem_of_getElem? (i := 36) rfl))) (mvT hZ (hw _ (List.mem_of_getElem? (i := 37) rfl))) (mvT hZ (hw _ (List.mem_of_getElem? (i := 38) rfl))) (mvT hZ (hw _ (List.mem_of_getElem? (i := 39) rfl))) (mvT hZ (hw _ (List.mem_of_getElem? (i := 31) rfl))) (by decide) (backOf (W := 0) (rmtiedTo l Z a0 hw [] u147 (0 : Int32) u149 u151 (4 : Int32) [(.int (own_T4_0 (nar .boolean z0) (nar .boolean z1) (nar .boolean z2) (nar .boolean z3))), (.int (own_T4_1 (nar .boolean z0) (nar .boolean z1) (nar .boolean z2) (nar .boolean z3))), (.int (own_T4_2 (nar .boolean z0) (nar .boolean z1) (nar .boolean z2) (nar .boolean z3))), (.int (own_T4_3 (nar .boolean z0) (nar .boolean z1) (nar .boolean z2) (nar .boolean z3)))] (own_T4_0 (nar .boolean z0) (nar .boolean z1) (nar .boolean z2) (nar .boolean z3)) T146.heap n0 O146 f146_2 f146_4 ⟨by decide, by decide⟩ rfl) hZ (hw _ (List.mem_of_getElem? (i := 40) rfl)) (hw _ (List.mem_of_getElem? (i := 13) rfl)) (by decide) (by decide)) q156a q156b q156c (g := (mkF m 159 #[.val (.int p0), .val (.int p1), .val (.int p2), .val (.int (4 : Int32)), .val (.ref b121), .val (.ref u147), .val (.int (0 : Int32)), .val (.int (own_F4_0 (nar .boolean z0) (nar .boolean z1) (nar .boolean z2) (nar .boolean z3))), .unset] [(.int (0 : Int32)), (.ref u147)])) rfl (by rw [hml]; rfl) (Steps.refl _) (argsL := [(.int (0 : Int32))]) (rest := []) (lenOf pd_rm0_1 rfl) rfl (by show 2 * 0 + _ ≤ _; exact Nat.le_of_eq rfl) (hb hby at_159) (fun _ _ => ⟨rfl, e155, (by decide : 4 + 0 ≤ _), (by decide : 14 + 0 ≤ _)⟩)
      dsimp only [Pt.U, Pt.locs, Pt.cells, Pt.slots] at X156 l156 y156 z156 st156 hQ156
      subst l156 y156 z156
      obtain ⟨rfl, Nq156, e156⟩ := hQ156
      have N156 := Fr.app N155 Nq156
      have c157 : Arv Z T146.heap b121 k121 .boolean (4 : Int32) [(.int (nar .boolean z0)), (.int (nar .boolean z1)), (.int (nar .boolean z2)), (.int (nar .boolean z3))] (.int (0 : Int32)) := (V145.keep Kc146 nin0)
      obtain ⟨T158, L158, X158, e158, N158, st158⟩ := own_callP X156 hx hZ hown (wk41 hw) (wk42 hw) (wk43 hw) (wk44 hw) (by decide) (rmrefFrom l Z a0 hw [] b121 (4 : Int32) (0 : Int32) k121 [(nar .boolean z0), (nar .boolean z1), (nar .boolean z2), (nar .boolean z3)] T146.heap n0 O146 c157) e156 N156 (W := 1) (by decide) (by decide) (by decide) (by decide) (g := (mkF m 173 #[.val (.int p0), .val (.int p1), .val (.int p2), .val (.int (4 : Int32)), .val (.ref b121), .val (.ref u147), .val (.int (0 : Int32)), .val (.int (own_F4_0 (nar .boolean z0) (nar .boolean z1) (nar .boolean z2) (nar .boolean z3))), .val (.int (own_T4_0 (nar .boolean z0) (nar .boolean z1) (nar .boolean z2) (nar .boolean z3)))] [(.int (0 : Int32)), (.int (4 : Int32)), (.ref b121), (.int (own_F4_0 (nar .boolean z0) (nar .boolean z1) (nar .boolean z2) (nar .boolean z3)))])) rfl (by rw [hml]; rfl) (argsL := [(.ref b121), (.int (4 : Int32)), (.int (0 : Int32))]) (rest := [(.int (own_F4_0 (nar .boolean z0) (nar .boolean z1) (nar .boolean z2) (nar .boolean z3)))]) (lenOf pd_rm0_2 rfl) rfl (by show 2 * 0 + _ ≤ _; exact Nat.le_of_eq rfl) (hb hby at_173)
      obtain ⟨T159, L159, X159, e159, N159, st159⟩ := own_callP X158 hx hZ hown (wk48 hw) (wk49 hw) (wk43 hw) (wk50 hw) (by decide) (rmrefTo l Z a0 hw [] b121 (4 : Int32) (0 : Int32) k121 [(nar .boolean z0), (nar .boolean z1), (nar .boolean z2), (nar .boolean z3)] T146.heap n0 O146 c157) e158 N158 (W := 1) (by decide) (by decide) (by decide) (by decide) (g := (mkF m 186 #[.val (.int p0), .val (.int p1), .val (.int p2), .val (.int (4 : Int32)), .val (.ref b121), .val (.ref u147), .val (.int (0 : Int32)), .val (.int (own_F4_0 (nar .boolean z0) (nar .boolean z1) (nar .boolean z2) (nar .boolean z3))), .val (.int (own_T4_0 (nar .boolean z0) (nar .boolean z1) (nar .boolean z2) (nar .boolean z3)))] [(.int (0 : Int32)), (.int (4 : Int32)), (.ref b121), (.int (own_T4_0 (nar .boolean z0) (nar .boolean z1) (nar .boolean z2) (nar .boolean z3)))])) rfl (by rw [hml]; rfl) (argsL := [(.ref b121), (.int (4 : Int32)), (.int (0 : Int32))]) (rest := [(.int (own_T4_0 (nar .boolean z0) (nar .boolean z1) (nar .boolean z2) (nar .boolean z3)))]) (lenOf pd_rm0_2 rfl) rfl (by show 2 * 0 + _ ≤ _; exact Nat.le_of_eq rfl) (hb hby at_186)
      have s160 : Steps p.tables e below A₀ (T159.setTop (mkF m 197 #[.val (.int p0), .val (.int p1), .val (.int p2), .val (.int (4 : Int32)), .val (.ref b121), .val (.ref u147), .val (.int (0 : Int32)), .val (.int (own_F4_0 (nar .boolean z0) (nar .boolean z1) (nar .boolean z2) (nar .boolean z3))), .val (.int (own_T4_0 (nar .boolean z0) (nar .boolean z1) (nar .boolean z2) (nar .boolean z3)))] [(.int (1 : Int32))])) := by
        refine s154.trans ?_
        refine XS.istore X146.here hx rfl (hb hby at_142) rfl (l' := #[.val (.int p0), .val (.int p1), .val (.int p2), .val (.int (4 : Int32)), .val (.ref b121), .val (.ref u147), .val (.int (0 : Int32)), .unset, .unset]) rfl ?_
        show Steps p.tables e below (T146.setTop (mkF m 144 #[.val (.int p0), .val (.int p1), .val (.int p2), .val (.int (4 : Int32)), .val (.ref b121), .val (.ref u147), .val (.int (0 : Int32)), .unset, .unset] [])) _
        refine XS.aload X146.here hx rfl (hb hby at_144) rfl rfl ?_
        refine XS.iload X146.here hx rfl (hb hby at_146) rfl ?_
        refine st155.trans ?_
        refine XS.istore X155.here hx rfl (hb hby at_153) rfl (l' := #[.val (.int p0), .val (.int p1), .val (.int p2), .val (.int (4 : Int32)), .val (.ref b121), .val (.ref u147), .val (.int (0 : Int32)), .val (.int (own_F4_0 (nar .boolean z0) (nar .boolean z1) (nar .boolean z2) (nar .boolean z3))), .unset]) rfl ?_
        refine XS.aload X155.here hx rfl (hb hby at_155) rfl rfl ?_
        refine XS.iload X155.here hx rfl (hb hby at_157) rfl ?_
        show Steps p.tables e below (T155.setTop (mkF m 159 #[.val (.int p0), .val (.int p1), .val (.int p2), .val (.int (4 : Int32)), .val (.ref b121), .val (.ref u147), .val (.int (0 : Int32)), .val (.int (own_F4_0 (nar .boolean z0) (nar .boolean z1) (nar .boolean z2) (nar .boolean z3))), .unset] [(.int (0 : Int32)), (.ref u147)])) _
        refine st156.trans ?_
        refine XS.istore X156.here hx rfl (hb hby at_164) rfl (l' := #[.val (.int p0), .val (.int p1), .val (.int p2), .val (.int (4 : Int32)), .val (.ref b121), .val (.ref u147), .val (.int (0 : Int32)), .val (.int (own_F4_0 (nar .boolean z0) (nar .boolean z1) (nar .boolean z2) (nar .boolean z3))), .val (.int (own_T4_0 (nar .boolean z0) (nar .boolean z1) (nar .boolean z2) (nar .boolean z3)))]) rfl ?_
        refine XS.iload X156.here hx rfl (hb hby at_166) rfl ?_
        refine XS.aload X156.here hx rfl (hb hby at_168) rfl rfl ?_
        refine XS.iloadN X156.here hx rfl (hb hby at_170) rfl ?_
        refine XS.iload X156.here hx rfl (hb hby at_171) rfl ?_
        show Steps p.tables e below (T156.setTop (mkF m 173 #[.val (.int p0), .val (.int p1), .val (.int p2), .val (.int (4 : Int32)), .val (.ref b121), .val (.ref u147), .val (.int (0 : Int32)), .val (.int (own_F4_0 (nar .boolean z0) (nar .boolean z1) (nar .boolean z2) (nar .boolean z3))), .val (.int (own_T4_0 (nar .boolean z0) (nar .boolean z1) (nar .boolean z2) (nar .boolean z3)))] [(.int (0 : Int32)), (.int (4 : Int32)), (.ref b121), (.int (own_F4_0 (nar .boolean z0) (nar .boolean z1) (nar .boolean z2) (nar .boolean z3)))])) _
        refine st158 _ ?_
        refine XS.icmpNo X158.here hx rfl (hb hby at_176) rfl (teq (own_finF4_0 (nar .boolean z0) (nar .boolean z1) (nar .boolean z2) (nar .boolean z3))).2 ?_
        refine XS.iload X158.here hx rfl (hb hby at_179) rfl ?_
        refine XS.aload X158.here hx rfl (hb hby at_181) rfl rfl ?_
        refine XS.iloadN X158.here hx rfl (hb hby at_183) rfl ?_
        refine XS.iload X158.here hx rfl (hb hby at_184) rfl ?_
        show Steps p.tables e below (T158.setTop (mkF m 186 #[.val (.int p0), .val (.int p1), .val (.int p2), .val (.int (4 : Int32)), .val (.ref b121), .val (.ref u147), .val (.int (0 : Int32)), .val (.int (own_F4_0 (nar .boolean z0) (nar .boolean z1) (nar .boolean z2) (nar .boolean z3))), .val (.int (own_T4_0 (nar .boolean z0) (nar .boolean z1) (nar .boolean z2) (nar .boolean z3)))] [(.int (0 : Int32)), (.int (4 : Int32)), (.ref b121), (.int (own_T4_0 (nar .boolean z0) (nar .boolean z1) (nar .boolean z2) (nar .boolean z3)))])) _
        refine st159 _ ?_
        refine XS.icmpNo X159.here hx rfl (hb hby at_189) rfl (teq (own_finT4_0 (nar .boolean z0) (nar .boolean z1) (nar .boolean z2) (nar .boolean z3))).2 ?_
        refine XS.iconst X159.here hx rfl (hb hby at_192) ?_
        refine XS.goto X159.here hx rfl (pc0 := 193) (pc' := 197) rfl (hb hby at_193) (by decide) (by decide) ?_
        exact Steps.refl _
      subst hA₀
      obtain ⟨fs, hr, hrun, hended, hW, hsame⟩ := X159.leave (v := some (.int (1 : Int32))) (fun h => by rw [Bd.returns] at h; cases h)
      refine ⟨_, _, s160.trans ?_, hrun, hended, _, _, rfl, ?_, ⟨_, rfl⟩, hW, hsame.mono (by decide) (by decide)⟩
      · show Steps p.tables e below (T159.setTop (mkF m 197 #[.val (.int p0), .val (.int p1), .val (.int p2), .val (.int (4 : Int32)), .val (.ref b121), .val (.ref u147), .val (.int (0 : Int32)), .val (.int (own_F4_0 (nar .boolean z0) (nar .boolean z1) (nar .boolean z2) (nar .boolean z3))), .val (.int (own_T4_0 (nar .boolean z0) (nar .boolean z1) (nar .boolean z2) (nar .boolean z3)))] [(.int (1 : Int32))])) _
        exact retN X159 hx (t := .boolean) Bd.returns (by simp) (hb hby at_197) hr
      · show Q0 Z p0 p1 p2 h0 n0 _ T159.heap _
        rw [e159]
        exact ⟨rfl, N159⟩
    · have s161 := s152
      rw [hk153] at s161
      obtain ⟨cq162, kq162, q162a, q162b, q162c⟩ := isOf hZ (rfl : T146.heap = T146.heap) f146_0
      obtain ⟨_, _, ⟨T162, L162, k162, n162⟩, -, X162, ⟨Lc162, hQ162, l162, y162, z162⟩, st162⟩ := X146.interfaceBack hx (xi := (⟨"com/example/libprox/libprox/Combinations$Rule", "tiedFrom", "(I)I"⟩ : MethodName)) (y := (⟨"com/example/libprox/libprox/Cpe$1", "tiedFrom", "(I)I"⟩ : MethodName)) hown (mvT hZ (hw _ (List.mem_of_getElem? (i := 24) rfl))) (mvT hZ (hw _ (List.mem_of_getElem? (i := 25) rfl))) (mvT hZ (hw _ (List.mem_of_getElem? (i := 26) rfl))) (mvT hZ (hw _ (List.mem_of_getElem? (i := 27) rfl))) (mvT hZ (hw _ (List.mem_of_getElem? (i := 28) rfl))) (mvT hZ (hw _ (List.mem_of_getElem? (i := 29) rfl))) (mvT hZ (hw _ (List.mem_of_getElem? (i := 30) rfl))) (mvT hZ (hw _ (List.mem_of_getElem? (i := 31) rfl))) (by decide) (backOf (W := 0) (rmtiedFrom l Z a0 hw [] u147 (1 : Int32) u148 u150 (4 : Int32) [(.int (own_F4_0 (nar .boolean z0) (nar .boolean z1) (nar .boolean z2) (nar .boolean z3))), (.int (own_F4_1 (nar .boolean z0) (nar .boolean z1) (nar .boolean z2) (nar .boolean z3))), (.int (own_F4_2 (nar .boolean z0) (nar .boolean z1) (nar .boolean z2) (nar .boolean z3))), (.int (own_F4_3 (nar .boolean z0) (nar .boolean z1) (nar .boolean z2) (nar .boolean z3)))] (own_F4_1 (nar .boolean z0) (nar .boolean z1) (nar .boolean z2) (nar .boolean z3)) T146.heap n0 O146 f146_1 f146_3 ⟨by decide, by decide⟩ rfl) hZ (hw _ (List.mem_of_getElem? (i := 32) rfl)) (hw _ (List.mem_of_getElem? (i := 13) rfl)) (by decide) (by decide)) q162a q162b q162c (g := (mkF m 148 #[.val (.int p0), .val (.int p1), .val (.int p2), .val (.int (4 : Int32)), .val (.ref b121), .val (.ref u147), .val (.int (1 : Int32)), .unset, .unset] [(.int (1 : Int32)), (.ref u147)])) rfl (by rw [hml]; rfl) (Steps.refl _) (argsL := [(.int (1 : Int32))]) (rest := []) (lenOf pd_rm0_1 rfl) rfl (by show 2 * 0 + _ ≤ _; exact Nat.le_of_eq rfl) (hb hby at_148) (fun _ _ => ⟨rfl, (rfl : T146.heap = T146.heap), (by decide : 4 + 0 ≤ _), (by decide : 14 + 0 ≤ _)⟩)
      dsimp only [Pt.U, Pt.locs, Pt.cells, Pt.slots] at X162 l162 y162 z162 st162 hQ162
      subst l162 y162 z162
      obtain ⟨rfl, Nq162, e162⟩ := hQ162
      have N162 := Fr.app N146 Nq162
      obtain ⟨cq163, kq163, q163a, q163b, q163c⟩ := isOf hZ e162 f146_0
      obtain ⟨_, _, ⟨T163, L163, k163, n163⟩, -, X163, ⟨Lc163, hQ163, l163, y163, z163⟩, st163⟩ := X162.interfaceBack hx (xi := (⟨"com/example/libprox/libprox/Combinations$Rule", "tiedTo", "(I)I"⟩ : MethodName)) (y := (⟨"com/example/libprox/libprox/Cpe$1", "tiedTo", "(I)I"⟩ : MethodName)) hown (mvT hZ (hw _ (List.mem_of_getElem? (i := 33) rfl))) (mvT hZ (hw _ (List.mem_of_getElem? (i := 34) rfl))) (mvT hZ (hw _ (List.mem_of_getElem? (i := 35) rfl))) (mvT hZ (hw _ (List.mem_of_getElem? (i := 36) rfl))) (mvT hZ (hw _ (List.mem_of_getElem? (i := 37) rfl))) (mvT hZ (hw _ (List.mem_of_getElem? (i := 38) rfl))) (mvT hZ (hw _ (List.mem_of_getElem? (i := 39) rfl))) (mvT hZ (hw _ (List.mem_of_getElem? (i := 31) rfl))) (by decide) (backOf (W := 0) (rmtiedTo l Z a0 hw [] u147 (1 : Int32) u149 u151 (4 : Int32) [(.int (own_T4_0 (nar .boolean z0) (nar .boolean z1) (nar .boolean z2) (nar .boolean z3))), (.int (own_T4_1 (nar .boolean z0) (nar .boolean z1) (nar .boolean z2) (nar .boolean z3))), (.int (own_T4_2 (nar .boolean z0) (nar .boolean z1) (nar .boolean z2) (nar .boolean z3))), (.int (own_T4_3 (nar .boolean z0) (nar .boolean z1) (nar .boolean z2) (nar .boolean z3)))] (own_T4_1 (nar .boolean z0) (nar .boolean z1) (nar .boolean z2) (nar .boolean z3)) T146.heap n0 O146 f146_2 f146_4 ⟨by decide, by decide⟩ rfl) hZ (hw _ (List.mem_of_getElem? (i := 40) rfl)) (hw _ (List.mem_of_getElem? (i := 13) rfl)) (by decide) (by decide)) q163a q163b q163c (g := (mkF m 159 #[.val (.int p0), .val (.int p1), .val (.int p2), .val (.int (4 : Int32)), .val (.ref b121), .val (.ref u147), .val (.int (1 : Int32)), .val (.int (own_F4_1 (nar .boolean z0) (nar .boolean z1) (nar .boolean z2) (nar .boolean z3))), .unset] [(.int (1 : Int32)), (.ref u147)])) rfl (by rw [hml]; rfl) (Steps.refl _) (argsL := [(.int (1 : Int32))]) (rest := []) (lenOf pd_rm0_1 rfl) rfl (by show 2 * 0 + _ ≤ _; exact Nat.le_of_eq rfl) (hb hby at_159) (fun _ _ => ⟨rfl, e162, (by decide : 4 + 0 ≤ _), (by decide : 14 + 0 ≤ _)⟩)
      dsimp only [Pt.U, Pt.locs, Pt.cells, Pt.slots] at X163 l163 y163 z163 st163 hQ163
      subst l163 y163 z163
      obtain ⟨rfl, Nq163, e163⟩ := hQ163
      have N163 := Fr.app N162 Nq163
      have c164 : Arv Z T146.heap b121 k121 .boolean (4 : Int32) [(.int (nar .boolean z0)), (.int (nar .boolean z1)), (.int (nar .boolean z2)), (.int (nar .boolean z3))] (.int (0 : Int32)) := (V145.keep Kc146 nin0)
      obtain ⟨T165, L165, X165, e165, N165, st165⟩ := own_callP X163 hx hZ hown (wk41 hw) (wk42 hw) (wk43 hw) (wk44 hw) (by decide) (rmrefFrom l Z a0 hw [] b121 (4 : Int32) (1 : Int32) k121 [(nar .boolean z0), (nar .boolean z1), (nar .boolean z2), (nar .boolean z3)] T146.heap n0 O146 c164) e163 N163 (W := 1) (by decide) (by decide) (by decide) (by decide) (g := (mkF m 173 #[.val (.int p0), .val (.int p1), .val (.int p2), .val (.int (4 : Int32)), .val (.ref b121), .val (.ref u147), .val (.int (1 : Int32)), .val (.int (own_F4_1 (nar .boolean z0) (nar .boolean z1) (nar .boolean z2) (nar .boolean z3))), .val (.int (own_T4_1 (nar .boolean z0) (nar .boolean z1) (nar .boolean z2) (nar .boolean z3)))] [(.int (1 : Int32)), (.int (4 : Int32)), (.ref b121), (.int (own_F4_1 (nar .boolean z0) (nar .boolean z1) (nar .boolean z2) (nar .boolean z3)))])) rfl (by rw [hml]; rfl) (argsL := [(.ref b121), (.int (4 : Int32)), (.int (1 : Int32))]) (rest := [(.int (own_F4_1 (nar .boolean z0) (nar .boolean z1) (nar .boolean z2) (nar .boolean z3)))]) (lenOf pd_rm0_2 rfl) rfl (by show 2 * 0 + _ ≤ _; exact Nat.le_of_eq rfl) (hb hby at_173)
      obtain ⟨T166, L166, X166, e166, N166, st166⟩ := own_callP X165 hx hZ hown (wk48 hw) (wk49 hw) (wk43 hw) (wk50 hw) (by decide) (rmrefTo l Z a0 hw [] b121 (4 : Int32) (1 : Int32) k121 [(nar .boolean z0), (nar .boolean z1), (nar .boolean z2), (nar .boolean z3)] T146.heap n0 O146 c164) e165 N165 (W := 1) (by decide) (by decide) (by decide) (by decide) (g := (mkF m 186 #[.val (.int p0), .val (.int p1), .val (.int p2), .val (.int (4 : Int32)), .val (.ref b121), .val (.ref u147), .val (.int (1 : Int32)), .val (.int (own_F4_1 (nar .boolean z0) (nar .boolean z1) (nar .boolean z2) (nar .boolean z3))), .val (.int (own_T4_1 (nar .boolean z0) (nar .boolean z1) (nar .boolean z2) (nar .boolean z3)))] [(.int (1 : Int32)), (.int (4 : Int32)), (.ref b121), (.int (own_T4_1 (nar .boolean z0) (nar .boolean z1) (nar .boolean z2) (nar .boolean z3)))])) rfl (by rw [hml]; rfl) (argsL := [(.ref b121), (.int (4 : Int32)), (.int (1 : Int32))]) (rest := [(.int (own_T4_1 (nar .boolean z0) (nar .boolean z1) (nar .boolean z2) (nar .boolean z3)))]) (lenOf pd_rm0_2 rfl) rfl (by show 2 * 0 + _ ≤ _; exact Nat.le_of_eq rfl) (hb hby at_186)
      have s167 : Steps p.tables e below A₀ (T166.setTop (mkF m 197 #[.val (.int p0), .val (.int p1), .val (.int p2), .val (.int (4 : Int32)), .val (.ref b121), .val (.ref u147), .val (.int (1 : Int32)), .val (.int (own_F4_1 (nar .boolean z0) (nar .boolean z1) (nar .boolean z2) (nar .boolean z3))), .val (.int (own_T4_1 (nar .boolean z0) (nar .boolean z1) (nar .boolean z2) (nar .boolean z3)))] [(.int (1 : Int32))])) := by
        refine s161.trans ?_
        refine XS.istore X146.here hx rfl (hb hby at_142) rfl (l' := #[.val (.int p0), .val (.int p1), .val (.int p2), .val (.int (4 : Int32)), .val (.ref b121), .val (.ref u147), .val (.int (1 : Int32)), .unset, .unset]) rfl ?_
        show Steps p.tables e below (T146.setTop (mkF m 144 #[.val (.int p0), .val (.int p1), .val (.int p2), .val (.int (4 : Int32)), .val (.ref b121), .val (.ref u147), .val (.int (1 : Int32)), .unset, .unset] [])) _
        refine XS.aload X146.here hx rfl (hb hby at_144) rfl rfl ?_
        refine XS.iload X146.here hx rfl (hb hby at_146) rfl ?_
        refine st162.trans ?_
        refine XS.istore X162.here hx rfl (hb hby at_153) rfl (l' := #[.val (.int p0), .val (.int p1), .val (.int p2), .val (.int (4 : Int32)), .val (.ref b121), .val (.ref u147), .val (.int (1 : Int32)), .val (.int (own_F4_1 (nar .boolean z0) (nar .boolean z1) (nar .boolean z2) (nar .boolean z3))), .unset]) rfl ?_
        refine XS.aload X162.here hx rfl (hb hby at_155) rfl rfl ?_
        refine XS.iload X162.here hx rfl (hb hby at_157) rfl ?_
        show Steps p.tables e below (T162.setTop (mkF m 159 #[.val (.int p0), .val (.int p1), .val (.int p2), .val (.int (4 : Int32)), .val (.ref b121), .val (.ref u147), .val (.int (1 : Int32)), .val (.int (own_F4_1 (nar .boolean z0) (nar .boolean z1) (nar .boolean z2) (nar .boolean z3))), .unset] [(.int (1 : Int32)), (.ref u147)])) _
        refine st163.trans ?_
        refine XS.istore X163.here hx rfl (hb hby at_164) rfl (l' := #[.val (.int p0), .val (.int p1), .val (.int p2), .val (.int (4 : Int32)), .val (.ref b121), .val (.ref u147), .val (.int (1 : Int32)), .val (.int (own_F4_1 (nar .boolean z0) (nar .boolean z1) (nar .boolean z2) (nar .boolean z3))), .val (.int (own_T4_1 (nar .boolean z0) (nar .boolean z1) (nar .boolean z2) (nar .boolean z3)))]) rfl ?_
        refine XS.iload X163.here hx rfl (hb hby at_166) rfl ?_
        refine XS.aload X163.here hx rfl (hb hby at_168) rfl rfl ?_
        refine XS.iloadN X163.here hx rfl (hb hby at_170) rfl ?_
        refine XS.iload X163.here hx rfl (hb hby at_171) rfl ?_
        show Steps p.tables e below (T163.setTop (mkF m 173 #[.val (.int p0), .val (.int p1), .val (.int p2), .val (.int (4 : Int32)), .val (.ref b121), .val (.ref u147), .val (.int (1 : Int32)), .val (.int (own_F4_1 (nar .boolean z0) (nar .boolean z1) (nar .boolean z2) (nar .boolean z3))), .val (.int (own_T4_1 (nar .boolean z0) (nar .boolean z1) (nar .boolean z2) (nar .boolean z3)))] [(.int (1 : Int32)), (.int (4 : Int32)), (.ref b121), (.int (own_F4_1 (nar .boolean z0) (nar .boolean z1) (nar .boolean z2) (nar .boolean z3)))])) _
        refine st165 _ ?_
        refine XS.icmpNo X165.here hx rfl (hb hby at_176) rfl (teq (own_finF4_1 (nar .boolean z0) (nar .boolean z1) (nar .boolean z2) (nar .boolean z3))).2 ?_
        refine XS.iload X165.here hx rfl (hb hby at_179) rfl ?_
        refine XS.aload X165.here hx rfl (hb hby at_181) rfl rfl ?_
        refine XS.iloadN X165.here hx rfl (hb hby at_183) rfl ?_
        refine XS.iload X165.here hx rfl (hb hby at_184) rfl ?_
        show Steps p.tables e below (T165.setTop (mkF m 186 #[.val (.int p0), .val (.int p1), .val (.int p2), .val (.int (4 : Int32)), .val (.ref b121), .val (.ref u147), .val (.int (1 : Int32)), .val (.int (own_F4_1 (nar .boolean z0) (nar .boolean z1) (nar .boolean z2) (nar .boolean z3))), .val (.int (own_T4_1 (nar .boolean z0) (nar .boolean z1) (nar .boolean z2) (nar .boolean z3)))] [(.int (1 : Int32)), (.int (4 : Int32)), (.ref b121), (.int (own_T4_1 (nar .boolean z0) (nar .boolean z1) (nar .boolean z2) (nar .boolean z3)))])) _
        refine st166 _ ?_
        refine XS.icmpNo X166.here hx rfl (hb hby at_189) rfl (teq (own_finT4_1 (nar .boolean z0) (nar .boolean z1) (nar .boolean z2) (nar .boolean z3))).2 ?_
        refine XS.iconst X166.here hx rfl (hb hby at_192) ?_
        refine XS.goto X166.here hx rfl (pc0 := 193) (pc' := 197) rfl (hb hby at_193) (by decide) (by decide) ?_
        exact Steps.refl _
      subst hA₀
      obtain ⟨fs, hr, hrun, hended, hW, hsame⟩ := X166.leave (v := some (.int (1 : Int32))) (fun h => by rw [Bd.returns] at h; cases h)
      refine ⟨_, _, s167.trans ?_, hrun, hended, _, _, rfl, ?_, ⟨_, rfl⟩, hW, hsame.mono (by decide) (by decide)⟩
      · show Steps p.tables e below (T166.setTop (mkF m 197 #[.val (.int p0), .val (.int p1), .val (.int p2), .val (.int (4 : Int32)), .val (.ref b121), .val (.ref u147), .val (.int (1 : Int32)), .val (.int (own_F4_1 (nar .boolean z0) (nar .boolean z1) (nar .boolean z2) (nar .boolean z3))), .val (.int (own_T4_1 (nar .boolean z0) (nar .boolean z1) (nar .boolean z2) (nar .boolean z3)))] [(.int (1 : Int32))])) _
        exact retN X166 hx (t := .boolean) Bd.returns (by simp) (hb hby at_197) hr
      · show Q0 Z p0 p1 p2 h0 n0 _ T166.heap _
        rw [e166]
        exact ⟨rfl, N166⟩
    · have s168 := s152
      rw [hk153] at s168
      obtain ⟨cq169, kq169, q169a, q169b, q169c⟩ := isOf hZ (rfl : T146.heap = T146.heap) f146_0
      obtain ⟨_, _, ⟨T169, L169, k169, n169⟩, -, X169, ⟨Lc169, hQ169, l169, y169, z169⟩, st169⟩ := X146.interfaceBack hx (xi := (⟨"com/example/libprox/libprox/Combinations$Rule", "tiedFrom", "(I)I"⟩ : MethodName)) (y := (⟨"com/example/libprox/libprox/Cpe$1", "tiedFrom", "(I)I"⟩ : MethodName)) hown (mvT hZ (hw _ (List.mem_of_getElem? (i := 24) rfl))) (mvT hZ (hw _ (List.mem_of_getElem? (i := 25) rfl))) (mvT hZ (hw _ (List.mem_of_getElem? (i := 26) rfl))) (mvT hZ (hw _ (List.mem_of_getElem? (i := 27) rfl))) (mvT hZ (hw _ (List.mem_of_getElem? (i := 28) rfl))) (mvT hZ (hw _ (List.mem_of_getElem? (i := 29) rfl))) (mvT hZ (hw _ (List.mem_of_getElem? (i := 30) rfl))) (mvT hZ (hw _ (List.mem_of_getElem? (i := 31) rfl))) (by decide) (backOf (W := 0) (rmtiedFrom l Z a0 hw [] u147 (2 : Int32) u148 u150 (4 : Int32) [(.int (own_F4_0 (nar .boolean z0) (nar .boolean z1) (nar .boolean z2) (nar .boolean z3))), (.int (own_F4_1 (nar .boolean z0) (nar .boolean z1) (nar .boolean z2) (nar .boolean z3))), (.int (own_F4_2 (nar .boolean z0) (nar .boolean z1) (nar .boolean z2) (nar .boolean z3))), (.int (own_F4_3 (nar .boolean z0) (nar .boolean z1) (nar .boolean z2) (nar .boolean z3)))] (own_F4_2 (nar .boolean z0) (nar .boolean z1) (nar .boolean z2) (nar .boolean z3)) T146.heap n0 O146 f146_1 f146_3 ⟨by decide, by decide⟩ rfl) hZ (hw _ (List.mem_of_getElem? (i := 32) rfl)) (hw _ (List.mem_of_getElem? (i := 13) rfl)) (by decide) (by decide)) q169a q169b q169c (g := (mkF m 148 #[.val (.int p0), .val (.int p1), .val (.int p2), .val (.int (4 : Int32)), .val (.ref b121), .val (.ref u147), .val (.int (2 : Int32)), .unset, .unset] [(.int (2 : Int32)), (.ref u147)])) rfl (by rw [hml]; rfl) (Steps.refl _) (argsL := [(.int (2 : Int32))]) (rest := []) (lenOf pd_rm0_1 rfl) rfl (by show 2 * 0 + _ ≤ _; exact Nat.le_of_eq rfl) (hb hby at_148) (fun _ _ => ⟨rfl, (rfl : T146.heap = T146.heap), (by decide : 4 + 0 ≤ _), (by decide : 14 + 0 ≤ _)⟩)
      dsimp only [Pt.U, Pt.locs, Pt.cells, Pt.slots] at X169 l169 y169 z169 st169 hQ169
      subst l169 y169 z169
      obtain ⟨rfl, Nq169, e169⟩ := hQ169
      have N169 := Fr.app N146 Nq169
      obtain ⟨cq170, kq170, q170a, q170b, q170c⟩ := isOf hZ e169 f146_0
      obtain ⟨_, _, ⟨T170, L170, k170, n170⟩, -, X170, ⟨Lc170, hQ170, l170, y170, z170⟩, st170⟩ := X169.interfaceBack hx (xi := (⟨"com/example/libprox/libprox/Combinations$Rule", "tiedTo", "(I)I"⟩ : MethodName)) (y := (⟨"com/example/libprox/libprox/Cpe$1", "tiedTo", "(I)I"⟩ : MethodName)) hown (mvT hZ (hw _ (List.mem_of_getElem? (i := 33) rfl))) (mvT hZ (hw _ (List.mem_of_getElem? (i := 34) rfl))) (mvT hZ (hw _ (List.mem_of_getElem? (i := 35) rfl))) (mvT hZ (hw _ (List.mem_of_getElem? (i := 36) rfl))) (mvT hZ (hw _ (List.mem_of_getElem? (i := 37) rfl))) (mvT hZ (hw _ (List.mem_of_getElem? (i := 38) rfl))) (mvT hZ (hw _ (List.mem_of_getElem? (i := 39) rfl))) (mvT hZ (hw _ (List.mem_of_getElem? (i := 31) rfl))) (by decide) (backOf (W := 0) (rmtiedTo l Z a0 hw [] u147 (2 : Int32) u149 u151 (4 : Int32) [(.int (own_T4_0 (nar .boolean z0) (nar .boolean z1) (nar .boolean z2) (nar .boolean z3))), (.int (own_T4_1 (nar .boolean z0) (nar .boolean z1) (nar .boolean z2) (nar .boolean z3))), (.int (own_T4_2 (nar .boolean z0) (nar .boolean z1) (nar .boolean z2) (nar .boolean z3))), (.int (own_T4_3 (nar .boolean z0) (nar .boolean z1) (nar .boolean z2) (nar .boolean z3)))] (own_T4_2 (nar .boolean z0) (nar .boolean z1) (nar .boolean z2) (nar .boolean z3)) T146.heap n0 O146 f146_2 f146_4 ⟨by decide, by decide⟩ rfl) hZ (hw _ (List.mem_of_getElem? (i := 40) rfl)) (hw _ (List.mem_of_getElem? (i := 13) rfl)) (by decide) (by decide)) q170a q170b q170c (g := (mkF m 159 #[.val (.int p0), .val (.int p1), .val (.int p2), .val (.int (4 : Int32)), .val (.ref b121), .val (.ref u147), .val (.int (2 : Int32)), .val (.int (own_F4_2 (nar .boolean z0) (nar .boolean z1) (nar .boolean z2) (nar .boolean z3))), .unset] [(.int (2 : Int32)), (.ref u147)])) rfl (by rw [hml]; rfl) (Steps.refl _) (argsL := [(.int (2 : Int32))]) (rest := []) (lenOf pd_rm0_1 rfl) rfl (by show 2 * 0 + _ ≤ _; exact Nat.le_of_eq rfl) (hb hby at_159) (fun _ _ => ⟨rfl, e169, (by decide : 4 + 0 ≤ _), (by decide : 14 + 0 ≤ _)⟩)
      dsimp only [Pt.U, Pt.locs, Pt.cells, Pt.slots] at X170 l170 y170 z170 st170 hQ170
      subst l170 y170 z170
      obtain ⟨rfl, Nq170, e170⟩ := hQ170
      have N170 := Fr.app N169 Nq170
      have c171 : Arv Z T146.heap b121 k121 .boolean (4 : Int32) [(.int (nar .boolean z0)), (.int (nar .boolean z1)), (.int (nar .boolean z2)), (.int (nar .boolean z3))] (.int (0 : Int32)) := (V145.keep Kc146 nin0)
      obtain ⟨T172, L172, X172, e172, N172, st172⟩ := own_callP X170 hx hZ hown (wk41 hw) (wk42 hw) (wk43 hw) (wk44 hw) (by decide) (rmrefFrom l Z a0 hw [] b121 (4 : Int32) (2 : Int32) k121 [(nar .boolean z0), (nar .boolean z1), (nar .boolean z2), (nar .boolean z3)] T146.heap n0 O146 c171) e170 N170 (W := 1) (by decide) (by decide) (by decide) (by decide) (g := (mkF m 173 #[.val (.int p0), .val (.int p1), .val (.int p2), .val (.int (4 : Int32)), .val (.ref b121), .val (.ref u147), .val (.int (2 : Int32)), .val (.int (own_F4_2 (nar .boolean z0) (nar .boolean z1) (nar .boolean z2) (nar .boolean z3))), .val (.int (own_T4_2 (nar .boolean z0) (nar .boolean z1) (nar .boolean z2) (nar .boolean z3)))] [(.int (2 : Int32)), (.int (4 : Int32)), (.ref b121), (.int (own_F4_2 (nar .boolean z0) (nar .boolean z1) (nar .boolean z2) (nar .boolean z3)))])) rfl (by rw [hml]; rfl) (argsL := [(.ref b121), (.int (4 : Int32)), (.int (2 : Int32))]) (rest := [(.int (own_F4_2 (nar .boolean z0) (nar .boolean z1) (nar .boolean z2) (nar .boolean z3)))]) (lenOf pd_rm0_2 rfl) rfl (by show 2 * 0 + _ ≤ _; exact Nat.le_of_eq rfl) (hb hby at_173)
      obtain ⟨T173, L173, X173, e173, N173, st173⟩ := own_callP X172 hx hZ hown (wk48 hw) (wk49 hw) (wk43 hw) (wk50 hw) (by decide) (rmrefTo l Z a0 hw [] b121 (4 : Int32) (2 : Int32) k121 [(nar .boolean z0), (nar .boolean z1), (nar .boolean z2), (nar .boolean z3)] T146.heap n0 O146 c171) e172 N172 (W := 1) (by decide) (by decide) (by decide) (by decide) (g := (mkF m 186 #[.val (.int p0), .val (.int p1), .val (.int p2), .val (.int (4 : Int32)), .val (.ref b121), .val (.ref u147), .val (.int (2 : Int32)), .val (.int (own_F4_2 (nar .boolean z0) (nar .boolean z1) (nar .boolean z2) (nar .boolean z3))), .val (.int (own_T4_2 (nar .boolean z0) (nar .boolean z1) (nar .boolean z2) (nar .boolean z3)))] [(.int (2 : Int32)), (.int (4 : Int32)), (.ref b121), (.int (own_T4_2 (nar .boolean z0) (nar .boolean z1) (nar .boolean z2) (nar .boolean z3)))])) rfl (by rw [hml]; rfl) (argsL := [(.ref b121), (.int (4 : Int32)), (.int (2 : Int32))]) (rest := [(.int (own_T4_2 (nar .boolean z0) (nar .boolean z1) (nar .boolean z2) (nar .boolean z3)))]) (lenOf pd_rm0_2 rfl) rfl (by show 2 * 0 + _ ≤ _; exact Nat.le_of_eq rfl) (hb hby at_186)
      have s174 : Steps p.tables e below A₀ (T173.setTop (mkF m 197 #[.val (.int p0), .val (.int p1), .val (.int p2), .val (.int (4 : Int32)), .val (.ref b121), .val (.ref u147), .val (.int (2 : Int32)), .val (.int (own_F4_2 (nar .boolean z0) (nar .boolean z1) (nar .boolean z2) (nar .boolean z3))), .val (.int (own_T4_2 (nar .boolean z0) (nar .boolean z1) (nar .boolean z2) (nar .boolean z3)))] [(.int (1 : Int32))])) := by
        refine s168.trans ?_
        refine XS.istore X146.here hx rfl (hb hby at_142) rfl (l' := #[.val (.int p0), .val (.int p1), .val (.int p2), .val (.int (4 : Int32)), .val (.ref b121), .val (.ref u147), .val (.int (2 : Int32)), .unset, .unset]) rfl ?_
        show Steps p.tables e below (T146.setTop (mkF m 144 #[.val (.int p0), .val (.int p1), .val (.int p2), .val (.int (4 : Int32)), .val (.ref b121), .val (.ref u147), .val (.int (2 : Int32)), .unset, .unset] [])) _
        refine XS.aload X146.here hx rfl (hb hby at_144) rfl rfl ?_
        refine XS.iload X146.here hx rfl (hb hby at_146) rfl ?_
        refine st169.trans ?_
        refine XS.istore X169.here hx rfl (hb hby at_153) rfl (l' := #[.val (.int p0), .val (.int p1), .val (.int p2), .val (.int (4 : Int32)), .val (.ref b121), .val (.ref u147), .val (.int (2 : Int32)), .val (.int (own_F4_2 (nar .boolean z0) (nar .boolean z1) (nar .boolean z2) (nar .boolean z3))), .unset]) rfl ?_
        refine XS.aload X169.here hx rfl (hb hby at_155) rfl rfl ?_
        refine XS.iload X169.here hx rfl (hb hby at_157) rfl ?_
        show Steps p.tables e below (T169.setTop (mkF m 159 #[.val (.int p0), .val (.int p1), .val (.int p2), .val (.int (4 : Int32)), .val (.ref b121), .val (.ref u147), .val (.int (2 : Int32)), .val (.int (own_F4_2 (nar .boolean z0) (nar .boolean z1) (nar .boolean z2) (nar .boolean z3))), .unset] [(.int (2 : Int32)), (.ref u147)])) _
        refine st170.trans ?_
        refine XS.istore X170.here hx rfl (hb hby at_164) rfl (l' := #[.val (.int p0), .val (.int p1), .val (.int p2), .val (.int (4 : Int32)), .val (.ref b121), .val (.ref u147), .val (.int (2 : Int32)), .val (.int (own_F4_2 (nar .boolean z0) (nar .boolean z1) (nar .boolean z2) (nar .boolean z3))), .val (.int (own_T4_2 (nar .boolean z0) (nar .boolean z1) (nar .boolean z2) (nar .boolean z3)))]) rfl ?_
        refine XS.iload X170.here hx rfl (hb hby at_166) rfl ?_
        refine XS.aload X170.here hx rfl (hb hby at_168) rfl rfl ?_
        refine XS.iloadN X170.here hx rfl (hb hby at_170) rfl ?_
        refine XS.iload X170.here hx rfl (hb hby at_171) rfl ?_
        show Steps p.tables e below (T170.setTop (mkF m 173 #[.val (.int p0), .val (.int p1), .val (.int p2), .val (.int (4 : Int32)), .val (.ref b121), .val (.ref u147), .val (.int (2 : Int32)), .val (.int (own_F4_2 (nar .boolean z0) (nar .boolean z1) (nar .boolean z2) (nar .boolean z3))), .val (.int (own_T4_2 (nar .boolean z0) (nar .boolean z1) (nar .boolean z2) (nar .boolean z3)))] [(.int (2 : Int32)), (.int (4 : Int32)), (.ref b121), (.int (own_F4_2 (nar .boolean z0) (nar .boolean z1) (nar .boolean z2) (nar .boolean z3)))])) _
        refine st172 _ ?_
        refine XS.icmpNo X172.here hx rfl (hb hby at_176) rfl (teq (own_finF4_2 (nar .boolean z0) (nar .boolean z1) (nar .boolean z2) (nar .boolean z3))).2 ?_
        refine XS.iload X172.here hx rfl (hb hby at_179) rfl ?_
        refine XS.aload X172.here hx rfl (hb hby at_181) rfl rfl ?_
        refine XS.iloadN X172.here hx rfl (hb hby at_183) rfl ?_
        refine XS.iload X172.here hx rfl (hb hby at_184) rfl ?_
        show Steps p.tables e below (T172.setTop (mkF m 186 #[.val (.int p0), .val (.int p1), .val (.int p2), .val (.int (4 : Int32)), .val (.ref b121), .val (.ref u147), .val (.int (2 : Int32)), .val (.int (own_F4_2 (nar .boolean z0) (nar .boolean z1) (nar .boolean z2) (nar .boolean z3))), .val (.int (own_T4_2 (nar .boolean z0) (nar .boolean z1) (nar .boolean z2) (nar .boolean z3)))] [(.int (2 : Int32)), (.int (4 : Int32)), (.ref b121), (.int (own_T4_2 (nar .boolean z0) (nar .boolean z1) (nar .boolean z2) (nar .boolean z3)))])) _
        refine st173 _ ?_
        refine XS.icmpNo X173.here hx rfl (hb hby at_189) rfl (teq (own_finT4_2 (nar .boolean z0) (nar .boolean z1) (nar .boolean z2) (nar .boolean z3))).2 ?_
        refine XS.iconst X173.here hx rfl (hb hby at_192) ?_
        refine XS.goto X173.here hx rfl (pc0 := 193) (pc' := 197) rfl (hb hby at_193) (by decide) (by decide) ?_
        exact Steps.refl _
      subst hA₀
      obtain ⟨fs, hr, hrun, hended, hW, hsame⟩ := X173.leave (v := some (.int (1 : Int32))) (fun h => by rw [Bd.returns] at h; cases h)
      refine ⟨_, _, s174.trans ?_, hrun, hended, _, _, rfl, ?_, ⟨_, rfl⟩, hW, hsame.mono (by decide) (by decide)⟩
      · show Steps p.tables e below (T173.setTop (mkF m 197 #[.val (.int p0), .val (.int p1), .val (.int p2), .val (.int (4 : Int32)), .val (.ref b121), .val (.ref u147), .val (.int (2 : Int32)), .val (.int (own_F4_2 (nar .boolean z0) (nar .boolean z1) (nar .boolean z2) (nar .boolean z3))), .val (.int (own_T4_2 (nar .boolean z0) (nar .boolean z1) (nar .boolean z2) (nar .boolean z3)))] [(.int (1 : Int32))])) _
        exact retN X173 hx (t := .boolean) Bd.returns (by simp) (hb hby at_197) hr
      · show Q0 Z p0 p1 p2 h0 n0 _ T173.heap _
        rw [e173]
        exact ⟨rfl, N173⟩
    · have s175 := s152
      rw [hk153] at s175
      obtain ⟨cq176, kq176, q176a, q176b, q176c⟩ := isOf hZ (rfl : T146.heap = T146.heap) f146_0
      obtain ⟨_, _, ⟨T176, L176, k176, n176⟩, -, X176, ⟨Lc176, hQ176, l176, y176, z176⟩, st176⟩ := X146.interfaceBack hx (xi := (⟨"com/example/libprox/libprox/Combinations$Rule", "tiedFrom", "(I)I"⟩ : MethodName)) (y := (⟨"com/example/libprox/libprox/Cpe$1", "tiedFrom", "(I)I"⟩ : MethodName)) hown (mvT hZ (hw _ (List.mem_of_getElem? (i := 24) rfl))) (mvT hZ (hw _ (List.mem_of_getElem? (i := 25) rfl))) (mvT hZ (hw _ (List.mem_of_getElem? (i := 26) rfl))) (mvT hZ (hw _ (List.mem_of_getElem? (i := 27) rfl))) (mvT hZ (hw _ (List.mem_of_getElem? (i := 28) rfl))) (mvT hZ (hw _ (List.mem_of_getElem? (i := 29) rfl))) (mvT hZ (hw _ (List.mem_of_getElem? (i := 30) rfl))) (mvT hZ (hw _ (List.mem_of_getElem? (i := 31) rfl))) (by decide) (backOf (W := 0) (rmtiedFrom l Z a0 hw [] u147 (3 : Int32) u148 u150 (4 : Int32) [(.int (own_F4_0 (nar .boolean z0) (nar .boolean z1) (nar .boolean z2) (nar .boolean z3))), (.int (own_F4_1 (nar .boolean z0) (nar .boolean z1) (nar .boolean z2) (nar .boolean z3))), (.int (own_F4_2 (nar .boolean z0) (nar .boolean z1) (nar .boolean z2) (nar .boolean z3))), (.int (own_F4_3 (nar .boolean z0) (nar .boolean z1) (nar .boolean z2) (nar .boolean z3)))] (own_F4_3 (nar .boolean z0) (nar .boolean z1) (nar .boolean z2) (nar .boolean z3)) T146.heap n0 O146 f146_1 f146_3 ⟨by decide, by decide⟩ rfl) hZ (hw _ (List.mem_of_getElem? (i := 32) rfl)) (hw _ (List.mem_of_getElem? (i := 13) rfl)) (by decide) (by decide)) q176a q176b q176c (g := (mkF m 148 #[.val (.int p0), .val (.int p1), .val (.int p2), .val (.int (4 : Int32)), .val (.ref b121), .val (.ref u147), .val (.int (3 : Int32)), .unset, .unset] [(.int (3 : Int32)), (.ref u147)])) rfl (by rw [hml]; rfl) (Steps.refl _) (argsL := [(.int (3 : Int32))]) (rest := []) (lenOf pd_rm0_1 rfl) rfl (by show 2 * 0 + _ ≤ _; exact Nat.le_of_eq rfl) (hb hby at_148) (fun _ _ => ⟨rfl, (rfl : T146.heap = T146.heap), (by decide : 4 + 0 ≤ _), (by decide : 14 + 0 ≤ _)⟩)
      dsimp only [Pt.U, Pt.locs, Pt.cells, Pt.slots] at X176 l176 y176 z176 st176 hQ176
      subst l176 y176 z176
      obtain ⟨rfl, Nq176, e176⟩ := hQ176
      have N176 := Fr.app N146 Nq176
      obtain ⟨cq177, kq177, q177a, q177b, q177c⟩ := isOf hZ e176 f146_0
      obtain ⟨_, _, ⟨T177, L177, k177, n177⟩, -, X177, ⟨Lc177, hQ177, l177, y177, z177⟩, st177⟩ := X176.interfaceBack hx (xi := (⟨"com/example/libprox/libprox/Combinations$Rule", "tiedTo", "(I)I"⟩ : MethodName)) (y := (⟨"com/example/libprox/libprox/Cpe$1", "tiedTo", "(I)I"⟩ : MethodName)) hown (mvT hZ (hw _ (List.mem_of_getElem? (i := 33) rfl))) (mvT hZ (hw _ (List.mem_of_getElem? (i := 34) rfl))) (mvT hZ (hw _ (List.mem_of_getElem? (i := 35) rfl))) (mvT hZ (hw _ (List.mem_of_getElem? (i := 36) rfl))) (mvT hZ (hw _ (List.mem_of_getElem? (i := 37) rfl))) (mvT hZ (hw _ (List.mem_of_getElem? (i := 38) rfl))) (mvT hZ (hw _ (List.mem_of_getElem? (i := 39) rfl))) (mvT hZ (hw _ (List.mem_of_getElem? (i := 31) rfl))) (by decide) (backOf (W := 0) (rmtiedTo l Z a0 hw [] u147 (3 : Int32) u149 u151 (4 : Int32) [(.int (own_T4_0 (nar .boolean z0) (nar .boolean z1) (nar .boolean z2) (nar .boolean z3))), (.int (own_T4_1 (nar .boolean z0) (nar .boolean z1) (nar .boolean z2) (nar .boolean z3))), (.int (own_T4_2 (nar .boolean z0) (nar .boolean z1) (nar .boolean z2) (nar .boolean z3))), (.int (own_T4_3 (nar .boolean z0) (nar .boolean z1) (nar .boolean z2) (nar .boolean z3)))] (own_T4_3 (nar .boolean z0) (nar .boolean z1) (nar .boolean z2) (nar .boolean z3)) T146.heap n0 O146 f146_2 f146_4 ⟨by decide, by decide⟩ rfl) hZ (hw _ (List.mem_of_getElem? (i := 40) rfl)) (hw _ (List.mem_of_getElem? (i := 13) rfl)) (by decide) (by decide)) q177a q177b q177c (g := (mkF m 159 #[.val (.int p0), .val (.int p1), .val (.int p2), .val (.int (4 : Int32)), .val (.ref b121), .val (.ref u147), .val (.int (3 : Int32)), .val (.int (own_F4_3 (nar .boolean z0) (nar .boolean z1) (nar .boolean z2) (nar .boolean z3))), .unset] [(.int (3 : Int32)), (.ref u147)])) rfl (by rw [hml]; rfl) (Steps.refl _) (argsL := [(.int (3 : Int32))]) (rest := []) (lenOf pd_rm0_1 rfl) rfl (by show 2 * 0 + _ ≤ _; exact Nat.le_of_eq rfl) (hb hby at_159) (fun _ _ => ⟨rfl, e176, (by decide : 4 + 0 ≤ _), (by decide : 14 + 0 ≤ _)⟩)
      dsimp only [Pt.U, Pt.locs, Pt.cells, Pt.slots] at X177 l177 y177 z177 st177 hQ177
      subst l177 y177 z177
      obtain ⟨rfl, Nq177, e177⟩ := hQ177
      have N177 := Fr.app N176 Nq177
      have c178 : Arv Z T146.heap b121 k121 .boolean (4 : Int32) [(.int (nar .boolean z0)), (.int (nar .boolean z1)), (.int (nar .boolean z2)), (.int (nar .boolean z3))] (.int (0 : Int32)) := (V145.keep Kc146 nin0)
      obtain ⟨T179, L179, X179, e179, N179, st179⟩ := own_callP X177 hx hZ hown (wk41 hw) (wk42 hw) (wk43 hw) (wk44 hw) (by decide) (rmrefFrom l Z a0 hw [] b121 (4 : Int32) (3 : Int32) k121 [(nar .boolean z0), (nar .boolean z1), (nar .boolean z2), (nar .boolean z3)] T146.heap n0 O146 c178) e177 N177 (W := 1) (by decide) (by decide) (by decide) (by decide) (g := (mkF m 173 #[.val (.int p0), .val (.int p1), .val (.int p2), .val (.int (4 : Int32)), .val (.ref b121), .val (.ref u147), .val (.int (3 : Int32)), .val (.int (own_F4_3 (nar .boolean z0) (nar .boolean z1) (nar .boolean z2) (nar .boolean z3))), .val (.int (own_T4_3 (nar .boolean z0) (nar .boolean z1) (nar .boolean z2) (nar .boolean z3)))] [(.int (3 : Int32)), (.int (4 : Int32)), (.ref b121), (.int (own_F4_3 (nar .boolean z0) (nar .boolean z1) (nar .boolean z2) (nar .boolean z3)))])) rfl (by rw [hml]; rfl) (argsL := [(.ref b121), (.int (4 : Int32)), (.int (3 : Int32))]) (rest := [(.int (own_F4_3 (nar .boolean z0) (nar .boolean z1) (nar .boolean z2) (nar .boolean z3)))]) (lenOf pd_rm0_2 rfl) rfl (by show 2 * 0 + _ ≤ _; exact Nat.le_of_eq rfl) (hb hby at_173)
      obtain ⟨T180, L180, X180, e180, N180, st180⟩ := own_callP X179 hx hZ hown (wk48 hw) (wk49 hw) (wk43 hw) (wk50 hw) (by decide) (rmrefTo l Z a0 hw [] b121 (4 : Int32) (3 : Int32) k121 [(nar .boolean z0), (nar .boolean z1), (nar .boolean z2), (nar .boolean z3)] T146.heap n0 O146 c178) e179 N179 (W := 1) (by decide) (by decide) (by decide) (by decide) (g := (mkF m 186 #[.val (.int p0), .val (.int p1), .val (.int p2), .val (.int (4 : Int32)), .val (.ref b121), .val (.ref u147), .val (.int (3 : Int32)), .val (.int (own_F4_3 (nar .boolean z0) (nar .boolean z1) (nar .boolean z2) (nar .boolean z3))), .val (.int (own_T4_3 (nar .boolean z0) (nar .boolean z1) (nar .boolean z2) (nar .boolean z3)))] [(.int (3 : Int32)), (.int (4 : Int32)), (.ref b121), (.int (own_T4_3 (nar .boolean z0) (nar .boolean z1) (nar .boolean z2) (nar .boolean z3)))])) rfl (by rw [hml]; rfl) (argsL := [(.ref b121), (.int (4 : Int32)), (.int (3 : Int32))]) (rest := [(.int (own_T4_3 (nar .boolean z0) (nar .boolean z1) (nar .boolean z2) (nar .boolean z3)))]) (lenOf pd_rm0_2 rfl) rfl (by show 2 * 0 + _ ≤ _; exact Nat.le_of_eq rfl) (hb hby at_186)
      have s181 : Steps p.tables e below A₀ (T180.setTop (mkF m 197 #[.val (.int p0), .val (.int p1), .val (.int p2), .val (.int (4 : Int32)), .val (.ref b121), .val (.ref u147), .val (.int (3 : Int32)), .val (.int (own_F4_3 (nar .boolean z0) (nar .boolean z1) (nar .boolean z2) (nar .boolean z3))), .val (.int (own_T4_3 (nar .boolean z0) (nar .boolean z1) (nar .boolean z2) (nar .boolean z3)))] [(.int (1 : Int32))])) := by
        refine s175.trans ?_
        refine XS.istore X146.here hx rfl (hb hby at_142) rfl (l' := #[.val (.int p0), .val (.int p1), .val (.int p2), .val (.int (4 : Int32)), .val (.ref b121), .val (.ref u147), .val (.int (3 : Int32)), .unset, .unset]) rfl ?_
        show Steps p.tables e below (T146.setTop (mkF m 144 #[.val (.int p0), .val (.int p1), .val (.int p2), .val (.int (4 : Int32)), .val (.ref b121), .val (.ref u147), .val (.int (3 : Int32)), .unset, .unset] [])) _
        refine XS.aload X146.here hx rfl (hb hby at_144) rfl rfl ?_
        refine XS.iload X146.here hx rfl (hb hby at_146) rfl ?_
        refine st176.trans ?_
        refine XS.istore X176.here hx rfl (hb hby at_153) rfl (l' := #[.val (.int p0), .val (.int p1), .val (.int p2), .val (.int (4 : Int32)), .val (.ref b121), .val (.ref u147), .val (.int (3 : Int32)), .val (.int (own_F4_3 (nar .boolean z0) (nar .boolean z1) (nar .boolean z2) (nar .boolean z3))), .unset]) rfl ?_
        refine XS.aload X176.here hx rfl (hb hby at_155) rfl rfl ?_
        refine XS.iload X176.here hx rfl (hb hby at_157) rfl ?_
        show Steps p.tables e below (T176.setTop (mkF m 159 #[.val (.int p0), .val (.int p1), .val (.int p2), .val (.int (4 : Int32)), .val (.ref b121), .val (.ref u147), .val (.int (3 : Int32)), .val (.int (own_F4_3 (nar .boolean z0) (nar .boolean z1) (nar .boolean z2) (nar .boolean z3))), .unset] [(.int (3 : Int32)), (.ref u147)])) _
        refine st177.trans ?_
        refine XS.istore X177.here hx rfl (hb hby at_164) rfl (l' := #[.val (.int p0), .val (.int p1), .val (.int p2), .val (.int (4 : Int32)), .val (.ref b121), .val (.ref u147), .val (.int (3 : Int32)), .val (.int (own_F4_3 (nar .boolean z0) (nar .boolean z1) (nar .boolean z2) (nar .boolean z3))), .val (.int (own_T4_3 (nar .boolean z0) (nar .boolean z1) (nar .boolean z2) (nar .boolean z3)))]) rfl ?_
        refine XS.iload X177.here hx rfl (hb hby at_166) rfl ?_
        refine XS.aload X177.here hx rfl (hb hby at_168) rfl rfl ?_
        refine XS.iloadN X177.here hx rfl (hb hby at_170) rfl ?_
        refine XS.iload X177.here hx rfl (hb hby at_171) rfl ?_
        show Steps p.tables e below (T177.setTop (mkF m 173 #[.val (.int p0), .val (.int p1), .val (.int p2), .val (.int (4 : Int32)), .val (.ref b121), .val (.ref u147), .val (.int (3 : Int32)), .val (.int (own_F4_3 (nar .boolean z0) (nar .boolean z1) (nar .boolean z2) (nar .boolean z3))), .val (.int (own_T4_3 (nar .boolean z0) (nar .boolean z1) (nar .boolean z2) (nar .boolean z3)))] [(.int (3 : Int32)), (.int (4 : Int32)), (.ref b121), (.int (own_F4_3 (nar .boolean z0) (nar .boolean z1) (nar .boolean z2) (nar .boolean z3)))])) _
        refine st179 _ ?_
        refine XS.icmpNo X179.here hx rfl (hb hby at_176) rfl (teq (own_finF4_3 (nar .boolean z0) (nar .boolean z1) (nar .boolean z2) (nar .boolean z3))).2 ?_
        refine XS.iload X179.here hx rfl (hb hby at_179) rfl ?_
        refine XS.aload X179.here hx rfl (hb hby at_181) rfl rfl ?_
        refine XS.iloadN X179.here hx rfl (hb hby at_183) rfl ?_
        refine XS.iload X179.here hx rfl (hb hby at_184) rfl ?_
        show Steps p.tables e below (T179.setTop (mkF m 186 #[.val (.int p0), .val (.int p1), .val (.int p2), .val (.int (4 : Int32)), .val (.ref b121), .val (.ref u147), .val (.int (3 : Int32)), .val (.int (own_F4_3 (nar .boolean z0) (nar .boolean z1) (nar .boolean z2) (nar .boolean z3))), .val (.int (own_T4_3 (nar .boolean z0) (nar .boolean z1) (nar .boolean z2) (nar .boolean z3)))] [(.int (3 : Int32)), (.int (4 : Int32)), (.ref b121), (.int (own_T4_3 (nar .boolean z0) (nar .boolean z1) (nar .boolean z2) (nar .boolean z3)))])) _
        refine st180 _ ?_
        refine XS.icmpNo X180.here hx rfl (hb hby at_189) rfl (teq (own_finT4_3 (nar .boolean z0) (nar .boolean z1) (nar .boolean z2) (nar .boolean z3))).2 ?_
        refine XS.iconst X180.here hx rfl (hb hby at_192) ?_
        refine XS.goto X180.here hx rfl (pc0 := 193) (pc' := 197) rfl (hb hby at_193) (by decide) (by decide) ?_
        exact Steps.refl _
      subst hA₀
      obtain ⟨fs, hr, hrun, hended, hW, hsame⟩ := X180.leave (v := some (.int (1 : Int32))) (fun h => by rw [Bd.returns] at h; cases h)
      refine ⟨_, _, s181.trans ?_, hrun, hended, _, _, rfl, ?_, ⟨_, rfl⟩, hW, hsame.mono (by decide) (by decide)⟩
      · show Steps p.tables e below (T180.setTop (mkF m 197 #[.val (.int p0), .val (.int p1), .val (.int p2), .val (.int (4 : Int32)), .val (.ref b121), .val (.ref u147), .val (.int (3 : Int32)), .val (.int (own_F4_3 (nar .boolean z0) (nar .boolean z1) (nar .boolean z2) (nar .boolean z3))), .val (.int (own_T4_3 (nar .boolean z0) (nar .boolean z1) (nar .boolean z2) (nar .boolean z3)))] [(.int (1 : Int32))])) _
        exact retN X180 hx (t := .boolean) Bd.returns (by simp) (hb hby at_197) hr
      · show Q0 Z p0 p1 p2 h0 n0 _ T180.heap _
        rw [e180]
        exact ⟨rfl, N180⟩
  · have s182 := s1
    rw [hk2] at s182
    obtain ⟨T183, h183, k183, X183, e183, E183, A183, st183⟩ := newP X0 hx hZ (hw _ (List.mem_of_getElem? (i := 1) rfl)) e0 (g := (mkF m 9 #[.val (.int p0), .val (.int p1), .val (.int p2), .val (.int (5 : Int32)), .unset, .unset, .unset, .unset, .unset] [(.int (5 : Int32))])) rfl (hb hby at_9) rfl (by decide) (cap := 5) (by decide) (by decide) (by decide) (by decide)
    obtain ⟨b183, g183⟩ : ∃ z, z = h0.size := ⟨_, rfl⟩
    rw [← g183] at A183 st183
    have g_b183 : n0 ≤ b183 := Nat.le_trans (Nat.le_of_eq O0.1.symm) (Nat.le_trans O0.2.1 (Nat.le_of_eq g183.symm))
    have O183 := O0.ext E183
    have V183 : Arv Z h183 b183 k183 .boolean (5 : Int32) [(.int (0 : Int32)), (.int (0 : Int32)), (.int (0 : Int32)), (.int (0 : Int32)), (.int (0 : Int32))] (.int (0 : Int32)) := (Arv.new A183 (by decide)).pad (pad_rep [] (.int (0 : Int32)) 5)
    have s184 : Steps p.tables e below A₀ (T183.setTop (mkF m 23 #[.val (.int p0), .val (.int p1), .val (.int p2), .val (.int (5 : Int32)), .val (.ref b183), .unset, .unset, .unset, .unset] [(.int (p0 &&& (1 : Int32))), (.int (0 : Int32)), (.ref b183)])) := by
      refine s182.trans ?_
      refine XS.istoreN X0.here hx rfl (hb hby at_7) rfl (l' := #[.val (.int p0), .val (.int p1), .val (.int p2), .val (.int (5 : Int32)), .unset, .unset, .unset, .unset, .unset]) rfl ?_
      show Steps p.tables e below (s₁.setTop (mkF m 8 #[.val (.int p0), .val (.int p1), .val (.int p2), .val (.int (5 : Int32)), .unset, .unset, .unset, .unset, .unset] [])) _
      refine XS.iloadN X0.here hx rfl (hb hby at_8) rfl ?_
      refine st183 _ ?_
      refine XS.astore X183.here hx rfl (hb hby at_11) rfl rfl (l' := #[.val (.int p0), .val (.int p1), .val (.int p2), .val (.int (5 : Int32)), .val (.ref b183), .unset, .unset, .unset, .unset]) rfl ?_
      refine XS.iloadN X183.here hx rfl (hb hby at_13) rfl ?_
      refine XS.ifNo X183.here hx rfl (hb hby at_14) rfl ((if0 _ _).trans (tlt (by decide)).2.2.2) ?_
      refine XS.aload X183.here hx rfl (hb hby at_17) rfl rfl ?_
      show Steps p.tables e below (T183.setTop (mkF m 19 #[.val (.int p0), .val (.int p1), .val (.int p2), .val (.int (5 : Int32)), .val (.ref b183), .unset, .unset, .unset, .unset] [(.ref b183)])) _
      refine XS.iconst X183.here hx rfl (hb hby at_19) ?_
      refine XS.iloadN X183.here hx rfl (hb hby at_20) rfl ?_
      refine XS.iconst X183.here hx rfl (hb hby at_21) ?_
      refine XS.iand X183.here hx rfl (hb hby at_22) rfl ?_
      exact Steps.refl _
    have s186 : Steps p.tables e below A₀ (T183.setTop (mkF m 31 #[.val (.int p0), .val (.int p1), .val (.int p2), .val (.int (5 : Int32)), .val (.ref b183), .unset, .unset, .unset, .unset] [(.int (if (p0 &&& (1 : Int32)) = (0 : Int32) then (0 : Int32) else (1 : Int32))), (.int (0 : Int32)), (.ref b183)])) := by
      by_cases hm185 : (p0 &&& (1 : Int32)) = (0 : Int32)
      · simp only [if_pos hm185]
        refine s184.trans ?_
        refine XS.ifYes X183.here hx rfl (pc0 := 23) (pc' := 30) rfl (hb hby at_23) rfl ((if0 _ _).trans (teq hm185).1) (by decide) (by decide) ?_
        show Steps p.tables e below (T183.setTop (mkF m 30 #[.val (.int p0), .val (.int p1), .val (.int p2), .val (.int (5 : Int32)), .val (.ref b183), .unset, .unset, .unset, .unset] [(.int (0 : Int32)), (.ref b183)])) _
        refine XS.iconst X183.here hx rfl (hb hby at_30) ?_
        exact Steps.refl _
      · simp only [if_neg hm185]
        refine s184.trans ?_
        refine XS.ifNo X183.here hx rfl (hb hby at_23) rfl ((if0 _ _).trans (feq hm185).1) ?_
        show Steps p.tables e below (T183.setTop (mkF m 26 #[.val (.int p0), .val (.int p1), .val (.int p2), .val (.int (5 : Int32)), .val (.ref b183), .unset, .unset, .unset, .unset] [(.int (0 : Int32)), (.ref b183)])) _
        refine XS.iconst X183.here hx rfl (hb hby at_26) ?_
        refine XS.goto X183.here hx rfl (pc0 := 27) (pc' := 31) rfl (hb hby at_27) (by decide) (by decide) ?_
        exact Steps.refl _
    obtain ⟨z0, hz0⟩ : ∃ z, z = (if (p0 &&& (1 : Int32)) = (0 : Int32) then (0 : Int32) else (1 : Int32)) := ⟨_, rfl⟩
    rw [← hz0] at s186
    obtain ⟨cla187, Ara187, qa187, Sa187, Za187, Ha187, Ga187⟩ := id V183
    have hin188 : ¬ ((0 : Int32) < 0 ∨ cla187.slots.size ≤ ((0 : Int32)).toNatClampNeg) := inb_of Sa187 ⟨by decide, by decide⟩
    obtain ⟨T189, h189, X189, e189, W189, st189⟩ := stZ X183 hx hZ e183 Ara187 (j := (0 : Int32)) hin188 (g := (mkF m 31 #[.val (.int p0), .val (.int p1), .val (.int p2), .val (.int (5 : Int32)), .val (.ref b183), .unset, .unset, .unset, .unset] [(.int z0), (.int (0 : Int32)), (.ref b183)])) rfl rfl (hb hby at_31)
    have O189 := O183.wr W189 g_b183
    have N189 := Fr.snoc X189 N0 g_b183
    have V189 : Arv Z h189 b183 k183 .boolean (5 : Int32) [(.int (nar .boolean z0)), (.int (0 : Int32)), (.int (0 : Int32)), (.int (0 : Int32)), (.int (0 : Int32))] (.int (0 : Int32)) := Arv.set Ara187 qa187 Sa187 Za187 Ha187 Ga187 (fits_nar_bool _) W189 0 rfl (Nat.le_of_ble_eq_true rfl)
    have s190 : Steps p.tables e below A₀ (T189.setTop (mkF m 43 #[.val (.int p0), .val (.int p1), .val (.int p2), .val (.int (5 : Int32)), .val (.ref b183), .unset, .unset, .unset, .unset] [(.int (p0 &&& (2 : Int32))), (.int (1 : Int32)), (.ref b183)])) := by
      refine s186.trans ?_
      refine st189 _ ?_
      show Steps p.tables e below (T189.setTop (mkF m 32 #[.val (.int p0), .val (.int p1), .val (.int p2), .val (.int (5 : Int32)), .val (.ref b183), .unset, .unset, .unset, .unset] [])) _
      refine XS.iloadN X189.here hx rfl (hb hby at_32) rfl ?_
      refine XS.iconst X189.here hx rfl (hb hby at_33) ?_
      refine XS.icmpNo X189.here hx rfl (hb hby at_34) rfl (tlt (by decide)).2.2.2 ?_
      refine XS.aload X189.here hx rfl (hb hby at_37) rfl rfl ?_
      refine XS.iconst X189.here hx rfl (hb hby at_39) ?_
      refine XS.iloadN X189.here hx rfl (hb hby at_40) rfl ?_
      show Steps p.tables e below (T189.setTop (mkF m 41 #[.val (.int p0), .val (.int p1), .val (.int p2), .val (.int (5 : Int32)), .val (.ref b183), .unset, .unset, .unset, .unset] [(.int p0), (.int (1 : Int32)), (.ref b183)])) _
      refine XS.iconst X189.here hx rfl (hb hby at_41) ?_
      refine XS.iand X189.here hx rfl (hb hby at_42) rfl ?_
      exact Steps.refl _
    have s192 : Steps p.tables e below A₀ (T189.setTop (mkF m 51 #[.val (.int p0), .val (.int p1), .val (.int p2), .val (.int (5 : Int32)), .val (.ref b183), .unset, .unset, .unset, .unset] [(.int (if (p0 &&& (2 : Int32)) = (0 : Int32) then (0 : Int32) else (1 : Int32))), (.int (1 : Int32)), (.ref b183)])) := by
      by_cases hm191 : (p0 &&& (2 : Int32)) = (0 : Int32)
      · simp only [if_pos hm191]
        refine s190.trans ?_
        refine XS.ifYes X189.here hx rfl (pc0 := 43) (pc' := 50) rfl (hb hby at_43) rfl ((if0 _ _).trans (teq hm191).1) (by decide) (by decide) ?_
        show Steps p.tables e below (T189.setTop (mkF m 50 #[.val (.int p0), .val (.int p1), .val (.int p2), .val (.int (5 : Int32)), .val (.ref b183), .unset, .unset, .unset, .unset] [(.int (1 : Int32)), (.ref b183)])) _
        refine XS.iconst X189.here hx rfl (hb hby at_50) ?_
        exact Steps.refl _
      · simp only [if_neg hm191]
        refine s190.trans ?_
        refine XS.ifNo X189.here hx rfl (hb hby at_43) rfl ((if0 _ _).trans (feq hm191).1) ?_
        show Steps p.tables e below (T189.setTop (mkF m 46 #[.val (.int p0), .val (.int p1), .val (.int p2), .val (.int (5 : Int32)), .val (.ref b183), .unset, .unset, .unset, .unset] [(.int (1 : Int32)), (.ref b183)])) _
        refine XS.iconst X189.here hx rfl (hb hby at_46) ?_
        refine XS.goto X189.here hx rfl (pc0 := 47) (pc' := 51) rfl (hb hby at_47) (by decide) (by decide) ?_
        exact Steps.refl _
    obtain ⟨z1, hz1⟩ : ∃ z, z = (if (p0 &&& (2 : Int32)) = (0 : Int32) then (0 : Int32) else (1 : Int32)) := ⟨_, rfl⟩
    rw [← hz1] at s192
    obtain ⟨cla193, Ara193, qa193, Sa193, Za193, Ha193, Ga193⟩ := id V189
    have hin194 : ¬ ((1 : Int32) < 0 ∨ cla193.slots.size ≤ ((1 : Int32)).toNatClampNeg) := inb_of Sa193 ⟨by decide, by decide⟩
    obtain ⟨T195, h195, X195, e195, W195, st195⟩ := stZ X189 hx hZ e189 Ara193 (j := (1 : Int32)) hin194 (g := (mkF m 51 #[.val (.int p0), .val (.int p1), .val (.int p2), .val (.int (5 : Int32)), .val (.ref b183), .unset, .unset, .unset, .unset] [(.int z1), (.int (1 : Int32)), (.ref b183)])) rfl rfl (hb hby at_51)
    have O195 := O189.wr W195 g_b183
    have N195 := Fr.snoc X195 N189 g_b183
    have V195 : Arv Z h195 b183 k183 .boolean (5 : Int32) [(.int (nar .boolean z0)), (.int (nar .boolean z1)), (.int (0 : Int32)), (.int (0 : Int32)), (.int (0 : Int32))] (.int (0 : Int32)) := Arv.set Ara193 qa193 Sa193 Za193 Ha193 Ga193 (fits_nar_bool _) W195 1 rfl (Nat.le_of_ble_eq_true rfl)
    have s196 : Steps p.tables e below A₀ (T195.setTop (mkF m 63 #[.val (.int p0), .val (.int p1), .val (.int p2), .val (.int (5 : Int32)), .val (.ref b183), .unset, .unset, .unset, .unset] [(.int (p0 &&& (4 : Int32))), (.int (2 : Int32)), (.ref b183)])) := by
      refine s192.trans ?_
      refine st195 _ ?_
      show Steps p.tables e below (T195.setTop (mkF m 52 #[.val (.int p0), .val (.int p1), .val (.int p2), .val (.int (5 : Int32)), .val (.ref b183), .unset, .unset, .unset, .unset] [])) _
      refine XS.iloadN X195.here hx rfl (hb hby at_52) rfl ?_
      refine XS.iconst X195.here hx rfl (hb hby at_53) ?_
      refine XS.icmpNo X195.here hx rfl (hb hby at_54) rfl (tlt (by decide)).2.2.2 ?_
      refine XS.aload X195.here hx rfl (hb hby at_57) rfl rfl ?_
      refine XS.iconst X195.here hx rfl (hb hby at_59) ?_
      refine XS.iloadN X195.here hx rfl (hb hby at_60) rfl ?_
      show Steps p.tables e below (T195.setTop (mkF m 61 #[.val (.int p0), .val (.int p1), .val (.int p2), .val (.int (5 : Int32)), .val (.ref b183), .unset, .unset, .unset, .unset] [(.int p0), (.int (2 : Int32)), (.ref b183)])) _
      refine XS.iconst X195.here hx rfl (hb hby at_61) ?_
      refine XS.iand X195.here hx rfl (hb hby at_62) rfl ?_
      exact Steps.refl _
    have s198 : Steps p.tables e below A₀ (T195.setTop (mkF m 71 #[.val (.int p0), .val (.int p1), .val (.int p2), .val (.int (5 : Int32)), .val (.ref b183), .unset, .unset, .unset, .unset] [(.int (if (p0 &&& (4 : Int32)) = (0 : Int32) then (0 : Int32) else (1 : Int32))), (.int (2 : Int32)), (.ref b183)])) := by
      by_cases hm197 : (p0 &&& (4 : Int32)) = (0 : Int32)
      · simp only [if_pos hm197]
        refine s196.trans ?_
        refine XS.ifYes X195.here hx rfl (pc0 := 63) (pc' := 70) rfl (hb hby at_63) rfl ((if0 _ _).trans (teq hm197).1) (by decide) (by decide) ?_
        show Steps p.tables e below (T195.setTop (mkF m 70 #[.val (.int p0), .val (.int p1), .val (.int p2), .val (.int (5 : Int32)), .val (.ref b183), .unset, .unset, .unset, .unset] [(.int (2 : Int32)), (.ref b183)])) _
        refine XS.iconst X195.here hx rfl (hb hby at_70) ?_
        exact Steps.refl _
      · simp only [if_neg hm197]
        refine s196.trans ?_
        refine XS.ifNo X195.here hx rfl (hb hby at_63) rfl ((if0 _ _).trans (feq hm197).1) ?_
        show Steps p.tables e below (T195.setTop (mkF m 66 #[.val (.int p0), .val (.int p1), .val (.int p2), .val (.int (5 : Int32)), .val (.ref b183), .unset, .unset, .unset, .unset] [(.int (2 : Int32)), (.ref b183)])) _
        refine XS.iconst X195.here hx rfl (hb hby at_66) ?_
        refine XS.goto X195.here hx rfl (pc0 := 67) (pc' := 71) rfl (hb hby at_67) (by decide) (by decide) ?_
        exact Steps.refl _
    obtain ⟨z2, hz2⟩ : ∃ z, z = (if (p0 &&& (4 : Int32)) = (0 : Int32) then (0 : Int32) else (1 : Int32)) := ⟨_, rfl⟩
    rw [← hz2] at s198
    obtain ⟨cla199, Ara199, qa199, Sa199, Za199, Ha199, Ga199⟩ := id V195
    have hin200 : ¬ ((2 : Int32) < 0 ∨ cla199.slots.size ≤ ((2 : Int32)).toNatClampNeg) := inb_of Sa199 ⟨by decide, by decide⟩
    obtain ⟨T201, h201, X201, e201, W201, st201⟩ := stZ X195 hx hZ e195 Ara199 (j := (2 : Int32)) hin200 (g := (mkF m 71 #[.val (.int p0), .val (.int p1), .val (.int p2), .val (.int (5 : Int32)), .val (.ref b183), .unset, .unset, .unset, .unset] [(.int z2), (.int (2 : Int32)), (.ref b183)])) rfl rfl (hb hby at_71)
    have O201 := O195.wr W201 g_b183
    have N201 := Fr.snoc X201 N195 g_b183
    have V201 : Arv Z h201 b183 k183 .boolean (5 : Int32) [(.int (nar .boolean z0)), (.int (nar .boolean z1)), (.int (nar .boolean z2)), (.int (0 : Int32)), (.int (0 : Int32))] (.int (0 : Int32)) := Arv.set Ara199 qa199 Sa199 Za199 Ha199 Ga199 (fits_nar_bool _) W201 2 rfl (Nat.le_of_ble_eq_true rfl)
    have s202 : Steps p.tables e below A₀ (T201.setTop (mkF m 84 #[.val (.int p0), .val (.int p1), .val (.int p2), .val (.int (5 : Int32)), .val (.ref b183), .unset, .unset, .unset, .unset] [(.int (p0 &&& (8 : Int32))), (.int (3 : Int32)), (.ref b183)])) := by
      refine s198.trans ?_
      refine st201 _ ?_
      show Steps p.tables e below (T201.setTop (mkF m 72 #[.val (.int p0), .val (.int p1), .val (.int p2), .val (.int (5 : Int32)), .val (.ref b183), .unset, .unset, .unset, .unset] [])) _
      refine XS.iloadN X201.here hx rfl (hb hby at_72) rfl ?_
      refine XS.iconst X201.here hx rfl (hb hby at_73) ?_
      refine XS.icmpNo X201.here hx rfl (hb hby at_74) rfl (tlt (by decide)).2.2.2 ?_
      refine XS.aload X201.here hx rfl (hb hby at_77) rfl rfl ?_
      refine XS.iconst X201.here hx rfl (hb hby at_79) ?_
      refine XS.iloadN X201.here hx rfl (hb hby at_80) rfl ?_
      show Steps p.tables e below (T201.setTop (mkF m 81 #[.val (.int p0), .val (.int p1), .val (.int p2), .val (.int (5 : Int32)), .val (.ref b183), .unset, .unset, .unset, .unset] [(.int p0), (.int (3 : Int32)), (.ref b183)])) _
      refine XS.bipush X201.here hx rfl (hb hby at_81) ?_
      refine XS.iand X201.here hx rfl (hb hby at_83) rfl ?_
      exact Steps.refl _
    have s204 : Steps p.tables e below A₀ (T201.setTop (mkF m 92 #[.val (.int p0), .val (.int p1), .val (.int p2), .val (.int (5 : Int32)), .val (.ref b183), .unset, .unset, .unset, .unset] [(.int (if (p0 &&& (8 : Int32)) = (0 : Int32) then (0 : Int32) else (1 : Int32))), (.int (3 : Int32)), (.ref b183)])) := by
      by_cases hm203 : (p0 &&& (8 : Int32)) = (0 : Int32)
      · simp only [if_pos hm203]
        refine s202.trans ?_
        refine XS.ifYes X201.here hx rfl (pc0 := 84) (pc' := 91) rfl (hb hby at_84) rfl ((if0 _ _).trans (teq hm203).1) (by decide) (by decide) ?_
        show Steps p.tables e below (T201.setTop (mkF m 91 #[.val (.int p0), .val (.int p1), .val (.int p2), .val (.int (5 : Int32)), .val (.ref b183), .unset, .unset, .unset, .unset] [(.int (3 : Int32)), (.ref b183)])) _
        refine XS.iconst X201.here hx rfl (hb hby at_91) ?_
        exact Steps.refl _
      · simp only [if_neg hm203]
        refine s202.trans ?_
        refine XS.ifNo X201.here hx rfl (hb hby at_84) rfl ((if0 _ _).trans (feq hm203).1) ?_
        show Steps p.tables e below (T201.setTop (mkF m 87 #[.val (.int p0), .val (.int p1), .val (.int p2), .val (.int (5 : Int32)), .val (.ref b183), .unset, .unset, .unset, .unset] [(.int (3 : Int32)), (.ref b183)])) _
        refine XS.iconst X201.here hx rfl (hb hby at_87) ?_
        refine XS.goto X201.here hx rfl (pc0 := 88) (pc' := 92) rfl (hb hby at_88) (by decide) (by decide) ?_
        exact Steps.refl _
    obtain ⟨z3, hz3⟩ : ∃ z, z = (if (p0 &&& (8 : Int32)) = (0 : Int32) then (0 : Int32) else (1 : Int32)) := ⟨_, rfl⟩
    rw [← hz3] at s204
    obtain ⟨cla205, Ara205, qa205, Sa205, Za205, Ha205, Ga205⟩ := id V201
    have hin206 : ¬ ((3 : Int32) < 0 ∨ cla205.slots.size ≤ ((3 : Int32)).toNatClampNeg) := inb_of Sa205 ⟨by decide, by decide⟩
    obtain ⟨T207, h207, X207, e207, W207, st207⟩ := stZ X201 hx hZ e201 Ara205 (j := (3 : Int32)) hin206 (g := (mkF m 92 #[.val (.int p0), .val (.int p1), .val (.int p2), .val (.int (5 : Int32)), .val (.ref b183), .unset, .unset, .unset, .unset] [(.int z3), (.int (3 : Int32)), (.ref b183)])) rfl rfl (hb hby at_92)
    have O207 := O201.wr W207 g_b183
    have N207 := Fr.snoc X207 N201 g_b183
    have V207 : Arv Z h207 b183 k183 .boolean (5 : Int32) [(.int (nar .boolean z0)), (.int (nar .boolean z1)), (.int (nar .boolean z2)), (.int (nar .boolean z3)), (.int (0 : Int32))] (.int (0 : Int32)) := Arv.set Ara205 qa205 Sa205 Za205 Ha205 Ga205 (fits_nar_bool _) W207 3 rfl (Nat.le_of_ble_eq_true rfl)
    have s208 : Steps p.tables e below A₀ (T207.setTop (mkF m 105 #[.val (.int p0), .val (.int p1), .val (.int p2), .val (.int (5 : Int32)), .val (.ref b183), .unset, .unset, .unset, .unset] [(.int (p0 &&& (16 : Int32))), (.int (4 : Int32)), (.ref b183)])) := by
      refine s204.trans ?_
      refine st207 _ ?_
      show Steps p.tables e below (T207.setTop (mkF m 93 #[.val (.int p0), .val (.int p1), .val (.int p2), .val (.int (5 : Int32)), .val (.ref b183), .unset, .unset, .unset, .unset] [])) _
      refine XS.iloadN X207.here hx rfl (hb hby at_93) rfl ?_
      refine XS.iconst X207.here hx rfl (hb hby at_94) ?_
      refine XS.icmpNo X207.here hx rfl (hb hby at_95) rfl (tlt (by decide)).2.2.2 ?_
      refine XS.aload X207.here hx rfl (hb hby at_98) rfl rfl ?_
      refine XS.iconst X207.here hx rfl (hb hby at_100) ?_
      refine XS.iloadN X207.here hx rfl (hb hby at_101) rfl ?_
      show Steps p.tables e below (T207.setTop (mkF m 102 #[.val (.int p0), .val (.int p1), .val (.int p2), .val (.int (5 : Int32)), .val (.ref b183), .unset, .unset, .unset, .unset] [(.int p0), (.int (4 : Int32)), (.ref b183)])) _
      refine XS.bipush X207.here hx rfl (hb hby at_102) ?_
      refine XS.iand X207.here hx rfl (hb hby at_104) rfl ?_
      exact Steps.refl _
    have s210 : Steps p.tables e below A₀ (T207.setTop (mkF m 113 #[.val (.int p0), .val (.int p1), .val (.int p2), .val (.int (5 : Int32)), .val (.ref b183), .unset, .unset, .unset, .unset] [(.int (if (p0 &&& (16 : Int32)) = (0 : Int32) then (0 : Int32) else (1 : Int32))), (.int (4 : Int32)), (.ref b183)])) := by
      by_cases hm209 : (p0 &&& (16 : Int32)) = (0 : Int32)
      · simp only [if_pos hm209]
        refine s208.trans ?_
        refine XS.ifYes X207.here hx rfl (pc0 := 105) (pc' := 112) rfl (hb hby at_105) rfl ((if0 _ _).trans (teq hm209).1) (by decide) (by decide) ?_
        show Steps p.tables e below (T207.setTop (mkF m 112 #[.val (.int p0), .val (.int p1), .val (.int p2), .val (.int (5 : Int32)), .val (.ref b183), .unset, .unset, .unset, .unset] [(.int (4 : Int32)), (.ref b183)])) _
        refine XS.iconst X207.here hx rfl (hb hby at_112) ?_
        exact Steps.refl _
      · simp only [if_neg hm209]
        refine s208.trans ?_
        refine XS.ifNo X207.here hx rfl (hb hby at_105) rfl ((if0 _ _).trans (feq hm209).1) ?_
        show Steps p.tables e below (T207.setTop (mkF m 108 #[.val (.int p0), .val (.int p1), .val (.int p2), .val (.int (5 : Int32)), .val (.ref b183), .unset, .unset, .unset, .unset] [(.int (4 : Int32)), (.ref b183)])) _
        refine XS.iconst X207.here hx rfl (hb hby at_108) ?_
        refine XS.goto X207.here hx rfl (pc0 := 109) (pc' := 113) rfl (hb hby at_109) (by decide) (by decide) ?_
        exact Steps.refl _
    obtain ⟨z4, hz4⟩ : ∃ z, z = (if (p0 &&& (16 : Int32)) = (0 : Int32) then (0 : Int32) else (1 : Int32)) := ⟨_, rfl⟩
    rw [← hz4] at s210
    obtain ⟨cla211, Ara211, qa211, Sa211, Za211, Ha211, Ga211⟩ := id V207
    have hin212 : ¬ ((4 : Int32) < 0 ∨ cla211.slots.size ≤ ((4 : Int32)).toNatClampNeg) := inb_of Sa211 ⟨by decide, by decide⟩
    obtain ⟨T213, h213, X213, e213, W213, st213⟩ := stZ X207 hx hZ e207 Ara211 (j := (4 : Int32)) hin212 (g := (mkF m 113 #[.val (.int p0), .val (.int p1), .val (.int p2), .val (.int (5 : Int32)), .val (.ref b183), .unset, .unset, .unset, .unset] [(.int z4), (.int (4 : Int32)), (.ref b183)])) rfl rfl (hb hby at_113)
    have O213 := O207.wr W213 g_b183
    have N213 := Fr.snoc X213 N207 g_b183
    have V213 : Arv Z h213 b183 k183 .boolean (5 : Int32) [(.int (nar .boolean z0)), (.int (nar .boolean z1)), (.int (nar .boolean z2)), (.int (nar .boolean z3)), (.int (nar .boolean z4))] (.int (0 : Int32)) := Arv.set Ara211 qa211 Sa211 Za211 Ha211 Ga211 (fits_nar_bool _) W213 4 rfl (Nat.le_of_ble_eq_true rfl)
    obtain ⟨_, _, ⟨T214, L214, k214, n214⟩, -, X214, ⟨Lc214, hQ214, l214, y214, z214⟩, st214⟩ := Jvm.LawKit.callS X213 hx (y := (⟨"com/example/libprox/libprox/Cpe", "tiedStopWords", "([Z)Lcom/example/libprox/libprox/Combinations$Rule;"⟩ : MethodName)) hown (mvT hZ (hw _ (List.mem_of_getElem? (i := 2) rfl))) (mvT hZ (hw _ (List.mem_of_getElem? (i := 3) rfl))) (mvT hZ (hw _ (List.mem_of_getElem? (i := 4) rfl))) (mvT hZ (hw _ (List.mem_of_getElem? (i := 5) rfl))) (by decide) (backOf (W := 0) (rmt5 l Z a0 hw [] b183 k183 (nar .boolean z0) (nar .boolean z1) (nar .boolean z2) (nar .boolean z3) (nar .boolean z4) h213 n0 O213 V213) hZ (hw _ (List.mem_of_getElem? (i := 5) rfl)) (hw _ (List.mem_of_getElem? (i := 4) rfl)) (by decide) (by decide)) (g := (mkF m 116 #[.val (.int p0), .val (.int p1), .val (.int p2), .val (.int (5 : Int32)), .val (.ref b183), .unset, .unset, .unset, .unset] [(.ref b183)])) rfl (by rw [hml]; rfl) (argsL := [(.ref b183)]) (rest := []) (lenOf pd_rm0_0 rfl) rfl (by show 2 * 0 + _ ≤ _; exact Nat.le_of_eq rfl) (hb hby at_116) (fun _ _ => ⟨rfl, e213, (by decide : 1 + 3 ≤ _), (by decide : 5 + 12 ≤ _)⟩)
    dsimp only [Pt.U, Pt.locs, Pt.cells, Pt.slots] at X214 l214 y214 z214 st214 hQ214
    subst l214 y214 z214
    obtain ⟨u215, u216, u217, u218, u219, rfl, Nq214, Kc214, f214_0, f214_1, f214_2, f214_3, f214_4⟩ := hQ214
    have N214 := Fr.app N213 Nq214
    have O214 := O213.keep Kc214 all0
    have s220 : Steps p.tables e below A₀ (T214.setTop (mkF m 142 #[.val (.int p0), .val (.int p1), .val (.int p2), .val (.int (5 : Int32)), .val (.ref b183), .val (.ref u215), .unset, .unset, .unset] [(.int ((p2 &&& (2147483647 : Int32)) % (5 : Int32)))])) := by
      refine s210.trans ?_
      refine st213 _ ?_
      show Steps p.tables e below (T213.setTop (mkF m 114 #[.val (.int p0), .val (.int p1), .val (.int p2), .val (.int (5 : Int32)), .val (.ref b183), .unset, .unset, .unset, .unset] [])) _
      refine XS.aload X213.here hx rfl (hb hby at_114) rfl rfl ?_
      refine st214 _ ?_
      refine XS.astore X214.here hx rfl (hb hby at_119) rfl rfl (l' := #[.val (.int p0), .val (.int p1), .val (.int p2), .val (.int (5 : Int32)), .val (.ref b183), .val (.ref u215), .unset, .unset, .unset]) rfl ?_
      refine XS.iloadN X214.here hx rfl (hb hby at_121) rfl ?_
      refine XS.ifYes X214.here hx rfl (pc0 := 122) (pc' := 136) rfl (hb hby at_122) rfl ((if0 _ _).trans (feq (by decide)).2) (by decide) (by decide) ?_
      refine XS.iloadN X214.here hx rfl (hb hby at_136) rfl ?_
      show Steps p.tables e below (T214.setTop (mkF m 137 #[.val (.int p0), .val (.int p1), .val (.int p2), .val (.int (5 : Int32)), .val (.ref b183), .val (.ref u215), .unset, .unset, .unset] [(.int p2)])) _
      refine X214.ldcInt hx hown (mvT hZ (hw _ (List.mem_of_getElem? (i := 0) rfl))) (g := (mkF m 137 #[.val (.int p0), .val (.int p1), .val (.int p2), .val (.int (5 : Int32)), .val (.ref b183), .val (.ref u215), .unset, .unset, .unset] [(.int p2)])) rfl (hb hby at_137) _ ?_
      refine XS.iand X214.here hx rfl (hb hby at_139) rfl ?_
      refine XS.iloadN X214.here hx rfl (hb hby at_140) rfl ?_
      refine Jvm.RoadKit.iremM (g := (mkF m 141 #[.val (.int p0), .val (.int p1), .val (.int p2), .val (.int (5 : Int32)), .val (.ref b183), .val (.ref u215), .unset, .unset, .unset] [(.int (5 : Int32)), (.int (p2 &&& (2147483647 : Int32)))])) X214 hx rfl (hb hby at_141) rfl (by decide) ?_
      exact Steps.refl _
    rcases own_mod5 p2 with hk221 | hk221 | hk221 | hk221 | hk221
    · have s222 := s220
      rw [hk221] at s222
      obtain ⟨cq223, kq223, q223a, q223b, q223c⟩ := isOf hZ (rfl : T214.heap = T214.heap) f214_0
      obtain ⟨_, _, ⟨T223, L223, k223, n223⟩, -, X223, ⟨Lc223, hQ223, l223, y223, z223⟩, st223⟩ := X214.interfaceBack hx (xi := (⟨"com/example/libprox/libprox/Combinations$Rule", "tiedFrom", "(I)I"⟩ : MethodName)) (y := (⟨"com/example/libprox/libprox/Cpe$1", "tiedFrom", "(I)I"⟩ : MethodName)) hown (mvT hZ (hw _ (List.mem_of_getElem? (i := 24) rfl))) (mvT hZ (hw _ (List.mem_of_getElem? (i := 25) rfl))) (mvT hZ (hw _ (List.mem_of_getElem? (i := 26) rfl))) (mvT hZ (hw _ (List.mem_of_getElem? (i := 27) rfl))) (mvT hZ (hw _ (List.mem_of_getElem? (i := 28) rfl))) (mvT hZ (hw _ (List.mem_of_getElem? (i := 29) rfl))) (mvT hZ (hw _ (List.mem_of_getElem? (i := 30) rfl))) (mvT hZ (hw _ (List.mem_of_getElem? (i := 31) rfl))) (by decide) (backOf (W := 0) (rmtiedFrom l Z a0 hw [] u215 (0 : Int32) u216 u218 (5 : Int32) [(.int (own_F5_0 (nar .boolean z0) (nar .boolean z1) (nar .boolean z2) (nar .boolean z3) (nar .boolean z4))), (.int (own_F5_1 (nar .boolean z0) (nar .boolean z1) (nar .boolean z2) (nar .boolean z3) (nar .boolean z4))), (.int (own_F5_2 (nar .boolean z0) (nar .boolean z1) (nar .boolean z2) (nar .boolean z3) (nar .boolean z4))), (.int (own_F5_3 (nar .boolean z0) (nar .boolean z1) (nar .boolean z2) (nar .boolean z3) (nar .boolean z4))), (.int (own_F5_4 (nar .boolean z0) (nar .boolean z1) (nar .boolean z2) (nar .boolean z3) (nar .boolean z4)))] (own_F5_0 (nar .boolean z0) (nar .boolean z1) (nar .boolean z2) (nar .boolean z3) (nar .boolean z4)) T214.heap n0 O214 f214_1 f214_3 ⟨by decide, by decide⟩ rfl) hZ (hw _ (List.mem_of_getElem? (i := 32) rfl)) (hw _ (List.mem_of_getElem? (i := 13) rfl)) (by decide) (by decide)) q223a q223b q223c (g := (mkF m 148 #[.val (.int p0), .val (.int p1), .val (.int p2), .val (.int (5 : Int32)), .val (.ref b183), .val (.ref u215), .val (.int (0 : Int32)), .unset, .unset] [(.int (0 : Int32)), (.ref u215)])) rfl (by rw [hml]; rfl) (Steps.refl _) (argsL := [(.int (0 : Int32))]) (rest := []) (lenOf pd_rm0_1 rfl) rfl (by show 2 * 0 + _ ≤ _; exact Nat.le_of_eq rfl) (hb hby at_148) (fun _ _ => ⟨rfl, (rfl : T214.heap = T214.heap), (by decide : 4 + 0 ≤ _), (by decide : 17 + 0 ≤ _)⟩)
      dsimp only [Pt.U, Pt.locs, Pt.cells, Pt.slots] at X223 l223 y223 z223 st223 hQ223
      subst l223 y223 z223
      obtain ⟨rfl, Nq223, e223⟩ := hQ223
      have N223 := Fr.app N214 Nq223
      obtain ⟨cq224, kq224, q224a, q224b, q224c⟩ := isOf hZ e223 f214_0
      obtain ⟨_, _, ⟨T224, L224, k224, n224⟩, -, X224, ⟨Lc224, hQ224, l224, y224, z224⟩, st224⟩ := X223.interfaceBack hx (xi := (⟨"com/example/libprox/libprox/Combinations$Rule", "tiedTo", "(I)I"⟩ : MethodName)) (y := (⟨"com/example/libprox/libprox/Cpe$1", "tiedTo", "(I)I"⟩ : MethodName)) hown (mvT hZ (hw _ (List.mem_of_getElem? (i := 33) rfl))) (mvT hZ (hw _ (List.mem_of_getElem? (i := 34) rfl))) (mvT hZ (hw _ (List.mem_of_getElem? (i := 35) rfl))) (mvT hZ (hw _ (List.mem_of_getElem? (i := 36) rfl))) (mvT hZ (hw _ (List.mem_of_getElem? (i := 37) rfl))) (mvT hZ (hw _ (List.mem_of_getElem? (i := 38) rfl))) (mvT hZ (hw _ (List.mem_of_getElem? (i := 39) rfl))) (mvT hZ (hw _ (List.mem_of_getElem? (i := 31) rfl))) (by decide) (backOf (W := 0) (rmtiedTo l Z a0 hw [] u215 (0 : Int32) u217 u219 (5 : Int32) [(.int (own_T5_0 (nar .boolean z0) (nar .boolean z1) (nar .boolean z2) (nar .boolean z3) (nar .boolean z4))), (.int (own_T5_1 (nar .boolean z0) (nar .boolean z1) (nar .boolean z2) (nar .boolean z3) (nar .boolean z4))), (.int (own_T5_2 (nar .boolean z0) (nar .boolean z1) (nar .boolean z2) (nar .boolean z3) (nar .boolean z4))), (.int (own_T5_3 (nar .boolean z0) (nar .boolean z1) (nar .boolean z2) (nar .boolean z3) (nar .boolean z4))), (.int (own_T5_4 (nar .boolean z0) (nar .boolean z1) (nar .boolean z2) (nar .boolean z3) (nar .boolean z4)))] (own_T5_0 (nar .boolean z0) (nar .boolean z1) (nar .boolean z2) (nar .boolean z3) (nar .boolean z4)) T214.heap n0 O214 f214_2 f214_4 ⟨by decide, by decide⟩ rfl) hZ (hw _ (List.mem_of_getElem? (i := 40) rfl)) (hw _ (List.mem_of_getElem? (i := 13) rfl)) (by decide) (by decide)) q224a q224b q224c (g := (mkF m 159 #[.val (.int p0), .val (.int p1), .val (.int p2), .val (.int (5 : Int32)), .val (.ref b183), .val (.ref u215), .val (.int (0 : Int32)), .val (.int (own_F5_0 (nar .boolean z0) (nar .boolean z1) (nar .boolean z2) (nar .boolean z3) (nar .boolean z4))), .unset] [(.int (0 : Int32)), (.ref u215)])) rfl (by rw [hml]; rfl) (Steps.refl _) (argsL := [(.int (0 : Int32))]) (rest := []) (lenOf pd_rm0_1 rfl) rfl (by show 2 * 0 + _ ≤ _; exact Nat.le_of_eq rfl) (hb hby at_159) (fun _ _ => ⟨rfl, e223, (by decide : 4 + 0 ≤ _), (by decide : 17 + 0 ≤ _)⟩)
      dsimp only [Pt.U, Pt.locs, Pt.cells, Pt.slots] at X224 l224 y224 z224 st224 hQ224
      subst l224 y224 z224
      obtain ⟨rfl, Nq224, e224⟩ := hQ224
      have N224 := Fr.app N223 Nq224
      have c225 : Arv Z T214.heap b183 k183 .boolean (5 : Int32) [(.int (nar .boolean z0)), (.int (nar .boolean z1)), (.int (nar .boolean z2)), (.int (nar .boolean z3)), (.int (nar .boolean z4))] (.int (0 : Int32)) := (V213.keep Kc214 nin0)
      obtain ⟨T226, L226, X226, e226, N226, st226⟩ := own_callP X224 hx hZ hown (wk41 hw) (wk42 hw) (wk43 hw) (wk44 hw) (by decide) (rmrefFrom l Z a0 hw [] b183 (5 : Int32) (0 : Int32) k183 [(nar .boolean z0), (nar .boolean z1), (nar .boolean z2), (nar .boolean z3), (nar .boolean z4)] T214.heap n0 O214 c225) e224 N224 (W := 1) (by decide) (by decide) (by decide) (by decide) (g := (mkF m 173 #[.val (.int p0), .val (.int p1), .val (.int p2), .val (.int (5 : Int32)), .val (.ref b183), .val (.ref u215), .val (.int (0 : Int32)), .val (.int (own_F5_0 (nar .boolean z0) (nar .boolean z1) (nar .boolean z2) (nar .boolean z3) (nar .boolean z4))), .val (.int (own_T5_0 (nar .boolean z0) (nar .boolean z1) (nar .boolean z2) (nar .boolean z3) (nar .boolean z4)))] [(.int (0 : Int32)), (.int (5 : Int32)), (.ref b183), (.int (own_F5_0 (nar .boolean z0) (nar .boolean z1) (nar .boolean z2) (nar .boolean z3) (nar .boolean z4)))])) rfl (by rw [hml]; rfl) (argsL := [(.ref b183), (.int (5 : Int32)), (.int (0 : Int32))]) (rest := [(.int (own_F5_0 (nar .boolean z0) (nar .boolean z1) (nar .boolean z2) (nar .boolean z3) (nar .boolean z4)))]) (lenOf pd_rm0_2 rfl) rfl (by show 2 * 0 + _ ≤ _; exact Nat.le_of_eq rfl) (hb hby at_173)
      obtain ⟨T227, L227, X227, e227, N227, st227⟩ := own_callP X226 hx hZ hown (wk48 hw) (wk49 hw) (wk43 hw) (wk50 hw) (by decide) (rmrefTo l Z a0 hw [] b183 (5 : Int32) (0 : Int32) k183 [(nar .boolean z0), (nar .boolean z1), (nar .boolean z2), (nar .boolean z3), (nar .boolean z4)] T214.heap n0 O214 c225) e226 N226 (W := 1) (by decide) (by decide) (by decide) (by decide) (g := (mkF m 186 #[.val (.int p0), .val (.int p1), .val (.int p2), .val (.int (5 : Int32)), .val (.ref b183), .val (.ref u215), .val (.int (0 : Int32)), .val (.int (own_F5_0 (nar .boolean z0) (nar .boolean z1) (nar .boolean z2) (nar .boolean z3) (nar .boolean z4))), .val (.int (own_T5_0 (nar .boolean z0) (nar .boolean z1) (nar .boolean z2) (nar .boolean z3) (nar .boolean z4)))] [(.int (0 : Int32)), (.int (5 : Int32)), (.ref b183), (.int (own_T5_0 (nar .boolean z0) (nar .boolean z1) (nar .boolean z2) (nar .boolean z3) (nar .boolean z4)))])) rfl (by rw [hml]; rfl) (argsL := [(.ref b183), (.int (5 : Int32)), (.int (0 : Int32))]) (rest := [(.int (own_T5_0 (nar .boolean z0) (nar .boolean z1) (nar .boolean z2) (nar .boolean z3) (nar .boolean z4)))]) (lenOf pd_rm0_2 rfl) rfl (by show 2 * 0 + _ ≤ _; exact Nat.le_of_eq rfl) (hb hby at_186)
      have s228 : Steps p.tables e below A₀ (T227.setTop (mkF m 197 #[.val (.int p0), .val (.int p1), .val (.int p2), .val (.int (5 : Int32)), .val (.ref b183), .val (.ref u215), .val (.int (0 : Int32)), .val (.int (own_F5_0 (nar .boolean z0) (nar .boolean z1) (nar .boolean z2) (nar .boolean z3) (nar .boolean z4))), .val (.int (own_T5_0 (nar .boolean z0) (nar .boolean z1) (nar .boolean z2) (nar .boolean z3) (nar .boolean z4)))] [(.int (1 : Int32))])) := by
        refine s222.trans ?_
        refine XS.istore X214.here hx rfl (hb hby at_142) rfl (l' := #[.val (.int p0), .val (.int p1), .val (.int p2), .val (.int (5 : Int32)), .val (.ref b183), .val (.ref u215), .val (.int (0 : Int32)), .unset, .unset]) rfl ?_
        show Steps p.tables e below (T214.setTop (mkF m 144 #[.val (.int p0), .val (.int p1), .val (.int p2), .val (.int (5 : Int32)), .val (.ref b183), .val (.ref u215), .val (.int (0 : Int32)), .unset, .unset] [])) _
        refine XS.aload X214.here hx rfl (hb hby at_144) rfl rfl ?_
        refine XS.iload X214.here hx rfl (hb hby at_146) rfl ?_
        refine st223.trans ?_
        refine XS.istore X223.here hx rfl (hb hby at_153) rfl (l' := #[.val (.int p0), .val (.int p1), .val (.int p2), .val (.int (5 : Int32)), .val (.ref b183), .val (.ref u215), .val (.int (0 : Int32)), .val (.int (own_F5_0 (nar .boolean z0) (nar .boolean z1) (nar .boolean z2) (nar .boolean z3) (nar .boolean z4))), .unset]) rfl ?_
        refine XS.aload X223.here hx rfl (hb hby at_155) rfl rfl ?_
        refine XS.iload X223.here hx rfl (hb hby at_157) rfl ?_
        show Steps p.tables e below (T223.setTop (mkF m 159 #[.val (.int p0), .val (.int p1), .val (.int p2), .val (.int (5 : Int32)), .val (.ref b183), .val (.ref u215), .val (.int (0 : Int32)), .val (.int (own_F5_0 (nar .boolean z0) (nar .boolean z1) (nar .boolean z2) (nar .boolean z3) (nar .boolean z4))), .unset] [(.int (0 : Int32)), (.ref u215)])) _
        refine st224.trans ?_
        refine XS.istore X224.here hx rfl (hb hby at_164) rfl (l' := #[.val (.int p0), .val (.int p1), .val (.int p2), .val (.int (5 : Int32)), .val (.ref b183), .val (.ref u215), .val (.int (0 : Int32)), .val (.int (own_F5_0 (nar .boolean z0) (nar .boolean z1) (nar .boolean z2) (nar .boolean z3) (nar .boolean z4))), .val (.int (own_T5_0 (nar .boolean z0) (nar .boolean z1) (nar .boolean z2) (nar .boolean z3) (nar .boolean z4)))]) rfl ?_
        refine XS.iload X224.here hx rfl (hb hby at_166) rfl ?_
        refine XS.aload X224.here hx rfl (hb hby at_168) rfl rfl ?_
        refine XS.iloadN X224.here hx rfl (hb hby at_170) rfl ?_
        refine XS.iload X224.here hx rfl (hb hby at_171) rfl ?_
        show Steps p.tables e below (T224.setTop (mkF m 173 #[.val (.int p0), .val (.int p1), .val (.int p2), .val (.int (5 : Int32)), .val (.ref b183), .val (.ref u215), .val (.int (0 : Int32)), .val (.int (own_F5_0 (nar .boolean z0) (nar .boolean z1) (nar .boolean z2) (nar .boolean z3) (nar .boolean z4))), .val (.int (own_T5_0 (nar .boolean z0) (nar .boolean z1) (nar .boolean z2) (nar .boolean z3) (nar .boolean z4)))] [(.int (0 : Int32)), (.int (5 : Int32)), (.ref b183), (.int (own_F5_0 (nar .boolean z0) (nar .boolean z1) (nar .boolean z2) (nar .boolean z3) (nar .boolean z4)))])) _
        refine st226 _ ?_
        refine XS.icmpNo X226.here hx rfl (hb hby at_176) rfl (teq (own_finF5_0 (nar .boolean z0) (nar .boolean z1) (nar .boolean z2) (nar .boolean z3) (nar .boolean z4))).2 ?_
        refine XS.iload X226.here hx rfl (hb hby at_179) rfl ?_
        refine XS.aload X226.here hx rfl (hb hby at_181) rfl rfl ?_
        refine XS.iloadN X226.here hx rfl (hb hby at_183) rfl ?_
        refine XS.iload X226.here hx rfl (hb hby at_184) rfl ?_
        show Steps p.tables e below (T226.setTop (mkF m 186 #[.val (.int p0), .val (.int p1), .val (.int p2), .val (.int (5 : Int32)), .val (.ref b183), .val (.ref u215), .val (.int (0 : Int32)), .val (.int (own_F5_0 (nar .boolean z0) (nar .boolean z1) (nar .boolean z2) (nar .boolean z3) (nar .boolean z4))), .val (.int (own_T5_0 (nar .boolean z0) (nar .boolean z1) (nar .boolean z2) (nar .boolean z3) (nar .boolean z4)))] [(.int (0 : Int32)), (.int (5 : Int32)), (.ref b183), (.int (own_T5_0 (nar .boolean z0) (nar .boolean z1) (nar .boolean z2) (nar .boolean z3) (nar .boolean z4)))])) _
        refine st227 _ ?_
        refine XS.icmpNo X227.here hx rfl (hb hby at_189) rfl (teq (own_finT5_0 (nar .boolean z0) (nar .boolean z1) (nar .boolean z2) (nar .boolean z3) (nar .boolean z4))).2 ?_
        refine XS.iconst X227.here hx rfl (hb hby at_192) ?_
        refine XS.goto X227.here hx rfl (pc0 := 193) (pc' := 197) rfl (hb hby at_193) (by decide) (by decide) ?_
        exact Steps.refl _
      subst hA₀
      obtain ⟨fs, hr, hrun, hended, hW, hsame⟩ := X227.leave (v := some (.int (1 : Int32))) (fun h => by rw [Bd.returns] at h; cases h)
      refine ⟨_, _, s228.trans ?_, hrun, hended, _, _, rfl, ?_, ⟨_, rfl⟩, hW, hsame.mono (by decide) (by decide)⟩
      · show Steps p.tables e below (T227.setTop (mkF m 197 #[.val (.int p0), .val (.int p1), .val (.int p2), .val (.int (5 : Int32)), .val (.ref b183), .val (.ref u215), .val (.int (0 : Int32)), .val (.int (own_F5_0 (nar .boolean z0) (nar .boolean z1) (nar .boolean z2) (nar .boolean z3) (nar .boolean z4))), .val (.int (own_T5_0 (nar .boolean z0) (nar .boolean z1) (nar .boolean z2) (nar .boolean z3) (nar .boolean z4)))] [(.int (1 : Int32))])) _
        exact retN X227 hx (t := .boolean) Bd.returns (by simp) (hb hby at_197) hr
      · show Q0 Z p0 p1 p2 h0 n0 _ T227.heap _
        rw [e227]
        exact ⟨rfl, N227⟩
    · have s229 := s220
      rw [hk221] at s229
      obtain ⟨cq230, kq230, q230a, q230b, q230c⟩ := isOf hZ (rfl : T214.heap = T214.heap) f214_0
      obtain ⟨_, _, ⟨T230, L230, k230, n230⟩, -, X230, ⟨Lc230, hQ230, l230, y230, z230⟩, st230⟩ := X214.interfaceBack hx (xi := (⟨"com/example/libprox/libprox/Combinations$Rule", "tiedFrom", "(I)I"⟩ : MethodName)) (y := (⟨"com/example/libprox/libprox/Cpe$1", "tiedFrom", "(I)I"⟩ : MethodName)) hown (mvT hZ (hw _ (List.mem_of_getElem? (i := 24) rfl))) (mvT hZ (hw _ (List.mem_of_getElem? (i := 25) rfl))) (mvT hZ (hw _ (List.mem_of_getElem? (i := 26) rfl))) (mvT hZ (hw _ (List.mem_of_getElem? (i := 27) rfl))) (mvT hZ (hw _ (List.mem_of_getElem? (i := 28) rfl))) (mvT hZ (hw _ (List.mem_of_getElem? (i := 29) rfl))) (mvT hZ (hw _ (List.mem_of_getElem? (i := 30) rfl))) (mvT hZ (hw _ (List.mem_of_getElem? (i := 31) rfl))) (by decide) (backOf (W := 0) (rmtiedFrom l Z a0 hw [] u215 (1 : Int32) u216 u218 (5 : Int32) [(.int (own_F5_0 (nar .boolean z0) (nar .boolean z1) (nar .boolean z2) (nar .boolean z3) (nar .boolean z4))), (.int (own_F5_1 (nar .boolean z0) (nar .boolean z1) (nar .boolean z2) (nar .boolean z3) (nar .boolean z4))), (.int (own_F5_2 (nar .boolean z0) (nar .boolean z1) (nar .boolean z2) (nar .boolean z3) (nar .boolean z4))), (.int (own_F5_3 (nar .boolean z0) (nar .boolean z1) (nar .boolean z2) (nar .boolean z3) (nar .boolean z4))), (.int (own_F5_4 (nar .boolean z0) (nar .boolean z1) (nar .boolean z2) (nar .boolean z3) (nar .boolean z4)))] (own_F5_1 (nar .boolean z0) (nar .boolean z1) (nar .boolean z2) (nar .boolean z3) (nar .boolean z4)) T214.heap n0 O214 f214_1 f214_3 ⟨by decide, by decide⟩ rfl) hZ (hw _ (List.mem_of_getElem? (i := 32) rfl)) (hw _ (List.mem_of_getElem? (i := 13) rfl)) (by decide) (by decide)) q230a q230b q230c (g := (mkF m 148 #[.val (.int p0), .val (.int p1), .val (.int p2), .val (.int (5 : Int32)), .val (.ref b183), .val (.ref u215), .val (.int (1 : Int32)), .unset, .unset] [(.int (1 : Int32)), (.ref u215)])) rfl (by rw [hml]; rfl) (Steps.refl _) (argsL := [(.int (1 : Int32))]) (rest := []) (lenOf pd_rm0_1 rfl) rfl (by show 2 * 0 + _ ≤ _; exact Nat.le_of_eq rfl) (hb hby at_148) (fun _ _ => ⟨rfl, (rfl : T214.heap = T214.heap), (by decide : 4 + 0 ≤ _), (by decide : 17 + 0 ≤ _)⟩)
      dsimp only [Pt.U, Pt.locs, Pt.cells, Pt.slots] at X230 l230 y230 z230 st230 hQ230
      subst l230 y230 z230
      obtain ⟨rfl, Nq230, e230⟩ := hQ230
      have N230 := Fr.app N214 Nq230
      obtain ⟨cq231, kq231, q231a, q231b, q231c⟩ := isOf hZ e230 f214_0
      obtain ⟨_, _, ⟨T231, L231, k231, n231⟩, -, X231, ⟨Lc231, hQ231, l231, y231, z231⟩, st231⟩ := X230.interfaceBack hx (xi := (⟨"com/example/libprox/libprox/Combinations$Rule", "tiedTo", "(I)I"⟩ : MethodName)) (y := (⟨"com/example/libprox/libprox/Cpe$1", "tiedTo", "(I)I"⟩ : MethodName)) hown (mvT hZ (hw _ (List.mem_of_getElem? (i := 33) rfl))) (mvT hZ (hw _ (List.mem_of_getElem? (i := 34) rfl))) (mvT hZ (hw _ (List.mem_of_getElem? (i := 35) rfl))) (mvT hZ (hw _ (List.mem_of_getElem? (i := 36) rfl))) (mvT hZ (hw _ (List.mem_of_getElem? (i := 37) rfl))) (mvT hZ (hw _ (List.mem_of_getElem? (i := 38) rfl))) (mvT hZ (hw _ (List.mem_of_getElem? (i := 39) rfl))) (mvT hZ (hw _ (List.mem_of_getElem? (i := 31) rfl))) (by decide) (backOf (W := 0) (rmtiedTo l Z a0 hw [] u215 (1 : Int32) u217 u219 (5 : Int32) [(.int (own_T5_0 (nar .boolean z0) (nar .boolean z1) (nar .boolean z2) (nar .boolean z3) (nar .boolean z4))), (.int (own_T5_1 (nar .boolean z0) (nar .boolean z1) (nar .boolean z2) (nar .boolean z3) (nar .boolean z4))), (.int (own_T5_2 (nar .boolean z0) (nar .boolean z1) (nar .boolean z2) (nar .boolean z3) (nar .boolean z4))), (.int (own_T5_3 (nar .boolean z0) (nar .boolean z1) (nar .boolean z2) (nar .boolean z3) (nar .boolean z4))), (.int (own_T5_4 (nar .boolean z0) (nar .boolean z1) (nar .boolean z2) (nar .boolean z3) (nar .boolean z4)))] (own_T5_1 (nar .boolean z0) (nar .boolean z1) (nar .boolean z2) (nar .boolean z3) (nar .boolean z4)) T214.heap n0 O214 f214_2 f214_4 ⟨by decide, by decide⟩ rfl) hZ (hw _ (List.mem_of_getElem? (i := 40) rfl)) (hw _ (List.mem_of_getElem? (i := 13) rfl)) (by decide) (by decide)) q231a q231b q231c (g := (mkF m 159 #[.val (.int p0), .val (.int p1), .val (.int p2), .val (.int (5 : Int32)), .val (.ref b183), .val (.ref u215), .val (.int (1 : Int32)), .val (.int (own_F5_1 (nar .boolean z0) (nar .boolean z1) (nar .boolean z2) (nar .boolean z3) (nar .boolean z4))), .unset] [(.int (1 : Int32)), (.ref u215)])) rfl (by rw [hml]; rfl) (Steps.refl _) (argsL := [(.int (1 : Int32))]) (rest := []) (lenOf pd_rm0_1 rfl) rfl (by show 2 * 0 + _ ≤ _; exact Nat.le_of_eq rfl) (hb hby at_159) (fun _ _ => ⟨rfl, e230, (by decide : 4 + 0 ≤ _), (by decide : 17 + 0 ≤ _)⟩)
      dsimp only [Pt.U, Pt.locs, Pt.cells, Pt.slots] at X231 l231 y231 z231 st231 hQ231
      subst l231 y231 z231
      obtain ⟨rfl, Nq231, e231⟩ := hQ231
      have N231 := Fr.app N230 Nq231
      have c232 : Arv Z T214.heap b183 k183 .boolean (5 : Int32) [(.int (nar .boolean z0)), (.int (nar .boolean z1)), (.int (nar .boolean z2)), (.int (nar .boolean z3)), (.int (nar .boolean z4))] (.int (0 : Int32)) := (V213.keep Kc214 nin0)
      obtain ⟨T233, L233, X233, e233, N233, st233⟩ := own_callP X231 hx hZ hown (wk41 hw) (wk42 hw) (wk43 hw) (wk44 hw) (by decide) (rmrefFrom l Z a0 hw [] b183 (5 : Int32) (1 : Int32) k183 [(nar .boolean z0), (nar .boolean z1), (nar .boolean z2), (nar .boolean z3), (nar .boolean z4)] T214.heap n0 O214 c232) e231 N231 (W := 1) (by decide) (by decide) (by decide) (by decide) (g := (mkF m 173 #[.val (.int p0), .val (.int p1), .val (.int p2), .val (.int (5 : Int32)), .val (.ref b183), .val (.ref u215), .val (.int (1 : Int32)), .val (.int (own_F5_1 (nar .boolean z0) (nar .boolean z1) (nar .boolean z2) (nar .boolean z3) (nar .boolean z4))), .val (.int (own_T5_1 (nar .boolean z0) (nar .boolean z1) (nar .boolean z2) (nar .boolean z3) (nar .boolean z4)))] [(.int (1 : Int32)), (.int (5 : Int32)), (.ref b183), (.int (own_F5_1 (nar .boolean z0) (nar .boolean z1) (nar .boolean z2) (nar .boolean z3) (nar .boolean z4)))])) rfl (by rw [hml]; rfl) (argsL := [(.ref b183), (.int (5 : Int32)), (.int (1 : Int32))]) (rest := [(.int (own_F5_1 (nar .boolean z0) (nar .boolean z1) (nar .boolean z2) (nar .boolean z3) (nar .boolean z4)))]) (lenOf pd_rm0_2 rfl) rfl (by show 2 * 0 + _ ≤ _; exact Nat.le_of_eq rfl) (hb hby at_173)
      obtain ⟨T234, L234, X234, e234, N234, st234⟩ := own_callP X233 hx hZ hown (wk48 hw) (wk49 hw) (wk43 hw) (wk50 hw) (by decide) (rmrefTo l Z a0 hw [] b183 (5 : Int32) (1 : Int32) k183 [(nar .boolean z0), (nar .boolean z1), (nar .boolean z2), (nar .boolean z3), (nar .boolean z4)] T214.heap n0 O214 c232) e233 N233 (W := 1) (by decide) (by decide) (by decide) (by decide) (g := (mkF m 186 #[.val (.int p0), .val (.int p1), .val (.int p2), .val (.int (5 : Int32)), .val (.ref b183), .val (.ref u215), .val (.int (1 : Int32)), .val (.int (own_F5_1 (nar .boolean z0) (nar .boolean z1) (nar .boolean z2) (nar .boolean z3) (nar .boolean z4))), .val (.int (own_T5_1 (nar .boolean z0) (nar .boolean z1) (nar .boolean z2) (nar .boolean z3) (nar .boolean z4)))] [(.int (1 : Int32)), (.int (5 : Int32)), (.ref b183), (.int (own_T5_1 (nar .boolean z0) (nar .boolean z1) (nar .boolean z2) (nar .boolean z3) (nar .boolean z4)))])) rfl (by rw [hml]; rfl) (argsL := [(.ref b183), (.int (5 : Int32)), (.int (1 : Int32))]) (rest := [(.int (own_T5_1 (nar .boolean z0) (nar .boolean z1) (nar .boolean z2) (nar .boolean z3) (nar .boolean z4)))]) (lenOf pd_rm0_2 rfl) rfl (by show 2 * 0 + _ ≤ _; exact Nat.le_of_eq rfl) (hb hby at_186)
      have s235 : Steps p.tables e below A₀ (T234.setTop (mkF m 197 #[.val (.int p0), .val (.int p1), .val (.int p2), .val (.int (5 : Int32)), .val (.ref b183), .val (.ref u215), .val (.int (1 : Int32)), .val (.int (own_F5_1 (nar .boolean z0) (nar .boolean z1) (nar .boolean z2) (nar .boolean z3) (nar .boolean z4))), .val (.int (own_T5_1 (nar .boolean z0) (nar .boolean z1) (nar .boolean z2) (nar .boolean z3) (nar .boolean z4)))] [(.int (1 : Int32))])) := by
        refine s229.trans ?_
        refine XS.istore X214.here hx rfl (hb hby at_142) rfl (l' := #[.val (.int p0), .val (.int p1), .val (.int p2), .val (.int (5 : Int32)), .val (.ref b183), .val (.ref u215), .val (.int (1 : Int32)), .unset, .unset]) rfl ?_
        show Steps p.tables e below (T214.setTop (mkF m 144 #[.val (.int p0), .val (.int p1), .val (.int p2), .val (.int (5 : Int32)), .val (.ref b183), .val (.ref u215), .val (.int (1 : Int32)), .unset, .unset] [])) _
        refine XS.aload X214.here hx rfl (hb hby at_144) rfl rfl ?_
        refine XS.iload X214.here hx rfl (hb hby at_146) rfl ?_
        refine st230.trans ?_
        refine XS.istore X230.here hx rfl (hb hby at_153) rfl (l' := #[.val (.int p0), .val (.int p1), .val (.int p2), .val (.int (5 : Int32)), .val (.ref b183), .val (.ref u215), .val (.int (1 : Int32)), .val (.int (own_F5_1 (nar .boolean z0) (nar .boolean z1) (nar .boolean z2) (nar .boolean z3) (nar .boolean z4))), .unset]) rfl ?_
        refine XS.aload X230.here hx rfl (hb hby at_155) rfl rfl ?_
        refine XS.iload X230.here hx rfl (hb hby at_157) rfl ?_
        show Steps p.tables e below (T230.setTop (mkF m 159 #[.val (.int p0), .val (.int p1), .val (.int p2), .val (.int (5 : Int32)), .val (.ref b183), .val (.ref u215), .val (.int (1 : Int32)), .val (.int (own_F5_1 (nar .boolean z0) (nar .boolean z1) (nar .boolean z2) (nar .boolean z3) (nar .boolean z4))), .unset] [(.int (1 : Int32)), (.ref u215)])) _
        refine st231.trans ?_
        refine XS.istore X231.here hx rfl (hb hby at_164) rfl (l' := #[.val (.int p0), .val (.int p1), .val (.int p2), .val (.int (5 : Int32)), .val (.ref b183), .val (.ref u215), .val (.int (1 : Int32)), .val (.int (own_F5_1 (nar .boolean z0) (nar .boolean z1) (nar .boolean z2) (nar .boolean z3) (nar .boolean z4))), .val (.int (own_T5_1 (nar .boolean z0) (nar .boolean z1) (nar .boolean z2) (nar .boolean z3) (nar .boolean z4)))]) rfl ?_
        refine XS.iload X231.here hx rfl (hb hby at_166) rfl ?_
        refine XS.aload X231.here hx rfl (hb hby at_168) rfl rfl ?_
        refine XS.iloadN X231.here hx rfl (hb hby at_170) rfl ?_
        refine XS.iload X231.here hx rfl (hb hby at_171) rfl ?_
        show Steps p.tables e below (T231.setTop (mkF m 173 #[.val (.int p0), .val (.int p1), .val (.int p2), .val (.int (5 : Int32)), .val (.ref b183), .val (.ref u215), .val (.int (1 : Int32)), .val (.int (own_F5_1 (nar .boolean z0) (nar .boolean z1) (nar .boolean z2) (nar .boolean z3) (nar .boolean z4))), .val (.int (own_T5_1 (nar .boolean z0) (nar .boolean z1) (nar .boolean z2) (nar .boolean z3) (nar .boolean z4)))] [(.int (1 : Int32)), (.int (5 : Int32)), (.ref b183), (.int (own_F5_1 (nar .boolean z0) (nar .boolean z1) (nar .boolean z2) (nar .boolean z3) (nar .boolean z4)))])) _
        refine st233 _ ?_
        refine XS.icmpNo X233.here hx rfl (hb hby at_176) rfl (teq (own_finF5_1 (nar .boolean z0) (nar .boolean z1) (nar .boolean z2) (nar .boolean z3) (nar .boolean z4))).2 ?_
        refine XS.iload X233.here hx rfl (hb hby at_179) rfl ?_
        refine XS.aload X233.here hx rfl (hb hby at_181) rfl rfl ?_
        refine XS.iloadN X233.here hx rfl (hb hby at_183) rfl ?_
        refine XS.iload X233.here hx rfl (hb hby at_184) rfl ?_
        show Steps p.tables e below (T233.setTop (mkF m 186 #[.val (.int p0), .val (.int p1), .val (.int p2), .val (.int (5 : Int32)), .val (.ref b183), .val (.ref u215), .val (.int (1 : Int32)), .val (.int (own_F5_1 (nar .boolean z0) (nar .boolean z1) (nar .boolean z2) (nar .boolean z3) (nar .boolean z4))), .val (.int (own_T5_1 (nar .boolean z0) (nar .boolean z1) (nar .boolean z2) (nar .boolean z3) (nar .boolean z4)))] [(.int (1 : Int32)), (.int (5 : Int32)), (.ref b183), (.int (own_T5_1 (nar .boolean z0) (nar .boolean z1) (nar .boolean z2) (nar .boolean z3) (nar .boolean z4)))])) _
        refine st234 _ ?_
        refine XS.icmpNo X234.here hx rfl (hb hby at_189) rfl (teq (own_finT5_1 (nar .boolean z0) (nar .boolean z1) (nar .boolean z2) (nar .boolean z3) (nar .boolean z4))).2 ?_
        refine XS.iconst X234.here hx rfl (hb hby at_192) ?_
        refine XS.goto X234.here hx rfl (pc0 := 193) (pc' := 197) rfl (hb hby at_193) (by decide) (by decide) ?_
        exact Steps.refl _
      subst hA₀
      obtain ⟨fs, hr, hrun, hended, hW, hsame⟩ := X234.leave (v := some (.int (1 : Int32))) (fun h => by rw [Bd.returns] at h; cases h)
      refine ⟨_, _, s235.trans ?_, hrun, hended, _, _, rfl, ?_, ⟨_, rfl⟩, hW, hsame.mono (by decide) (by decide)⟩
      · show Steps p.tables e below (T234.setTop (mkF m 197 #[.val (.int p0), .val (.int p1), .val (.int p2), .val (.int (5 : Int32)), .val (.ref b183), .val (.ref u215), .val (.int (1 : Int32)), .val (.int (own_F5_1 (nar .boolean z0) (nar .boolean z1) (nar .boolean z2) (nar .boolean z3) (nar .boolean z4))), .val (.int (own_T5_1 (nar .boolean z0) (nar .boolean z1) (nar .boolean z2) (nar .boolean z3) (nar .boolean z4)))] [(.int (1 : Int32))])) _
        exact retN X234 hx (t := .boolean) Bd.returns (by simp) (hb hby at_197) hr
      · show Q0 Z p0 p1 p2 h0 n0 _ T234.heap _
        rw [e234]
        exact ⟨rfl, N234⟩
    · have s236 := s220
      rw [hk221] at s236
      obtain ⟨cq237, kq237, q237a, q237b, q237c⟩ := isOf hZ (rfl : T214.heap = T214.heap) f214_0
      obtain ⟨_, _, ⟨T237, L237, k237, n237⟩, -, X237, ⟨Lc237, hQ237, l237, y237, z237⟩, st237⟩ := X214.interfaceBack hx (xi := (⟨"com/example/libprox/libprox/Combinations$Rule", "tiedFrom", "(I)I"⟩ : MethodName)) (y := (⟨"com/example/libprox/libprox/Cpe$1", "tiedFrom", "(I)I"⟩ : MethodName)) hown (mvT hZ (hw _ (List.mem_of_getElem? (i := 24) rfl))) (mvT hZ (hw _ (List.mem_of_getElem? (i := 25) rfl))) (mvT hZ (hw _ (List.mem_of_getElem? (i := 26) rfl))) (mvT hZ (hw _ (List.mem_of_getElem? (i := 27) rfl))) (mvT hZ (hw _ (List.mem_of_getElem? (i := 28) rfl))) (mvT hZ (hw _ (List.mem_of_getElem? (i := 29) rfl))) (mvT hZ (hw _ (List.mem_of_getElem? (i := 30) rfl))) (mvT hZ (hw _ (List.mem_of_getElem? (i := 31) rfl))) (by decide) (backOf (W := 0) (rmtiedFrom l Z a0 hw [] u215 (2 : Int32) u216 u218 (5 : Int32) [(.int (own_F5_0 (nar .boolean z0) (nar .boolean z1) (nar .boolean z2) (nar .boolean z3) (nar .boolean z4))), (.int (own_F5_1 (nar .boolean z0) (nar .boolean z1) (nar .boolean z2) (nar .boolean z3) (nar .boolean z4))), (.int (own_F5_2 (nar .boolean z0) (nar .boolean z1) (nar .boolean z2) (nar .boolean z3) (nar .boolean z4))), (.int (own_F5_3 (nar .boolean z0) (nar .boolean z1) (nar .boolean z2) (nar .boolean z3) (nar .boolean z4))), (.int (own_F5_4 (nar .boolean z0) (nar .boolean z1) (nar .boolean z2) (nar .boolean z3) (nar .boolean z4)))] (own_F5_2 (nar .boolean z0) (nar .boolean z1) (nar .boolean z2) (nar .boolean z3) (nar .boolean z4)) T214.heap n0 O214 f214_1 f214_3 ⟨by decide, by decide⟩ rfl) hZ (hw _ (List.mem_of_getElem? (i := 32) rfl)) (hw _ (List.mem_of_getElem? (i := 13) rfl)) (by decide) (by decide)) q237a q237b q237c (g := (mkF m 148 #[.val (.int p0), .val (.int p1), .val (.int p2), .val (.int (5 : Int32)), .val (.ref b183), .val (.ref u215), .val (.int (2 : Int32)), .unset, .unset] [(.int (2 : Int32)), (.ref u215)])) rfl (by rw [hml]; rfl) (Steps.refl _) (argsL := [(.int (2 : Int32))]) (rest := []) (lenOf pd_rm0_1 rfl) rfl (by show 2 * 0 + _ ≤ _; exact Nat.le_of_eq rfl) (hb hby at_148) (fun _ _ => ⟨rfl, (rfl : T214.heap = T214.heap), (by decide : 4 + 0 ≤ _), (by decide : 17 + 0 ≤ _)⟩)
      dsimp only [Pt.U, Pt.locs, Pt.cells, Pt.slots] at X237 l237 y237 z237 st237 hQ237
      subst l237 y237 z237
      obtain ⟨rfl, Nq237, e237⟩ := hQ237
      have N237 := Fr.app N214 Nq237
      obtain ⟨cq238, kq238, q238a, q238b, q238c⟩ := isOf hZ e237 f214_0
      obtain ⟨_, _, ⟨T238, L238, k238, n238⟩, -, X238, ⟨Lc238, hQ238, l238, y238, z238⟩, st238⟩ := X237.interfaceBack hx (xi := (⟨"com/example/libprox/libprox/Combinations$Rule", "tiedTo", "(I)I"⟩ : MethodName)) (y := (⟨"com/example/libprox/libprox/Cpe$1", "tiedTo", "(I)I"⟩ : MethodName)) hown (mvT hZ (hw _ (List.mem_of_getElem? (i := 33) rfl))) (mvT hZ (hw _ (List.mem_of_getElem? (i := 34) rfl))) (mvT hZ (hw _ (List.mem_of_getElem? (i := 35) rfl))) (mvT hZ (hw _ (List.mem_of_getElem? (i := 36) rfl))) (mvT hZ (hw _ (List.mem_of_getElem? (i := 37) rfl))) (mvT hZ (hw _ (List.mem_of_getElem? (i := 38) rfl))) (mvT hZ (hw _ (List.mem_of_getElem? (i := 39) rfl))) (mvT hZ (hw _ (List.mem_of_getElem? (i := 31) rfl))) (by decide) (backOf (W := 0) (rmtiedTo l Z a0 hw [] u215 (2 : Int32) u217 u219 (5 : Int32) [(.int (own_T5_0 (nar .boolean z0) (nar .boolean z1) (nar .boolean z2) (nar .boolean z3) (nar .boolean z4))), (.int (own_T5_1 (nar .boolean z0) (nar .boolean z1) (nar .boolean z2) (nar .boolean z3) (nar .boolean z4))), (.int (own_T5_2 (nar .boolean z0) (nar .boolean z1) (nar .boolean z2) (nar .boolean z3) (nar .boolean z4))), (.int (own_T5_3 (nar .boolean z0) (nar .boolean z1) (nar .boolean z2) (nar .boolean z3) (nar .boolean z4))), (.int (own_T5_4 (nar .boolean z0) (nar .boolean z1) (nar .boolean z2) (nar .boolean z3) (nar .boolean z4)))] (own_T5_2 (nar .boolean z0) (nar .boolean z1) (nar .boolean z2) (nar .boolean z3) (nar .boolean z4)) T214.heap n0 O214 f214_2 f214_4 ⟨by decide, by decide⟩ rfl) hZ (hw _ (List.mem_of_getElem? (i := 40) rfl)) (hw _ (List.mem_of_getElem? (i := 13) rfl)) (by decide) (by decide)) q238a q238b q238c (g := (mkF m 159 #[.val (.int p0), .val (.int p1), .val (.int p2), .val (.int (5 : Int32)), .val (.ref b183), .val (.ref u215), .val (.int (2 : Int32)), .val (.int (own_F5_2 (nar .boolean z0) (nar .boolean z1) (nar .boolean z2) (nar .boolean z3) (nar .boolean z4))), .unset] [(.int (2 : Int32)), (.ref u215)])) rfl (by rw [hml]; rfl) (Steps.refl _) (argsL := [(.int (2 : Int32))]) (rest := []) (lenOf pd_rm0_1 rfl) rfl (by show 2 * 0 + _ ≤ _; exact Nat.le_of_eq rfl) (hb hby at_159) (fun _ _ => ⟨rfl, e237, (by decide : 4 + 0 ≤ _), (by decide : 17 + 0 ≤ _)⟩)
      dsimp only [Pt.U, Pt.locs, Pt.cells, Pt.slots] at X238 l238 y238 z238 st238 hQ238
      subst l238 y238 z238
      obtain ⟨rfl, Nq238, e238⟩ := hQ238
      have N238 := Fr.app N237 Nq238
      have c239 : Arv Z T214.heap b183 k183 .boolean (5 : Int32) [(.int (nar .boolean z0)), (.int (nar .boolean z1)), (.int (nar .boolean z2)), (.int (nar .boolean z3)), (.int (nar .boolean z4))] (.int (0 : Int32)) := (V213.keep Kc214 nin0)
      obtain ⟨T240, L240, X240, e240, N240, st240⟩ := own_callP X238 hx hZ hown (wk41 hw) (wk42 hw) (wk43 hw) (wk44 hw) (by decide) (rmrefFrom l Z a0 hw [] b183 (5 : Int32) (2 : Int32) k183 [(nar .boolean z0), (nar .boolean z1), (nar .boolean z2), (nar .boolean z3), (nar .boolean z4)] T214.heap n0 O214 c239) e238 N238 (W := 1) (by decide) (by decide) (by decide) (by decide) (g := (mkF m 173 #[.val (.int p0), .val (.int p1), .val (.int p2), .val (.int (5 : Int32)), .val (.ref b183), .val (.ref u215), .val (.int (2 : Int32)), .val (.int (own_F5_2 (nar .boolean z0) (nar .boolean z1) (nar .boolean z2) (nar .boolean z3) (nar .boolean z4))), .val (.int (own_T5_2 (nar .boolean z0) (nar .boolean z1) (nar .boolean z2) (nar .boolean z3) (nar .boolean z4)))] [(.int (2 : Int32)), (.int (5 : Int32)), (.ref b183), (.int (own_F5_2 (nar .boolean z0) (nar .boolean z1) (nar .boolean z2) (nar .boolean z3) (nar .boolean z4)))])) rfl (by rw [hml]; rfl) (argsL := [(.ref b183), (.int (5 : Int32)), (.int (2 : Int32))]) (rest := [(.int (own_F5_2 (nar .boolean z0) (nar .boolean z1) (nar .boolean z2) (nar .boolean z3) (nar .boolean z4)))]) (lenOf pd_rm0_2 rfl) rfl (by show 2 * 0 + _ ≤ _; exact Nat.le_of_eq rfl) (hb hby at_173)
      obtain ⟨T241, L241, X241, e241, N241, st241⟩ := own_callP X240 hx hZ hown (wk48 hw) (wk49 hw) (wk43 hw) (wk50 hw) (by decide) (rmrefTo l Z a0 hw [] b183 (5 : Int32) (2 : Int32) k183 [(nar .boolean z0), (nar .boolean z1), (nar .boolean z2), (nar .boolean z3), (nar .boolean z4)] T214.heap n0 O214 c239) e240 N240 (W := 1) (by decide) (by decide) (by decide) (by decide) (g := (mkF m 186 #[.val (.int p0), .val (.int p1), .val (.int p2), .val (.int (5 : Int32)), .val (.ref b183), .val (.ref u215), .val (.int (2 : Int32)), .val (.int (own_F5_2 (nar .boolean z0) (nar .boolean z1) (nar .boolean z2) (nar .boolean z3) (nar .boolean z4))), .val (.int (own_T5_2 (nar .boolean z0) (nar .boolean z1) (nar .boolean z2) (nar .boolean z3) (nar .boolean z4)))] [(.int (2 : Int32)), (.int (5 : Int32)), (.ref b183), (.int (own_T5_2 (nar .boolean z0) (nar .boolean z1) (nar .boolean z2) (nar .boolean z3) (nar .boolean z4)))])) rfl (by rw [hml]; rfl) (argsL := [(.ref b183), (.int (5 : Int32)), (.int (2 : Int32))]) (rest := [(.int (own_T5_2 (nar .boolean z0) (nar .boolean z1) (nar .boolean z2) (nar .boolean z3) (nar .boolean z4)))]) (lenOf pd_rm0_2 rfl) rfl (by show 2 * 0 + _ ≤ _; exact Nat.le_of_eq rfl) (hb hby at_186)
      have s242 : Steps p.tables e below A₀ (T241.setTop (mkF m 197 #[.val (.int p0), .val (.int p1), .val (.int p2), .val (.int (5 : Int32)), .val (.ref b183), .val (.ref u215), .val (.int (2 : Int32)), .val (.int (own_F5_2 (nar .boolean z0) (nar .boolean z1) (nar .boolean z2) (nar .boolean z3) (nar .boolean z4))), .val (.int (own_T5_2 (nar .boolean z0) (nar .boolean z1) (nar .boolean z2) (nar .boolean z3) (nar .boolean z4)))] [(.int (1 : Int32))])) := by
        refine s236.trans ?_
        refine XS.istore X214.here hx rfl (hb hby at_142) rfl (l' := #[.val (.int p0), .val (.int p1), .val (.int p2), .val (.int (5 : Int32)), .val (.ref b183), .val (.ref u215), .val (.int (2 : Int32)), .unset, .unset]) rfl ?_
        show Steps p.tables e below (T214.setTop (mkF m 144 #[.val (.int p0), .val (.int p1), .val (.int p2), .val (.int (5 : Int32)), .val (.ref b183), .val (.ref u215), .val (.int (2 : Int32)), .unset, .unset] [])) _
        refine XS.aload X214.here hx rfl (hb hby at_144) rfl rfl ?_
        refine XS.iload X214.here hx rfl (hb hby at_146) rfl ?_
        refine st237.trans ?_
        refine XS.istore X237.here hx rfl (hb hby at_153) rfl (l' := #[.val (.int p0), .val (.int p1), .val (.int p2), .val (.int (5 : Int32)), .val (.ref b183), .val (.ref u215), .val (.int (2 : Int32)), .val (.int (own_F5_2 (nar .boolean z0) (nar .boolean z1) (nar .boolean z2) (nar .boolean z3) (nar .boolean z4))), .unset]) rfl ?_
        refine XS.aload X237.here hx rfl (hb hby at_155) rfl rfl ?_
        refine XS.iload X237.here hx rfl (hb hby at_157) rfl ?_
        show Steps p.tables e below (T237.setTop (mkF m 159 #[.val (.int p0), .val (.int p1), .val (.int p2), .val (.int (5 : Int32)), .val (.ref b183), .val (.ref u215), .val (.int (2 : Int32)), .val (.int (own_F5_2 (nar .boolean z0) (nar .boolean z1) (nar .boolean z2) (nar .boolean z3) (nar .boolean z4))), .unset] [(.int (2 : Int32)), (.ref u215)])) _
        refine st238.trans ?_
        refine XS.istore X238.here hx rfl (hb hby at_164) rfl (l' := #[.val (.int p0), .val (.int p1), .val (.int p2), .val (.int (5 : Int32)), .val (.ref b183), .val (.ref u215), .val (.int (2 : Int32)), .val (.int (own_F5_2 (nar .boolean z0) (nar .boolean z1) (nar .boolean z2) (nar .boolean z3) (nar .boolean z4))), .val (.int (own_T5_2 (nar .boolean z0) (nar .boolean z1) (nar .boolean z2) (nar .boolean z3) (nar .boolean z4)))]) rfl ?_
        refine XS.iload X238.here hx rfl (hb hby at_166) rfl ?_
        refine XS.aload X238.here hx rfl (hb hby at_168) rfl rfl ?_
        refine XS.iloadN X238.here hx rfl (hb hby at_170) rfl ?_
        refine XS.iload X238.here hx rfl (hb hby at_171) rfl ?_
        show Steps p.tables e below (T238.setTop (mkF m 173 #[.val (.int p0), .val (.int p1), .val (.int p2), .val (.int (5 : Int32)), .val (.ref b183), .val (.ref u215), .val (.int (2 : Int32)), .val (.int (own_F5_2 (nar .boolean z0) (nar .boolean z1) (nar .boolean z2) (nar .boolean z3) (nar .boolean z4))), .val (.int (own_T5_2 (nar .boolean z0) (nar .boolean z1) (nar .boolean z2) (nar .boolean z3) (nar .boolean z4)))] [(.int (2 : Int32)), (.int (5 : Int32)), (.ref b183), (.int (own_F5_2 (nar .boolean z0) (nar .boolean z1) (nar .boolean z2) (nar .boolean z3) (nar .boolean z4)))])) _
        refine st240 _ ?_
        refine XS.icmpNo X240.here hx rfl (hb hby at_176) rfl (teq (own_finF5_2 (nar .boolean z0) (nar .boolean z1) (nar .boolean z2) (nar .boolean z3) (nar .boolean z4))).2 ?_
        refine XS.iload X240.here hx rfl (hb hby at_179) rfl ?_
        refine XS.aload X240.here hx rfl (hb hby at_181) rfl rfl ?_
        refine XS.iloadN X240.here hx rfl (hb hby at_183) rfl ?_
        refine XS.iload X240.here hx rfl (hb hby at_184) rfl ?_
        show Steps p.tables e below (T240.setTop (mkF m 186 #[.val (.int p0), .val (.int p1), .val (.int p2), .val (.int (5 : Int32)), .val (.ref b183), .val (.ref u215), .val (.int (2 : Int32)), .val (.int (own_F5_2 (nar .boolean z0) (nar .boolean z1) (nar .boolean z2) (nar .boolean z3) (nar .boolean z4))), .val (.int (own_T5_2 (nar .boolean z0) (nar .boolean z1) (nar .boolean z2) (nar .boolean z3) (nar .boolean z4)))] [(.int (2 : Int32)), (.int (5 : Int32)), (.ref b183), (.int (own_T5_2 (nar .boolean z0) (nar .boolean z1) (nar .boolean z2) (nar .boolean z3) (nar .boolean z4)))])) _
        refine st241 _ ?_
        refine XS.icmpNo X241.here hx rfl (hb hby at_189) rfl (teq (own_finT5_2 (nar .boolean z0) (nar .boolean z1) (nar .boolean z2) (nar .boolean z3) (nar .boolean z4))).2 ?_
        refine XS.iconst X241.here hx rfl (hb hby at_192) ?_
        refine XS.goto X241.here hx rfl (pc0 := 193) (pc' := 197) rfl (hb hby at_193) (by decide) (by decide) ?_
        exact Steps.refl _
      subst hA₀
      obtain ⟨fs, hr, hrun, hended, hW, hsame⟩ := X241.leave (v := some (.int (1 : Int32))) (fun h => by rw [Bd.returns] at h; cases h)
      refine ⟨_, _, s242.trans ?_, hrun, hended, _, _, rfl, ?_, ⟨_, rfl⟩, hW, hsame.mono (by decide) (by decide)⟩
      · show Steps p.tables e below (T241.setTop (mkF m 197 #[.val (.int p0), .val (.int p1), .val (.int p2), .val (.int (5 : Int32)), .val (.ref b183), .val (.ref u215), .val (.int (2 : Int32)), .val (.int (own_F5_2 (nar .boolean z0) (nar .boolean z1) (nar .boolean z2) (nar .boolean z3) (nar .boolean z4))), .val (.int (own_T5_2 (nar .boolean z0) (nar .boolean z1) (nar .boolean z2) (nar .boolean z3) (nar .boolean z4)))] [(.int (1 : Int32))])) _
        exact retN X241 hx (t := .boolean) Bd.returns (by simp) (hb hby at_197) hr
      · show Q0 Z p0 p1 p2 h0 n0 _ T241.heap _
        rw [e241]
        exact ⟨rfl, N241⟩
    · have s243 := s220
      rw [hk221] at s243
      obtain ⟨cq244, kq244, q244a, q244b, q244c⟩ := isOf hZ (rfl : T214.heap = T214.heap) f214_0
      obtain ⟨_, _, ⟨T244, L244, k244, n244⟩, -, X244, ⟨Lc244, hQ244, l244, y244, z244⟩, st244⟩ := X214.interfaceBack hx (xi := (⟨"com/example/libprox/libprox/Combinations$Rule", "tiedFrom", "(I)I"⟩ : MethodName)) (y := (⟨"com/example/libprox/libprox/Cpe$1", "tiedFrom", "(I)I"⟩ : MethodName)) hown (mvT hZ (hw _ (List.mem_of_getElem? (i := 24) rfl))) (mvT hZ (hw _ (List.mem_of_getElem? (i := 25) rfl))) (mvT hZ (hw _ (List.mem_of_getElem? (i := 26) rfl))) (mvT hZ (hw _ (List.mem_of_getElem? (i := 27) rfl))) (mvT hZ (hw _ (List.mem_of_getElem? (i := 28) rfl))) (mvT hZ (hw _ (List.mem_of_getElem? (i := 29) rfl))) (mvT hZ (hw _ (List.mem_of_getElem? (i := 30) rfl))) (mvT hZ (hw _ (List.mem_of_getElem? (i := 31) rfl))) (by decide) (backOf (W := 0) (rmtiedFrom l Z a0 hw [] u215 (3 : Int32) u216 u218 (5 : Int32) [(.int (own_F5_0 (nar .boolean z0) (nar .boolean z1) (nar .boolean z2) (nar .boolean z3) (nar .boolean z4))), (.int (own_F5_1 (nar .boolean z0) (nar .boolean z1) (nar .boolean z2) (nar .boolean z3) (nar .boolean z4))), (.int (own_F5_2 (nar .boolean z0) (nar .boolean z1) (nar .boolean z2) (nar .boolean z3) (nar .boolean z4))), (.int (own_F5_3 (nar .boolean z0) (nar .boolean z1) (nar .boolean z2) (nar .boolean z3) (nar .boolean z4))), (.int (own_F5_4 (nar .boolean z0) (nar .boolean z1) (nar .boolean z2) (nar .boolean z3) (nar .boolean z4)))] (own_F5_3 (nar .boolean z0) (nar .boolean z1) (nar .boolean z2) (nar .boolean z3) (nar .boolean z4)) T214.heap n0 O214 f214_1 f214_3 ⟨by decide, by decide⟩ rfl) hZ (hw _ (List.mem_of_getElem? (i := 32) rfl)) (hw _ (List.mem_of_getElem? (i := 13) rfl)) (by decide) (by decide)) q244a q244b q244c (g := (mkF m 148 #[.val (.int p0), .val (.int p1), .val (.int p2), .val (.int (5 : Int32)), .val (.ref b183), .val (.ref u215), .val (.int (3 : Int32)), .unset, .unset] [(.int (3 : Int32)), (.ref u215)])) rfl (by rw [hml]; rfl) (Steps.refl _) (argsL := [(.int (3 : Int32))]) (rest := []) (lenOf pd_rm0_1 rfl) rfl (by show 2 * 0 + _ ≤ _; exact Nat.le_of_eq rfl) (hb hby at_148) (fun _ _ => ⟨rfl, (rfl : T214.heap = T214.heap), (by decide : 4 + 0 ≤ _), (by decide : 17 + 0 ≤ _)⟩)
      dsimp only [Pt.U, Pt.locs, Pt.cells, Pt.slots] at X244 l244 y244 z244 st244 hQ244
      subst l244 y244 z244
      obtain ⟨rfl, Nq244, e244⟩ := hQ244
      have N244 := Fr.app N214 Nq244
      obtain ⟨cq245, kq245, q245a, q245b, q245c⟩ := isOf hZ e244 f214_0
      obtain ⟨_, _, ⟨T245, L245, k245, n245⟩, -, X245, ⟨Lc245, hQ245, l245, y245, z245⟩, st245⟩ := X244.interfaceBack hx (xi := (⟨"com/example/libprox/libprox/Combinations$Rule", "tiedTo", "(I)I"⟩ : MethodName)) (y := (⟨"com/example/libprox/libprox/Cpe$1", "tiedTo", "(I)I"⟩ : MethodName)) hown (mvT hZ (hw _ (List.mem_of_getElem? (i := 33) rfl))) (mvT hZ (hw _ (List.mem_of_getElem? (i := 34) rfl))) (mvT hZ (hw _ (List.mem_of_getElem? (i := 35) rfl))) (mvT hZ (hw _ (List.mem_of_getElem? (i := 36) rfl))) (mvT hZ (hw _ (List.mem_of_getElem? (i := 37) rfl))) (mvT hZ (hw _ (List.mem_of_getElem? (i := 38) rfl))) (mvT hZ (hw _ (List.mem_of_getElem? (i := 39) rfl))) (mvT hZ (hw _ (List.mem_of_getElem? (i := 31) rfl))) (by decide) (backOf (W := 0) (rmtiedTo l Z a0 hw [] u215 (3 : Int32) u217 u219 (5 : Int32) [(.int (own_T5_0 (nar .boolean z0) (nar .boolean z1) (nar .boolean z2) (nar .boolean z3) (nar .boolean z4))), (.int (own_T5_1 (nar .boolean z0) (nar .boolean z1) (nar .boolean z2) (nar .boolean z3) (nar .boolean z4))), (.int (own_T5_2 (nar .boolean z0) (nar .boolean z1) (nar .boolean z2) (nar .boolean z3) (nar .boolean z4))), (.int (own_T5_3 (nar .boolean z0) (nar .boolean z1) (nar .boolean z2) (nar .boolean z3) (nar .boolean z4))), (.int (own_T5_4 (nar .boolean z0) (nar .boolean z1) (nar .boolean z2) (nar .boolean z3) (nar .boolean z4)))] (own_T5_3 (nar .boolean z0) (nar .boolean z1) (nar .boolean z2) (nar .boolean z3) (nar .boolean z4)) T214.heap n0 O214 f214_2 f214_4 ⟨by decide, by decide⟩ rfl) hZ (hw _ (List.mem_of_getElem? (i := 40) rfl)) (hw _ (List.mem_of_getElem? (i := 13) rfl)) (by decide) (by decide)) q245a q245b q245c (g := (mkF m 159 #[.val (.int p0), .val (.int p1), .val (.int p2), .val (.int (5 : Int32)), .val (.ref b183), .val (.ref u215), .val (.int (3 : Int32)), .val (.int (own_F5_3 (nar .boolean z0) (nar .boolean z1) (nar .boolean z2) (nar .boolean z3) (nar .boolean z4))), .unset] [(.int (3 : Int32)), (.ref u215)])) rfl (by rw [hml]; rfl) (Steps.refl _) (argsL := [(.int (3 : Int32))]) (rest := []) (lenOf pd_rm0_1 rfl) rfl (by show 2 * 0 + _ ≤ _; exact Nat.le_of_eq rfl) (hb hby at_159) (fun _ _ => ⟨rfl, e244, (by decide : 4 + 0 ≤ _), (by decide : 17 + 0 ≤ _)⟩)
      dsimp only [Pt.U, Pt.locs, Pt.cells, Pt.slots] at X245 l245 y245 z245 st245 hQ245
      subst l245 y245 z245
      obtain ⟨rfl, Nq245, e245⟩ := hQ245
      have N245 := Fr.app N244 Nq245
      have c246 : Arv Z T214.heap b183 k183 .boolean (5 : Int32) [(.int (nar .boolean z0)), (.int (nar .boolean z1)), (.int (nar .boolean z2)), (.int (nar .boolean z3)), (.int (nar .boolean z4))] (.int (0 : Int32)) := (V213.keep Kc214 nin0)
      obtain ⟨T247, L247, X247, e247, N247, st247⟩ := own_callP X245 hx hZ hown (wk41 hw) (wk42 hw) (wk43 hw) (wk44 hw) (by decide) (rmrefFrom l Z a0 hw [] b183 (5 : Int32) (3 : Int32) k183 [(nar .boolean z0), (nar .boolean z1), (nar .boolean z2), (nar .boolean z3), (nar .boolean z4)] T214.heap n0 O214 c246) e245 N245 (W := 1) (by decide) (by decide) (by decide) (by decide) (g := (mkF m 173 #[.val (.int p0), .val (.int p1), .val (.int p2), .val (.int (5 : Int32)), .val (.ref b183), .val (.ref u215), .val (.int (3 : Int32)), .val (.int (own_F5_3 (nar .boolean z0) (nar .boolean z1) (nar .boolean z2) (nar .boolean z3) (nar .boolean z4))), .val (.int (own_T5_3 (nar .boolean z0) (nar .boolean z1) (nar .boolean z2) (nar .boolean z3) (nar .boolean z4)))] [(.int (3 : Int32)), (.int (5 : Int32)), (.ref b183), (.int (own_F5_3 (nar .boolean z0) (nar .boolean z1) (nar .boolean z2) (nar .boolean z3) (nar .boolean z4)))])) rfl (by rw [hml]; rfl) (argsL := [(.ref b183), (.int (5 : Int32)), (.int (3 : Int32))]) (rest := [(.int (own_F5_3 (nar .boolean z0) (nar .boolean z1) (nar .boolean z2) (nar .boolean z3) (nar .boolean z4)))]) (lenOf pd_rm0_2 rfl) rfl (by show 2 * 0 + _ ≤ _; exact Nat.le_of_eq rfl) (hb hby at_173)
      obtain ⟨T248, L248, X248, e248, N248, st248⟩ := own_callP X247 hx hZ hown (wk48 hw) (wk49 hw) (wk43 hw) (wk50 hw) (by decide) (rmrefTo l Z a0 hw [] b183 (5 : Int32) (3 : Int32) k183 [(nar .boolean z0), (nar .boolean z1), (nar .boolean z2), (nar .boolean z3), (nar .boolean z4)] T214.heap n0 O214 c246) e247 N247 (W := 1) (by decide) (by decide) (by decide) (by decide) (g := (mkF m 186 #[.val (.int p0), .val (.int p1), .val (.int p2), .val (.int (5 : Int32)), .val (.ref b183), .val (.ref u215), .val (.int (3 : Int32)), .val (.int (own_F5_3 (nar .boolean z0) (nar .boolean z1) (nar .boolean z2) (nar .boolean z3) (nar .boolean z4))), .val (.int (own_T5_3 (nar .boolean z0) (nar .boolean z1) (nar .boolean z2) (nar .boolean z3) (nar .boolean z4)))] [(.int (3 : Int32)), (.int (5 : Int32)), (.ref b183), (.int (own_T5_3 (nar .boolean z0) (nar .boolean z1) (nar .boolean z2) (nar .boolean z3) (nar .boolean z4)))])) rfl (by rw [hml]; rfl) (argsL := [(.ref b183), (.int (5 : Int32)), (.int (3 : Int32))]) (rest := [(.int (own_T5_3 (nar .boolean z0) (nar .boolean z1) (nar .boolean z2) (nar .boolean z3) (nar .boolean z4)))]) (lenOf pd_rm0_2 rfl) rfl (by show 2 * 0 + _ ≤ _; exact Nat.le_of_eq rfl) (hb hby at_186)
      have s249 : Steps p.tables e below A₀ (T248.setTop (mkF m 197 #[.val (.int p0), .val (.int p1), .val (.int p2), .val (.int (5 : Int32)), .val (.ref b183), .val (.ref u215), .val (.int (3 : Int32)), .val (.int (own_F5_3 (nar .boolean z0) (nar .boolean z1) (nar .boolean z2) (nar .boolean z3) (nar .boolean z4))), .val (.int (own_T5_3 (nar .boolean z0) (nar .boolean z1) (nar .boolean z2) (nar .boolean z3) (nar .boolean z4)))] [(.int (1 : Int32))])) := by
        refine s243.trans ?_
        refine XS.istore X214.here hx rfl (hb hby at_142) rfl (l' := #[.val (.int p0), .val (.int p1), .val (.int p2), .val (.int (5 : Int32)), .val (.ref b183), .val (.ref u215), .val (.int (3 : Int32)), .unset, .unset]) rfl ?_
        show Steps p.tables e below (T214.setTop (mkF m 144 #[.val (.int p0), .val (.int p1), .val (.int p2), .val (.int (5 : Int32)), .val (.ref b183), .val (.ref u215), .val (.int (3 : Int32)), .unset, .unset] [])) _
        refine XS.aload X214.here hx rfl (hb hby at_144) rfl rfl ?_
        refine XS.iload X214.here hx rfl (hb hby at_146) rfl ?_
        refine st244.trans ?_
        refine XS.istore X244.here hx rfl (hb hby at_153) rfl (l' := #[.val (.int p0), .val (.int p1), .val (.int p2), .val (.int (5 : Int32)), .val (.ref b183), .val (.ref u215), .val (.int (3 : Int32)), .val (.int (own_F5_3 (nar .boolean z0) (nar .boolean z1) (nar .boolean z2) (nar .boolean z3) (nar .boolean z4))), .unset]) rfl ?_
        refine XS.aload X244.here hx rfl (hb hby at_155) rfl rfl ?_
        refine XS.iload X244.here hx rfl (hb hby at_157) rfl ?_
        show Steps p.tables e below (T244.setTop (mkF m 159 #[.val (.int p0), .val (.int p1), .val (.int p2), .val (.int (5 : Int32)), .val (.ref b183), .val (.ref u215), .val (.int (3 : Int32)), .val (.int (own_F5_3 (nar .boolean z0) (nar .boolean z1) (nar .boolean z2) (nar .boolean z3) (nar .boolean z4))), .unset] [(.int (3 : Int32)), (.ref u215)])) _
        refine st245.trans ?_
        refine XS.istore X245.here hx rfl (hb hby at_164) rfl (l' := #[.val (.int p0), .val (.int p1), .val (.int p2), .val (.int (5 : Int32)), .val (.ref b183), .val (.ref u215), .val (.int (3 : Int32)), .val (.int (own_F5_3 (nar .boolean z0) (nar .boolean z1) (nar .boolean z2) (nar .boolean z3) (nar .boolean z4))), .val (.int (own_T5_3 (nar .boolean z0) (nar .boolean z1) (nar .boolean z2) (nar .boolean z3) (nar .boolean z4)))]) rfl ?_
        refine XS.iload X245.here hx rfl (hb hby at_166) rfl ?_
        refine XS.aload X245.here hx rfl (hb hby at_168) rfl rfl ?_
        refine XS.iloadN X245.here hx rfl (hb hby at_170) rfl ?_
        refine XS.iload X245.here hx rfl (hb hby at_171) rfl ?_
        show Steps p.tables e below (T245.setTop (mkF m 173 #[.val (.int p0), .val (.int p1), .val (.int p2), .val (.int (5 : Int32)), .val (.ref b183), .val (.ref u215), .val (.int (3 : Int32)), .val (.int (own_F5_3 (nar .boolean z0) (nar .boolean z1) (nar .boolean z2) (nar .boolean z3) (nar .boolean z4))), .val (.int (own_T5_3 (nar .boolean z0) (nar .boolean z1) (nar .boolean z2) (nar .boolean z3) (nar .boolean z4)))] [(.int (3 : Int32)), (.int (5 : Int32)), (.ref b183), (.int (own_F5_3 (nar .boolean z0) (nar .boolean z1) (nar .boolean z2) (nar .boolean z3) (nar .boolean z4)))])) _
        refine st247 _ ?_
        refine XS.icmpNo X247.here hx rfl (hb hby at_176) rfl (teq (own_finF5_3 (nar .boolean z0) (nar .boolean z1) (nar .boolean z2) (nar .boolean z3) (nar .boolean z4))).2 ?_
        refine XS.iload X247.here hx rfl (hb hby at_179) rfl ?_
        refine XS.aload X247.here hx rfl (hb hby at_181) rfl rfl ?_
        refine XS.iloadN X247.here hx rfl (hb hby at_183) rfl ?_
        refine XS.iload X247.here hx rfl (hb hby at_184) rfl ?_
        show Steps p.tables e below (T247.setTop (mkF m 186 #[.val (.int p0), .val (.int p1), .val (.int p2), .val (.int (5 : Int32)), .val (.ref b183), .val (.ref u215), .val (.int (3 : Int32)), .val (.int (own_F5_3 (nar .boolean z0) (nar .boolean z1) (nar .boolean z2) (nar .boolean z3) (nar .boolean z4))), .val (.int (own_T5_3 (nar .boolean z0) (nar .boolean z1) (nar .boolean z2) (nar .boolean z3) (nar .boolean z4)))] [(.int (3 : Int32)), (.int (5 : Int32)), (.ref b183), (.int (own_T5_3 (nar .boolean z0) (nar .boolean z1) (nar .boolean z2) (nar .boolean z3) (nar .boolean z4)))])) _
        refine st248 _ ?_
        refine XS.icmpNo X248.here hx rfl (hb hby at_189) rfl (teq (own_finT5_3 (nar .boolean z0) (nar .boolean z1) (nar .boolean z2) (nar .boolean z3) (nar .boolean z4))).2 ?_
        refine XS.iconst X248.here hx rfl (hb hby at_192) ?_
        refine XS.goto X248.here hx rfl (pc0 := 193) (pc' := 197) rfl (hb hby at_193) (by decide) (by decide) ?_
        exact Steps.refl _
      subst hA₀
      obtain ⟨fs, hr, hrun, hended, hW, hsame⟩ := X248.leave (v := some (.int (1 : Int32))) (fun h => by rw [Bd.returns] at h; cases h)
      refine ⟨_, _, s249.trans ?_, hrun, hended, _, _, rfl, ?_, ⟨_, rfl⟩, hW, hsame.mono (by decide) (by decide)⟩
      · show Steps p.tables e below (T248.setTop (mkF m 197 #[.val (.int p0), .val (.int p1), .val (.int p2), .val (.int (5 : Int32)), .val (.ref b183), .val (.ref u215), .val (.int (3 : Int32)), .val (.int (own_F5_3 (nar .boolean z0) (nar .boolean z1) (nar .boolean z2) (nar .boolean z3) (nar .boolean z4))), .val (.int (own_T5_3 (nar .boolean z0) (nar .boolean z1) (nar .boolean z2) (nar .boolean z3) (nar .boolean z4)))] [(.int (1 : Int32))])) _
        exact retN X248 hx (t := .boolean) Bd.returns (by simp) (hb hby at_197) hr
      · show Q0 Z p0 p1 p2 h0 n0 _ T248.heap _
        rw [e248]
        exact ⟨rfl, N248⟩
    · have s250 := s220
      rw [hk221] at s250
      obtain ⟨cq251, kq251, q251a, q251b, q251c⟩ := isOf hZ (rfl : T214.heap = T214.heap) f214_0
      obtain ⟨_, _, ⟨T251, L251, k251, n251⟩, -, X251, ⟨Lc251, hQ251, l251, y251, z251⟩, st251⟩ := X214.interfaceBack hx (xi := (⟨"com/example/libprox/libprox/Combinations$Rule", "tiedFrom", "(I)I"⟩ : MethodName)) (y := (⟨"com/example/libprox/libprox/Cpe$1", "tiedFrom", "(I)I"⟩ : MethodName)) hown (mvT hZ (hw _ (List.mem_of_getElem? (i := 24) rfl))) (mvT hZ (hw _ (List.mem_of_getElem? (i := 25) rfl))) (mvT hZ (hw _ (List.mem_of_getElem? (i := 26) rfl))) (mvT hZ (hw _ (List.mem_of_getElem? (i := 27) rfl))) (mvT hZ (hw _ (List.mem_of_getElem? (i := 28) rfl))) (mvT hZ (hw _ (List.mem_of_getElem? (i := 29) rfl))) (mvT hZ (hw _ (List.mem_of_getElem? (i := 30) rfl))) (mvT hZ (hw _ (List.mem_of_getElem? (i := 31) rfl))) (by decide) (backOf (W := 0) (rmtiedFrom l Z a0 hw [] u215 (4 : Int32) u216 u218 (5 : Int32) [(.int (own_F5_0 (nar .boolean z0) (nar .boolean z1) (nar .boolean z2) (nar .boolean z3) (nar .boolean z4))), (.int (own_F5_1 (nar .boolean z0) (nar .boolean z1) (nar .boolean z2) (nar .boolean z3) (nar .boolean z4))), (.int (own_F5_2 (nar .boolean z0) (nar .boolean z1) (nar .boolean z2) (nar .boolean z3) (nar .boolean z4))), (.int (own_F5_3 (nar .boolean z0) (nar .boolean z1) (nar .boolean z2) (nar .boolean z3) (nar .boolean z4))), (.int (own_F5_4 (nar .boolean z0) (nar .boolean z1) (nar .boolean z2) (nar .boolean z3) (nar .boolean z4)))] (own_F5_4 (nar .boolean z0) (nar .boolean z1) (nar .boolean z2) (nar .boolean z3) (nar .boolean z4)) T214.heap n0 O214 f214_1 f214_3 ⟨by decide, by decide⟩ rfl) hZ (hw _ (List.mem_of_getElem? (i := 32) rfl)) (hw _ (List.mem_of_getElem? (i := 13) rfl)) (by decide) (by decide)) q251a q251b q251c (g := (mkF m 148 #[.val (.int p0), .val (.int p1), .val (.int p2), .val (.int (5 : Int32)), .val (.ref b183), .val (.ref u215), .val (.int (4 : Int32)), .unset, .unset] [(.int (4 : Int32)), (.ref u215)])) rfl (by rw [hml]; rfl) (Steps.refl _) (argsL := [(.int (4 : Int32))]) (rest := []) (lenOf pd_rm0_1 rfl) rfl (by show 2 * 0 + _ ≤ _; exact Nat.le_of_eq rfl) (hb hby at_148) (fun _ _ => ⟨rfl, (rfl : T214.heap = T214.heap), (by decide : 4 + 0 ≤ _), (by decide : 17 + 0 ≤ _)⟩)
      dsimp only [Pt.U, Pt.locs, Pt.cells, Pt.slots] at X251 l251 y251 z251 st251 hQ251
      subst l251 y251 z251
      obtain ⟨rfl, Nq251, e251⟩ := hQ251
      have N251 := Fr.app N214 Nq251
      obtain ⟨cq252, kq252, q252a, q252b, q252c⟩ := isOf hZ e251 f214_0
      obtain ⟨_, _, ⟨T252, L252, k252, n252⟩, -, X252, ⟨Lc252, hQ252, l252, y252, z252⟩, st252⟩ := X251.interfaceBack hx (xi := (⟨"com/example/libprox/libprox/Combinations$Rule", "tiedTo", "(I)I"⟩ : MethodName)) (y := (⟨"com/example/libprox/libprox/Cpe$1", "tiedTo", "(I)I"⟩ : MethodName)) hown (mvT hZ (hw _ (List.mem_of_getElem? (i := 33) rfl))) (mvT hZ (hw _ (List.mem_of_getElem? (i := 34) rfl))) (mvT hZ (hw _ (List.mem_of_getElem? (i := 35) rfl))) (mvT hZ (hw _ (List.mem_of_getElem? (i := 36) rfl))) (mvT hZ (hw _ (List.mem_of_getElem? (i := 37) rfl))) (mvT hZ (hw _ (List.mem_of_getElem? (i := 38) rfl))) (mvT hZ (hw _ (List.mem_of_getElem? (i := 39) rfl))) (mvT hZ (hw _ (List.mem_of_getElem? (i := 31) rfl))) (by decide) (backOf (W := 0) (rmtiedTo l Z a0 hw [] u215 (4 : Int32) u217 u219 (5 : Int32) [(.int (own_T5_0 (nar .boolean z0) (nar .boolean z1) (nar .boolean z2) (nar .boolean z3) (nar .boolean z4))), (.int (own_T5_1 (nar .boolean z0) (nar .boolean z1) (nar .boolean z2) (nar .boolean z3) (nar .boolean z4))), (.int (own_T5_2 (nar .boolean z0) (nar .boolean z1) (nar .boolean z2) (nar .boolean z3) (nar .boolean z4))), (.int (own_T5_3 (nar .boolean z0) (nar .boolean z1) (nar .boolean z2) (nar .boolean z3) (nar .boolean z4))), (.int (own_T5_4 (nar .boolean z0) (nar .boolean z1) (nar .boolean z2) (nar .boolean z3) (nar .boolean z4)))] (own_T5_4 (nar .boolean z0) (nar .boolean z1) (nar .boolean z2) (nar .boolean z3) (nar .boolean z4)) T214.heap n0 O214 f214_2 f214_4 ⟨by decide, by decide⟩ rfl) hZ (hw _ (List.mem_of_getElem? (i := 40) rfl)) (hw _ (List.mem_of_getElem? (i := 13) rfl)) (by decide) (by decide)) q252a q252b q252c (g := (mkF m 159 #[.val (.int p0), .val (.int p1), .val (.int p2), .val (.int (5 : Int32)), .val (.ref b183), .val (.ref u215), .val (.int (4 : Int32)), .val (.int (own_F5_4 (nar .boolean z0) (nar .boolean z1) (nar .boolean z2) (nar .boolean z3) (nar .boolean z4))), .unset] [(.int (4 : Int32)), (.ref u215)])) rfl (by rw [hml]; rfl) (Steps.refl _) (argsL := [(.int (4 : Int32))]) (rest := []) (lenOf pd_rm0_1 rfl) rfl (by show 2 * 0 + _ ≤ _; exact Nat.le_of_eq rfl) (hb hby at_159) (fun _ _ => ⟨rfl, e251, (by decide : 4 + 0 ≤ _), (by decide : 17 + 0 ≤ _)⟩)
      dsimp only [Pt.U, Pt.locs, Pt.cells, Pt.slots] at X252 l252 y252 z252 st252 hQ252
      subst l252 y252 z252
      obtain ⟨rfl, Nq252, e252⟩ := hQ252
      have N252 := Fr.app N251 Nq252
      have c253 : Arv Z T214.heap b183 k183 .boolean (5 : Int32) [(.int (nar .boolean z0)), (.int (nar .boolean z1)), (.int (nar .boolean z2)), (.int (nar .boolean z3)), (.int (nar .boolean z4))] (.int (0 : Int32)) := (V213.keep Kc214 nin0)
      obtain ⟨T254, L254, X254, e254, N254, st254⟩ := own_callP X252 hx hZ hown (wk41 hw) (wk42 hw) (wk43 hw) (wk44 hw) (by decide) (rmrefFrom l Z a0 hw [] b183 (5 : Int32) (4 : Int32) k183 [(nar .boolean z0), (nar .boolean z1), (nar .boolean z2), (nar .boolean z3), (nar .boolean z4)] T214.heap n0 O214 c253) e252 N252 (W := 1) (by decide) (by decide) (by decide) (by decide) (g := (mkF m 173 #[.val (.int p0), .val (.int p1), .val (.int p2), .val (.int (5 : Int32)), .val (.ref b183), .val (.ref u215), .val (.int (4 : Int32)), .val (.int (own_F5_4 (nar .boolean z0) (nar .boolean z1) (nar .boolean z2) (nar .boolean z3) (nar .boolean z4))), .val (.int (own_T5_4 (nar .boolean z0) (nar .boolean z1) (nar .boolean z2) (nar .boolean z3) (nar .boolean z4)))] [(.int (4 : Int32)), (.int (5 : Int32)), (.ref b183), (.int (own_F5_4 (nar .boolean z0) (nar .boolean z1) (nar .boolean z2) (nar .boolean z3) (nar .boolean z4)))])) rfl (by rw [hml]; rfl) (argsL := [(.ref b183), (.int (5 : Int32)), (.int (4 : Int32))]) (rest := [(.int (own_F5_4 (nar .boolean z0) (nar .boolean z1) (nar .boolean z2) (nar .boolean z3) (nar .boolean z4)))]) (lenOf pd_rm0_2 rfl) rfl (by show 2 * 0 + _ ≤ _; exact Nat.le_of_eq rfl) (hb hby at_173)
      obtain ⟨T255, L255, X255, e255, N255, st255⟩ := own_callP X254 hx hZ hown (wk48 hw) (wk49 hw) (wk43 hw) (wk50 hw) (by decide) (rmrefTo l Z a0 hw [] b183 (5 : Int32) (4 : Int32) k183 [(nar .boolean z0), (nar .boolean z1), (nar .boolean z2), (nar .boolean z3), (nar .boolean z4)] T214.heap n0 O214 c253) e254 N254 (W := 1) (by decide) (by decide) (by decide) (by decide) (g := (mkF m 186 #[.val (.int p0), .val (.int p1), .val (.int p2), .val (.int (5 : Int32)), .val (.ref b183), .val (.ref u215), .val (.int (4 : Int32)), .val (.int (own_F5_4 (nar .boolean z0) (nar .boolean z1) (nar .boolean z2) (nar .boolean z3) (nar .boolean z4))), .val (.int (own_T5_4 (nar .boolean z0) (nar .boolean z1) (nar .boolean z2) (nar .boolean z3) (nar .boolean z4)))] [(.int (4 : Int32)), (.int (5 : Int32)), (.ref b183), (.int (own_T5_4 (nar .boolean z0) (nar .boolean z1) (nar .boolean z2) (nar .boolean z3) (nar .boolean z4)))])) rfl (by rw [hml]; rfl) (argsL := [(.ref b183), (.int (5 : Int32)), (.int (4 : Int32))]) (rest := [(.int (own_T5_4 (nar .boolean z0) (nar .boolean z1) (nar .boolean z2) (nar .boolean z3) (nar .boolean z4)))]) (lenOf pd_rm0_2 rfl) rfl (by show 2 * 0 + _ ≤ _; exact Nat.le_of_eq rfl) (hb hby at_186)
      have s256 : Steps p.tables e below A₀ (T255.setTop (mkF m 197 #[.val (.int p0), .val (.int p1), .val (.int p2), .val (.int (5 : Int32)), .val (.ref b183), .val (.ref u215), .val (.int (4 : Int32)), .val (.int (own_F5_4 (nar .boolean z0) (nar .boolean z1) (nar .boolean z2) (nar .boolean z3) (nar .boolean z4))), .val (.int (own_T5_4 (nar .boolean z0) (nar .boolean z1) (nar .boolean z2) (nar .boolean z3) (nar .boolean z4)))] [(.int (1 : Int32))])) := by
        refine s250.trans ?_
        refine XS.istore X214.here hx rfl (hb hby at_142) rfl (l' := #[.val (.int p0), .val (.int p1), .val (.int p2), .val (.int (5 : Int32)), .val (.ref b183), .val (.ref u215), .val (.int (4 : Int32)), .unset, .unset]) rfl ?_
        show Steps p.tables e below (T214.setTop (mkF m 144 #[.val (.int p0), .val (.int p1), .val (.int p2), .val (.int (5 : Int32)), .val (.ref b183), .val (.ref u215), .val (.int (4 : Int32)), .unset, .unset] [])) _
        refine XS.aload X214.here hx rfl (hb hby at_144) rfl rfl ?_
        refine XS.iload X214.here hx rfl (hb hby at_146) rfl ?_
        refine st251.trans ?_
        refine XS.istore X251.here hx rfl (hb hby at_153) rfl (l' := #[.val (.int p0), .val (.int p1), .val (.int p2), .val (.int (5 : Int32)), .val (.ref b183), .val (.ref u215), .val (.int (4 : Int32)), .val (.int (own_F5_4 (nar .boolean z0) (nar .boolean z1) (nar .boolean z2) (nar .boolean z3) (nar .boolean z4))), .unset]) rfl ?_
        refine XS.aload X251.here hx rfl (hb hby at_155) rfl rfl ?_
        refine XS.iload X251.here hx rfl (hb hby at_157) rfl ?_
        show Steps p.tables e below (T251.setTop (mkF m 159 #[.val (.int p0), .val (.int p1), .val (.int p2), .val (.int (5 : Int32)), .val (.ref b183), .val (.ref u215), .val (.int (4 : Int32)), .val (.int (own_F5_4 (nar .boolean z0) (nar .boolean z1) (nar .boolean z2) (nar .boolean z3) (nar .boolean z4))), .unset] [(.int (4 : Int32)), (.ref u215)])) _
        refine st252.trans ?_
        refine XS.istore X252.here hx rfl (hb hby at_164) rfl (l' := #[.val (.int p0), .val (.int p1), .val (.int p2), .val (.int (5 : Int32)), .val (.ref b183), .val (.ref u215), .val (.int (4 : Int32)), .val (.int (own_F5_4 (nar .boolean z0) (nar .boolean z1) (nar .boolean z2) (nar .boolean z3) (nar .boolean z4))), .val (.int (own_T5_4 (nar .boolean z0) (nar .boolean z1) (nar .boolean z2) (nar .boolean z3) (nar .boolean z4)))]) rfl ?_
        refine XS.iload X252.here hx rfl (hb hby at_166) rfl ?_
        refine XS.aload X252.here hx rfl (hb hby at_168) rfl rfl ?_
        refine XS.iloadN X252.here hx rfl (hb hby at_170) rfl ?_
        refine XS.iload X252.here hx rfl (hb hby at_171) rfl ?_
        show Steps p.tables e below (T252.setTop (mkF m 173 #[.val (.int p0), .val (.int p1), .val (.int p2), .val (.int (5 : Int32)), .val (.ref b183), .val (.ref u215), .val (.int (4 : Int32)), .val (.int (own_F5_4 (nar .boolean z0) (nar .boolean z1) (nar .boolean z2) (nar .boolean z3) (nar .boolean z4))), .val (.int (own_T5_4 (nar .boolean z0) (nar .boolean z1) (nar .boolean z2) (nar .boolean z3) (nar .boolean z4)))] [(.int (4 : Int32)), (.int (5 : Int32)), (.ref b183), (.int (own_F5_4 (nar .boolean z0) (nar .boolean z1) (nar .boolean z2) (nar .boolean z3) (nar .boolean z4)))])) _
        refine st254 _ ?_
        refine XS.icmpNo X254.here hx rfl (hb hby at_176) rfl (teq (own_finF5_4 (nar .boolean z0) (nar .boolean z1) (nar .boolean z2) (nar .boolean z3) (nar .boolean z4))).2 ?_
        refine XS.iload X254.here hx rfl (hb hby at_179) rfl ?_
        refine XS.aload X254.here hx rfl (hb hby at_181) rfl rfl ?_
        refine XS.iloadN X254.here hx rfl (hb hby at_183) rfl ?_
        refine XS.iload X254.here hx rfl (hb hby at_184) rfl ?_
        show Steps p.tables e below (T254.setTop (mkF m 186 #[.val (.int p0), .val (.int p1), .val (.int p2), .val (.int (5 : Int32)), .val (.ref b183), .val (.ref u215), .val (.int (4 : Int32)), .val (.int (own_F5_4 (nar .boolean z0) (nar .boolean z1) (nar .boolean z2) (nar .boolean z3) (nar .boolean z4))), .val (.int (own_T5_4 (nar .boolean z0) (nar .boolean z1) (nar .boolean z2) (nar .boolean z3) (nar .boolean z4)))] [(.int (4 : Int32)), (.int (5 : Int32)), (.ref b183), (.int (own_T5_4 (nar .boolean z0) (nar .boolean z1) (nar .boolean z2) (nar .boolean z3) (nar .boolean z4)))])) _
        refine st255 _ ?_
        refine XS.icmpNo X255.here hx rfl (hb hby at_189) rfl (teq (own_finT5_4 (nar .boolean z0) (nar .boolean z1) (nar .boolean z2) (nar .boolean z3) (nar .boolean z4))).2 ?_
        refine XS.iconst X255.here hx rfl (hb hby at_192) ?_
        refine XS.goto X255.here hx rfl (pc0 := 193) (pc' := 197) rfl (hb hby at_193) (by decide) (by decide) ?_
        exact Steps.refl _
      subst hA₀
      obtain ⟨fs, hr, hrun, hended, hW, hsame⟩ := X255.leave (v := some (.int (1 : Int32))) (fun h => by rw [Bd.returns] at h; cases h)
      refine ⟨_, _, s256.trans ?_, hrun, hended, _, _, rfl, ?_, ⟨_, rfl⟩, hW, hsame.mono (by decide) (by decide)⟩
      · show Steps p.tables e below (T255.setTop (mkF m 197 #[.val (.int p0), .val (.int p1), .val (.int p2), .val (.int (5 : Int32)), .val (.ref b183), .val (.ref u215), .val (.int (4 : Int32)), .val (.int (own_F5_4 (nar .boolean z0) (nar .boolean z1) (nar .boolean z2) (nar .boolean z3) (nar .boolean z4))), .val (.int (own_T5_4 (nar .boolean z0) (nar .boolean z1) (nar .boolean z2) (nar .boolean z3) (nar .boolean z4)))] [(.int (1 : Int32))])) _
        exact retN X255 hx (t := .boolean) Bd.returns (by simp) (hb hby at_197) hr
      · show Q0 Z p0 p1 p2 h0 n0 _ T255.heap _
        rw [e255]
        exact ⟨rfl, N255⟩
set_option maxRecDepth 65536 in
set_option maxHeartbeats 40000000 in
theorem comes_1 {Post : Tables → Env → Array Value → State → Outcome → State → Prop} (hpost : ∀ tb e args s v u, (limb_1_1.after args s (.returned v) u = true ∧ limb_1_2.after args s (.returned v) u = true ∧ True) → FrameEnd s (.returned v) u (Jvm.fieldLocs frame_1_writes args s ++ Jvm.arrayLocs frame_1_arrays args s ++ Jvm.staticLocs frame_1_statics s) 16 128 → Post tb e args s (.returned v) u) :
    ArmFor flags0 classFile x code maxLocals ret World_1 tables_1 room_1 Calls_1 rest_1 Pre_1 Post := by
  intro l hfl _ _ p e ha hc hk s m args below hf hA hF happ hP
  obtain ⟨hcalls, hrest, hpre⟩ := hP
  obtain ⟨-, -, -, hnamed, -, -, -, hat⟩ := (Spec.applies_iff hf).mp happ
  obtain ⟨hg, hn⟩ := and_e (Cond.before_iff.mp (show (Jvm.Cond.and given_1 narrow_1).before args s = true from hpre))
  obtain ⟨gc, gk0⟩ := and_e hg
  obtain ⟨ga0, gk1⟩ := and_e gk0
  obtain ⟨ga1, gk2⟩ := and_e gk1
  obtain ⟨w0, w1, w2, rfl⟩ : ∃ w0 w1 w2 : Value, args = #[w0, w1, w2] := by
    have hs : args.size = 3 := by simpa [Cond.value, given_1] using gc
    obtain ⟨L⟩ := args
    match L, hs with
    | [w0, w1, w2], _ => exact ⟨w0, w1, w2, rfl⟩
  have hw := fun d (hd : d ∈ tables_1) => atoms_spec (ws := Jvm.Cond.code x code maxLocals ret :: tables_1) hat d (List.mem_cons_of_mem _ hd)
  have hfit : Fit s := fun {y c} hc i hi => by
    obtain ⟨ha, rfl⟩ := Array.getElem?_eq_some_iff.mp hc
    have q := List.all_eq_true.mp ((Array.all_eq_true_iff_forall_mem.mp hF) _ (Array.getElem_mem ha)) i (List.mem_range.mpr hi)
    simpa [Array.getElem?_eq_getElem hi] using q
  obtain ⟨i0, ei0⟩ := is_v ga0
  obtain rfl : w0 = (.int i0) := Option.some.inj ei0
  obtain ⟨i1, ei1⟩ := is_v ga1
  obtain rfl : w1 = (.int i1) := Option.some.inj ei1
  obtain ⟨i2, ei2⟩ := is_v gk2
  obtain rfl : w2 = (.int i2) := Option.some.inj ei2
  obtain ⟨n, o, h1, h2, h3, _, L, rfl, ⟨rfl, N⟩, hq⟩ := rm0 l s _ hw tables_1 i0 i1 i2 s.heap s.heap.size (Old.start s) p e ha hc hk s m _ below hf ((Spec.applies_iff_loose hf).mp happ).1 ⟨rfl, State.Warmed39.refl s, rfl⟩ trivial
  refine ⟨n, _, h1, h2, h3, hpost _ _ _ _ _ _ ⟨Cond.after_iff.mpr rfl, Cond.after_iff.mpr (eq_i res_at (Term.int_eval (1)) rfl), trivial⟩ ⟨hq.1, hq.2.1, (hq.2.2.sift fun y hy => Or.inr (N y hy)).mono (by decide) (by decide)⟩⟩
theorem main_1_1 : Claimed_1_1 := comes_1 fun _ _ _ _ _ _ h hF => ⟨h.1, hF⟩
theorem main_1_2 : Claimed_1_2 := comes_1 fun _ _ _ _ _ _ h hF => ⟨h.2.1, hF⟩
end Jvm.Pilot.@@N@@
namespace Jvm.Pilot.@@N@@
open Jvm Jvm.ClassFile Sem Op Lib Jvm.Free Jvm.Stand Jvm.Pilot.@@N@@.Jvm.D
/-! MADE BY PROGRAM (witnessworld.py) out of the Statement's table words and the real class files: 16 classes; the members and pool entries that the words name. The judged class is class 1, her method 4. -/
namespace start1
open Jvm.ClassFile
def u (s : String) : CpInfo := .utf8 (stringToUtf16 s)
/-- a pool by its gaps: so many unusable entries, then the entry; so many at the end -/
def gap : Nat → List CpInfo → List CpInfo
  | 0, r => r
  | n + 1, r => .unusable :: gap n r
def poolList (es : List (Nat × CpInfo)) (last : Nat) : List CpInfo := es.foldr (fun e r => gap e.1 (e.2 :: r)) (gap last [])
def pool (es : List (Nat × CpInfo)) (last : Nat) : Array CpInfo := ⟨poolList es last⟩
def fileOf (pool : Array CpInfo) (this : Nat) (attrs : Array Attribute := #[]) (ms : Array MethodInfo := #[]) (fl : Nat := 33) (sup : Nat := 0) (ifs : Array Nat := #[]) (fds : Array FieldInfo := #[]) : ClassFile where
  minorVersion := 0
  majorVersion := 65
  constantPool := pool
  accessFlags := fl
  thisClass := this
  superClass := sup
  interfaces := ifs
  fields := fds
  methods := ms
  attributes := attrs
def plain (name : String) (sup : Option ClassId) : Class where
  name := name
  kind := .ordinary
  loader := none
  accessFlags := 33
  super := sup
  interfaces := #[]
  cf := none
  fields := #[]
  methods := #[]
  instanceTypes := #[]
  staticTypes := #[]
  resolved := #[]
  callSites := []
  init := .initialized
  statics := none
  mirror := none

def pool0 : Array CpInfo := pool [(5, u "<init>"), (0, u "()V"), (1, .class_ 10), (1, u "java/lang/Object")] 113

def k0c0 : Code := { maxStack := 0, maxLocals := 1, code := object_method_1_code, exceptionTable := #[], attributes := #[] }
def k0m0 : Method := { name := "<init>", desc := "()V", sig := { parameters := [], returnType := none }, accessFlags := 1, code := some k0c0 }
/-- java/lang/Object -/
def k0 : Class := { plain "java/lang/Object" none with
  accessFlags := 33
  interfaces := #[]
  cf := some (fileOf pool0 8 #[] #[{ accessFlags := 1, nameIndex := 5, descriptorIndex := 6, attributes := #[] }] 33 0 #[] #[])
  fields := #[]
  methods := #[k0m0]
  instanceTypes := #[]
  staticTypes := #[]
  resolved := Array.replicate 124 none
  statics := none }

def pool1 : Array CpInfo := pool [(2, .class_ 4), (1, u "java/lang/Object"), (0, u "<init>"), (0, u "()V"), (0, .methodref 8 9), (0, .class_ 10), (0, .nameAndType 11 12), (0, u "com/example/libprox/libprox/CpeTiedStopWordsPinLaw"), (0, u "other"), (0, u "([ZII)Z"), (0, .integer 2147483647), (0, .methodref 15 16), (0, .class_ 17), (0, .nameAndType 18 19), (0, u "com/example/libprox/libprox/Cpe"), (0, u "tiedStopWords"), (0, u "([Z)Lcom/example/libprox/libprox/Combinations$Rule;"), (0, .interfaceMethodref 21 22), (0, .class_ 23), (0, .nameAndType 24 25), (0, u "com/example/libprox/libprox/Combinations$Rule"), (0, u "tiedFrom"), (0, u "(I)I"), (0, .interfaceMethodref 21 27), (0, .nameAndType 28 25), (0, u "tiedTo"), (0, .methodref 8 30), (0, .nameAndType 31 32), (0, u "refFrom"), (0, u "([ZII)I"), (0, .methodref 8 34), (0, .nameAndType 35 32), (0, u "refTo"), (3, u "law"), (0, u "(III)Z")] 8

def k1m0 : Method := { name := "<init>", desc := "()V", sig := { parameters := [], returnType := none }, accessFlags := 1, code := none }
def k1c1 : Code := { maxStack := 2, maxLocals := 3, code := method_2_code, exceptionTable := #[], attributes := #[] }
def k1m1 : Method := { name := "other", desc := "([ZII)Z", sig := { parameters := [(.array .boolean), .int, .int], returnType := some .boolean }, accessFlags := 10, code := some k1c1 }
def k1c2 : Code := { maxStack := 4, maxLocals := 4, code := method_3_code, exceptionTable := #[], attributes := #[] }
def k1m2 : Method := { name := "refFrom", desc := "([ZII)I", sig := { parameters := [(.array .boolean), .int, .int], returnType := some .int }, accessFlags := 10, code := some k1c2 }
def k1c3 : Code := { maxStack := 4, maxLocals := 3, code := method_4_code, exceptionTable := #[], attributes := #[] }
def k1m3 : Method := { name := "refTo", desc := "([ZII)I", sig := { parameters := [(.array .boolean), .int, .int], returnType := some .int }, accessFlags := 10, code := some k1c3 }
def k1c4 : Code := { maxStack := 4, maxLocals := 9, code := code, exceptionTable := #[], attributes := #[] }
def k1m4 : Method := { name := "law", desc := "(III)Z", sig := { parameters := [.int, .int, .int], returnType := some .boolean }, accessFlags := 9, code := some k1c4 }
/-- com/example/libprox/libprox/CpeTiedStopWordsPinLaw -/
def k1 : Class := { plain "com/example/libprox/libprox/CpeTiedStopWordsPinLaw" (some 0) with
  accessFlags := 49
  interfaces := #[]
  cf := some (fileOf pool1 8 #[] #[{ accessFlags := 1, nameIndex := 5, descriptorIndex := 6, attributes := #[] }, { accessFlags := 10, nameIndex := 11, descriptorIndex := 12, attributes := #[] }, { accessFlags := 10, nameIndex := 31, descriptorIndex := 32, attributes := #[] }, { accessFlags := 10, nameIndex := 35, descriptorIndex := 32, attributes := #[] }, { accessFlags := 9, nameIndex := 39, descriptorIndex := 40, attributes := #[] }] 49 2 #[] #[])
  fields := #[]
  methods := #[k1m0, k1m1, k1m2, k1m3, k1m4]
  instanceTypes := #[]
  staticTypes := #[]
  resolved := Array.replicate 49 none
  statics := none }

def pool2 : Array CpInfo := pool [(1, .class_ 2), (0, u "com/example/libprox/libprox/RankingModel"), (0, .class_ 4), (0, u "java/lang/Object"), (15, .class_ 21), (0, u "com/example/libprox/libprox/RankingModel$DocumentMatch"), (0, .class_ 23), (0, u "com/example/libprox/libprox/RankingModel$DocumentScorer"), (0, .class_ 25), (0, u "com/example/libprox/libprox/RankingModel$DocumentScorer$ScoreVisitor"), (0, .class_ 27), (0, u "com/example/libprox/libprox/RankingModel$Documents"), (0, .class_ 29), (0, u "com/example/libprox/libprox/RankingModel$Documents$Visitor"), (0, .class_ 31), (0, u "com/example/libprox/libprox/RankingModel$QueryTerm")] 7

/-- com/example/libprox/libprox/RankingModel -/
def k2 : Class := { plain "com/example/libprox/libprox/RankingModel" (some 0) with
  accessFlags := 1536
  interfaces := #[]
  cf := some (fileOf pool2 1 #[.nestMembers #[20, 22, 24, 26, 28, 30]] #[] 1536 3 #[] #[])
  fields := #[]
  methods := #[]
  instanceTypes := #[]
  staticTypes := #[]
  resolved := Array.replicate 39 none
  statics := none }

def pool3 : Array CpInfo := pool [(2, .class_ 4), (1, u "java/lang/Object"), (0, u "<init>"), (7, .class_ 15), (1, u "com/example/libprox/libprox/Cpe"), (0, u "kld"), (0, u "Lcom/example/libprox/libprox/Kld;"), (2, u "mu"), (0, u "D"), (2, u "stopWords"), (0, u "Z"), (24, .class_ 51), (0, u "com/example/libprox/libprox/Cpe$Scorer"), (2, u "tiedStopWords"), (0, u "([Z)Lcom/example/libprox/libprox/Combinations$Rule;"), (3, .methodref 60 61), (0, .class_ 62), (0, .nameAndType 63 64), (0, u "java/lang/Math"), (0, u "max"), (0, u "(II)I"), (0, .methodref 66 67), (0, .class_ 68), (0, .nameAndType 69 70), (0, u "java/util/Arrays"), (0, u "fill"), (0, u "([II)V"), (0, .class_ 72), (0, u "com/example/libprox/libprox/Cpe$1"), (0, .methodref 71 74), (0, .nameAndType 5 75), (0, u "([I[I)V"), (6, u "CLOSENESS"), (0, u "Lcom/example/libprox/libprox/Combinations$Weight;"), (0, .class_ 85), (0, u "com/example/libprox/libprox/RankingModel")] 57

def k3c0 : Code := { maxStack := 4, maxLocals := 6, code := prog_8_method_5_code, exceptionTable := #[], attributes := #[] }
def k3m0 : Method := { name := "tiedStopWords", desc := "([Z)Lcom/example/libprox/libprox/Combinations$Rule;", sig := { parameters := [(.array .boolean)], returnType := some (.object "com/example/libprox/libprox/Combinations$Rule") }, accessFlags := 8, code := some k3c0 }
/-- com/example/libprox/libprox/Cpe -/
def k3 : Class := { plain "com/example/libprox/libprox/Cpe" (some 0) with
  accessFlags := 32
  interfaces := #[2]
  cf := some (fileOf pool3 13 #[.nestMembers #[50, 71]] #[{ accessFlags := 8, nameIndex := 54, descriptorIndex := 55, attributes := #[] }] 32 2 #[84] #[{ accessFlags := 24, nameIndex := 82, descriptorIndex := 83, attributes := #[] }, { accessFlags := 18, nameIndex := 16, descriptorIndex := 17, attributes := #[] }, { accessFlags := 18, nameIndex := 20, descriptorIndex := 21, attributes := #[] }, { accessFlags := 18, nameIndex := 24, descriptorIndex := 25, attributes := #[] }])
  fields := #[{ name := "CLOSENESS", type := (.object "com/example/libprox/libprox/Combinations$Weight"), accessFlags := 24, slot := 0, constantValue := 0 }, { name := "kld", type := (.object "com/example/libprox/libprox/Kld"), accessFlags := 18, slot := 0, constantValue := 0 }, { name := "mu", type := .double, accessFlags := 18, slot := 1, constantValue := 0 }, { name := "stopWords", type := .boolean, accessFlags := 18, slot := 2, constantValue := 0 }]
  methods := #[k3m0]
  instanceTypes := #[(.object "com/example/libprox/libprox/Kld"), .double, .boolean]
  staticTypes := #[(.object "com/example/libprox/libprox/Combinations$Weight")]
  resolved := Array.replicate 143 none
  statics := none }

def pool4 : Array CpInfo := pool [(1, .class_ 2), (0, u "java/lang/Math"), (1, .class_ 6), (1, u "java/lang/Object"), (0, u "<init>"), (0, u "()V"), (89, .class_ 100), (1, u "java/lang/Math$RandomNumberGeneratorHolder"), (71, u "negativeZeroFloatBits"), (0, u "J"), (2, u "negativeZeroDoubleBits"), (21, u "max"), (46, u "$assertionsDisabled"), (0, u "Z"), (88, u "(II)I"), (2, u "twoToTheDoubleScaleDown"), (0, u "D"), (4, u "twoToTheDoubleScaleUp"), (9, u "E"), (3, u "PI"), (2, u "TAU"), (2, u "DEGREES_TO_RADIANS"), (0, u "RADIANS_TO_DEGREES")] 94

def k4m0 : Method := { name := "<init>", desc := "()V", sig := { parameters := [], returnType := none }, accessFlags := 2, code := none }
def k4c1 : Code := { maxStack := 2, maxLocals := 2, code := jdk_29_method_65_code, exceptionTable := #[], attributes := #[] }
def k4m1 : Method := { name := "max", desc := "(II)I", sig := { parameters := [.int, .int], returnType := some .int }, accessFlags := 9, code := some k4c1 }
/-- java/lang/Math -/
def k4 : Class := { plain "java/lang/Math" (some 0) with
  accessFlags := 49
  interfaces := #[]
  cf := some (fileOf pool4 1 #[.nestMembers #[98]] #[{ accessFlags := 2, nameIndex := 7, descriptorIndex := 8, attributes := #[] }, { accessFlags := 9, nameIndex := 198, descriptorIndex := 335, attributes := #[] }] 49 4 #[] #[{ accessFlags := 25, nameIndex := 354, descriptorIndex := 339, attributes := #[] }, { accessFlags := 25, nameIndex := 358, descriptorIndex := 339, attributes := #[] }, { accessFlags := 25, nameIndex := 361, descriptorIndex := 339, attributes := #[] }, { accessFlags := 26, nameIndex := 364, descriptorIndex := 339, attributes := #[] }, { accessFlags := 26, nameIndex := 365, descriptorIndex := 339, attributes := #[] }, { accessFlags := 26, nameIndex := 172, descriptorIndex := 173, attributes := #[] }, { accessFlags := 26, nameIndex := 176, descriptorIndex := 173, attributes := #[] }, { accessFlags := 8, nameIndex := 344, descriptorIndex := 339, attributes := #[] }, { accessFlags := 8, nameIndex := 338, descriptorIndex := 339, attributes := #[] }, { accessFlags := 4120, nameIndex := 245, descriptorIndex := 246, attributes := #[] }])
  fields := #[{ name := "E", type := .double, accessFlags := 25, slot := 0, constantValue := 0 }, { name := "PI", type := .double, accessFlags := 25, slot := 1, constantValue := 0 }, { name := "TAU", type := .double, accessFlags := 25, slot := 2, constantValue := 0 }, { name := "DEGREES_TO_RADIANS", type := .double, accessFlags := 26, slot := 3, constantValue := 0 }, { name := "RADIANS_TO_DEGREES", type := .double, accessFlags := 26, slot := 4, constantValue := 0 }, { name := "negativeZeroFloatBits", type := .long, accessFlags := 26, slot := 5, constantValue := 0 }, { name := "negativeZeroDoubleBits", type := .long, accessFlags := 26, slot := 6, constantValue := 0 }, { name := "twoToTheDoubleScaleUp", type := .double, accessFlags := 8, slot := 7, constantValue := 0 }, { name := "twoToTheDoubleScaleDown", type := .double, accessFlags := 8, slot := 8, constantValue := 0 }, { name := "$assertionsDisabled", type := .boolean, accessFlags := 4120, slot := 9, constantValue := 0 }]
  methods := #[k4m0, k4m1]
  instanceTypes := #[]
  staticTypes := #[.double, .double, .double, .double, .double, .long, .long, .double, .double, .boolean]
  resolved := Array.replicate 460 none
  statics := none }

def pool5 : Array CpInfo := pool [(1, .class_ 2), (0, u "com/example/libprox/libprox/Combinations$Rule"), (0, .class_ 4), (0, u "java/lang/Object"), (0, u "tiedFrom"), (0, u "(I)I"), (0, u "tiedTo"), (3, .class_ 12), (0, u "com/example/libprox/libprox/Combinations")] 2

def k5m0 : Method := { name := "tiedFrom", desc := "(I)I", sig := { parameters := [.int], returnType := some .int }, accessFlags := 1025, code := none }
def k5m1 : Method := { name := "tiedTo", desc := "(I)I", sig := { parameters := [.int], returnType := some .int }, accessFlags := 1025, code := none }
/-- com/example/libprox/libprox/Combinations$Rule -/
def k5 : Class := { plain "com/example/libprox/libprox/Combinations$Rule" (some 0) with
  accessFlags := 1536
  interfaces := #[]
  cf := some (fileOf pool5 1 #[.nestHost 11] #[{ accessFlags := 1025, nameIndex := 5, descriptorIndex := 6, attributes := #[] }, { accessFlags := 1025, nameIndex := 7, descriptorIndex := 6, attributes := #[] }] 1536 3 #[] #[])
  fields := #[]
  methods := #[k5m0, k5m1]
  instanceTypes := #[]
  staticTypes := #[]
  resolved := Array.replicate 15 none
  statics := none }

def pool6 : Array CpInfo := pool [(1, .fieldref 2 3), (0, .class_ 4), (0, .nameAndType 5 6), (0, u "com/example/libprox/libprox/Cpe$1"), (0, u "val$from"), (0, u "[I"), (0, .fieldref 2 8), (0, .nameAndType 9 6), (0, u "val$to"), (0, .methodref 11 12), (0, .class_ 13), (0, .nameAndType 14 15), (0, u "java/lang/Object"), (0, u "<init>"), (0, u "()V"), (0, .class_ 17), (0, u "com/example/libprox/libprox/Combinations$Rule"), (0, u "([I[I)V"), (3, u "tiedFrom"), (0, u "(I)I"), (0, u "tiedTo"), (3, .class_ 29), (0, u "com/example/libprox/libprox/Cpe")] 8

def k6c0 : Code := { maxStack := 2, maxLocals := 3, code := prog_9_method_1_code, exceptionTable := #[], attributes := #[] }
def k6m0 : Method := { name := "<init>", desc := "([I[I)V", sig := { parameters := [(.array .int), (.array .int)], returnType := none }, accessFlags := 0, code := some k6c0 }
def k6c1 : Code := { maxStack := 2, maxLocals := 2, code := prog_9_method_2_code, exceptionTable := #[], attributes := #[] }
def k6m1 : Method := { name := "tiedFrom", desc := "(I)I", sig := { parameters := [.int], returnType := some .int }, accessFlags := 1, code := some k6c1 }
def k6c2 : Code := { maxStack := 2, maxLocals := 2, code := prog_9_method_3_code, exceptionTable := #[], attributes := #[] }
def k6m2 : Method := { name := "tiedTo", desc := "(I)I", sig := { parameters := [.int], returnType := some .int }, accessFlags := 1, code := some k6c2 }
/-- com/example/libprox/libprox/Cpe$1 -/
def k6 : Class := { plain "com/example/libprox/libprox/Cpe$1" (some 0) with
  accessFlags := 32
  interfaces := #[5]
  cf := some (fileOf pool6 2 #[.nestHost 28] #[{ accessFlags := 0, nameIndex := 14, descriptorIndex := 18, attributes := #[] }, { accessFlags := 1, nameIndex := 22, descriptorIndex := 23, attributes := #[] }, { accessFlags := 1, nameIndex := 24, descriptorIndex := 23, attributes := #[] }] 32 11 #[16] #[{ accessFlags := 4112, nameIndex := 5, descriptorIndex := 6, attributes := #[] }, { accessFlags := 4112, nameIndex := 9, descriptorIndex := 6, attributes := #[] }])
  fields := #[{ name := "val$from", type := (.array .int), accessFlags := 4112, slot := 0, constantValue := 0 }, { name := "val$to", type := (.array .int), accessFlags := 4112, slot := 1, constantValue := 0 }]
  methods := #[k6m0, k6m1, k6m2]
  instanceTypes := #[(.array .int), (.array .int)]
  staticTypes := #[]
  resolved := Array.replicate 38 none
  statics := none }

def pool7 : Array CpInfo := pool [(2, .class_ 4), (1, u "java/lang/Object"), (0, u "<init>"), (0, u "()V"), (7, .class_ 16), (1, u "java/util/Arrays"), (57, .class_ 76), (1, u "java/util/Arrays$NaturalOrder"), (36, .class_ 115), (1, u "java/util/Arrays$LegacyMergeSort"), (1, u "Z"), (257, .class_ 376), (0, u "java/util/Arrays$ArrayList"), (68, u "$assertionsDisabled"), (269, u "MIN_ARRAY_SORT_GRAN"), (0, u "I"), (2, u "INSERTIONSORT_THRESHOLD"), (120, u "fill"), (4, u "([II)V"), (129, .class_ 976), (0, u "java/util/Arrays$ArrayItr")] 52

def k7m0 : Method := { name := "<init>", desc := "()V", sig := { parameters := [], returnType := none }, accessFlags := 2, code := none }
def k7c1 : Code := { maxStack := 3, maxLocals := 4, code := jdk_65_method_103_code, exceptionTable := #[], attributes := #[] }
def k7m1 : Method := { name := "fill", desc := "([II)V", sig := { parameters := [(.array .int), .int], returnType := none }, accessFlags := 9, code := some k7c1 }
/-- java/util/Arrays -/
def k7 : Class := { plain "java/util/Arrays" (some 0) with
  accessFlags := 49
  interfaces := #[]
  cf := some (fileOf pool7 14 #[.nestMembers #[975, 375, 113, 74]] #[{ accessFlags := 2, nameIndex := 5, descriptorIndex := 6, attributes := #[] }, { accessFlags := 9, nameIndex := 840, descriptorIndex := 845, attributes := #[] }] 49 2 #[] #[{ accessFlags := 26, nameIndex := 715, descriptorIndex := 716, attributes := #[] }, { accessFlags := 26, nameIndex := 719, descriptorIndex := 716, attributes := #[] }, { accessFlags := 4120, nameIndex := 445, descriptorIndex := 117, attributes := #[] }])
  fields := #[{ name := "MIN_ARRAY_SORT_GRAN", type := .int, accessFlags := 26, slot := 0, constantValue := 0 }, { name := "INSERTIONSORT_THRESHOLD", type := .int, accessFlags := 26, slot := 1, constantValue := 0 }, { name := "$assertionsDisabled", type := .boolean, accessFlags := 4120, slot := 2, constantValue := 0 }]
  methods := #[k7m0, k7m1]
  instanceTypes := #[]
  staticTypes := #[.int, .int, .boolean]
  resolved := Array.replicate 1029 none
  statics := none }

def pool8 : Array CpInfo := pool [(1, u "java/lang/Cloneable"), (0, .class_ 1), (0, u "java/lang/Object"), (0, .class_ 3)] 3

/-- java/lang/Cloneable -/
def k8 : Class := { plain "java/lang/Cloneable" (some 0) with
  accessFlags := 1537
  interfaces := #[]
  cf := some (fileOf pool8 2 #[] #[] 1537 4 #[] #[])
  fields := #[]
  methods := #[]
  instanceTypes := #[]
  staticTypes := #[]
  resolved := Array.replicate 8 none
  statics := none }

def pool9 : Array CpInfo := pool [(1, u "java/io/Serializable"), (0, .class_ 1), (0, u "java/lang/Object"), (0, .class_ 3)] 3

/-- java/io/Serializable -/
def k9 : Class := { plain "java/io/Serializable" (some 0) with
  accessFlags := 1537
  interfaces := #[]
  cf := some (fileOf pool9 2 #[] #[] 1537 4 #[] #[])
  fields := #[]
  methods := #[]
  instanceTypes := #[]
  staticTypes := #[]
  resolved := Array.replicate 8 none
  statics := none }

/-- the primitive boolean -/
def k10 : Class := { plain "boolean" none with kind := .primitive 'Z', accessFlags := 0x411 }
/-- [Z -/
def k11 : Class := { plain "[Z" (some 0) with kind := .array 10 .boolean, interfaces := #[8, 9], accessFlags := 1041 }

/-- the primitive byte -/
def k12 : Class := { plain "byte" none with kind := .primitive 'B', accessFlags := 0x411 }
/-- [B -/
def k13 : Class := { plain "[B" (some 0) with kind := .array 12 .byte, interfaces := #[8, 9], accessFlags := 1041 }

/-- the primitive int -/
def k14 : Class := { plain "int" none with kind := .primitive 'I', accessFlags := 0x411 }
/-- [I -/
def k15 : Class := { plain "[I" (some 0) with kind := .array 14 .int, interfaces := #[8, 9], accessFlags := 1041 }

def heap : Heap := #[]
def classes : Array Class := #[k0, k1, k2, k3, k4, k5, k6, k7, k8, k9, k10, k11, k12, k13, k14, k15]
def interned : List (Array UInt16 × Addr) := []
def slotsUsed : Nat := 0
def theMethod : MethodId := ⟨1, 4⟩
def args0 : Array Value := #[.int 5, .int 3, .int 1]
def aboutOver (below : List Frame) : State where
  vm := { classes := classes, interned := interned.toArray }
  heap := heap
  slotsUsed := slotsUsed
  threads := #[{ frames := .invoking theMethod args0 :: below }]
def below0 : List Frame := [.native { method := ⟨0, 0⟩, args := #[] }]
def about1 : State := aboutOver below0
def p0 : Program := .bare "" "" ""
def e0 : Env := launch0.env 0 0 0
theorem w_frames : about1.frames = Frame.invoking theMethod args0 :: below0 := rfl
set_option maxRecDepth 65536 in
theorem w_args : argsFit about1.vm theMethod args0 = true := by decide +kernel
set_option maxRecDepth 65536 in
theorem w_heap : heapFits about1 = true := by decide +kernel
set_option maxRecDepth 65536 in
theorem w_runnable : about1.curStatus? = some .runnable := by decide +kernel
set_option maxRecDepth 65536 in
theorem w_alone : about1.alone = true := by decide +kernel
set_option maxRecDepth 65536 in
theorem w_named : about1.methodNamed? x = some theMethod := by decide +kernel
set_option maxRecDepth 65536 in
theorem w_hears : about1.hears theMethod below0 = true := by decide +kernel
set_option maxRecDepth 65536 in
theorem w_ripe : about1.ripe theMethod args0 below0 = true := by decide +kernel
theorem w_running : about1.status = .running := rfl
set_option maxRecDepth 65536 in
theorem w_room : about1.hasRoom e0.platform room_1 = true :=
  launch0.hasRoom_least _ room_1 (by decide +kernel) (by decide +kernel) (by decide +kernel) (by decide +kernel) (by decide +kernel) (by decide +kernel)
theorem allAtoms_all (ts : List Jvm.Cond) (a : Array Jvm.Value) (st : Jvm.State) : (allAtoms ts).before a st = ts.all (fun c => c.before a st) := by
  induction ts with
  | nil => rfl
  | cons c t ih =>
    show (Jvm.Cond.and c (allAtoms t)).before a st = _
    rw [Jvm.Cond.before_and, ih, List.all_cons]
def words1 : List Jvm.Cond := Jvm.Cond.code x code maxLocals ret :: tables_1
/-- a 'code' word, met by the world's own term for the bytes: nothing is compared byte by byte -/
theorem code_word {y : MethodName} {bytes : ByteArray} {mx : Nat} {rt : Option FieldType} {a : Array Value} {s : State} {m : MethodId} {meth : Method} {c : Code} (h1 : s.methodNamed? y = some m) (h2 : s.vm.method? m = some meth) (h3 : meth.code = some c) (h4 : c.code = bytes)
    (h5 : (c.maxLocals == mx && c.exceptionTable.isEmpty && decide (c.maxStack ≤ mostOperands) && decide (meth.sig.returnType = rt) && !meth.locks && decide (parseMethodDescriptor y.desc = some meth.sig)) = true) : (Jvm.Cond.code y bytes mx rt).before a s = true := by
  simp only [Bool.and_eq_true, beq_iff_eq, Bool.not_eq_true', decide_eq_true_eq] at h5
  obtain ⟨⟨⟨⟨⟨g1, g2⟩, g3⟩, g4⟩, g5⟩, g6⟩ := h5
  simp [Cond.before, Cond.holds, Cond.value, h1, h2, h3, h4, g1, g2, g3, g4, g5, g6]
def isCode : Jvm.Cond → Bool
  | .code _ _ _ _ => true
  | _ => false
theorem all_split {L : List Jvm.Cond} {P : Jvm.Cond → Bool} (h1 : L.all (fun c => isCode c || P c) = true) (h2 : ∀ c ∈ L.filter isCode, P c = true) : L.all P = true := by
  refine List.all_eq_true.mpr fun c hc => ?_
  have h := List.all_eq_true.mp h1 c hc
  rcases Bool.eq_false_or_eq_true (isCode c) with hi | hi
  · exact h2 c (List.mem_filter.mpr ⟨hc, hi⟩)
  · simpa [hi] using h
set_option maxRecDepth 65536 in
theorem w_c0 : (Jvm.Cond.code x code maxLocals ret).before args0 about1 = true := code_word (m := ⟨1, 4⟩) (meth := k1m4) (c := k1c4) (by decide +kernel) rfl rfl rfl (by decide +kernel)
set_option maxRecDepth 65536 in
theorem w_c1 : (Jvm.Cond.code ({ cls := "com/example/libprox/libprox/Cpe", name := "tiedStopWords", desc := "([Z)Lcom/example/libprox/libprox/Combinations$Rule;" } : Jvm.MethodName) prog_8_method_5_code (6 : Nat) (Option.some (Jvm.ClassFile.FieldType.object "com/example/libprox/libprox/Combinations$Rule"))).before args0 about1 = true := code_word (m := ⟨3, 0⟩) (meth := k3m0) (c := k3c0) (by decide +kernel) rfl rfl rfl (by decide +kernel)
set_option maxRecDepth 65536 in
theorem w_c2 : (Jvm.Cond.code ({ cls := "java/lang/Math", name := "max", desc := "(II)I" } : Jvm.MethodName) jdk_29_method_65_code (2 : Nat) (Option.some Jvm.ClassFile.FieldType.int)).before args0 about1 = true := code_word (m := ⟨4, 1⟩) (meth := k4m1) (c := k4c1) (by decide +kernel) rfl rfl rfl (by decide +kernel)
set_option maxRecDepth 65536 in
theorem w_c3 : (Jvm.Cond.code ({ cls := "com/example/libprox/libprox/Cpe$1", name := "<init>", desc := "([I[I)V" } : Jvm.MethodName) prog_9_method_1_code (3 : Nat) (Option.none : Option Jvm.ClassFile.FieldType)).before args0 about1 = true := code_word (m := ⟨6, 0⟩) (meth := k6m0) (c := k6c0) (by decide +kernel) rfl rfl rfl (by decide +kernel)
set_option maxRecDepth 65536 in
theorem w_c4 : (Jvm.Cond.code ({ cls := "java/lang/Object", name := "<init>", desc := "()V" } : Jvm.MethodName) object_method_1_code (1 : Nat) (Option.none : Option Jvm.ClassFile.FieldType)).before args0 about1 = true := code_word (m := ⟨0, 0⟩) (meth := k0m0) (c := k0c0) (by decide +kernel) rfl rfl rfl (by decide +kernel)
set_option maxRecDepth 65536 in
theorem w_c5 : (Jvm.Cond.code ({ cls := "com/example/libprox/libprox/Cpe$1", name := "tiedFrom", desc := "(I)I" } : Jvm.MethodName) prog_9_method_2_code (2 : Nat) (Option.some Jvm.ClassFile.FieldType.int)).before args0 about1 = true := code_word (m := ⟨6, 1⟩) (meth := k6m1) (c := k6c1) (by decide +kernel) rfl rfl rfl (by decide +kernel)
set_option maxRecDepth 65536 in
theorem w_c6 : (Jvm.Cond.code ({ cls := "com/example/libprox/libprox/Cpe$1", name := "tiedTo", desc := "(I)I" } : Jvm.MethodName) prog_9_method_3_code (2 : Nat) (Option.some Jvm.ClassFile.FieldType.int)).before args0 about1 = true := code_word (m := ⟨6, 2⟩) (meth := k6m2) (c := k6c2) (by decide +kernel) rfl rfl rfl (by decide +kernel)
set_option maxRecDepth 65536 in
theorem w_c7 : (Jvm.Cond.code ({ cls := "com/example/libprox/libprox/CpeTiedStopWordsPinLaw", name := "refFrom", desc := "([ZII)I" } : Jvm.MethodName) method_3_code (4 : Nat) (Option.some Jvm.ClassFile.FieldType.int)).before args0 about1 = true := code_word (m := ⟨1, 2⟩) (meth := k1m2) (c := k1c2) (by decide +kernel) rfl rfl rfl (by decide +kernel)
set_option maxRecDepth 65536 in
theorem w_c8 : (Jvm.Cond.code ({ cls := "com/example/libprox/libprox/CpeTiedStopWordsPinLaw", name := "other", desc := "([ZII)Z" } : Jvm.MethodName) method_2_code (3 : Nat) (Option.some Jvm.ClassFile.FieldType.boolean)).before args0 about1 = true := code_word (m := ⟨1, 1⟩) (meth := k1m1) (c := k1c1) (by decide +kernel) rfl rfl rfl (by decide +kernel)
set_option maxRecDepth 65536 in
theorem w_c9 : (Jvm.Cond.code ({ cls := "com/example/libprox/libprox/CpeTiedStopWordsPinLaw", name := "refTo", desc := "([ZII)I" } : Jvm.MethodName) method_4_code (3 : Nat) (Option.some Jvm.ClassFile.FieldType.int)).before args0 about1 = true := code_word (m := ⟨1, 3⟩) (meth := k1m3) (c := k1c3) (by decide +kernel) rfl rfl rfl (by decide +kernel)
set_option maxRecDepth 65536 in
theorem w_c10 : (Jvm.Cond.code ({ cls := "java/util/Arrays", name := "fill", desc := "([II)V" } : Jvm.MethodName) jdk_65_method_103_code (4 : Nat) (Option.none : Option Jvm.ClassFile.FieldType)).before args0 about1 = true := code_word (m := ⟨7, 1⟩) (meth := k7m1) (c := k7c1) (by decide +kernel) rfl rfl rfl (by decide +kernel)
def codes1 : List Jvm.Cond := [Jvm.Cond.code x code maxLocals ret, Jvm.Cond.code ({ cls := "com/example/libprox/libprox/Cpe", name := "tiedStopWords", desc := "([Z)Lcom/example/libprox/libprox/Combinations$Rule;" } : Jvm.MethodName) prog_8_method_5_code (6 : Nat) (Option.some (Jvm.ClassFile.FieldType.object "com/example/libprox/libprox/Combinations$Rule")), Jvm.Cond.code ({ cls := "java/lang/Math", name := "max", desc := "(II)I" } : Jvm.MethodName) jdk_29_method_65_code (2 : Nat) (Option.some Jvm.ClassFile.FieldType.int), Jvm.Cond.code ({ cls := "com/example/libprox/libprox/Cpe$1", name := "<init>", desc := "([I[I)V" } : Jvm.MethodName) prog_9_method_1_code (3 : Nat) (Option.none : Option Jvm.ClassFile.FieldType), Jvm.Cond.code ({ cls := "java/lang/Object", name := "<init>", desc := "()V" } : Jvm.MethodName) object_method_1_code (1 : Nat) (Option.none : Option Jvm.ClassFile.FieldType), Jvm.Cond.code ({ cls := "com/example/libprox/libprox/Cpe$1", name := "tiedFrom", desc := "(I)I" } : Jvm.MethodName) prog_9_method_2_code (2 : Nat) (Option.some Jvm.ClassFile.FieldType.int), Jvm.Cond.code ({ cls := "com/example/libprox/libprox/Cpe$1", name := "tiedTo", desc := "(I)I" } : Jvm.MethodName) prog_9_method_3_code (2 : Nat) (Option.some Jvm.ClassFile.FieldType.int), Jvm.Cond.code ({ cls := "com/example/libprox/libprox/CpeTiedStopWordsPinLaw", name := "refFrom", desc := "([ZII)I" } : Jvm.MethodName) method_3_code (4 : Nat) (Option.some Jvm.ClassFile.FieldType.int), Jvm.Cond.code ({ cls := "com/example/libprox/libprox/CpeTiedStopWordsPinLaw", name := "other", desc := "([ZII)Z" } : Jvm.MethodName) method_2_code (3 : Nat) (Option.some Jvm.ClassFile.FieldType.boolean), Jvm.Cond.code ({ cls := "com/example/libprox/libprox/CpeTiedStopWordsPinLaw", name := "refTo", desc := "([ZII)I" } : Jvm.MethodName) method_4_code (3 : Nat) (Option.some Jvm.ClassFile.FieldType.int), Jvm.Cond.code ({ cls := "java/util/Arrays", name := "fill", desc := "([II)V" } : Jvm.MethodName) jdk_65_method_103_code (4 : Nat) (Option.none : Option Jvm.ClassFile.FieldType)]
set_option maxRecDepth 65536 in
theorem codes_eq : words1.filter isCode = codes1 := rfl
theorem w_codes : ∀ c ∈ words1.filter isCode, c.before args0 about1 = true := by
  rw [codes_eq]
  intro c hc
  simp only [codes1, List.mem_cons, List.not_mem_nil, or_false] at hc
  rcases hc with rfl | rfl | rfl | rfl | rfl | rfl | rfl | rfl | rfl | rfl | rfl
  · exact w_c0
  · exact w_c1
  · exact w_c2
  · exact w_c3
  · exact w_c4
  · exact w_c5
  · exact w_c6
  · exact w_c7
  · exact w_c8
  · exact w_c9
  · exact w_c10
set_option maxRecDepth 65536 in
theorem w_t1 : (words1.take 24).all (fun c => isCode c || c.before args0 about1) = true := by decide +kernel
set_option maxRecDepth 65536 in
theorem w_t2 : ((words1.drop 24).take 24).all (fun c => isCode c || c.before args0 about1) = true := by decide +kernel
set_option maxRecDepth 65536 in
theorem w_t3 : ((words1.drop 24).drop 24).all (fun c => isCode c || c.before args0 about1) = true := by decide +kernel
theorem w_tables : (allAtoms (Jvm.Cond.code x code maxLocals ret :: tables_1)).before args0 about1 = true := by
  rw [allAtoms_all]
  show words1.all (fun c => c.before args0 about1) = true
  refine all_split ?_ w_codes
  rw [← List.take_append_drop 24 words1, List.all_append, w_t1, ← List.take_append_drop 24 (words1.drop 24), List.all_append, w_t2, w_t3]
  rfl
set_option maxRecDepth 65536 in
theorem w_case : (Jvm.Cond.and given_1 narrow_1).before args0 about1 = true := by decide +kernel
theorem w_applies : (headSpec (Jvm.Cond.code x code maxLocals ret :: tables_1) room_1).applies x e0.platform about1 = true :=
  (Spec.applies_iff w_frames).mpr ⟨w_running, w_runnable, w_alone, w_named, w_hears, w_ripe, w_room, w_tables⟩
theorem atStart : AtStart classFile x code maxLocals ret World_1 tables_1 room_1 Calls_1 rest_1 Pre_1 launch0 p0 e0 about1 theMethod args0 below0 :=
  ⟨lists_1, trivial, launch0.admits_env _ _ _, launch0.least_env, fairChoices_fair.cas, fairChoices_fair.clock, w_frames, w_args, w_heap, w_applies, trivial, trivial, w_case⟩
end start1
theorem witness_1 : WitnessClaimed_1 := ⟨start1.p0, start1.e0, start1.about1, start1.theMethod, start1.args0, start1.below0, start1.atStart⟩
end Jvm.Pilot.@@N@@
