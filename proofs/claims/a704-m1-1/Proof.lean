import JvmDerived
import JvmDerived.Pilot.@@N@@Statement
import JvmDerived.Pilot.@@N@@Code
set_option linter.unusedVariables false
set_option linter.unusedSimpArgs false
namespace Jvm.RoadKit
open Sem ClassFile Op Lib Jvm.Stand Jvm.Free Jvm.LawKit
section New
variable {p : Program} {l : Launch} {e : Env} {R : Room} {s : State} {m : MethodId} {args : Array Value} {below : List Frame} {meth : Method} {c : Code} {T : State} {locs : List Loc} {cells slots : Nat}
theorem retI (X : Stand p l e R s m args below meth c T locs cells slots) (hx : p.tables.exec = Jvm.exec) {pc : Nat} {Ls : Array Slot} {z : Int32} {rest : List Value} (hret : meth.sig.returnType = some .int) (hd : decode c.code pc = .ok (.ireturn, 1)) {fs : List Frame}
    (hl : ∀ (f : JFrame) (acts : List Action), f.method = m → f.locked = none → f.entered = [] → (doReturn e (T.setTop f) acts (some (.int z))).1 = T.setFrames fs) : Steps p.tables e below (T.setTop (mkF m pc Ls (.int z :: rest))) (T.setFrames fs) := by
  have hm' : T.vm.method? m = some meth := X.method'
  have hn : narrow .int (.int z) = .int z := rfl
  show Steps p.tables e below (T.setTop { method := m, pc := pc, locals := Ls, stack := _ :: rest, locked := none }) _
  jvm_step X.here [X.here.top, hx, hd, hm', hret, hn]
  first | (intro acts; rw [hl _ acts rfl rfl rfl]) | rw [hl _ _ rfl rfl rfl]
  exact Steps.refl _
end New
end Jvm.RoadKit
namespace Jvm.Pilot.@@N@@
open Jvm Jvm.ClassFile Sem Op Lib Jvm.Free Jvm.Stand Jvm.LawKit Jvm.RoadKit Bundle Jvm.Pilot.@@N@@.Jvm.D
theorem own_k0 : (0 : Int32).toInt = 0 := rfl
theorem own_k1 : (1 : Int32).toInt = 1 := rfl
theorem own_k2 : (2 : Int32).toInt = 2 := rfl
theorem own_k3 : (3 : Int32).toInt = 3 := rfl
theorem own_k4 : (4 : Int32).toInt = 4 := rfl
theorem own_mod5 (p : Int32) : ((p &&& (2147483647 : Int32)) % (5 : Int32)) = (0 : Int32) ∨ ((p &&& (2147483647 : Int32)) % (5 : Int32)) = (1 : Int32) ∨ ((p &&& (2147483647 : Int32)) % (5 : Int32)) = (2 : Int32) ∨ ((p &&& (2147483647 : Int32)) % (5 : Int32)) = (3 : Int32) ∨ ((p &&& (2147483647 : Int32)) % (5 : Int32)) = (4 : Int32) := by
  have h1 := c_mask p 2147483647 31 (by decide) (by decide)
  have h2 := (c_irem (p &&& 2147483647) 5 5 rfl).1 (by omega)
  simp only [← Int32.toInt_inj, own_k0, own_k1, own_k2, own_k3, own_k4]
  omega
def own_be (a b c d : Int32) : Int32 := (((((a &&& (255 : Int32)) <<< ((24 : Int32) &&& 31)) ||| ((b &&& (255 : Int32)) <<< ((16 : Int32) &&& 31))) ||| ((c &&& (255 : Int32)) <<< ((8 : Int32) &&& 31))) ||| (d &&& (255 : Int32)))
theorem own_be_ok (v : Int32) : own_be ((((v.toUInt32 >>> ((24 : Int32) &&& 31).toUInt32).toInt32).toInt8.toInt32).toInt8.toInt32) ((((v.toUInt32 >>> ((16 : Int32) &&& 31).toUInt32).toInt32).toInt8.toInt32).toInt8.toInt32) ((((v.toUInt32 >>> ((8 : Int32) &&& 31).toUInt32).toInt32).toInt8.toInt32).toInt8.toInt32) ((v.toInt8.toInt32).toInt8.toInt32) = v := by
  have a1 := c_iushr v 24 24 (by decide) (by decide)
  have b1 := c_iushr v 16 16 (by decide) (by decide)
  have d1 := c_iushr v 8 8 (by decide) (by decide)
  have r := rng32 v
  unfold own_be
  generalize (v.toUInt32 >>> ((24 : Int32) &&& 31).toUInt32).toInt32 = A at *
  generalize (v.toUInt32 >>> ((16 : Int32) &&& 31).toUInt32).toInt32 = B at *
  generalize (v.toUInt32 >>> ((8 : Int32) &&& 31).toUInt32).toInt32 = C at *
  have a2 := c_i2b A
  have b2 := c_i2b B
  have d2 := c_i2b C
  have v2 := c_i2b v
  generalize A.toInt8.toInt32 = A1 at *
  generalize B.toInt8.toInt32 = B1 at *
  generalize C.toInt8.toInt32 = C1 at *
  generalize v.toInt8.toInt32 = V1 at *
  have a3 := c_i2b A1
  have b3 := c_i2b B1
  have d3 := c_i2b C1
  have v3 := c_i2b V1
  generalize A1.toInt8.toInt32 = A2 at *
  generalize B1.toInt8.toInt32 = B2 at *
  generalize C1.toInt8.toInt32 = C2 at *
  generalize V1.toInt8.toInt32 = V2 at *
  have a4 := c_mask A2 255 8 (by decide) (by decide)
  have b4 := c_mask B2 255 8 (by decide) (by decide)
  have d4 := c_mask C2 255 8 (by decide) (by decide)
  have v4 := c_mask V2 255 8 (by decide) (by decide)
  generalize A2 &&& 255 = A3 at *
  generalize B2 &&& 255 = B3 at *
  generalize C2 &&& 255 = C3 at *
  generalize V2 &&& 255 = V3 at *
  have a5 := c_ishl A3 24 24 (by decide)
  have b5 := c_ishl B3 16 16 (by decide)
  have d5 := c_ishl C3 8 8 (by decide)
  generalize A3 <<< ((24 : Int32) &&& 31) = A4 at *
  generalize B3 <<< ((16 : Int32) &&& 31) = B4 at *
  generalize C3 <<< ((8 : Int32) &&& 31) = C4 at *
  have ra := rng32 A4
  have rb := rng32 B4
  have rd := rng32 C4
  have o1 := c_or A4 B4 24 (by decide) 16777216 rfl (by omega) (by omega) (by omega)
  have r1 := rng32 (A4 ||| B4)
  generalize A4 ||| B4 = D1 at *
  have o2 := c_or D1 C4 16 (by decide) 65536 rfl (by omega) (by omega) (by omega)
  have r2 := rng32 (D1 ||| C4)
  generalize D1 ||| C4 = D2 at *
  have o3 := c_or D2 V3 8 (by decide) 256 rfl (by omega) (by omega) (by omega)
  have r3 := rng32 (D2 ||| V3)
  generalize D2 ||| V3 = D3 at *
  apply Int32.toInt_inj.mp
  omega
theorem d1_0 : decode prog_14_method_17_code 0 = .ok (.aload_n 0, 1) := by decide +kernel
theorem d1_1 : decode prog_14_method_17_code 1 = .ok (.iload_n 1, 1) := by decide +kernel
theorem d1_2 : decode prog_14_method_17_code 2 = .ok (.baload, 1) := by decide +kernel
theorem d1_3 : decode prog_14_method_17_code 3 = .ok (.sipush 255, 3) := by decide +kernel
theorem d1_6 : decode prog_14_method_17_code 6 = .ok (.iand, 1) := by decide +kernel
theorem d1_7 : decode prog_14_method_17_code 7 = .ok (.bipush 24, 2) := by decide +kernel
theorem d1_9 : decode prog_14_method_17_code 9 = .ok (.ishl, 1) := by decide +kernel
theorem d1_10 : decode prog_14_method_17_code 10 = .ok (.aload_n 0, 1) := by decide +kernel
theorem d1_11 : decode prog_14_method_17_code 11 = .ok (.iload_n 1, 1) := by decide +kernel
theorem d1_12 : decode prog_14_method_17_code 12 = .ok (.iconst 1, 1) := by decide +kernel
theorem d1_13 : decode prog_14_method_17_code 13 = .ok (.iadd, 1) := by decide +kernel
theorem d1_14 : decode prog_14_method_17_code 14 = .ok (.baload, 1) := by decide +kernel
theorem d1_15 : decode prog_14_method_17_code 15 = .ok (.sipush 255, 3) := by decide +kernel
theorem d1_18 : decode prog_14_method_17_code 18 = .ok (.iand, 1) := by decide +kernel
theorem d1_19 : decode prog_14_method_17_code 19 = .ok (.bipush 16, 2) := by decide +kernel
theorem d1_21 : decode prog_14_method_17_code 21 = .ok (.ishl, 1) := by decide +kernel
theorem d1_22 : decode prog_14_method_17_code 22 = .ok (.ior, 1) := by decide +kernel
theorem d1_23 : decode prog_14_method_17_code 23 = .ok (.aload_n 0, 1) := by decide +kernel
theorem d1_24 : decode prog_14_method_17_code 24 = .ok (.iload_n 1, 1) := by decide +kernel
theorem d1_25 : decode prog_14_method_17_code 25 = .ok (.iconst 2, 1) := by decide +kernel
theorem d1_26 : decode prog_14_method_17_code 26 = .ok (.iadd, 1) := by decide +kernel
theorem d1_27 : decode prog_14_method_17_code 27 = .ok (.baload, 1) := by decide +kernel
theorem d1_28 : decode prog_14_method_17_code 28 = .ok (.sipush 255, 3) := by decide +kernel
theorem d1_31 : decode prog_14_method_17_code 31 = .ok (.iand, 1) := by decide +kernel
theorem d1_32 : decode prog_14_method_17_code 32 = .ok (.bipush 8, 2) := by decide +kernel
theorem d1_34 : decode prog_14_method_17_code 34 = .ok (.ishl, 1) := by decide +kernel
theorem d1_35 : decode prog_14_method_17_code 35 = .ok (.ior, 1) := by decide +kernel
theorem d1_36 : decode prog_14_method_17_code 36 = .ok (.aload_n 0, 1) := by decide +kernel
theorem d1_37 : decode prog_14_method_17_code 37 = .ok (.iload_n 1, 1) := by decide +kernel
theorem d1_38 : decode prog_14_method_17_code 38 = .ok (.iconst 3, 1) := by decide +kernel
theorem d1_39 : decode prog_14_method_17_code 39 = .ok (.iadd, 1) := by decide +kernel
theorem d1_40 : decode prog_14_method_17_code 40 = .ok (.baload, 1) := by decide +kernel
theorem d1_41 : decode prog_14_method_17_code 41 = .ok (.sipush 255, 3) := by decide +kernel
theorem d1_44 : decode prog_14_method_17_code 44 = .ok (.iand, 1) := by decide +kernel
theorem d1_45 : decode prog_14_method_17_code 45 = .ok (.ior, 1) := by decide +kernel
theorem d1_46 : decode prog_14_method_17_code 46 = .ok (.ireturn, 1) := by decide +kernel
theorem pn_1 : plainName "com/example/strikewire/strikewire/engine/JournalReader" = true := by first | (simp [plainName, overriddenIn]; done) | decide +kernel
theorem ef_rm1_0 (m : MethodId) (p0 : Addr) : entryFrame m #[(.ref p0), (.int (0 : Int32))] 2 = mkF m 0 #[.val (.ref p0), .val (.int (0 : Int32))] [] := by first | (simp [entryFrame, mkF, argsToLocals, Value.category]; done) | rfl
def Q1_0 (Z : State) (p0 : Addr) (ka : ClassId) (ee0 : Int32) (ee1 : Int32) (ee2 : Int32) (ee3 : Int32) (ee4 : Int32) (ee5 : Int32) (ee6 : Int32) (ee7 : Int32) (h0 : Heap) (n0 : Nat) (v : Option Value) (h : Heap) (L : List Loc) : Prop := v = some (.int (own_be ee0 ee1 ee2 ee3)) ∧ Fr n0 L ∧ h = h0
set_option maxRecDepth 65536 in
set_option maxHeartbeats 40000000 in
theorem rm1_0 (l : Launch) (Z : State) (a0 : Array Value) (hw : ∀ d ∈ tables_1, d.before a0 Z = true) (ws : List Jvm.Cond) (p0 : Addr) (ka : ClassId) (ee0 : Int32) (ee1 : Int32) (ee2 : Int32) (ee3 : Int32) (ee4 : Int32) (ee5 : Int32) (ee6 : Int32) (ee7 : Int32) (h0 : Heap) (n0 : Nat) (O0 : Old Z n0 h0) (F0_ : Arv Z h0 p0 ka .byte (8 : Int32) [(.int ee0), (.int ee1), (.int ee2), (.int ee3), (.int ee4), (.int ee5), (.int ee6), (.int ee7)] (.int (0 : Int32))) :
    MetFree l (⟨"com/example/strikewire/strikewire/engine/JournalReader", "intAt", "([BI)I"⟩ : MethodName) (head1 (Jvm.Cond.code (⟨"com/example/strikewire/strikewire/engine/JournalReader", "intAt", "([BI)I"⟩ : MethodName) prog_14_method_17_code 2 (some .int) :: ws) ({ frames := 0, cells := 0, slots := 0, locals := 0 } : Room)) (fun a U => a = #[(.ref p0), (.int (0 : Int32))] ∧ Z.Warmed39 U.vm ∧ U.heap = h0) (fun _ _ _ _ _ => True) (fun _ U o U' => ∃ v L, o = .returned v ∧ Q1_0 Z p0 ka ee0 ee1 ee2 ee3 ee4 ee5 ee6 ee7 h0 n0 v U'.heap L ∧ FrameEnd U o U' L ({ frames := 0, cells := 0, slots := 0, locals := 0 } : Room).cells ({ frames := 0, cells := 0, slots := 0, locals := 0 } : Room).slots) := by
  refine MetFree.of_bodySF (plainFor_of_name pn_1) hisR ?_
  intro p e s m args below meth c s₁ Bd hml0 hP hK
  obtain ⟨rfl, hZ, hh⟩ := hP
  have hx := Bd.exec
  have hby := Bd.bytes
  have hml : c.maxLocals = 2 := hml0
  have hown : s.vm.findClass "com/example/strikewire/strikewire/engine/JournalReader" = some m.cls := findClass_of_methodNamed Bd.named
  have hnm := (name_of_methodNamed Bd.named Bd.method).1
  have X0 : Stand p l e ({ frames := 0, cells := 0, slots := 0, locals := 0 } : Room) s m #[(.ref p0), (.int (0 : Int32))] below meth c s₁ [] 0 0 := Stand.of_body Bd
  have e0 : s₁.heap = h0 := by rw [← hh, Bd.state]; rfl
  have N0 := Fr.nil n0
  have s0 : Steps p.tables e below (s₁.setTop (entryFrame m #[(.ref p0), (.int (0 : Int32))] 2)) (s₁.setTop (mkF m 0 #[.val (.ref p0), .val (.int (0 : Int32))] [])) := castTop (ef_rm1_0 m p0) (Steps.refl _)
  obtain ⟨cla1, Ara1, qa1, Sa1, Za1, Ha1, Ga1⟩ := id F0_
  have hin2 : ¬ ((0 : Int32) < 0 ∨ cla1.slots.size ≤ ((0 : Int32)).toNatClampNeg) := inb_of Sa1 ⟨by decide, by decide⟩
  have hat3 : cla1.slots[((0 : Int32)).toNatClampNeg]? = some (.int ee0) := Has.at Ha1 hin2 rfl
  have hin4 : ¬ ((1 : Int32) < 0 ∨ cla1.slots.size ≤ ((1 : Int32)).toNatClampNeg) := inb_of Sa1 ⟨by decide, by decide⟩
  have hat5 : cla1.slots[((1 : Int32)).toNatClampNeg]? = some (.int ee1) := Has.at Ha1 hin4 rfl
  have hin6 : ¬ ((2 : Int32) < 0 ∨ cla1.slots.size ≤ ((2 : Int32)).toNatClampNeg) := inb_of Sa1 ⟨by decide, by decide⟩
  have hat7 : cla1.slots[((2 : Int32)).toNatClampNeg]? = some (.int ee2) := Has.at Ha1 hin6 rfl
  have hin8 : ¬ ((3 : Int32) < 0 ∨ cla1.slots.size ≤ ((3 : Int32)).toNatClampNeg) := inb_of Sa1 ⟨by decide, by decide⟩
  have hat9 : cla1.slots[((3 : Int32)).toNatClampNeg]? = some (.int ee3) := Has.at Ha1 hin8 rfl
  have s10 : Steps p.tables e below (s₁.setTop (entryFrame m #[(.ref p0), (.int (0 : Int32))] 2)) (s₁.setTop (mkF m 46 #[.val (.ref p0), .val (.int (0 : Int32))] [(.int (((((ee0 &&& (255 : Int32)) <<< ((24 : Int32) &&& 31)) ||| ((ee1 &&& (255 : Int32)) <<< ((16 : Int32) &&& 31))) ||| ((ee2 &&& (255 : Int32)) <<< ((8 : Int32) &&& 31))) ||| (ee3 &&& (255 : Int32))))])) := by
    refine s0.trans ?_
    show Steps p.tables e below (s₁.setTop (mkF m 0 #[.val (.ref p0), .val (.int (0 : Int32))] [])) _
    refine XS.aloadN X0.here hx rfl (hb hby d1_0) rfl rfl ?_
    show Steps p.tables e below (s₁.setTop (mkF m 1 #[.val (.ref p0), .val (.int (0 : Int32))] [(.ref p0)])) _
    refine XS.iloadN X0.here hx rfl (hb hby d1_1) rfl ?_
    show Steps p.tables e below (s₁.setTop (mkF m 2 #[.val (.ref p0), .val (.int (0 : Int32))] [(.int (0 : Int32)), (.ref p0)])) _
    refine X0.baloadBytes hx (j := (0 : Int32)) (v := (.int ee0)) (by rw [e0]; exact Ara1.1) (State.isArrayOf_alike hZ.alike Ara1.2.1) Ara1.2.2 hin2 hat3 (g := (mkF m 2 #[.val (.ref p0), .val (.int (0 : Int32))] [(.int (0 : Int32)), (.ref p0)])) rfl rfl (hb hby d1_2) _ ?_
    show Steps p.tables e below (s₁.setTop (mkF m 3 #[.val (.ref p0), .val (.int (0 : Int32))] [(.int ee0)])) _
    refine XS.sipush X0.here hx rfl (hb hby d1_3) ?_
    show Steps p.tables e below (s₁.setTop (mkF m 6 #[.val (.ref p0), .val (.int (0 : Int32))] [(.int (255 : Int32)), (.int ee0)])) _
    refine XS.iand X0.here hx rfl (hb hby d1_6) rfl ?_
    show Steps p.tables e below (s₁.setTop (mkF m 7 #[.val (.ref p0), .val (.int (0 : Int32))] [(.int (ee0 &&& (255 : Int32)))])) _
    refine XS.bipush X0.here hx rfl (hb hby d1_7) ?_
    show Steps p.tables e below (s₁.setTop (mkF m 9 #[.val (.ref p0), .val (.int (0 : Int32))] [(.int (24 : Int32)), (.int (ee0 &&& (255 : Int32)))])) _
    refine XS.ishl X0.here hx rfl (hb hby d1_9) rfl ?_
    show Steps p.tables e below (s₁.setTop (mkF m 10 #[.val (.ref p0), .val (.int (0 : Int32))] [(.int ((ee0 &&& (255 : Int32)) <<< ((24 : Int32) &&& 31)))])) _
    refine XS.aloadN X0.here hx rfl (hb hby d1_10) rfl rfl ?_
    show Steps p.tables e below (s₁.setTop (mkF m 11 #[.val (.ref p0), .val (.int (0 : Int32))] [(.ref p0), (.int ((ee0 &&& (255 : Int32)) <<< ((24 : Int32) &&& 31)))])) _
    refine XS.iloadN X0.here hx rfl (hb hby d1_11) rfl ?_
    show Steps p.tables e below (s₁.setTop (mkF m 12 #[.val (.ref p0), .val (.int (0 : Int32))] [(.int (0 : Int32)), (.ref p0), (.int ((ee0 &&& (255 : Int32)) <<< ((24 : Int32) &&& 31)))])) _
    refine XS.iconst X0.here hx rfl (hb hby d1_12) ?_
    show Steps p.tables e below (s₁.setTop (mkF m 13 #[.val (.ref p0), .val (.int (0 : Int32))] [(.int (1 : Int32)), (.int (0 : Int32)), (.ref p0), (.int ((ee0 &&& (255 : Int32)) <<< ((24 : Int32) &&& 31)))])) _
    refine XS.iadd X0.here hx rfl (hb hby d1_13) rfl ?_
    show Steps p.tables e below (s₁.setTop (mkF m 14 #[.val (.ref p0), .val (.int (0 : Int32))] [(.int (1 : Int32)), (.ref p0), (.int ((ee0 &&& (255 : Int32)) <<< ((24 : Int32) &&& 31)))])) _
    refine X0.baloadBytes hx (j := (1 : Int32)) (v := (.int ee1)) (by rw [e0]; exact Ara1.1) (State.isArrayOf_alike hZ.alike Ara1.2.1) Ara1.2.2 hin4 hat5 (g := (mkF m 14 #[.val (.ref p0), .val (.int (0 : Int32))] [(.int (1 : Int32)), (.ref p0), (.int ((ee0 &&& (255 : Int32)) <<< ((24 : Int32) &&& 31)))])) rfl rfl (hb hby d1_14) _ ?_
    show Steps p.tables e below (s₁.setTop (mkF m 15 #[.val (.ref p0), .val (.int (0 : Int32))] [(.int ee1), (.int ((ee0 &&& (255 : Int32)) <<< ((24 : Int32) &&& 31)))])) _
    refine XS.sipush X0.here hx rfl (hb hby d1_15) ?_
    show Steps p.tables e below (s₁.setTop (mkF m 18 #[.val (.ref p0), .val (.int (0 : Int32))] [(.int (255 : Int32)), (.int ee1), (.int ((ee0 &&& (255 : Int32)) <<< ((24 : Int32) &&& 31)))])) _
    refine XS.iand X0.here hx rfl (hb hby d1_18) rfl ?_
    show Steps p.tables e below (s₁.setTop (mkF m 19 #[.val (.ref p0), .val (.int (0 : Int32))] [(.int (ee1 &&& (255 : Int32))), (.int ((ee0 &&& (255 : Int32)) <<< ((24 : Int32) &&& 31)))])) _
    refine XS.bipush X0.here hx rfl (hb hby d1_19) ?_
    show Steps p.tables e below (s₁.setTop (mkF m 21 #[.val (.ref p0), .val (.int (0 : Int32))] [(.int (16 : Int32)), (.int (ee1 &&& (255 : Int32))), (.int ((ee0 &&& (255 : Int32)) <<< ((24 : Int32) &&& 31)))])) _
    refine XS.ishl X0.here hx rfl (hb hby d1_21) rfl ?_
    show Steps p.tables e below (s₁.setTop (mkF m 22 #[.val (.ref p0), .val (.int (0 : Int32))] [(.int ((ee1 &&& (255 : Int32)) <<< ((16 : Int32) &&& 31))), (.int ((ee0 &&& (255 : Int32)) <<< ((24 : Int32) &&& 31)))])) _
    refine XS.ior X0.here hx rfl (hb hby d1_22) rfl ?_
    show Steps p.tables e below (s₁.setTop (mkF m 23 #[.val (.ref p0), .val (.int (0 : Int32))] [(.int (((ee0 &&& (255 : Int32)) <<< ((24 : Int32) &&& 31)) ||| ((ee1 &&& (255 : Int32)) <<< ((16 : Int32) &&& 31))))])) _
    refine XS.aloadN X0.here hx rfl (hb hby d1_23) rfl rfl ?_
    show Steps p.tables e below (s₁.setTop (mkF m 24 #[.val (.ref p0), .val (.int (0 : Int32))] [(.ref p0), (.int (((ee0 &&& (255 : Int32)) <<< ((24 : Int32) &&& 31)) ||| ((ee1 &&& (255 : Int32)) <<< ((16 : Int32) &&& 31))))])) _
    refine XS.iloadN X0.here hx rfl (hb hby d1_24) rfl ?_
    show Steps p.tables e below (s₁.setTop (mkF m 25 #[.val (.ref p0), .val (.int (0 : Int32))] [(.int (0 : Int32)), (.ref p0), (.int (((ee0 &&& (255 : Int32)) <<< ((24 : Int32) &&& 31)) ||| ((ee1 &&& (255 : Int32)) <<< ((16 : Int32) &&& 31))))])) _
    refine XS.iconst X0.here hx rfl (hb hby d1_25) ?_
    show Steps p.tables e below (s₁.setTop (mkF m 26 #[.val (.ref p0), .val (.int (0 : Int32))] [(.int (2 : Int32)), (.int (0 : Int32)), (.ref p0), (.int (((ee0 &&& (255 : Int32)) <<< ((24 : Int32) &&& 31)) ||| ((ee1 &&& (255 : Int32)) <<< ((16 : Int32) &&& 31))))])) _
    refine XS.iadd X0.here hx rfl (hb hby d1_26) rfl ?_
    show Steps p.tables e below (s₁.setTop (mkF m 27 #[.val (.ref p0), .val (.int (0 : Int32))] [(.int (2 : Int32)), (.ref p0), (.int (((ee0 &&& (255 : Int32)) <<< ((24 : Int32) &&& 31)) ||| ((ee1 &&& (255 : Int32)) <<< ((16 : Int32) &&& 31))))])) _
    refine X0.baloadBytes hx (j := (2 : Int32)) (v := (.int ee2)) (by rw [e0]; exact Ara1.1) (State.isArrayOf_alike hZ.alike Ara1.2.1) Ara1.2.2 hin6 hat7 (g := (mkF m 27 #[.val (.ref p0), .val (.int (0 : Int32))] [(.int (2 : Int32)), (.ref p0), (.int (((ee0 &&& (255 : Int32)) <<< ((24 : Int32) &&& 31)) ||| ((ee1 &&& (255 : Int32)) <<< ((16 : Int32) &&& 31))))])) rfl rfl (hb hby d1_27) _ ?_
    show Steps p.tables e below (s₁.setTop (mkF m 28 #[.val (.ref p0), .val (.int (0 : Int32))] [(.int ee2), (.int (((ee0 &&& (255 : Int32)) <<< ((24 : Int32) &&& 31)) ||| ((ee1 &&& (255 : Int32)) <<< ((16 : Int32) &&& 31))))])) _
    refine XS.sipush X0.here hx rfl (hb hby d1_28) ?_
    show Steps p.tables e below (s₁.setTop (mkF m 31 #[.val (.ref p0), .val (.int (0 : Int32))] [(.int (255 : Int32)), (.int ee2), (.int (((ee0 &&& (255 : Int32)) <<< ((24 : Int32) &&& 31)) ||| ((ee1 &&& (255 : Int32)) <<< ((16 : Int32) &&& 31))))])) _
    refine XS.iand X0.here hx rfl (hb hby d1_31) rfl ?_
    show Steps p.tables e below (s₁.setTop (mkF m 32 #[.val (.ref p0), .val (.int (0 : Int32))] [(.int (ee2 &&& (255 : Int32))), (.int (((ee0 &&& (255 : Int32)) <<< ((24 : Int32) &&& 31)) ||| ((ee1 &&& (255 : Int32)) <<< ((16 : Int32) &&& 31))))])) _
    refine XS.bipush X0.here hx rfl (hb hby d1_32) ?_
    show Steps p.tables e below (s₁.setTop (mkF m 34 #[.val (.ref p0), .val (.int (0 : Int32))] [(.int (8 : Int32)), (.int (ee2 &&& (255 : Int32))), (.int (((ee0 &&& (255 : Int32)) <<< ((24 : Int32) &&& 31)) ||| ((ee1 &&& (255 : Int32)) <<< ((16 : Int32) &&& 31))))])) _
    refine XS.ishl X0.here hx rfl (hb hby d1_34) rfl ?_
    show Steps p.tables e below (s₁.setTop (mkF m 35 #[.val (.ref p0), .val (.int (0 : Int32))] [(.int ((ee2 &&& (255 : Int32)) <<< ((8 : Int32) &&& 31))), (.int (((ee0 &&& (255 : Int32)) <<< ((24 : Int32) &&& 31)) ||| ((ee1 &&& (255 : Int32)) <<< ((16 : Int32) &&& 31))))])) _
    refine XS.ior X0.here hx rfl (hb hby d1_35) rfl ?_
    show Steps p.tables e below (s₁.setTop (mkF m 36 #[.val (.ref p0), .val (.int (0 : Int32))] [(.int ((((ee0 &&& (255 : Int32)) <<< ((24 : Int32) &&& 31)) ||| ((ee1 &&& (255 : Int32)) <<< ((16 : Int32) &&& 31))) ||| ((ee2 &&& (255 : Int32)) <<< ((8 : Int32) &&& 31))))])) _
    refine XS.aloadN X0.here hx rfl (hb hby d1_36) rfl rfl ?_
    show Steps p.tables e below (s₁.setTop (mkF m 37 #[.val (.ref p0), .val (.int (0 : Int32))] [(.ref p0), (.int ((((ee0 &&& (255 : Int32)) <<< ((24 : Int32) &&& 31)) ||| ((ee1 &&& (255 : Int32)) <<< ((16 : Int32) &&& 31))) ||| ((ee2 &&& (255 : Int32)) <<< ((8 : Int32) &&& 31))))])) _
    refine XS.iloadN X0.here hx rfl (hb hby d1_37) rfl ?_
    show Steps p.tables e below (s₁.setTop (mkF m 38 #[.val (.ref p0), .val (.int (0 : Int32))] [(.int (0 : Int32)), (.ref p0), (.int ((((ee0 &&& (255 : Int32)) <<< ((24 : Int32) &&& 31)) ||| ((ee1 &&& (255 : Int32)) <<< ((16 : Int32) &&& 31))) ||| ((ee2 &&& (255 : Int32)) <<< ((8 : Int32) &&& 31))))])) _
    refine XS.iconst X0.here hx rfl (hb hby d1_38) ?_
    show Steps p.tables e below (s₁.setTop (mkF m 39 #[.val (.ref p0), .val (.int (0 : Int32))] [(.int (3 : Int32)), (.int (0 : Int32)), (.ref p0), (.int ((((ee0 &&& (255 : Int32)) <<< ((24 : Int32) &&& 31)) ||| ((ee1 &&& (255 : Int32)) <<< ((16 : Int32) &&& 31))) ||| ((ee2 &&& (255 : Int32)) <<< ((8 : Int32) &&& 31))))])) _
    refine XS.iadd X0.here hx rfl (hb hby d1_39) rfl ?_
    show Steps p.tables e below (s₁.setTop (mkF m 40 #[.val (.ref p0), .val (.int (0 : Int32))] [(.int (3 : Int32)), (.ref p0), (.int ((((ee0 &&& (255 : Int32)) <<< ((24 : Int32) &&& 31)) ||| ((ee1 &&& (255 : Int32)) <<< ((16 : Int32) &&& 31))) ||| ((ee2 &&& (255 : Int32)) <<< ((8 : Int32) &&& 31))))])) _
    refine X0.baloadBytes hx (j := (3 : Int32)) (v := (.int ee3)) (by rw [e0]; exact Ara1.1) (State.isArrayOf_alike hZ.alike Ara1.2.1) Ara1.2.2 hin8 hat9 (g := (mkF m 40 #[.val (.ref p0), .val (.int (0 : Int32))] [(.int (3 : Int32)), (.ref p0), (.int ((((ee0 &&& (255 : Int32)) <<< ((24 : Int32) &&& 31)) ||| ((ee1 &&& (255 : Int32)) <<< ((16 : Int32) &&& 31))) ||| ((ee2 &&& (255 : Int32)) <<< ((8 : Int32) &&& 31))))])) rfl rfl (hb hby d1_40) _ ?_
    show Steps p.tables e below (s₁.setTop (mkF m 41 #[.val (.ref p0), .val (.int (0 : Int32))] [(.int ee3), (.int ((((ee0 &&& (255 : Int32)) <<< ((24 : Int32) &&& 31)) ||| ((ee1 &&& (255 : Int32)) <<< ((16 : Int32) &&& 31))) ||| ((ee2 &&& (255 : Int32)) <<< ((8 : Int32) &&& 31))))])) _
    refine XS.sipush X0.here hx rfl (hb hby d1_41) ?_
    show Steps p.tables e below (s₁.setTop (mkF m 44 #[.val (.ref p0), .val (.int (0 : Int32))] [(.int (255 : Int32)), (.int ee3), (.int ((((ee0 &&& (255 : Int32)) <<< ((24 : Int32) &&& 31)) ||| ((ee1 &&& (255 : Int32)) <<< ((16 : Int32) &&& 31))) ||| ((ee2 &&& (255 : Int32)) <<< ((8 : Int32) &&& 31))))])) _
    refine XS.iand X0.here hx rfl (hb hby d1_44) rfl ?_
    show Steps p.tables e below (s₁.setTop (mkF m 45 #[.val (.ref p0), .val (.int (0 : Int32))] [(.int (ee3 &&& (255 : Int32))), (.int ((((ee0 &&& (255 : Int32)) <<< ((24 : Int32) &&& 31)) ||| ((ee1 &&& (255 : Int32)) <<< ((16 : Int32) &&& 31))) ||| ((ee2 &&& (255 : Int32)) <<< ((8 : Int32) &&& 31))))])) _
    refine XS.ior X0.here hx rfl (hb hby d1_45) rfl ?_
    exact Steps.refl _
  obtain ⟨fs, hr, hrun, hended, hW, hsame⟩ := X0.leave (v := some (.int (((((ee0 &&& (255 : Int32)) <<< ((24 : Int32) &&& 31)) ||| ((ee1 &&& (255 : Int32)) <<< ((16 : Int32) &&& 31))) ||| ((ee2 &&& (255 : Int32)) <<< ((8 : Int32) &&& 31))) ||| (ee3 &&& (255 : Int32))))) (fun h => by rw [Bd.returns] at h; cases h)
  refine ⟨_, _, s10.trans ?_, hrun, hended, _, _, rfl, ?_, ⟨_, rfl⟩, hW, hsame.mono (by decide) (by decide)⟩
  · show Steps p.tables e below (s₁.setTop (mkF m 46 #[.val (.ref p0), .val (.int (0 : Int32))] [(.int (((((ee0 &&& (255 : Int32)) <<< ((24 : Int32) &&& 31)) ||| ((ee1 &&& (255 : Int32)) <<< ((16 : Int32) &&& 31))) ||| ((ee2 &&& (255 : Int32)) <<< ((8 : Int32) &&& 31))) ||| (ee3 &&& (255 : Int32))))])) _
    exact retI X0 hx Bd.returns (hb hby d1_46) hr
  · show Q1_0 Z p0 ka ee0 ee1 ee2 ee3 ee4 ee5 ee6 ee7 h0 n0 _ s₁.heap _
    rw [e0]
    exact ⟨rfl, N0, rfl⟩
theorem ef_rm1_1 (m : MethodId) (p0 : Addr) : entryFrame m #[(.ref p0), (.int (1 : Int32))] 2 = mkF m 0 #[.val (.ref p0), .val (.int (1 : Int32))] [] := by first | (simp [entryFrame, mkF, argsToLocals, Value.category]; done) | rfl
def Q1_1 (Z : State) (p0 : Addr) (ka : ClassId) (ee0 : Int32) (ee1 : Int32) (ee2 : Int32) (ee3 : Int32) (ee4 : Int32) (ee5 : Int32) (ee6 : Int32) (ee7 : Int32) (h0 : Heap) (n0 : Nat) (v : Option Value) (h : Heap) (L : List Loc) : Prop := v = some (.int (own_be ee1 ee2 ee3 ee4)) ∧ Fr n0 L ∧ h = h0
set_option maxRecDepth 65536 in
set_option maxHeartbeats 40000000 in
theorem rm1_1 (l : Launch) (Z : State) (a0 : Array Value) (hw : ∀ d ∈ tables_1, d.before a0 Z = true) (ws : List Jvm.Cond) (p0 : Addr) (ka : ClassId) (ee0 : Int32) (ee1 : Int32) (ee2 : Int32) (ee3 : Int32) (ee4 : Int32) (ee5 : Int32) (ee6 : Int32) (ee7 : Int32) (h0 : Heap) (n0 : Nat) (O0 : Old Z n0 h0) (F0_ : Arv Z h0 p0 ka .byte (8 : Int32) [(.int ee0), (.int ee1), (.int ee2), (.int ee3), (.int ee4), (.int ee5), (.int ee6), (.int ee7)] (.int (0 : Int32))) :
    MetFree l (⟨"com/example/strikewire/strikewire/engine/JournalReader", "intAt", "([BI)I"⟩ : MethodName) (head1 (Jvm.Cond.code (⟨"com/example/strikewire/strikewire/engine/JournalReader", "intAt", "([BI)I"⟩ : MethodName) prog_14_method_17_code 2 (some .int) :: ws) ({ frames := 0, cells := 0, slots := 0, locals := 0 } : Room)) (fun a U => a = #[(.ref p0), (.int (1 : Int32))] ∧ Z.Warmed39 U.vm ∧ U.heap = h0) (fun _ _ _ _ _ => True) (fun _ U o U' => ∃ v L, o = .returned v ∧ Q1_1 Z p0 ka ee0 ee1 ee2 ee3 ee4 ee5 ee6 ee7 h0 n0 v U'.heap L ∧ FrameEnd U o U' L ({ frames := 0, cells := 0, slots := 0, locals := 0 } : Room).cells ({ frames := 0, cells := 0, slots := 0, locals := 0 } : Room).slots) := by
  refine MetFree.of_bodySF (plainFor_of_name pn_1) hisR ?_
  intro p e s m args below meth c s₁ Bd hml0 hP hK
  obtain ⟨rfl, hZ, hh⟩ := hP
  have hx := Bd.exec
  have hby := Bd.bytes
  have hml : c.maxLocals = 2 := hml0
  have hown : s.vm.findClass "com/example/strikewire/strikewire/engine/JournalReader" = some m.cls := findClass_of_methodNamed Bd.named
  have hnm := (name_of_methodNamed Bd.named Bd.method).1
  have X0 : Stand p l e ({ frames := 0, cells := 0, slots := 0, locals := 0 } : Room) s m #[(.ref p0), (.int (1 : Int32))] below meth c s₁ [] 0 0 := Stand.of_body Bd
  have e0 : s₁.heap = h0 := by rw [← hh, Bd.state]; rfl
  have N0 := Fr.nil n0
  have s0 : Steps p.tables e below (s₁.setTop (entryFrame m #[(.ref p0), (.int (1 : Int32))] 2)) (s₁.setTop (mkF m 0 #[.val (.ref p0), .val (.int (1 : Int32))] [])) := castTop (ef_rm1_1 m p0) (Steps.refl _)
  obtain ⟨cla1, Ara1, qa1, Sa1, Za1, Ha1, Ga1⟩ := id F0_
  have hin2 : ¬ ((1 : Int32) < 0 ∨ cla1.slots.size ≤ ((1 : Int32)).toNatClampNeg) := inb_of Sa1 ⟨by decide, by decide⟩
  have hat3 : cla1.slots[((1 : Int32)).toNatClampNeg]? = some (.int ee1) := Has.at Ha1 hin2 rfl
  have hin4 : ¬ ((2 : Int32) < 0 ∨ cla1.slots.size ≤ ((2 : Int32)).toNatClampNeg) := inb_of Sa1 ⟨by decide, by decide⟩
  have hat5 : cla1.slots[((2 : Int32)).toNatClampNeg]? = some (.int ee2) := Has.at Ha1 hin4 rfl
  have hin6 : ¬ ((3 : Int32) < 0 ∨ cla1.slots.size ≤ ((3 : Int32)).toNatClampNeg) := inb_of Sa1 ⟨by decide, by decide⟩
  have hat7 : cla1.slots[((3 : Int32)).toNatClampNeg]? = some (.int ee3) := Has.at Ha1 hin6 rfl
  have hin8 : ¬ ((4 : Int32) < 0 ∨ cla1.slots.size ≤ ((4 : Int32)).toNatClampNeg) := inb_of Sa1 ⟨by decide, by decide⟩
  have hat9 : cla1.slots[((4 : Int32)).toNatClampNeg]? = some (.int ee4) := Has.at Ha1 hin8 rfl
  have s10 : Steps p.tables e below (s₁.setTop (entryFrame m #[(.ref p0), (.int (1 : Int32))] 2)) (s₁.setTop (mkF m 46 #[.val (.ref p0), .val (.int (1 : Int32))] [(.int (((((ee1 &&& (255 : Int32)) <<< ((24 : Int32) &&& 31)) ||| ((ee2 &&& (255 : Int32)) <<< ((16 : Int32) &&& 31))) ||| ((ee3 &&& (255 : Int32)) <<< ((8 : Int32) &&& 31))) ||| (ee4 &&& (255 : Int32))))])) := by
    refine s0.trans ?_
    show Steps p.tables e below (s₁.setTop (mkF m 0 #[.val (.ref p0), .val (.int (1 : Int32))] [])) _
    refine XS.aloadN X0.here hx rfl (hb hby d1_0) rfl rfl ?_
    show Steps p.tables e below (s₁.setTop (mkF m 1 #[.val (.ref p0), .val (.int (1 : Int32))] [(.ref p0)])) _
    refine XS.iloadN X0.here hx rfl (hb hby d1_1) rfl ?_
    show Steps p.tables e below (s₁.setTop (mkF m 2 #[.val (.ref p0), .val (.int (1 : Int32))] [(.int (1 : Int32)), (.ref p0)])) _
    refine X0.baloadBytes hx (j := (1 : Int32)) (v := (.int ee1)) (by rw [e0]; exact Ara1.1) (State.isArrayOf_alike hZ.alike Ara1.2.1) Ara1.2.2 hin2 hat3 (g := (mkF m 2 #[.val (.ref p0), .val (.int (1 : Int32))] [(.int (1 : Int32)), (.ref p0)])) rfl rfl (hb hby d1_2) _ ?_
    show Steps p.tables e below (s₁.setTop (mkF m 3 #[.val (.ref p0), .val (.int (1 : Int32))] [(.int ee1)])) _
    refine XS.sipush X0.here hx rfl (hb hby d1_3) ?_
    show Steps p.tables e below (s₁.setTop (mkF m 6 #[.val (.ref p0), .val (.int (1 : Int32))] [(.int (255 : Int32)), (.int ee1)])) _
    refine XS.iand X0.here hx rfl (hb hby d1_6) rfl ?_
    show Steps p.tables e below (s₁.setTop (mkF m 7 #[.val (.ref p0), .val (.int (1 : Int32))] [(.int (ee1 &&& (255 : Int32)))])) _
    refine XS.bipush X0.here hx rfl (hb hby d1_7) ?_
    show Steps p.tables e below (s₁.setTop (mkF m 9 #[.val (.ref p0), .val (.int (1 : Int32))] [(.int (24 : Int32)), (.int (ee1 &&& (255 : Int32)))])) _
    refine XS.ishl X0.here hx rfl (hb hby d1_9) rfl ?_
    show Steps p.tables e below (s₁.setTop (mkF m 10 #[.val (.ref p0), .val (.int (1 : Int32))] [(.int ((ee1 &&& (255 : Int32)) <<< ((24 : Int32) &&& 31)))])) _
    refine XS.aloadN X0.here hx rfl (hb hby d1_10) rfl rfl ?_
    show Steps p.tables e below (s₁.setTop (mkF m 11 #[.val (.ref p0), .val (.int (1 : Int32))] [(.ref p0), (.int ((ee1 &&& (255 : Int32)) <<< ((24 : Int32) &&& 31)))])) _
    refine XS.iloadN X0.here hx rfl (hb hby d1_11) rfl ?_
    show Steps p.tables e below (s₁.setTop (mkF m 12 #[.val (.ref p0), .val (.int (1 : Int32))] [(.int (1 : Int32)), (.ref p0), (.int ((ee1 &&& (255 : Int32)) <<< ((24 : Int32) &&& 31)))])) _
    refine XS.iconst X0.here hx rfl (hb hby d1_12) ?_
    show Steps p.tables e below (s₁.setTop (mkF m 13 #[.val (.ref p0), .val (.int (1 : Int32))] [(.int (1 : Int32)), (.int (1 : Int32)), (.ref p0), (.int ((ee1 &&& (255 : Int32)) <<< ((24 : Int32) &&& 31)))])) _
    refine XS.iadd X0.here hx rfl (hb hby d1_13) rfl ?_
    show Steps p.tables e below (s₁.setTop (mkF m 14 #[.val (.ref p0), .val (.int (1 : Int32))] [(.int (2 : Int32)), (.ref p0), (.int ((ee1 &&& (255 : Int32)) <<< ((24 : Int32) &&& 31)))])) _
    refine X0.baloadBytes hx (j := (2 : Int32)) (v := (.int ee2)) (by rw [e0]; exact Ara1.1) (State.isArrayOf_alike hZ.alike Ara1.2.1) Ara1.2.2 hin4 hat5 (g := (mkF m 14 #[.val (.ref p0), .val (.int (1 : Int32))] [(.int (2 : Int32)), (.ref p0), (.int ((ee1 &&& (255 : Int32)) <<< ((24 : Int32) &&& 31)))])) rfl rfl (hb hby d1_14) _ ?_
    show Steps p.tables e below (s₁.setTop (mkF m 15 #[.val (.ref p0), .val (.int (1 : Int32))] [(.int ee2), (.int ((ee1 &&& (255 : Int32)) <<< ((24 : Int32) &&& 31)))])) _
    refine XS.sipush X0.here hx rfl (hb hby d1_15) ?_
    show Steps p.tables e below (s₁.setTop (mkF m 18 #[.val (.ref p0), .val (.int (1 : Int32))] [(.int (255 : Int32)), (.int ee2), (.int ((ee1 &&& (255 : Int32)) <<< ((24 : Int32) &&& 31)))])) _
    refine XS.iand X0.here hx rfl (hb hby d1_18) rfl ?_
    show Steps p.tables e below (s₁.setTop (mkF m 19 #[.val (.ref p0), .val (.int (1 : Int32))] [(.int (ee2 &&& (255 : Int32))), (.int ((ee1 &&& (255 : Int32)) <<< ((24 : Int32) &&& 31)))])) _
    refine XS.bipush X0.here hx rfl (hb hby d1_19) ?_
    show Steps p.tables e below (s₁.setTop (mkF m 21 #[.val (.ref p0), .val (.int (1 : Int32))] [(.int (16 : Int32)), (.int (ee2 &&& (255 : Int32))), (.int ((ee1 &&& (255 : Int32)) <<< ((24 : Int32) &&& 31)))])) _
    refine XS.ishl X0.here hx rfl (hb hby d1_21) rfl ?_
    show Steps p.tables e below (s₁.setTop (mkF m 22 #[.val (.ref p0), .val (.int (1 : Int32))] [(.int ((ee2 &&& (255 : Int32)) <<< ((16 : Int32) &&& 31))), (.int ((ee1 &&& (255 : Int32)) <<< ((24 : Int32) &&& 31)))])) _
    refine XS.ior X0.here hx rfl (hb hby d1_22) rfl ?_
    show Steps p.tables e below (s₁.setTop (mkF m 23 #[.val (.ref p0), .val (.int (1 : Int32))] [(.int (((ee1 &&& (255 : Int32)) <<< ((24 : Int32) &&& 31)) ||| ((ee2 &&& (255 : Int32)) <<< ((16 : Int32) &&& 31))))])) _
    refine XS.aloadN X0.here hx rfl (hb hby d1_23) rfl rfl ?_
    show Steps p.tables e below (s₁.setTop (mkF m 24 #[.val (.ref p0), .val (.int (1 : Int32))] [(.ref p0), (.int (((ee1 &&& (255 : Int32)) <<< ((24 : Int32) &&& 31)) ||| ((ee2 &&& (255 : Int32)) <<< ((16 : Int32) &&& 31))))])) _
    refine XS.iloadN X0.here hx rfl (hb hby d1_24) rfl ?_
    show Steps p.tables e below (s₁.setTop (mkF m 25 #[.val (.ref p0), .val (.int (1 : Int32))] [(.int (1 : Int32)), (.ref p0), (.int (((ee1 &&& (255 : Int32)) <<< ((24 : Int32) &&& 31)) ||| ((ee2 &&& (255 : Int32)) <<< ((16 : Int32) &&& 31))))])) _
    refine XS.iconst X0.here hx rfl (hb hby d1_25) ?_
    show Steps p.tables e below (s₁.setTop (mkF m 26 #[.val (.ref p0), .val (.int (1 : Int32))] [(.int (2 : Int32)), (.int (1 : Int32)), (.ref p0), (.int (((ee1 &&& (255 : Int32)) <<< ((24 : Int32) &&& 31)) ||| ((ee2 &&& (255 : Int32)) <<< ((16 : Int32) &&& 31))))])) _
    refine XS.iadd X0.here hx rfl (hb hby d1_26) rfl ?_
    show Steps p.tables e below (s₁.setTop (mkF m 27 #[.val (.ref p0), .val (.int (1 : Int32))] [(.int (3 : Int32)), (.ref p0), (.int (((ee1 &&& (255 : Int32)) <<< ((24 : Int32) &&& 31)) ||| ((ee2 &&& (255 : Int32)) <<< ((16 : Int32) &&& 31))))])) _
    refine X0.baloadBytes hx (j := (3 : Int32)) (v := (.int ee3)) (by rw [e0]; exact Ara1.1) (State.isArrayOf_alike hZ.alike Ara1.2.1) Ara1.2.2 hin6 hat7 (g := (mkF m 27 #[.val (.ref p0), .val (.int (1 : Int32))] [(.int (3 : Int32)), (.ref p0), (.int (((ee1 &&& (255 : Int32)) <<< ((24 : Int32) &&& 31)) ||| ((ee2 &&& (255 : Int32)) <<< ((16 : Int32) &&& 31))))])) rfl rfl (hb hby d1_27) _ ?_
    show Steps p.tables e below (s₁.setTop (mkF m 28 #[.val (.ref p0), .val (.int (1 : Int32))] [(.int ee3), (.int (((ee1 &&& (255 : Int32)) <<< ((24 : Int32) &&& 31)) ||| ((ee2 &&& (255 : Int32)) <<< ((16 : Int32) &&& 31))))])) _
    refine XS.sipush X0.here hx rfl (hb hby d1_28) ?_
    show Steps p.tables e below (s₁.setTop (mkF m 31 #[.val (.ref p0), .val (.int (1 : Int32))] [(.int (255 : Int32)), (.int ee3), (.int (((ee1 &&& (255 : Int32)) <<< ((24 : Int32) &&& 31)) ||| ((ee2 &&& (255 : Int32)) <<< ((16 : Int32) &&& 31))))])) _
    refine XS.iand X0.here hx rfl (hb hby d1_31) rfl ?_
    show Steps p.tables e below (s₁.setTop (mkF m 32 #[.val (.ref p0), .val (.int (1 : Int32))] [(.int (ee3 &&& (255 : Int32))), (.int (((ee1 &&& (255 : Int32)) <<< ((24 : Int32) &&& 31)) ||| ((ee2 &&& (255 : Int32)) <<< ((16 : Int32) &&& 31))))])) _
    refine XS.bipush X0.here hx rfl (hb hby d1_32) ?_
    show Steps p.tables e below (s₁.setTop (mkF m 34 #[.val (.ref p0), .val (.int (1 : Int32))] [(.int (8 : Int32)), (.int (ee3 &&& (255 : Int32))), (.int (((ee1 &&& (255 : Int32)) <<< ((24 : Int32) &&& 31)) ||| ((ee2 &&& (255 : Int32)) <<< ((16 : Int32) &&& 31))))])) _
    refine XS.ishl X0.here hx rfl (hb hby d1_34) rfl ?_
    show Steps p.tables e below (s₁.setTop (mkF m 35 #[.val (.ref p0), .val (.int (1 : Int32))] [(.int ((ee3 &&& (255 : Int32)) <<< ((8 : Int32) &&& 31))), (.int (((ee1 &&& (255 : Int32)) <<< ((24 : Int32) &&& 31)) ||| ((ee2 &&& (255 : Int32)) <<< ((16 : Int32) &&& 31))))])) _
    refine XS.ior X0.here hx rfl (hb hby d1_35) rfl ?_
    show Steps p.tables e below (s₁.setTop (mkF m 36 #[.val (.ref p0), .val (.int (1 : Int32))] [(.int ((((ee1 &&& (255 : Int32)) <<< ((24 : Int32) &&& 31)) ||| ((ee2 &&& (255 : Int32)) <<< ((16 : Int32) &&& 31))) ||| ((ee3 &&& (255 : Int32)) <<< ((8 : Int32) &&& 31))))])) _
    refine XS.aloadN X0.here hx rfl (hb hby d1_36) rfl rfl ?_
    show Steps p.tables e below (s₁.setTop (mkF m 37 #[.val (.ref p0), .val (.int (1 : Int32))] [(.ref p0), (.int ((((ee1 &&& (255 : Int32)) <<< ((24 : Int32) &&& 31)) ||| ((ee2 &&& (255 : Int32)) <<< ((16 : Int32) &&& 31))) ||| ((ee3 &&& (255 : Int32)) <<< ((8 : Int32) &&& 31))))])) _
    refine XS.iloadN X0.here hx rfl (hb hby d1_37) rfl ?_
    show Steps p.tables e below (s₁.setTop (mkF m 38 #[.val (.ref p0), .val (.int (1 : Int32))] [(.int (1 : Int32)), (.ref p0), (.int ((((ee1 &&& (255 : Int32)) <<< ((24 : Int32) &&& 31)) ||| ((ee2 &&& (255 : Int32)) <<< ((16 : Int32) &&& 31))) ||| ((ee3 &&& (255 : Int32)) <<< ((8 : Int32) &&& 31))))])) _
    refine XS.iconst X0.here hx rfl (hb hby d1_38) ?_
    show Steps p.tables e below (s₁.setTop (mkF m 39 #[.val (.ref p0), .val (.int (1 : Int32))] [(.int (3 : Int32)), (.int (1 : Int32)), (.ref p0), (.int ((((ee1 &&& (255 : Int32)) <<< ((24 : Int32) &&& 31)) ||| ((ee2 &&& (255 : Int32)) <<< ((16 : Int32) &&& 31))) ||| ((ee3 &&& (255 : Int32)) <<< ((8 : Int32) &&& 31))))])) _
    refine XS.iadd X0.here hx rfl (hb hby d1_39) rfl ?_
    show Steps p.tables e below (s₁.setTop (mkF m 40 #[.val (.ref p0), .val (.int (1 : Int32))] [(.int (4 : Int32)), (.ref p0), (.int ((((ee1 &&& (255 : Int32)) <<< ((24 : Int32) &&& 31)) ||| ((ee2 &&& (255 : Int32)) <<< ((16 : Int32) &&& 31))) ||| ((ee3 &&& (255 : Int32)) <<< ((8 : Int32) &&& 31))))])) _
    refine X0.baloadBytes hx (j := (4 : Int32)) (v := (.int ee4)) (by rw [e0]; exact Ara1.1) (State.isArrayOf_alike hZ.alike Ara1.2.1) Ara1.2.2 hin8 hat9 (g := (mkF m 40 #[.val (.ref p0), .val (.int (1 : Int32))] [(.int (4 : Int32)), (.ref p0), (.int ((((ee1 &&& (255 : Int32)) <<< ((24 : Int32) &&& 31)) ||| ((ee2 &&& (255 : Int32)) <<< ((16 : Int32) &&& 31))) ||| ((ee3 &&& (255 : Int32)) <<< ((8 : Int32) &&& 31))))])) rfl rfl (hb hby d1_40) _ ?_
    show Steps p.tables e below (s₁.setTop (mkF m 41 #[.val (.ref p0), .val (.int (1 : Int32))] [(.int ee4), (.int ((((ee1 &&& (255 : Int32)) <<< ((24 : Int32) &&& 31)) ||| ((ee2 &&& (255 : Int32)) <<< ((16 : Int32) &&& 31))) ||| ((ee3 &&& (255 : Int32)) <<< ((8 : Int32) &&& 31))))])) _
    refine XS.sipush X0.here hx rfl (hb hby d1_41) ?_
    show Steps p.tables e below (s₁.setTop (mkF m 44 #[.val (.ref p0), .val (.int (1 : Int32))] [(.int (255 : Int32)), (.int ee4), (.int ((((ee1 &&& (255 : Int32)) <<< ((24 : Int32) &&& 31)) ||| ((ee2 &&& (255 : Int32)) <<< ((16 : Int32) &&& 31))) ||| ((ee3 &&& (255 : Int32)) <<< ((8 : Int32) &&& 31))))])) _
    refine XS.iand X0.here hx rfl (hb hby d1_44) rfl ?_
    show Steps p.tables e below (s₁.setTop (mkF m 45 #[.val (.ref p0), .val (.int (1 : Int32))] [(.int (ee4 &&& (255 : Int32))), (.int ((((ee1 &&& (255 : Int32)) <<< ((24 : Int32) &&& 31)) ||| ((ee2 &&& (255 : Int32)) <<< ((16 : Int32) &&& 31))) ||| ((ee3 &&& (255 : Int32)) <<< ((8 : Int32) &&& 31))))])) _
    refine XS.ior X0.here hx rfl (hb hby d1_45) rfl ?_
    exact Steps.refl _
  obtain ⟨fs, hr, hrun, hended, hW, hsame⟩ := X0.leave (v := some (.int (((((ee1 &&& (255 : Int32)) <<< ((24 : Int32) &&& 31)) ||| ((ee2 &&& (255 : Int32)) <<< ((16 : Int32) &&& 31))) ||| ((ee3 &&& (255 : Int32)) <<< ((8 : Int32) &&& 31))) ||| (ee4 &&& (255 : Int32))))) (fun h => by rw [Bd.returns] at h; cases h)
  refine ⟨_, _, s10.trans ?_, hrun, hended, _, _, rfl, ?_, ⟨_, rfl⟩, hW, hsame.mono (by decide) (by decide)⟩
  · show Steps p.tables e below (s₁.setTop (mkF m 46 #[.val (.ref p0), .val (.int (1 : Int32))] [(.int (((((ee1 &&& (255 : Int32)) <<< ((24 : Int32) &&& 31)) ||| ((ee2 &&& (255 : Int32)) <<< ((16 : Int32) &&& 31))) ||| ((ee3 &&& (255 : Int32)) <<< ((8 : Int32) &&& 31))) ||| (ee4 &&& (255 : Int32))))])) _
    exact retI X0 hx Bd.returns (hb hby d1_46) hr
  · show Q1_1 Z p0 ka ee0 ee1 ee2 ee3 ee4 ee5 ee6 ee7 h0 n0 _ s₁.heap _
    rw [e0]
    exact ⟨rfl, N0, rfl⟩
theorem ef_rm1_2 (m : MethodId) (p0 : Addr) : entryFrame m #[(.ref p0), (.int (2 : Int32))] 2 = mkF m 0 #[.val (.ref p0), .val (.int (2 : Int32))] [] := by first | (simp [entryFrame, mkF, argsToLocals, Value.category]; done) | rfl
def Q1_2 (Z : State) (p0 : Addr) (ka : ClassId) (ee0 : Int32) (ee1 : Int32) (ee2 : Int32) (ee3 : Int32) (ee4 : Int32) (ee5 : Int32) (ee6 : Int32) (ee7 : Int32) (h0 : Heap) (n0 : Nat) (v : Option Value) (h : Heap) (L : List Loc) : Prop := v = some (.int (own_be ee2 ee3 ee4 ee5)) ∧ Fr n0 L ∧ h = h0
set_option maxRecDepth 65536 in
set_option maxHeartbeats 40000000 in
theorem rm1_2 (l : Launch) (Z : State) (a0 : Array Value) (hw : ∀ d ∈ tables_1, d.before a0 Z = true) (ws : List Jvm.Cond) (p0 : Addr) (ka : ClassId) (ee0 : Int32) (ee1 : Int32) (ee2 : Int32) (ee3 : Int32) (ee4 : Int32) (ee5 : Int32) (ee6 : Int32) (ee7 : Int32) (h0 : Heap) (n0 : Nat) (O0 : Old Z n0 h0) (F0_ : Arv Z h0 p0 ka .byte (8 : Int32) [(.int ee0), (.int ee1), (.int ee2), (.int ee3), (.int ee4), (.int ee5), (.int ee6), (.int ee7)] (.int (0 : Int32))) :
    MetFree l (⟨"com/example/strikewire/strikewire/engine/JournalReader", "intAt", "([BI)I"⟩ : MethodName) (head1 (Jvm.Cond.code (⟨"com/example/strikewire/strikewire/engine/JournalReader", "intAt", "([BI)I"⟩ : MethodName) prog_14_method_17_code 2 (some .int) :: ws) ({ frames := 0, cells := 0, slots := 0, locals := 0 } : Room)) (fun a U => a = #[(.ref p0), (.int (2 : Int32))] ∧ Z.Warmed39 U.vm ∧ U.heap = h0) (fun _ _ _ _ _ => True) (fun _ U o U' => ∃ v L, o = .returned v ∧ Q1_2 Z p0 ka ee0 ee1 ee2 ee3 ee4 ee5 ee6 ee7 h0 n0 v U'.heap L ∧ FrameEnd U o U' L ({ frames := 0, cells := 0, slots := 0, locals := 0 } : Room).cells ({ frames := 0, cells := 0, slots := 0, locals := 0 } : Room).slots) := by
  refine MetFree.of_bodySF (plainFor_of_name pn_1) hisR ?_
  intro p e s m args below meth c s₁ Bd hml0 hP hK
  obtain ⟨rfl, hZ, hh⟩ := hP
  have hx := Bd.exec
  have hby := Bd.bytes
  have hml : c.maxLocals = 2 := hml0
  have hown : s.vm.findClass "com/example/strikewire/strikewire/engine/JournalReader" = some m.cls := findClass_of_methodNamed Bd.named
  have hnm := (name_of_methodNamed Bd.named Bd.method).1
  have X0 : Stand p l e ({ frames := 0, cells := 0, slots := 0, locals := 0 } : Room) s m #[(.ref p0), (.int (2 : Int32))] below meth c s₁ [] 0 0 := Stand.of_body Bd
  have e0 : s₁.heap = h0 := by rw [← hh, Bd.state]; rfl
  have N0 := Fr.nil n0
  have s0 : Steps p.tables e below (s₁.setTop (entryFrame m #[(.ref p0), (.int (2 : Int32))] 2)) (s₁.setTop (mkF m 0 #[.val (.ref p0), .val (.int (2 : Int32))] [])) := castTop (ef_rm1_2 m p0) (Steps.refl _)
  obtain ⟨cla1, Ara1, qa1, Sa1, Za1, Ha1, Ga1⟩ := id F0_
  have hin2 : ¬ ((2 : Int32) < 0 ∨ cla1.slots.size ≤ ((2 : Int32)).toNatClampNeg) := inb_of Sa1 ⟨by decide, by decide⟩
  have hat3 : cla1.slots[((2 : Int32)).toNatClampNeg]? = some (.int ee2) := Has.at Ha1 hin2 rfl
  have hin4 : ¬ ((3 : Int32) < 0 ∨ cla1.slots.size ≤ ((3 : Int32)).toNatClampNeg) := inb_of Sa1 ⟨by decide, by decide⟩
  have hat5 : cla1.slots[((3 : Int32)).toNatClampNeg]? = some (.int ee3) := Has.at Ha1 hin4 rfl
  have hin6 : ¬ ((4 : Int32) < 0 ∨ cla1.slots.size ≤ ((4 : Int32)).toNatClampNeg) := inb_of Sa1 ⟨by decide, by decide⟩
  have hat7 : cla1.slots[((4 : Int32)).toNatClampNeg]? = some (.int ee4) := Has.at Ha1 hin6 rfl
  have hin8 : ¬ ((5 : Int32) < 0 ∨ cla1.slots.size ≤ ((5 : Int32)).toNatClampNeg) := inb_of Sa1 ⟨by decide, by decide⟩
  have hat9 : cla1.slots[((5 : Int32)).toNatClampNeg]? = some (.int ee5) := Has.at Ha1 hin8 rfl
  have s10 : Steps p.tables e below (s₁.setTop (entryFrame m #[(.ref p0), (.int (2 : Int32))] 2)) (s₁.setTop (mkF m 46 #[.val (.ref p0), .val (.int (2 : Int32))] [(.int (((((ee2 &&& (255 : Int32)) <<< ((24 : Int32) &&& 31)) ||| ((ee3 &&& (255 : Int32)) <<< ((16 : Int32) &&& 31))) ||| ((ee4 &&& (255 : Int32)) <<< ((8 : Int32) &&& 31))) ||| (ee5 &&& (255 : Int32))))])) := by
    refine s0.trans ?_
    show Steps p.tables e below (s₁.setTop (mkF m 0 #[.val (.ref p0), .val (.int (2 : Int32))] [])) _
    refine XS.aloadN X0.here hx rfl (hb hby d1_0) rfl rfl ?_
    show Steps p.tables e below (s₁.setTop (mkF m 1 #[.val (.ref p0), .val (.int (2 : Int32))] [(.ref p0)])) _
    refine XS.iloadN X0.here hx rfl (hb hby d1_1) rfl ?_
    show Steps p.tables e below (s₁.setTop (mkF m 2 #[.val (.ref p0), .val (.int (2 : Int32))] [(.int (2 : Int32)), (.ref p0)])) _
    refine X0.baloadBytes hx (j := (2 : Int32)) (v := (.int ee2)) (by rw [e0]; exact Ara1.1) (State.isArrayOf_alike hZ.alike Ara1.2.1) Ara1.2.2 hin2 hat3 (g := (mkF m 2 #[.val (.ref p0), .val (.int (2 : Int32))] [(.int (2 : Int32)), (.ref p0)])) rfl rfl (hb hby d1_2) _ ?_
    show Steps p.tables e below (s₁.setTop (mkF m 3 #[.val (.ref p0), .val (.int (2 : Int32))] [(.int ee2)])) _
    refine XS.sipush X0.here hx rfl (hb hby d1_3) ?_
    show Steps p.tables e below (s₁.setTop (mkF m 6 #[.val (.ref p0), .val (.int (2 : Int32))] [(.int (255 : Int32)), (.int ee2)])) _
    refine XS.iand X0.here hx rfl (hb hby d1_6) rfl ?_
    show Steps p.tables e below (s₁.setTop (mkF m 7 #[.val (.ref p0), .val (.int (2 : Int32))] [(.int (ee2 &&& (255 : Int32)))])) _
    refine XS.bipush X0.here hx rfl (hb hby d1_7) ?_
    show Steps p.tables e below (s₁.setTop (mkF m 9 #[.val (.ref p0), .val (.int (2 : Int32))] [(.int (24 : Int32)), (.int (ee2 &&& (255 : Int32)))])) _
    refine XS.ishl X0.here hx rfl (hb hby d1_9) rfl ?_
    show Steps p.tables e below (s₁.setTop (mkF m 10 #[.val (.ref p0), .val (.int (2 : Int32))] [(.int ((ee2 &&& (255 : Int32)) <<< ((24 : Int32) &&& 31)))])) _
    refine XS.aloadN X0.here hx rfl (hb hby d1_10) rfl rfl ?_
    show Steps p.tables e below (s₁.setTop (mkF m 11 #[.val (.ref p0), .val (.int (2 : Int32))] [(.ref p0), (.int ((ee2 &&& (255 : Int32)) <<< ((24 : Int32) &&& 31)))])) _
    refine XS.iloadN X0.here hx rfl (hb hby d1_11) rfl ?_
    show Steps p.tables e below (s₁.setTop (mkF m 12 #[.val (.ref p0), .val (.int (2 : Int32))] [(.int (2 : Int32)), (.ref p0), (.int ((ee2 &&& (255 : Int32)) <<< ((24 : Int32) &&& 31)))])) _
    refine XS.iconst X0.here hx rfl (hb hby d1_12) ?_
    show Steps p.tables e below (s₁.setTop (mkF m 13 #[.val (.ref p0), .val (.int (2 : Int32))] [(.int (1 : Int32)), (.int (2 : Int32)), (.ref p0), (.int ((ee2 &&& (255 : Int32)) <<< ((24 : Int32) &&& 31)))])) _
    refine XS.iadd X0.here hx rfl (hb hby d1_13) rfl ?_
    show Steps p.tables e below (s₁.setTop (mkF m 14 #[.val (.ref p0), .val (.int (2 : Int32))] [(.int (3 : Int32)), (.ref p0), (.int ((ee2 &&& (255 : Int32)) <<< ((24 : Int32) &&& 31)))])) _
    refine X0.baloadBytes hx (j := (3 : Int32)) (v := (.int ee3)) (by rw [e0]; exact Ara1.1) (State.isArrayOf_alike hZ.alike Ara1.2.1) Ara1.2.2 hin4 hat5 (g := (mkF m 14 #[.val (.ref p0), .val (.int (2 : Int32))] [(.int (3 : Int32)), (.ref p0), (.int ((ee2 &&& (255 : Int32)) <<< ((24 : Int32) &&& 31)))])) rfl rfl (hb hby d1_14) _ ?_
    show Steps p.tables e below (s₁.setTop (mkF m 15 #[.val (.ref p0), .val (.int (2 : Int32))] [(.int ee3), (.int ((ee2 &&& (255 : Int32)) <<< ((24 : Int32) &&& 31)))])) _
    refine XS.sipush X0.here hx rfl (hb hby d1_15) ?_
    show Steps p.tables e below (s₁.setTop (mkF m 18 #[.val (.ref p0), .val (.int (2 : Int32))] [(.int (255 : Int32)), (.int ee3), (.int ((ee2 &&& (255 : Int32)) <<< ((24 : Int32) &&& 31)))])) _
    refine XS.iand X0.here hx rfl (hb hby d1_18) rfl ?_
    show Steps p.tables e below (s₁.setTop (mkF m 19 #[.val (.ref p0), .val (.int (2 : Int32))] [(.int (ee3 &&& (255 : Int32))), (.int ((ee2 &&& (255 : Int32)) <<< ((24 : Int32) &&& 31)))])) _
    refine XS.bipush X0.here hx rfl (hb hby d1_19) ?_
    show Steps p.tables e below (s₁.setTop (mkF m 21 #[.val (.ref p0), .val (.int (2 : Int32))] [(.int (16 : Int32)), (.int (ee3 &&& (255 : Int32))), (.int ((ee2 &&& (255 : Int32)) <<< ((24 : Int32) &&& 31)))])) _
    refine XS.ishl X0.here hx rfl (hb hby d1_21) rfl ?_
    show Steps p.tables e below (s₁.setTop (mkF m 22 #[.val (.ref p0), .val (.int (2 : Int32))] [(.int ((ee3 &&& (255 : Int32)) <<< ((16 : Int32) &&& 31))), (.int ((ee2 &&& (255 : Int32)) <<< ((24 : Int32) &&& 31)))])) _
    refine XS.ior X0.here hx rfl (hb hby d1_22) rfl ?_
    show Steps p.tables e below (s₁.setTop (mkF m 23 #[.val (.ref p0), .val (.int (2 : Int32))] [(.int (((ee2 &&& (255 : Int32)) <<< ((24 : Int32) &&& 31)) ||| ((ee3 &&& (255 : Int32)) <<< ((16 : Int32) &&& 31))))])) _
    refine XS.aloadN X0.here hx rfl (hb hby d1_23) rfl rfl ?_
    show Steps p.tables e below (s₁.setTop (mkF m 24 #[.val (.ref p0), .val (.int (2 : Int32))] [(.ref p0), (.int (((ee2 &&& (255 : Int32)) <<< ((24 : Int32) &&& 31)) ||| ((ee3 &&& (255 : Int32)) <<< ((16 : Int32) &&& 31))))])) _
    refine XS.iloadN X0.here hx rfl (hb hby d1_24) rfl ?_
    show Steps p.tables e below (s₁.setTop (mkF m 25 #[.val (.ref p0), .val (.int (2 : Int32))] [(.int (2 : Int32)), (.ref p0), (.int (((ee2 &&& (255 : Int32)) <<< ((24 : Int32) &&& 31)) ||| ((ee3 &&& (255 : Int32)) <<< ((16 : Int32) &&& 31))))])) _
    refine XS.iconst X0.here hx rfl (hb hby d1_25) ?_
    show Steps p.tables e below (s₁.setTop (mkF m 26 #[.val (.ref p0), .val (.int (2 : Int32))] [(.int (2 : Int32)), (.int (2 : Int32)), (.ref p0), (.int (((ee2 &&& (255 : Int32)) <<< ((24 : Int32) &&& 31)) ||| ((ee3 &&& (255 : Int32)) <<< ((16 : Int32) &&& 31))))])) _
    refine XS.iadd X0.here hx rfl (hb hby d1_26) rfl ?_
    show Steps p.tables e below (s₁.setTop (mkF m 27 #[.val (.ref p0), .val (.int (2 : Int32))] [(.int (4 : Int32)), (.ref p0), (.int (((ee2 &&& (255 : Int32)) <<< ((24 : Int32) &&& 31)) ||| ((ee3 &&& (255 : Int32)) <<< ((16 : Int32) &&& 31))))])) _
    refine X0.baloadBytes hx (j := (4 : Int32)) (v := (.int ee4)) (by rw [e0]; exact Ara1.1) (State.isArrayOf_alike hZ.alike Ara1.2.1) Ara1.2.2 hin6 hat7 (g := (mkF m 27 #[.val (.ref p0), .val (.int (2 : Int32))] [(.int (4 : Int32)), (.ref p0), (.int (((ee2 &&& (255 : Int32)) <<< ((24 : Int32) &&& 31)) ||| ((ee3 &&& (255 : Int32)) <<< ((16 : Int32) &&& 31))))])) rfl rfl (hb hby d1_27) _ ?_
    show Steps p.tables e below (s₁.setTop (mkF m 28 #[.val (.ref p0), .val (.int (2 : Int32))] [(.int ee4), (.int (((ee2 &&& (255 : Int32)) <<< ((24 : Int32) &&& 31)) ||| ((ee3 &&& (255 : Int32)) <<< ((16 : Int32) &&& 31))))])) _
    refine XS.sipush X0.here hx rfl (hb hby d1_28) ?_
    show Steps p.tables e below (s₁.setTop (mkF m 31 #[.val (.ref p0), .val (.int (2 : Int32))] [(.int (255 : Int32)), (.int ee4), (.int (((ee2 &&& (255 : Int32)) <<< ((24 : Int32) &&& 31)) ||| ((ee3 &&& (255 : Int32)) <<< ((16 : Int32) &&& 31))))])) _
    refine XS.iand X0.here hx rfl (hb hby d1_31) rfl ?_
    show Steps p.tables e below (s₁.setTop (mkF m 32 #[.val (.ref p0), .val (.int (2 : Int32))] [(.int (ee4 &&& (255 : Int32))), (.int (((ee2 &&& (255 : Int32)) <<< ((24 : Int32) &&& 31)) ||| ((ee3 &&& (255 : Int32)) <<< ((16 : Int32) &&& 31))))])) _
    refine XS.bipush X0.here hx rfl (hb hby d1_32) ?_
    show Steps p.tables e below (s₁.setTop (mkF m 34 #[.val (.ref p0), .val (.int (2 : Int32))] [(.int (8 : Int32)), (.int (ee4 &&& (255 : Int32))), (.int (((ee2 &&& (255 : Int32)) <<< ((24 : Int32) &&& 31)) ||| ((ee3 &&& (255 : Int32)) <<< ((16 : Int32) &&& 31))))])) _
    refine XS.ishl X0.here hx rfl (hb hby d1_34) rfl ?_
    show Steps p.tables e below (s₁.setTop (mkF m 35 #[.val (.ref p0), .val (.int (2 : Int32))] [(.int ((ee4 &&& (255 : Int32)) <<< ((8 : Int32) &&& 31))), (.int (((ee2 &&& (255 : Int32)) <<< ((24 : Int32) &&& 31)) ||| ((ee3 &&& (255 : Int32)) <<< ((16 : Int32) &&& 31))))])) _
    refine XS.ior X0.here hx rfl (hb hby d1_35) rfl ?_
    show Steps p.tables e below (s₁.setTop (mkF m 36 #[.val (.ref p0), .val (.int (2 : Int32))] [(.int ((((ee2 &&& (255 : Int32)) <<< ((24 : Int32) &&& 31)) ||| ((ee3 &&& (255 : Int32)) <<< ((16 : Int32) &&& 31))) ||| ((ee4 &&& (255 : Int32)) <<< ((8 : Int32) &&& 31))))])) _
    refine XS.aloadN X0.here hx rfl (hb hby d1_36) rfl rfl ?_
    show Steps p.tables e below (s₁.setTop (mkF m 37 #[.val (.ref p0), .val (.int (2 : Int32))] [(.ref p0), (.int ((((ee2 &&& (255 : Int32)) <<< ((24 : Int32) &&& 31)) ||| ((ee3 &&& (255 : Int32)) <<< ((16 : Int32) &&& 31))) ||| ((ee4 &&& (255 : Int32)) <<< ((8 : Int32) &&& 31))))])) _
    refine XS.iloadN X0.here hx rfl (hb hby d1_37) rfl ?_
    show Steps p.tables e below (s₁.setTop (mkF m 38 #[.val (.ref p0), .val (.int (2 : Int32))] [(.int (2 : Int32)), (.ref p0), (.int ((((ee2 &&& (255 : Int32)) <<< ((24 : Int32) &&& 31)) ||| ((ee3 &&& (255 : Int32)) <<< ((16 : Int32) &&& 31))) ||| ((ee4 &&& (255 : Int32)) <<< ((8 : Int32) &&& 31))))])) _
    refine XS.iconst X0.here hx rfl (hb hby d1_38) ?_
    show Steps p.tables e below (s₁.setTop (mkF m 39 #[.val (.ref p0), .val (.int (2 : Int32))] [(.int (3 : Int32)), (.int (2 : Int32)), (.ref p0), (.int ((((ee2 &&& (255 : Int32)) <<< ((24 : Int32) &&& 31)) ||| ((ee3 &&& (255 : Int32)) <<< ((16 : Int32) &&& 31))) ||| ((ee4 &&& (255 : Int32)) <<< ((8 : Int32) &&& 31))))])) _
    refine XS.iadd X0.here hx rfl (hb hby d1_39) rfl ?_
    show Steps p.tables e below (s₁.setTop (mkF m 40 #[.val (.ref p0), .val (.int (2 : Int32))] [(.int (5 : Int32)), (.ref p0), (.int ((((ee2 &&& (255 : Int32)) <<< ((24 : Int32) &&& 31)) ||| ((ee3 &&& (255 : Int32)) <<< ((16 : Int32) &&& 31))) ||| ((ee4 &&& (255 : Int32)) <<< ((8 : Int32) &&& 31))))])) _
    refine X0.baloadBytes hx (j := (5 : Int32)) (v := (.int ee5)) (by rw [e0]; exact Ara1.1) (State.isArrayOf_alike hZ.alike Ara1.2.1) Ara1.2.2 hin8 hat9 (g := (mkF m 40 #[.val (.ref p0), .val (.int (2 : Int32))] [(.int (5 : Int32)), (.ref p0), (.int ((((ee2 &&& (255 : Int32)) <<< ((24 : Int32) &&& 31)) ||| ((ee3 &&& (255 : Int32)) <<< ((16 : Int32) &&& 31))) ||| ((ee4 &&& (255 : Int32)) <<< ((8 : Int32) &&& 31))))])) rfl rfl (hb hby d1_40) _ ?_
    show Steps p.tables e below (s₁.setTop (mkF m 41 #[.val (.ref p0), .val (.int (2 : Int32))] [(.int ee5), (.int ((((ee2 &&& (255 : Int32)) <<< ((24 : Int32) &&& 31)) ||| ((ee3 &&& (255 : Int32)) <<< ((16 : Int32) &&& 31))) ||| ((ee4 &&& (255 : Int32)) <<< ((8 : Int32) &&& 31))))])) _
    refine XS.sipush X0.here hx rfl (hb hby d1_41) ?_
    show Steps p.tables e below (s₁.setTop (mkF m 44 #[.val (.ref p0), .val (.int (2 : Int32))] [(.int (255 : Int32)), (.int ee5), (.int ((((ee2 &&& (255 : Int32)) <<< ((24 : Int32) &&& 31)) ||| ((ee3 &&& (255 : Int32)) <<< ((16 : Int32) &&& 31))) ||| ((ee4 &&& (255 : Int32)) <<< ((8 : Int32) &&& 31))))])) _
    refine XS.iand X0.here hx rfl (hb hby d1_44) rfl ?_
    show Steps p.tables e below (s₁.setTop (mkF m 45 #[.val (.ref p0), .val (.int (2 : Int32))] [(.int (ee5 &&& (255 : Int32))), (.int ((((ee2 &&& (255 : Int32)) <<< ((24 : Int32) &&& 31)) ||| ((ee3 &&& (255 : Int32)) <<< ((16 : Int32) &&& 31))) ||| ((ee4 &&& (255 : Int32)) <<< ((8 : Int32) &&& 31))))])) _
    refine XS.ior X0.here hx rfl (hb hby d1_45) rfl ?_
    exact Steps.refl _
  obtain ⟨fs, hr, hrun, hended, hW, hsame⟩ := X0.leave (v := some (.int (((((ee2 &&& (255 : Int32)) <<< ((24 : Int32) &&& 31)) ||| ((ee3 &&& (255 : Int32)) <<< ((16 : Int32) &&& 31))) ||| ((ee4 &&& (255 : Int32)) <<< ((8 : Int32) &&& 31))) ||| (ee5 &&& (255 : Int32))))) (fun h => by rw [Bd.returns] at h; cases h)
  refine ⟨_, _, s10.trans ?_, hrun, hended, _, _, rfl, ?_, ⟨_, rfl⟩, hW, hsame.mono (by decide) (by decide)⟩
  · show Steps p.tables e below (s₁.setTop (mkF m 46 #[.val (.ref p0), .val (.int (2 : Int32))] [(.int (((((ee2 &&& (255 : Int32)) <<< ((24 : Int32) &&& 31)) ||| ((ee3 &&& (255 : Int32)) <<< ((16 : Int32) &&& 31))) ||| ((ee4 &&& (255 : Int32)) <<< ((8 : Int32) &&& 31))) ||| (ee5 &&& (255 : Int32))))])) _
    exact retI X0 hx Bd.returns (hb hby d1_46) hr
  · show Q1_2 Z p0 ka ee0 ee1 ee2 ee3 ee4 ee5 ee6 ee7 h0 n0 _ s₁.heap _
    rw [e0]
    exact ⟨rfl, N0, rfl⟩
theorem ef_rm1_3 (m : MethodId) (p0 : Addr) : entryFrame m #[(.ref p0), (.int (3 : Int32))] 2 = mkF m 0 #[.val (.ref p0), .val (.int (3 : Int32))] [] := by first | (simp [entryFrame, mkF, argsToLocals, Value.category]; done) | rfl
def Q1_3 (Z : State) (p0 : Addr) (ka : ClassId) (ee0 : Int32) (ee1 : Int32) (ee2 : Int32) (ee3 : Int32) (ee4 : Int32) (ee5 : Int32) (ee6 : Int32) (ee7 : Int32) (h0 : Heap) (n0 : Nat) (v : Option Value) (h : Heap) (L : List Loc) : Prop := v = some (.int (own_be ee3 ee4 ee5 ee6)) ∧ Fr n0 L ∧ h = h0
set_option maxRecDepth 65536 in
set_option maxHeartbeats 40000000 in
theorem rm1_3 (l : Launch) (Z : State) (a0 : Array Value) (hw : ∀ d ∈ tables_1, d.before a0 Z = true) (ws : List Jvm.Cond) (p0 : Addr) (ka : ClassId) (ee0 : Int32) (ee1 : Int32) (ee2 : Int32) (ee3 : Int32) (ee4 : Int32) (ee5 : Int32) (ee6 : Int32) (ee7 : Int32) (h0 : Heap) (n0 : Nat) (O0 : Old Z n0 h0) (F0_ : Arv Z h0 p0 ka .byte (8 : Int32) [(.int ee0), (.int ee1), (.int ee2), (.int ee3), (.int ee4), (.int ee5), (.int ee6), (.int ee7)] (.int (0 : Int32))) :
    MetFree l (⟨"com/example/strikewire/strikewire/engine/JournalReader", "intAt", "([BI)I"⟩ : MethodName) (head1 (Jvm.Cond.code (⟨"com/example/strikewire/strikewire/engine/JournalReader", "intAt", "([BI)I"⟩ : MethodName) prog_14_method_17_code 2 (some .int) :: ws) ({ frames := 0, cells := 0, slots := 0, locals := 0 } : Room)) (fun a U => a = #[(.ref p0), (.int (3 : Int32))] ∧ Z.Warmed39 U.vm ∧ U.heap = h0) (fun _ _ _ _ _ => True) (fun _ U o U' => ∃ v L, o = .returned v ∧ Q1_3 Z p0 ka ee0 ee1 ee2 ee3 ee4 ee5 ee6 ee7 h0 n0 v U'.heap L ∧ FrameEnd U o U' L ({ frames := 0, cells := 0, slots := 0, locals := 0 } : Room).cells ({ frames := 0, cells := 0, slots := 0, locals := 0 } : Room).slots) := by
  refine MetFree.of_bodySF (plainFor_of_name pn_1) hisR ?_
  intro p e s m args below meth c s₁ Bd hml0 hP hK
  obtain ⟨rfl, hZ, hh⟩ := hP
  have hx := Bd.exec
  have hby := Bd.bytes
  have hml : c.maxLocals = 2 := hml0
  have hown : s.vm.findClass "com/example/strikewire/strikewire/engine/JournalReader" = some m.cls := findClass_of_methodNamed Bd.named
  have hnm := (name_of_methodNamed Bd.named Bd.method).1
  have X0 : Stand p l e ({ frames := 0, cells := 0, slots := 0, locals := 0 } : Room) s m #[(.ref p0), (.int (3 : Int32))] below meth c s₁ [] 0 0 := Stand.of_body Bd
  have e0 : s₁.heap = h0 := by rw [← hh, Bd.state]; rfl
  have N0 := Fr.nil n0
  have s0 : Steps p.tables e below (s₁.setTop (entryFrame m #[(.ref p0), (.int (3 : Int32))] 2)) (s₁.setTop (mkF m 0 #[.val (.ref p0), .val (.int (3 : Int32))] [])) := castTop (ef_rm1_3 m p0) (Steps.refl _)
  obtain ⟨cla1, Ara1, qa1, Sa1, Za1, Ha1, Ga1⟩ := id F0_
  have hin2 : ¬ ((3 : Int32) < 0 ∨ cla1.slots.size ≤ ((3 : Int32)).toNatClampNeg) := inb_of Sa1 ⟨by decide, by decide⟩
  have hat3 : cla1.slots[((3 : Int32)).toNatClampNeg]? = some (.int ee3) := Has.at Ha1 hin2 rfl
  have hin4 : ¬ ((4 : Int32) < 0 ∨ cla1.slots.size ≤ ((4 : Int32)).toNatClampNeg) := inb_of Sa1 ⟨by decide, by decide⟩
  have hat5 : cla1.slots[((4 : Int32)).toNatClampNeg]? = some (.int ee4) := Has.at Ha1 hin4 rfl
  have hin6 : ¬ ((5 : Int32) < 0 ∨ cla1.slots.size ≤ ((5 : Int32)).toNatClampNeg) := inb_of Sa1 ⟨by decide, by decide⟩
  have hat7 : cla1.slots[((5 : Int32)).toNatClampNeg]? = some (.int ee5) := Has.at Ha1 hin6 rfl
  have hin8 : ¬ ((6 : Int32) < 0 ∨ cla1.slots.size ≤ ((6 : Int32)).toNatClampNeg) := inb_of Sa1 ⟨by decide, by decide⟩
  have hat9 : cla1.slots[((6 : Int32)).toNatClampNeg]? = some (.int ee6) := Has.at Ha1 hin8 rfl
  have s10 : Steps p.tables e below (s₁.setTop (entryFrame m #[(.ref p0), (.int (3 : Int32))] 2)) (s₁.setTop (mkF m 46 #[.val (.ref p0), .val (.int (3 : Int32))] [(.int (((((ee3 &&& (255 : Int32)) <<< ((24 : Int32) &&& 31)) ||| ((ee4 &&& (255 : Int32)) <<< ((16 : Int32) &&& 31))) ||| ((ee5 &&& (255 : Int32)) <<< ((8 : Int32) &&& 31))) ||| (ee6 &&& (255 : Int32))))])) := by
    refine s0.trans ?_
    show Steps p.tables e below (s₁.setTop (mkF m 0 #[.val (.ref p0), .val (.int (3 : Int32))] [])) _
    refine XS.aloadN X0.here hx rfl (hb hby d1_0) rfl rfl ?_
    show Steps p.tables e below (s₁.setTop (mkF m 1 #[.val (.ref p0), .val (.int (3 : Int32))] [(.ref p0)])) _
    refine XS.iloadN X0.here hx rfl (hb hby d1_1) rfl ?_
    show Steps p.tables e below (s₁.setTop (mkF m 2 #[.val (.ref p0), .val (.int (3 : Int32))] [(.int (3 : Int32)), (.ref p0)])) _
    refine X0.baloadBytes hx (j := (3 : Int32)) (v := (.int ee3)) (by rw [e0]; exact Ara1.1) (State.isArrayOf_alike hZ.alike Ara1.2.1) Ara1.2.2 hin2 hat3 (g := (mkF m 2 #[.val (.ref p0), .val (.int (3 : Int32))] [(.int (3 : Int32)), (.ref p0)])) rfl rfl (hb hby d1_2) _ ?_
    show Steps p.tables e below (s₁.setTop (mkF m 3 #[.val (.ref p0), .val (.int (3 : Int32))] [(.int ee3)])) _
    refine XS.sipush X0.here hx rfl (hb hby d1_3) ?_
    show Steps p.tables e below (s₁.setTop (mkF m 6 #[.val (.ref p0), .val (.int (3 : Int32))] [(.int (255 : Int32)), (.int ee3)])) _
    refine XS.iand X0.here hx rfl (hb hby d1_6) rfl ?_
    show Steps p.tables e below (s₁.setTop (mkF m 7 #[.val (.ref p0), .val (.int (3 : Int32))] [(.int (ee3 &&& (255 : Int32)))])) _
    refine XS.bipush X0.here hx rfl (hb hby d1_7) ?_
    show Steps p.tables e below (s₁.setTop (mkF m 9 #[.val (.ref p0), .val (.int (3 : Int32))] [(.int (24 : Int32)), (.int (ee3 &&& (255 : Int32)))])) _
    refine XS.ishl X0.here hx rfl (hb hby d1_9) rfl ?_
    show Steps p.tables e below (s₁.setTop (mkF m 10 #[.val (.ref p0), .val (.int (3 : Int32))] [(.int ((ee3 &&& (255 : Int32)) <<< ((24 : Int32) &&& 31)))])) _
    refine XS.aloadN X0.here hx rfl (hb hby d1_10) rfl rfl ?_
    show Steps p.tables e below (s₁.setTop (mkF m 11 #[.val (.ref p0), .val (.int (3 : Int32))] [(.ref p0), (.int ((ee3 &&& (255 : Int32)) <<< ((24 : Int32) &&& 31)))])) _
    refine XS.iloadN X0.here hx rfl (hb hby d1_11) rfl ?_
    show Steps p.tables e below (s₁.setTop (mkF m 12 #[.val (.ref p0), .val (.int (3 : Int32))] [(.int (3 : Int32)), (.ref p0), (.int ((ee3 &&& (255 : Int32)) <<< ((24 : Int32) &&& 31)))])) _
    refine XS.iconst X0.here hx rfl (hb hby d1_12) ?_
    show Steps p.tables e below (s₁.setTop (mkF m 13 #[.val (.ref p0), .val (.int (3 : Int32))] [(.int (1 : Int32)), (.int (3 : Int32)), (.ref p0), (.int ((ee3 &&& (255 : Int32)) <<< ((24 : Int32) &&& 31)))])) _
    refine XS.iadd X0.here hx rfl (hb hby d1_13) rfl ?_
    show Steps p.tables e below (s₁.setTop (mkF m 14 #[.val (.ref p0), .val (.int (3 : Int32))] [(.int (4 : Int32)), (.ref p0), (.int ((ee3 &&& (255 : Int32)) <<< ((24 : Int32) &&& 31)))])) _
    refine X0.baloadBytes hx (j := (4 : Int32)) (v := (.int ee4)) (by rw [e0]; exact Ara1.1) (State.isArrayOf_alike hZ.alike Ara1.2.1) Ara1.2.2 hin4 hat5 (g := (mkF m 14 #[.val (.ref p0), .val (.int (3 : Int32))] [(.int (4 : Int32)), (.ref p0), (.int ((ee3 &&& (255 : Int32)) <<< ((24 : Int32) &&& 31)))])) rfl rfl (hb hby d1_14) _ ?_
    show Steps p.tables e below (s₁.setTop (mkF m 15 #[.val (.ref p0), .val (.int (3 : Int32))] [(.int ee4), (.int ((ee3 &&& (255 : Int32)) <<< ((24 : Int32) &&& 31)))])) _
    refine XS.sipush X0.here hx rfl (hb hby d1_15) ?_
    show Steps p.tables e below (s₁.setTop (mkF m 18 #[.val (.ref p0), .val (.int (3 : Int32))] [(.int (255 : Int32)), (.int ee4), (.int ((ee3 &&& (255 : Int32)) <<< ((24 : Int32) &&& 31)))])) _
    refine XS.iand X0.here hx rfl (hb hby d1_18) rfl ?_
    show Steps p.tables e below (s₁.setTop (mkF m 19 #[.val (.ref p0), .val (.int (3 : Int32))] [(.int (ee4 &&& (255 : Int32))), (.int ((ee3 &&& (255 : Int32)) <<< ((24 : Int32) &&& 31)))])) _
    refine XS.bipush X0.here hx rfl (hb hby d1_19) ?_
    show Steps p.tables e below (s₁.setTop (mkF m 21 #[.val (.ref p0), .val (.int (3 : Int32))] [(.int (16 : Int32)), (.int (ee4 &&& (255 : Int32))), (.int ((ee3 &&& (255 : Int32)) <<< ((24 : Int32) &&& 31)))])) _
    refine XS.ishl X0.here hx rfl (hb hby d1_21) rfl ?_
    show Steps p.tables e below (s₁.setTop (mkF m 22 #[.val (.ref p0), .val (.int (3 : Int32))] [(.int ((ee4 &&& (255 : Int32)) <<< ((16 : Int32) &&& 31))), (.int ((ee3 &&& (255 : Int32)) <<< ((24 : Int32) &&& 31)))])) _
    refine XS.ior X0.here hx rfl (hb hby d1_22) rfl ?_
    show Steps p.tables e below (s₁.setTop (mkF m 23 #[.val (.ref p0), .val (.int (3 : Int32))] [(.int (((ee3 &&& (255 : Int32)) <<< ((24 : Int32) &&& 31)) ||| ((ee4 &&& (255 : Int32)) <<< ((16 : Int32) &&& 31))))])) _
    refine XS.aloadN X0.here hx rfl (hb hby d1_23) rfl rfl ?_
    show Steps p.tables e below (s₁.setTop (mkF m 24 #[.val (.ref p0), .val (.int (3 : Int32))] [(.ref p0), (.int (((ee3 &&& (255 : Int32)) <<< ((24 : Int32) &&& 31)) ||| ((ee4 &&& (255 : Int32)) <<< ((16 : Int32) &&& 31))))])) _
    refine XS.iloadN X0.here hx rfl (hb hby d1_24) rfl ?_
    show Steps p.tables e below (s₁.setTop (mkF m 25 #[.val (.ref p0), .val (.int (3 : Int32))] [(.int (3 : Int32)), (.ref p0), (.int (((ee3 &&& (255 : Int32)) <<< ((24 : Int32) &&& 31)) ||| ((ee4 &&& (255 : Int32)) <<< ((16 : Int32) &&& 31))))])) _
    refine XS.iconst X0.here hx rfl (hb hby d1_25) ?_
    show Steps p.tables e below (s₁.setTop (mkF m 26 #[.val (.ref p0), .val (.int (3 : Int32))] [(.int (2 : Int32)), (.int (3 : Int32)), (.ref p0), (.int (((ee3 &&& (255 : Int32)) <<< ((24 : Int32) &&& 31)) ||| ((ee4 &&& (255 : Int32)) <<< ((16 : Int32) &&& 31))))])) _
    refine XS.iadd X0.here hx rfl (hb hby d1_26) rfl ?_
    show Steps p.tables e below (s₁.setTop (mkF m 27 #[.val (.ref p0), .val (.int (3 : Int32))] [(.int (5 : Int32)), (.ref p0), (.int (((ee3 &&& (255 : Int32)) <<< ((24 : Int32) &&& 31)) ||| ((ee4 &&& (255 : Int32)) <<< ((16 : Int32) &&& 31))))])) _
    refine X0.baloadBytes hx (j := (5 : Int32)) (v := (.int ee5)) (by rw [e0]; exact Ara1.1) (State.isArrayOf_alike hZ.alike Ara1.2.1) Ara1.2.2 hin6 hat7 (g := (mkF m 27 #[.val (.ref p0), .val (.int (3 : Int32))] [(.int (5 : Int32)), (.ref p0), (.int (((ee3 &&& (255 : Int32)) <<< ((24 : Int32) &&& 31)) ||| ((ee4 &&& (255 : Int32)) <<< ((16 : Int32) &&& 31))))])) rfl rfl (hb hby d1_27) _ ?_
    show Steps p.tables e below (s₁.setTop (mkF m 28 #[.val (.ref p0), .val (.int (3 : Int32))] [(.int ee5), (.int (((ee3 &&& (255 : Int32)) <<< ((24 : Int32) &&& 31)) ||| ((ee4 &&& (255 : Int32)) <<< ((16 : Int32) &&& 31))))])) _
    refine XS.sipush X0.here hx rfl (hb hby d1_28) ?_
    show Steps p.tables e below (s₁.setTop (mkF m 31 #[.val (.ref p0), .val (.int (3 : Int32))] [(.int (255 : Int32)), (.int ee5), (.int (((ee3 &&& (255 : Int32)) <<< ((24 : Int32) &&& 31)) ||| ((ee4 &&& (255 : Int32)) <<< ((16 : Int32) &&& 31))))])) _
    refine XS.iand X0.here hx rfl (hb hby d1_31) rfl ?_
    show Steps p.tables e below (s₁.setTop (mkF m 32 #[.val (.ref p0), .val (.int (3 : Int32))] [(.int (ee5 &&& (255 : Int32))), (.int (((ee3 &&& (255 : Int32)) <<< ((24 : Int32) &&& 31)) ||| ((ee4 &&& (255 : Int32)) <<< ((16 : Int32) &&& 31))))])) _
    refine XS.bipush X0.here hx rfl (hb hby d1_32) ?_
    show Steps p.tables e below (s₁.setTop (mkF m 34 #[.val (.ref p0), .val (.int (3 : Int32))] [(.int (8 : Int32)), (.int (ee5 &&& (255 : Int32))), (.int (((ee3 &&& (255 : Int32)) <<< ((24 : Int32) &&& 31)) ||| ((ee4 &&& (255 : Int32)) <<< ((16 : Int32) &&& 31))))])) _
    refine XS.ishl X0.here hx rfl (hb hby d1_34) rfl ?_
    show Steps p.tables e below (s₁.setTop (mkF m 35 #[.val (.ref p0), .val (.int (3 : Int32))] [(.int ((ee5 &&& (255 : Int32)) <<< ((8 : Int32) &&& 31))), (.int (((ee3 &&& (255 : Int32)) <<< ((24 : Int32) &&& 31)) ||| ((ee4 &&& (255 : Int32)) <<< ((16 : Int32) &&& 31))))])) _
    refine XS.ior X0.here hx rfl (hb hby d1_35) rfl ?_
    show Steps p.tables e below (s₁.setTop (mkF m 36 #[.val (.ref p0), .val (.int (3 : Int32))] [(.int ((((ee3 &&& (255 : Int32)) <<< ((24 : Int32) &&& 31)) ||| ((ee4 &&& (255 : Int32)) <<< ((16 : Int32) &&& 31))) ||| ((ee5 &&& (255 : Int32)) <<< ((8 : Int32) &&& 31))))])) _
    refine XS.aloadN X0.here hx rfl (hb hby d1_36) rfl rfl ?_
    show Steps p.tables e below (s₁.setTop (mkF m 37 #[.val (.ref p0), .val (.int (3 : Int32))] [(.ref p0), (.int ((((ee3 &&& (255 : Int32)) <<< ((24 : Int32) &&& 31)) ||| ((ee4 &&& (255 : Int32)) <<< ((16 : Int32) &&& 31))) ||| ((ee5 &&& (255 : Int32)) <<< ((8 : Int32) &&& 31))))])) _
    refine XS.iloadN X0.here hx rfl (hb hby d1_37) rfl ?_
    show Steps p.tables e below (s₁.setTop (mkF m 38 #[.val (.ref p0), .val (.int (3 : Int32))] [(.int (3 : Int32)), (.ref p0), (.int ((((ee3 &&& (255 : Int32)) <<< ((24 : Int32) &&& 31)) ||| ((ee4 &&& (255 : Int32)) <<< ((16 : Int32) &&& 31))) ||| ((ee5 &&& (255 : Int32)) <<< ((8 : Int32) &&& 31))))])) _
    refine XS.iconst X0.here hx rfl (hb hby d1_38) ?_
    show Steps p.tables e below (s₁.setTop (mkF m 39 #[.val (.ref p0), .val (.int (3 : Int32))] [(.int (3 : Int32)), (.int (3 : Int32)), (.ref p0), (.int ((((ee3 &&& (255 : Int32)) <<< ((24 : Int32) &&& 31)) ||| ((ee4 &&& (255 : Int32)) <<< ((16 : Int32) &&& 31))) ||| ((ee5 &&& (255 : Int32)) <<< ((8 : Int32) &&& 31))))])) _
    refine XS.iadd X0.here hx rfl (hb hby d1_39) rfl ?_
    show Steps p.tables e below (s₁.setTop (mkF m 40 #[.val (.ref p0), .val (.int (3 : Int32))] [(.int (6 : Int32)), (.ref p0), (.int ((((ee3 &&& (255 : Int32)) <<< ((24 : Int32) &&& 31)) ||| ((ee4 &&& (255 : Int32)) <<< ((16 : Int32) &&& 31))) ||| ((ee5 &&& (255 : Int32)) <<< ((8 : Int32) &&& 31))))])) _
    refine X0.baloadBytes hx (j := (6 : Int32)) (v := (.int ee6)) (by rw [e0]; exact Ara1.1) (State.isArrayOf_alike hZ.alike Ara1.2.1) Ara1.2.2 hin8 hat9 (g := (mkF m 40 #[.val (.ref p0), .val (.int (3 : Int32))] [(.int (6 : Int32)), (.ref p0), (.int ((((ee3 &&& (255 : Int32)) <<< ((24 : Int32) &&& 31)) ||| ((ee4 &&& (255 : Int32)) <<< ((16 : Int32) &&& 31))) ||| ((ee5 &&& (255 : Int32)) <<< ((8 : Int32) &&& 31))))])) rfl rfl (hb hby d1_40) _ ?_
    show Steps p.tables e below (s₁.setTop (mkF m 41 #[.val (.ref p0), .val (.int (3 : Int32))] [(.int ee6), (.int ((((ee3 &&& (255 : Int32)) <<< ((24 : Int32) &&& 31)) ||| ((ee4 &&& (255 : Int32)) <<< ((16 : Int32) &&& 31))) ||| ((ee5 &&& (255 : Int32)) <<< ((8 : Int32) &&& 31))))])) _
    refine XS.sipush X0.here hx rfl (hb hby d1_41) ?_
    show Steps p.tables e below (s₁.setTop (mkF m 44 #[.val (.ref p0), .val (.int (3 : Int32))] [(.int (255 : Int32)), (.int ee6), (.int ((((ee3 &&& (255 : Int32)) <<< ((24 : Int32) &&& 31)) ||| ((ee4 &&& (255 : Int32)) <<< ((16 : Int32) &&& 31))) ||| ((ee5 &&& (255 : Int32)) <<< ((8 : Int32) &&& 31))))])) _
    refine XS.iand X0.here hx rfl (hb hby d1_44) rfl ?_
    show Steps p.tables e below (s₁.setTop (mkF m 45 #[.val (.ref p0), .val (.int (3 : Int32))] [(.int (ee6 &&& (255 : Int32))), (.int ((((ee3 &&& (255 : Int32)) <<< ((24 : Int32) &&& 31)) ||| ((ee4 &&& (255 : Int32)) <<< ((16 : Int32) &&& 31))) ||| ((ee5 &&& (255 : Int32)) <<< ((8 : Int32) &&& 31))))])) _
    refine XS.ior X0.here hx rfl (hb hby d1_45) rfl ?_
    exact Steps.refl _
  obtain ⟨fs, hr, hrun, hended, hW, hsame⟩ := X0.leave (v := some (.int (((((ee3 &&& (255 : Int32)) <<< ((24 : Int32) &&& 31)) ||| ((ee4 &&& (255 : Int32)) <<< ((16 : Int32) &&& 31))) ||| ((ee5 &&& (255 : Int32)) <<< ((8 : Int32) &&& 31))) ||| (ee6 &&& (255 : Int32))))) (fun h => by rw [Bd.returns] at h; cases h)
  refine ⟨_, _, s10.trans ?_, hrun, hended, _, _, rfl, ?_, ⟨_, rfl⟩, hW, hsame.mono (by decide) (by decide)⟩
  · show Steps p.tables e below (s₁.setTop (mkF m 46 #[.val (.ref p0), .val (.int (3 : Int32))] [(.int (((((ee3 &&& (255 : Int32)) <<< ((24 : Int32) &&& 31)) ||| ((ee4 &&& (255 : Int32)) <<< ((16 : Int32) &&& 31))) ||| ((ee5 &&& (255 : Int32)) <<< ((8 : Int32) &&& 31))) ||| (ee6 &&& (255 : Int32))))])) _
    exact retI X0 hx Bd.returns (hb hby d1_46) hr
  · show Q1_3 Z p0 ka ee0 ee1 ee2 ee3 ee4 ee5 ee6 ee7 h0 n0 _ s₁.heap _
    rw [e0]
    exact ⟨rfl, N0, rfl⟩
theorem ef_rm1_4 (m : MethodId) (p0 : Addr) : entryFrame m #[(.ref p0), (.int (4 : Int32))] 2 = mkF m 0 #[.val (.ref p0), .val (.int (4 : Int32))] [] := by first | (simp [entryFrame, mkF, argsToLocals, Value.category]; done) | rfl
def Q1_4 (Z : State) (p0 : Addr) (ka : ClassId) (ee0 : Int32) (ee1 : Int32) (ee2 : Int32) (ee3 : Int32) (ee4 : Int32) (ee5 : Int32) (ee6 : Int32) (ee7 : Int32) (h0 : Heap) (n0 : Nat) (v : Option Value) (h : Heap) (L : List Loc) : Prop := v = some (.int (own_be ee4 ee5 ee6 ee7)) ∧ Fr n0 L ∧ h = h0
set_option maxRecDepth 65536 in
set_option maxHeartbeats 40000000 in
theorem rm1_4 (l : Launch) (Z : State) (a0 : Array Value) (hw : ∀ d ∈ tables_1, d.before a0 Z = true) (ws : List Jvm.Cond) (p0 : Addr) (ka : ClassId) (ee0 : Int32) (ee1 : Int32) (ee2 : Int32) (ee3 : Int32) (ee4 : Int32) (ee5 : Int32) (ee6 : Int32) (ee7 : Int32) (h0 : Heap) (n0 : Nat) (O0 : Old Z n0 h0) (F0_ : Arv Z h0 p0 ka .byte (8 : Int32) [(.int ee0), (.int ee1), (.int ee2), (.int ee3), (.int ee4), (.int ee5), (.int ee6), (.int ee7)] (.int (0 : Int32))) :
    MetFree l (⟨"com/example/strikewire/strikewire/engine/JournalReader", "intAt", "([BI)I"⟩ : MethodName) (head1 (Jvm.Cond.code (⟨"com/example/strikewire/strikewire/engine/JournalReader", "intAt", "([BI)I"⟩ : MethodName) prog_14_method_17_code 2 (some .int) :: ws) ({ frames := 0, cells := 0, slots := 0, locals := 0 } : Room)) (fun a U => a = #[(.ref p0), (.int (4 : Int32))] ∧ Z.Warmed39 U.vm ∧ U.heap = h0) (fun _ _ _ _ _ => True) (fun _ U o U' => ∃ v L, o = .returned v ∧ Q1_4 Z p0 ka ee0 ee1 ee2 ee3 ee4 ee5 ee6 ee7 h0 n0 v U'.heap L ∧ FrameEnd U o U' L ({ frames := 0, cells := 0, slots := 0, locals := 0 } : Room).cells ({ frames := 0, cells := 0, slots := 0, locals := 0 } : Room).slots) := by
  refine MetFree.of_bodySF (plainFor_of_name pn_1) hisR ?_
  intro p e s m args below meth c s₁ Bd hml0 hP hK
  obtain ⟨rfl, hZ, hh⟩ := hP
  have hx := Bd.exec
  have hby := Bd.bytes
  have hml : c.maxLocals = 2 := hml0
  have hown : s.vm.findClass "com/example/strikewire/strikewire/engine/JournalReader" = some m.cls := findClass_of_methodNamed Bd.named
  have hnm := (name_of_methodNamed Bd.named Bd.method).1
  have X0 : Stand p l e ({ frames := 0, cells := 0, slots := 0, locals := 0 } : Room) s m #[(.ref p0), (.int (4 : Int32))] below meth c s₁ [] 0 0 := Stand.of_body Bd
  have e0 : s₁.heap = h0 := by rw [← hh, Bd.state]; rfl
  have N0 := Fr.nil n0
  have s0 : Steps p.tables e below (s₁.setTop (entryFrame m #[(.ref p0), (.int (4 : Int32))] 2)) (s₁.setTop (mkF m 0 #[.val (.ref p0), .val (.int (4 : Int32))] [])) := castTop (ef_rm1_4 m p0) (Steps.refl _)
  obtain ⟨cla1, Ara1, qa1, Sa1, Za1, Ha1, Ga1⟩ := id F0_
  have hin2 : ¬ ((4 : Int32) < 0 ∨ cla1.slots.size ≤ ((4 : Int32)).toNatClampNeg) := inb_of Sa1 ⟨by decide, by decide⟩
  have hat3 : cla1.slots[((4 : Int32)).toNatClampNeg]? = some (.int ee4) := Has.at Ha1 hin2 rfl
  have hin4 : ¬ ((5 : Int32) < 0 ∨ cla1.slots.size ≤ ((5 : Int32)).toNatClampNeg) := inb_of Sa1 ⟨by decide, by decide⟩
  have hat5 : cla1.slots[((5 : Int32)).toNatClampNeg]? = some (.int ee5) := Has.at Ha1 hin4 rfl
  have hin6 : ¬ ((6 : Int32) < 0 ∨ cla1.slots.size ≤ ((6 : Int32)).toNatClampNeg) := inb_of Sa1 ⟨by decide, by decide⟩
  have hat7 : cla1.slots[((6 : Int32)).toNatClampNeg]? = some (.int ee6) := Has.at Ha1 hin6 rfl
  have hin8 : ¬ ((7 : Int32) < 0 ∨ cla1.slots.size ≤ ((7 : Int32)).toNatClampNeg) := inb_of Sa1 ⟨by decide, by decide⟩
  have hat9 : cla1.slots[((7 : Int32)).toNatClampNeg]? = some (.int ee7) := Has.at Ha1 hin8 rfl
  have s10 : Steps p.tables e below (s₁.setTop (entryFrame m #[(.ref p0), (.int (4 : Int32))] 2)) (s₁.setTop (mkF m 46 #[.val (.ref p0), .val (.int (4 : Int32))] [(.int (((((ee4 &&& (255 : Int32)) <<< ((24 : Int32) &&& 31)) ||| ((ee5 &&& (255 : Int32)) <<< ((16 : Int32) &&& 31))) ||| ((ee6 &&& (255 : Int32)) <<< ((8 : Int32) &&& 31))) ||| (ee7 &&& (255 : Int32))))])) := by
    refine s0.trans ?_
    show Steps p.tables e below (s₁.setTop (mkF m 0 #[.val (.ref p0), .val (.int (4 : Int32))] [])) _
    refine XS.aloadN X0.here hx rfl (hb hby d1_0) rfl rfl ?_
    show Steps p.tables e below (s₁.setTop (mkF m 1 #[.val (.ref p0), .val (.int (4 : Int32))] [(.ref p0)])) _
    refine XS.iloadN X0.here hx rfl (hb hby d1_1) rfl ?_
    show Steps p.tables e below (s₁.setTop (mkF m 2 #[.val (.ref p0), .val (.int (4 : Int32))] [(.int (4 : Int32)), (.ref p0)])) _
    refine X0.baloadBytes hx (j := (4 : Int32)) (v := (.int ee4)) (by rw [e0]; exact Ara1.1) (State.isArrayOf_alike hZ.alike Ara1.2.1) Ara1.2.2 hin2 hat3 (g := (mkF m 2 #[.val (.ref p0), .val (.int (4 : Int32))] [(.int (4 : Int32)), (.ref p0)])) rfl rfl (hb hby d1_2) _ ?_
    show Steps p.tables e below (s₁.setTop (mkF m 3 #[.val (.ref p0), .val (.int (4 : Int32))] [(.int ee4)])) _
    refine XS.sipush X0.here hx rfl (hb hby d1_3) ?_
    show Steps p.tables e below (s₁.setTop (mkF m 6 #[.val (.ref p0), .val (.int (4 : Int32))] [(.int (255 : Int32)), (.int ee4)])) _
    refine XS.iand X0.here hx rfl (hb hby d1_6) rfl ?_
    show Steps p.tables e below (s₁.setTop (mkF m 7 #[.val (.ref p0), .val (.int (4 : Int32))] [(.int (ee4 &&& (255 : Int32)))])) _
    refine XS.bipush X0.here hx rfl (hb hby d1_7) ?_
    show Steps p.tables e below (s₁.setTop (mkF m 9 #[.val (.ref p0), .val (.int (4 : Int32))] [(.int (24 : Int32)), (.int (ee4 &&& (255 : Int32)))])) _
    refine XS.ishl X0.here hx rfl (hb hby d1_9) rfl ?_
    show Steps p.tables e below (s₁.setTop (mkF m 10 #[.val (.ref p0), .val (.int (4 : Int32))] [(.int ((ee4 &&& (255 : Int32)) <<< ((24 : Int32) &&& 31)))])) _
    refine XS.aloadN X0.here hx rfl (hb hby d1_10) rfl rfl ?_
    show Steps p.tables e below (s₁.setTop (mkF m 11 #[.val (.ref p0), .val (.int (4 : Int32))] [(.ref p0), (.int ((ee4 &&& (255 : Int32)) <<< ((24 : Int32) &&& 31)))])) _
    refine XS.iloadN X0.here hx rfl (hb hby d1_11) rfl ?_
    show Steps p.tables e below (s₁.setTop (mkF m 12 #[.val (.ref p0), .val (.int (4 : Int32))] [(.int (4 : Int32)), (.ref p0), (.int ((ee4 &&& (255 : Int32)) <<< ((24 : Int32) &&& 31)))])) _
    refine XS.iconst X0.here hx rfl (hb hby d1_12) ?_
    show Steps p.tables e below (s₁.setTop (mkF m 13 #[.val (.ref p0), .val (.int (4 : Int32))] [(.int (1 : Int32)), (.int (4 : Int32)), (.ref p0), (.int ((ee4 &&& (255 : Int32)) <<< ((24 : Int32) &&& 31)))])) _
    refine XS.iadd X0.here hx rfl (hb hby d1_13) rfl ?_
    show Steps p.tables e below (s₁.setTop (mkF m 14 #[.val (.ref p0), .val (.int (4 : Int32))] [(.int (5 : Int32)), (.ref p0), (.int ((ee4 &&& (255 : Int32)) <<< ((24 : Int32) &&& 31)))])) _
    refine X0.baloadBytes hx (j := (5 : Int32)) (v := (.int ee5)) (by rw [e0]; exact Ara1.1) (State.isArrayOf_alike hZ.alike Ara1.2.1) Ara1.2.2 hin4 hat5 (g := (mkF m 14 #[.val (.ref p0), .val (.int (4 : Int32))] [(.int (5 : Int32)), (.ref p0), (.int ((ee4 &&& (255 : Int32)) <<< ((24 : Int32) &&& 31)))])) rfl rfl (hb hby d1_14) _ ?_
    show Steps p.tables e below (s₁.setTop (mkF m 15 #[.val (.ref p0), .val (.int (4 : Int32))] [(.int ee5), (.int ((ee4 &&& (255 : Int32)) <<< ((24 : Int32) &&& 31)))])) _
    refine XS.sipush X0.here hx rfl (hb hby d1_15) ?_
    show Steps p.tables e below (s₁.setTop (mkF m 18 #[.val (.ref p0), .val (.int (4 : Int32))] [(.int (255 : Int32)), (.int ee5), (.int ((ee4 &&& (255 : Int32)) <<< ((24 : Int32) &&& 31)))])) _
    refine XS.iand X0.here hx rfl (hb hby d1_18) rfl ?_
    show Steps p.tables e below (s₁.setTop (mkF m 19 #[.val (.ref p0), .val (.int (4 : Int32))] [(.int (ee5 &&& (255 : Int32))), (.int ((ee4 &&& (255 : Int32)) <<< ((24 : Int32) &&& 31)))])) _
    refine XS.bipush X0.here hx rfl (hb hby d1_19) ?_
    show Steps p.tables e below (s₁.setTop (mkF m 21 #[.val (.ref p0), .val (.int (4 : Int32))] [(.int (16 : Int32)), (.int (ee5 &&& (255 : Int32))), (.int ((ee4 &&& (255 : Int32)) <<< ((24 : Int32) &&& 31)))])) _
    refine XS.ishl X0.here hx rfl (hb hby d1_21) rfl ?_
    show Steps p.tables e below (s₁.setTop (mkF m 22 #[.val (.ref p0), .val (.int (4 : Int32))] [(.int ((ee5 &&& (255 : Int32)) <<< ((16 : Int32) &&& 31))), (.int ((ee4 &&& (255 : Int32)) <<< ((24 : Int32) &&& 31)))])) _
    refine XS.ior X0.here hx rfl (hb hby d1_22) rfl ?_
    show Steps p.tables e below (s₁.setTop (mkF m 23 #[.val (.ref p0), .val (.int (4 : Int32))] [(.int (((ee4 &&& (255 : Int32)) <<< ((24 : Int32) &&& 31)) ||| ((ee5 &&& (255 : Int32)) <<< ((16 : Int32) &&& 31))))])) _
    refine XS.aloadN X0.here hx rfl (hb hby d1_23) rfl rfl ?_
    show Steps p.tables e below (s₁.setTop (mkF m 24 #[.val (.ref p0), .val (.int (4 : Int32))] [(.ref p0), (.int (((ee4 &&& (255 : Int32)) <<< ((24 : Int32) &&& 31)) ||| ((ee5 &&& (255 : Int32)) <<< ((16 : Int32) &&& 31))))])) _
    refine XS.iloadN X0.here hx rfl (hb hby d1_24) rfl ?_
    show Steps p.tables e below (s₁.setTop (mkF m 25 #[.val (.ref p0), .val (.int (4 : Int32))] [(.int (4 : Int32)), (.ref p0), (.int (((ee4 &&& (255 : Int32)) <<< ((24 : Int32) &&& 31)) ||| ((ee5 &&& (255 : Int32)) <<< ((16 : Int32) &&& 31))))])) _
    refine XS.iconst X0.here hx rfl (hb hby d1_25) ?_
    show Steps p.tables e below (s₁.setTop (mkF m 26 #[.val (.ref p0), .val (.int (4 : Int32))] [(.int (2 : Int32)), (.int (4 : Int32)), (.ref p0), (.int (((ee4 &&& (255 : Int32)) <<< ((24 : Int32) &&& 31)) ||| ((ee5 &&& (255 : Int32)) <<< ((16 : Int32) &&& 31))))])) _
    refine XS.iadd X0.here hx rfl (hb hby d1_26) rfl ?_
    show Steps p.tables e below (s₁.setTop (mkF m 27 #[.val (.ref p0), .val (.int (4 : Int32))] [(.int (6 : Int32)), (.ref p0), (.int (((ee4 &&& (255 : Int32)) <<< ((24 : Int32) &&& 31)) ||| ((ee5 &&& (255 : Int32)) <<< ((16 : Int32) &&& 31))))])) _
    refine X0.baloadBytes hx (j := (6 : Int32)) (v := (.int ee6)) (by rw [e0]; exact Ara1.1) (State.isArrayOf_alike hZ.alike Ara1.2.1) Ara1.2.2 hin6 hat7 (g := (mkF m 27 #[.val (.ref p0), .val (.int (4 : Int32))] [(.int (6 : Int32)), (.ref p0), (.int (((ee4 &&& (255 : Int32)) <<< ((24 : Int32) &&& 31)) ||| ((ee5 &&& (255 : Int32)) <<< ((16 : Int32) &&& 31))))])) rfl rfl (hb hby d1_27) _ ?_
    show Steps p.tables e below (s₁.setTop (mkF m 28 #[.val (.ref p0), .val (.int (4 : Int32))] [(.int ee6), (.int (((ee4 &&& (255 : Int32)) <<< ((24 : Int32) &&& 31)) ||| ((ee5 &&& (255 : Int32)) <<< ((16 : Int32) &&& 31))))])) _
    refine XS.sipush X0.here hx rfl (hb hby d1_28) ?_
    show Steps p.tables e below (s₁.setTop (mkF m 31 #[.val (.ref p0), .val (.int (4 : Int32))] [(.int (255 : Int32)), (.int ee6), (.int (((ee4 &&& (255 : Int32)) <<< ((24 : Int32) &&& 31)) ||| ((ee5 &&& (255 : Int32)) <<< ((16 : Int32) &&& 31))))])) _
    refine XS.iand X0.here hx rfl (hb hby d1_31) rfl ?_
    show Steps p.tables e below (s₁.setTop (mkF m 32 #[.val (.ref p0), .val (.int (4 : Int32))] [(.int (ee6 &&& (255 : Int32))), (.int (((ee4 &&& (255 : Int32)) <<< ((24 : Int32) &&& 31)) ||| ((ee5 &&& (255 : Int32)) <<< ((16 : Int32) &&& 31))))])) _
    refine XS.bipush X0.here hx rfl (hb hby d1_32) ?_
    show Steps p.tables e below (s₁.setTop (mkF m 34 #[.val (.ref p0), .val (.int (4 : Int32))] [(.int (8 : Int32)), (.int (ee6 &&& (255 : Int32))), (.int (((ee4 &&& (255 : Int32)) <<< ((24 : Int32) &&& 31)) ||| ((ee5 &&& (255 : Int32)) <<< ((16 : Int32) &&& 31))))])) _
    refine XS.ishl X0.here hx rfl (hb hby d1_34) rfl ?_
    show Steps p.tables e below (s₁.setTop (mkF m 35 #[.val (.ref p0), .val (.int (4 : Int32))] [(.int ((ee6 &&& (255 : Int32)) <<< ((8 : Int32) &&& 31))), (.int (((ee4 &&& (255 : Int32)) <<< ((24 : Int32) &&& 31)) ||| ((ee5 &&& (255 : Int32)) <<< ((16 : Int32) &&& 31))))])) _
    refine XS.ior X0.here hx rfl (hb hby d1_35) rfl ?_
    show Steps p.tables e below (s₁.setTop (mkF m 36 #[.val (.ref p0), .val (.int (4 : Int32))] [(.int ((((ee4 &&& (255 : Int32)) <<< ((24 : Int32) &&& 31)) ||| ((ee5 &&& (255 : Int32)) <<< ((16 : Int32) &&& 31))) ||| ((ee6 &&& (255 : Int32)) <<< ((8 : Int32) &&& 31))))])) _
    refine XS.aloadN X0.here hx rfl (hb hby d1_36) rfl rfl ?_
    show Steps p.tables e below (s₁.setTop (mkF m 37 #[.val (.ref p0), .val (.int (4 : Int32))] [(.ref p0), (.int ((((ee4 &&& (255 : Int32)) <<< ((24 : Int32) &&& 31)) ||| ((ee5 &&& (255 : Int32)) <<< ((16 : Int32) &&& 31))) ||| ((ee6 &&& (255 : Int32)) <<< ((8 : Int32) &&& 31))))])) _
    refine XS.iloadN X0.here hx rfl (hb hby d1_37) rfl ?_
    show Steps p.tables e below (s₁.setTop (mkF m 38 #[.val (.ref p0), .val (.int (4 : Int32))] [(.int (4 : Int32)), (.ref p0), (.int ((((ee4 &&& (255 : Int32)) <<< ((24 : Int32) &&& 31)) ||| ((ee5 &&& (255 : Int32)) <<< ((16 : Int32) &&& 31))) ||| ((ee6 &&& (255 : Int32)) <<< ((8 : Int32) &&& 31))))])) _
    refine XS.iconst X0.here hx rfl (hb hby d1_38) ?_
    show Steps p.tables e below (s₁.setTop (mkF m 39 #[.val (.ref p0), .val (.int (4 : Int32))] [(.int (3 : Int32)), (.int (4 : Int32)), (.ref p0), (.int ((((ee4 &&& (255 : Int32)) <<< ((24 : Int32) &&& 31)) ||| ((ee5 &&& (255 : Int32)) <<< ((16 : Int32) &&& 31))) ||| ((ee6 &&& (255 : Int32)) <<< ((8 : Int32) &&& 31))))])) _
    refine XS.iadd X0.here hx rfl (hb hby d1_39) rfl ?_
    show Steps p.tables e below (s₁.setTop (mkF m 40 #[.val (.ref p0), .val (.int (4 : Int32))] [(.int (7 : Int32)), (.ref p0), (.int ((((ee4 &&& (255 : Int32)) <<< ((24 : Int32) &&& 31)) ||| ((ee5 &&& (255 : Int32)) <<< ((16 : Int32) &&& 31))) ||| ((ee6 &&& (255 : Int32)) <<< ((8 : Int32) &&& 31))))])) _
    refine X0.baloadBytes hx (j := (7 : Int32)) (v := (.int ee7)) (by rw [e0]; exact Ara1.1) (State.isArrayOf_alike hZ.alike Ara1.2.1) Ara1.2.2 hin8 hat9 (g := (mkF m 40 #[.val (.ref p0), .val (.int (4 : Int32))] [(.int (7 : Int32)), (.ref p0), (.int ((((ee4 &&& (255 : Int32)) <<< ((24 : Int32) &&& 31)) ||| ((ee5 &&& (255 : Int32)) <<< ((16 : Int32) &&& 31))) ||| ((ee6 &&& (255 : Int32)) <<< ((8 : Int32) &&& 31))))])) rfl rfl (hb hby d1_40) _ ?_
    show Steps p.tables e below (s₁.setTop (mkF m 41 #[.val (.ref p0), .val (.int (4 : Int32))] [(.int ee7), (.int ((((ee4 &&& (255 : Int32)) <<< ((24 : Int32) &&& 31)) ||| ((ee5 &&& (255 : Int32)) <<< ((16 : Int32) &&& 31))) ||| ((ee6 &&& (255 : Int32)) <<< ((8 : Int32) &&& 31))))])) _
    refine XS.sipush X0.here hx rfl (hb hby d1_41) ?_
    show Steps p.tables e below (s₁.setTop (mkF m 44 #[.val (.ref p0), .val (.int (4 : Int32))] [(.int (255 : Int32)), (.int ee7), (.int ((((ee4 &&& (255 : Int32)) <<< ((24 : Int32) &&& 31)) ||| ((ee5 &&& (255 : Int32)) <<< ((16 : Int32) &&& 31))) ||| ((ee6 &&& (255 : Int32)) <<< ((8 : Int32) &&& 31))))])) _
    refine XS.iand X0.here hx rfl (hb hby d1_44) rfl ?_
    show Steps p.tables e below (s₁.setTop (mkF m 45 #[.val (.ref p0), .val (.int (4 : Int32))] [(.int (ee7 &&& (255 : Int32))), (.int ((((ee4 &&& (255 : Int32)) <<< ((24 : Int32) &&& 31)) ||| ((ee5 &&& (255 : Int32)) <<< ((16 : Int32) &&& 31))) ||| ((ee6 &&& (255 : Int32)) <<< ((8 : Int32) &&& 31))))])) _
    refine XS.ior X0.here hx rfl (hb hby d1_45) rfl ?_
    exact Steps.refl _
  obtain ⟨fs, hr, hrun, hended, hW, hsame⟩ := X0.leave (v := some (.int (((((ee4 &&& (255 : Int32)) <<< ((24 : Int32) &&& 31)) ||| ((ee5 &&& (255 : Int32)) <<< ((16 : Int32) &&& 31))) ||| ((ee6 &&& (255 : Int32)) <<< ((8 : Int32) &&& 31))) ||| (ee7 &&& (255 : Int32))))) (fun h => by rw [Bd.returns] at h; cases h)
  refine ⟨_, _, s10.trans ?_, hrun, hended, _, _, rfl, ?_, ⟨_, rfl⟩, hW, hsame.mono (by decide) (by decide)⟩
  · show Steps p.tables e below (s₁.setTop (mkF m 46 #[.val (.ref p0), .val (.int (4 : Int32))] [(.int (((((ee4 &&& (255 : Int32)) <<< ((24 : Int32) &&& 31)) ||| ((ee5 &&& (255 : Int32)) <<< ((16 : Int32) &&& 31))) ||| ((ee6 &&& (255 : Int32)) <<< ((8 : Int32) &&& 31))) ||| (ee7 &&& (255 : Int32))))])) _
    exact retI X0 hx Bd.returns (hb hby d1_46) hr
  · show Q1_4 Z p0 ka ee0 ee1 ee2 ee3 ee4 ee5 ee6 ee7 h0 n0 _ s₁.heap _
    rw [e0]
    exact ⟨rfl, N0, rfl⟩
theorem pn_0 : plainName "com/example/strikewire/strikewire/engine/JournalReaderIntAtPinLaw" = true := by first | (simp [plainName, overriddenIn]; done) | decide +kernel
theorem pd_rm0_0 : parseMethodDescriptor "([BI)I" = some ⟨[(.array .byte), .int], some .int⟩ := by decide +kernel
theorem ef_rm0 (m : MethodId) (p0 : Int32) (p1 : Int32) (p2 : Int64) : entryFrame m #[(.int p0), (.int p1), (.long p2)] maxLocals = mkF m 0 #[.val (.int p0), .val (.int p1), .val (.long p2), .second, .unset, .unset] [] := by first | (simp [entryFrame, mkF, argsToLocals, Value.category, maxLocals]; done) | rfl
def Q0 (Z : State) (p0 : Int32) (p1 : Int32) (p2 : Int64) (h0 : Heap) (n0 : Nat) (v : Option Value) (h : Heap) (L : List Loc) : Prop := v = some (.int (1 : Int32)) ∧ Fr n0 L
set_option maxRecDepth 65536 in
set_option maxHeartbeats 40000000 in
theorem rm0 (l : Launch) (Z : State) (a0 : Array Value) (hw : ∀ d ∈ tables_1, d.before a0 Z = true) (ws : List Jvm.Cond) (p0 : Int32) (p1 : Int32) (p2 : Int64) (h0 : Heap) (n0 : Nat) (O0 : Old Z n0 h0) :
    MetFree l x (head1 (Jvm.Cond.code x code maxLocals ret :: ws) room_1) (fun a U => a = #[(.int p0), (.int p1), (.long p2)] ∧ Z.Warmed39 U.vm ∧ U.heap = h0) (fun _ _ _ _ _ => True) (fun _ U o U' => ∃ v L, o = .returned v ∧ Q0 Z p0 p1 p2 h0 n0 v U'.heap L ∧ FrameEnd U o U' L room_1.cells room_1.slots) := by
  refine MetFree.of_bodySF (plainFor_of_name pn_0) hisR ?_
  intro p e s m args below meth c s₁ Bd hml0 hP hK
  obtain ⟨rfl, hZ, hh⟩ := hP
  have hx := Bd.exec
  have hby := Bd.bytes
  have hml : c.maxLocals = 6 := hml0
  have hown : s.vm.findClass "com/example/strikewire/strikewire/engine/JournalReaderIntAtPinLaw" = some m.cls := findClass_of_methodNamed Bd.named
  have hnm := (name_of_methodNamed Bd.named Bd.method).1
  have X0 : Stand p l e room_1 s m #[(.int p0), (.int p1), (.long p2)] below meth c s₁ [] 0 0 := Stand.of_body Bd
  have e0 : s₁.heap = h0 := by rw [← hh, Bd.state]; rfl
  have N0 := Fr.nil n0
  have s0 : Steps p.tables e below (s₁.setTop (entryFrame m #[(.int p0), (.int p1), (.long p2)] maxLocals)) (s₁.setTop (mkF m 0 #[.val (.int p0), .val (.int p1), .val (.long p2), .second, .unset, .unset] [])) := castTop (ef_rm0 m p0 p1 p2) (Steps.refl _)
  have s1 : Steps p.tables e below (s₁.setTop (entryFrame m #[(.int p0), (.int p1), (.long p2)] maxLocals)) (s₁.setTop (mkF m 6 #[.val (.int p0), .val (.int p1), .val (.long p2), .second, .unset, .unset] [(.int ((p1 &&& (2147483647 : Int32)) % (5 : Int32)))])) := by
    refine s0.trans ?_
    show Steps p.tables e below (s₁.setTop (mkF m 0 #[.val (.int p0), .val (.int p1), .val (.long p2), .second, .unset, .unset] [])) _
    refine XS.iloadN X0.here hx rfl (hb hby at_0) rfl ?_
    show Steps p.tables e below (s₁.setTop (mkF m 1 #[.val (.int p0), .val (.int p1), .val (.long p2), .second, .unset, .unset] [(.int p1)])) _
    refine X0.ldcInt hx hown (mvT hZ (hw _ (List.mem_of_getElem? (i := 0) rfl))) (g := (mkF m 1 #[.val (.int p0), .val (.int p1), .val (.long p2), .second, .unset, .unset] [(.int p1)])) rfl (hb hby at_1) _ ?_
    show Steps p.tables e below (s₁.setTop (mkF m 3 #[.val (.int p0), .val (.int p1), .val (.long p2), .second, .unset, .unset] [(.int (2147483647 : Int32)), (.int p1)])) _
    refine XS.iand X0.here hx rfl (hb hby at_3) rfl ?_
    show Steps p.tables e below (s₁.setTop (mkF m 4 #[.val (.int p0), .val (.int p1), .val (.long p2), .second, .unset, .unset] [(.int (p1 &&& (2147483647 : Int32)))])) _
    refine XS.iconst X0.here hx rfl (hb hby at_4) ?_
    show Steps p.tables e below (s₁.setTop (mkF m 5 #[.val (.int p0), .val (.int p1), .val (.long p2), .second, .unset, .unset] [(.int (5 : Int32)), (.int (p1 &&& (2147483647 : Int32)))])) _
    refine Jvm.RoadKit.iremM (g := (mkF m 5 #[.val (.int p0), .val (.int p1), .val (.long p2), .second, .unset, .unset] [(.int (5 : Int32)), (.int (p1 &&& (2147483647 : Int32)))])) X0 hx rfl (hb hby at_5) rfl (by decide) ?_
    exact Steps.refl _
  rcases own_mod5 p1 with hk2 | hk2 | hk2 | hk2 | hk2
  · have s3 := s1
    rw [hk2] at s3
    obtain ⟨T4, h4, k4, X4, e4, E4, A4, st4⟩ := newP X0 hx hZ (hw _ (List.mem_of_getElem? (i := 1) rfl)) e0 (g := (mkF m 10 #[.val (.int p0), .val (.int p1), .val (.long p2), .second, .val (.int (0 : Int32)), .unset] [(.int (8 : Int32))])) rfl (hb hby at_10) rfl (by decide) (cap := 8) (by decide) (by decide) (by decide) (by decide)
    obtain ⟨b4, g4⟩ : ∃ z, z = h0.size := ⟨_, rfl⟩
    rw [← g4] at A4 st4
    have g_b4 : n0 ≤ b4 := Nat.le_trans (Nat.le_of_eq O0.1.symm) (Nat.le_trans O0.2.1 (Nat.le_of_eq g4.symm))
    have O4 := O0.ext E4
    have V4 : Arv Z h4 b4 k4 .byte (8 : Int32) [(.int (0 : Int32)), (.int (0 : Int32)), (.int (0 : Int32)), (.int (0 : Int32)), (.int (0 : Int32)), (.int (0 : Int32)), (.int (0 : Int32)), (.int (0 : Int32))] (.int (0 : Int32)) := (Arv.new A4 (by decide)).pad (pad_rep [] (.int (0 : Int32)) 8)
    obtain ⟨cla5, Ara5, qa5, Sa5, Za5, Ha5, Ga5⟩ := id V4
    have hin6 : ¬ ((0 : Int32) < 0 ∨ cla5.slots.size ≤ ((0 : Int32)).toNatClampNeg) := inb_of Sa5 ⟨by decide, by decide⟩
    obtain ⟨T7, h7, X7, e7, W7, st7⟩ := stB X4 hx hZ e4 Ara5 (j := (0 : Int32)) hin6 (g := (mkF m 20 #[.val (.int p0), .val (.int p1), .val (.long p2), .second, .val (.int (0 : Int32)), .val (.ref b4)] [(.int ((p2.toInt32).toInt8.toInt32)), (.int (0 : Int32)), (.ref b4)])) rfl rfl (hb hby at_20)
    have O7 := O4.wr W7 g_b4
    have N7 := Fr.snoc X7 N0 g_b4
    have V7 : Arv Z h7 b4 k4 .byte (8 : Int32) [(.int (((p2.toInt32).toInt8.toInt32).toInt8.toInt32)), (.int (0 : Int32)), (.int (0 : Int32)), (.int (0 : Int32)), (.int (0 : Int32)), (.int (0 : Int32)), (.int (0 : Int32)), (.int (0 : Int32))] (.int (0 : Int32)) := Arv.set Ara5 qa5 Sa5 Za5 Ha5 Ga5 (fits_nar_byte _) W7 0 rfl (Nat.le_of_ble_eq_true rfl)
    obtain ⟨cla8, Ara8, qa8, Sa8, Za8, Ha8, Ga8⟩ := id V7
    have hin9 : ¬ ((1 : Int32) < 0 ∨ cla8.slots.size ≤ ((1 : Int32)).toNatClampNeg) := inb_of Sa8 ⟨by decide, by decide⟩
    obtain ⟨T10, h10, X10, e10, W10, st10⟩ := stB X7 hx hZ e7 Ara8 (j := (1 : Int32)) hin9 (g := (mkF m 30 #[.val (.int p0), .val (.int p1), .val (.long p2), .second, .val (.int (0 : Int32)), .val (.ref b4)] [(.int ((((p2.toUInt64 >>> ((8 : Int32) &&& 0x3f).toInt64.toUInt64).toInt64).toInt32).toInt8.toInt32)), (.int (1 : Int32)), (.ref b4)])) rfl rfl (hb hby at_30)
    have O10 := O7.wr W10 g_b4
    have N10 := Fr.snoc X10 N7 g_b4
    have V10 : Arv Z h10 b4 k4 .byte (8 : Int32) [(.int (((p2.toInt32).toInt8.toInt32).toInt8.toInt32)), (.int (((((p2.toUInt64 >>> ((8 : Int32) &&& 0x3f).toInt64.toUInt64).toInt64).toInt32).toInt8.toInt32).toInt8.toInt32)), (.int (0 : Int32)), (.int (0 : Int32)), (.int (0 : Int32)), (.int (0 : Int32)), (.int (0 : Int32)), (.int (0 : Int32))] (.int (0 : Int32)) := Arv.set Ara8 qa8 Sa8 Za8 Ha8 Ga8 (fits_nar_byte _) W10 1 rfl (Nat.le_of_ble_eq_true rfl)
    obtain ⟨cla11, Ara11, qa11, Sa11, Za11, Ha11, Ga11⟩ := id V10
    have hin12 : ¬ ((2 : Int32) < 0 ∨ cla11.slots.size ≤ ((2 : Int32)).toNatClampNeg) := inb_of Sa11 ⟨by decide, by decide⟩
    obtain ⟨T13, h13, X13, e13, W13, st13⟩ := stB X10 hx hZ e10 Ara11 (j := (2 : Int32)) hin12 (g := (mkF m 40 #[.val (.int p0), .val (.int p1), .val (.long p2), .second, .val (.int (0 : Int32)), .val (.ref b4)] [(.int ((((p2.toUInt64 >>> ((16 : Int32) &&& 0x3f).toInt64.toUInt64).toInt64).toInt32).toInt8.toInt32)), (.int (2 : Int32)), (.ref b4)])) rfl rfl (hb hby at_40)
    have O13 := O10.wr W13 g_b4
    have N13 := Fr.snoc X13 N10 g_b4
    have V13 : Arv Z h13 b4 k4 .byte (8 : Int32) [(.int (((p2.toInt32).toInt8.toInt32).toInt8.toInt32)), (.int (((((p2.toUInt64 >>> ((8 : Int32) &&& 0x3f).toInt64.toUInt64).toInt64).toInt32).toInt8.toInt32).toInt8.toInt32)), (.int (((((p2.toUInt64 >>> ((16 : Int32) &&& 0x3f).toInt64.toUInt64).toInt64).toInt32).toInt8.toInt32).toInt8.toInt32)), (.int (0 : Int32)), (.int (0 : Int32)), (.int (0 : Int32)), (.int (0 : Int32)), (.int (0 : Int32))] (.int (0 : Int32)) := Arv.set Ara11 qa11 Sa11 Za11 Ha11 Ga11 (fits_nar_byte _) W13 2 rfl (Nat.le_of_ble_eq_true rfl)
    obtain ⟨cla14, Ara14, qa14, Sa14, Za14, Ha14, Ga14⟩ := id V13
    have hin15 : ¬ ((3 : Int32) < 0 ∨ cla14.slots.size ≤ ((3 : Int32)).toNatClampNeg) := inb_of Sa14 ⟨by decide, by decide⟩
    obtain ⟨T16, h16, X16, e16, W16, st16⟩ := stB X13 hx hZ e13 Ara14 (j := (3 : Int32)) hin15 (g := (mkF m 50 #[.val (.int p0), .val (.int p1), .val (.long p2), .second, .val (.int (0 : Int32)), .val (.ref b4)] [(.int ((((p2.toUInt64 >>> ((24 : Int32) &&& 0x3f).toInt64.toUInt64).toInt64).toInt32).toInt8.toInt32)), (.int (3 : Int32)), (.ref b4)])) rfl rfl (hb hby at_50)
    have O16 := O13.wr W16 g_b4
    have N16 := Fr.snoc X16 N13 g_b4
    have V16 : Arv Z h16 b4 k4 .byte (8 : Int32) [(.int (((p2.toInt32).toInt8.toInt32).toInt8.toInt32)), (.int (((((p2.toUInt64 >>> ((8 : Int32) &&& 0x3f).toInt64.toUInt64).toInt64).toInt32).toInt8.toInt32).toInt8.toInt32)), (.int (((((p2.toUInt64 >>> ((16 : Int32) &&& 0x3f).toInt64.toUInt64).toInt64).toInt32).toInt8.toInt32).toInt8.toInt32)), (.int (((((p2.toUInt64 >>> ((24 : Int32) &&& 0x3f).toInt64.toUInt64).toInt64).toInt32).toInt8.toInt32).toInt8.toInt32)), (.int (0 : Int32)), (.int (0 : Int32)), (.int (0 : Int32)), (.int (0 : Int32))] (.int (0 : Int32)) := Arv.set Ara14 qa14 Sa14 Za14 Ha14 Ga14 (fits_nar_byte _) W16 3 rfl (Nat.le_of_ble_eq_true rfl)
    obtain ⟨cla17, Ara17, qa17, Sa17, Za17, Ha17, Ga17⟩ := id V16
    have hin18 : ¬ ((4 : Int32) < 0 ∨ cla17.slots.size ≤ ((4 : Int32)).toNatClampNeg) := inb_of Sa17 ⟨by decide, by decide⟩
    obtain ⟨T19, h19, X19, e19, W19, st19⟩ := stB X16 hx hZ e16 Ara17 (j := (4 : Int32)) hin18 (g := (mkF m 60 #[.val (.int p0), .val (.int p1), .val (.long p2), .second, .val (.int (0 : Int32)), .val (.ref b4)] [(.int ((((p2.toUInt64 >>> ((32 : Int32) &&& 0x3f).toInt64.toUInt64).toInt64).toInt32).toInt8.toInt32)), (.int (4 : Int32)), (.ref b4)])) rfl rfl (hb hby at_60)
    have O19 := O16.wr W19 g_b4
    have N19 := Fr.snoc X19 N16 g_b4
    have V19 : Arv Z h19 b4 k4 .byte (8 : Int32) [(.int (((p2.toInt32).toInt8.toInt32).toInt8.toInt32)), (.int (((((p2.toUInt64 >>> ((8 : Int32) &&& 0x3f).toInt64.toUInt64).toInt64).toInt32).toInt8.toInt32).toInt8.toInt32)), (.int (((((p2.toUInt64 >>> ((16 : Int32) &&& 0x3f).toInt64.toUInt64).toInt64).toInt32).toInt8.toInt32).toInt8.toInt32)), (.int (((((p2.toUInt64 >>> ((24 : Int32) &&& 0x3f).toInt64.toUInt64).toInt64).toInt32).toInt8.toInt32).toInt8.toInt32)), (.int (((((p2.toUInt64 >>> ((32 : Int32) &&& 0x3f).toInt64.toUInt64).toInt64).toInt32).toInt8.toInt32).toInt8.toInt32)), (.int (0 : Int32)), (.int (0 : Int32)), (.int (0 : Int32))] (.int (0 : Int32)) := Arv.set Ara17 qa17 Sa17 Za17 Ha17 Ga17 (fits_nar_byte _) W19 4 rfl (Nat.le_of_ble_eq_true rfl)
    obtain ⟨cla20, Ara20, qa20, Sa20, Za20, Ha20, Ga20⟩ := id V19
    have hin21 : ¬ ((5 : Int32) < 0 ∨ cla20.slots.size ≤ ((5 : Int32)).toNatClampNeg) := inb_of Sa20 ⟨by decide, by decide⟩
    obtain ⟨T22, h22, X22, e22, W22, st22⟩ := stB X19 hx hZ e19 Ara20 (j := (5 : Int32)) hin21 (g := (mkF m 70 #[.val (.int p0), .val (.int p1), .val (.long p2), .second, .val (.int (0 : Int32)), .val (.ref b4)] [(.int ((((p2.toUInt64 >>> ((40 : Int32) &&& 0x3f).toInt64.toUInt64).toInt64).toInt32).toInt8.toInt32)), (.int (5 : Int32)), (.ref b4)])) rfl rfl (hb hby at_70)
    have O22 := O19.wr W22 g_b4
    have N22 := Fr.snoc X22 N19 g_b4
    have V22 : Arv Z h22 b4 k4 .byte (8 : Int32) [(.int (((p2.toInt32).toInt8.toInt32).toInt8.toInt32)), (.int (((((p2.toUInt64 >>> ((8 : Int32) &&& 0x3f).toInt64.toUInt64).toInt64).toInt32).toInt8.toInt32).toInt8.toInt32)), (.int (((((p2.toUInt64 >>> ((16 : Int32) &&& 0x3f).toInt64.toUInt64).toInt64).toInt32).toInt8.toInt32).toInt8.toInt32)), (.int (((((p2.toUInt64 >>> ((24 : Int32) &&& 0x3f).toInt64.toUInt64).toInt64).toInt32).toInt8.toInt32).toInt8.toInt32)), (.int (((((p2.toUInt64 >>> ((32 : Int32) &&& 0x3f).toInt64.toUInt64).toInt64).toInt32).toInt8.toInt32).toInt8.toInt32)), (.int (((((p2.toUInt64 >>> ((40 : Int32) &&& 0x3f).toInt64.toUInt64).toInt64).toInt32).toInt8.toInt32).toInt8.toInt32)), (.int (0 : Int32)), (.int (0 : Int32))] (.int (0 : Int32)) := Arv.set Ara20 qa20 Sa20 Za20 Ha20 Ga20 (fits_nar_byte _) W22 5 rfl (Nat.le_of_ble_eq_true rfl)
    obtain ⟨cla23, Ara23, qa23, Sa23, Za23, Ha23, Ga23⟩ := id V22
    have hin24 : ¬ ((6 : Int32) < 0 ∨ cla23.slots.size ≤ ((6 : Int32)).toNatClampNeg) := inb_of Sa23 ⟨by decide, by decide⟩
    obtain ⟨T25, h25, X25, e25, W25, st25⟩ := stB X22 hx hZ e22 Ara23 (j := (6 : Int32)) hin24 (g := (mkF m 81 #[.val (.int p0), .val (.int p1), .val (.long p2), .second, .val (.int (0 : Int32)), .val (.ref b4)] [(.int ((((p2.toUInt64 >>> ((48 : Int32) &&& 0x3f).toInt64.toUInt64).toInt64).toInt32).toInt8.toInt32)), (.int (6 : Int32)), (.ref b4)])) rfl rfl (hb hby at_81)
    have O25 := O22.wr W25 g_b4
    have N25 := Fr.snoc X25 N22 g_b4
    have V25 : Arv Z h25 b4 k4 .byte (8 : Int32) [(.int (((p2.toInt32).toInt8.toInt32).toInt8.toInt32)), (.int (((((p2.toUInt64 >>> ((8 : Int32) &&& 0x3f).toInt64.toUInt64).toInt64).toInt32).toInt8.toInt32).toInt8.toInt32)), (.int (((((p2.toUInt64 >>> ((16 : Int32) &&& 0x3f).toInt64.toUInt64).toInt64).toInt32).toInt8.toInt32).toInt8.toInt32)), (.int (((((p2.toUInt64 >>> ((24 : Int32) &&& 0x3f).toInt64.toUInt64).toInt64).toInt32).toInt8.toInt32).toInt8.toInt32)), (.int (((((p2.toUInt64 >>> ((32 : Int32) &&& 0x3f).toInt64.toUInt64).toInt64).toInt32).toInt8.toInt32).toInt8.toInt32)), (.int (((((p2.toUInt64 >>> ((40 : Int32) &&& 0x3f).toInt64.toUInt64).toInt64).toInt32).toInt8.toInt32).toInt8.toInt32)), (.int (((((p2.toUInt64 >>> ((48 : Int32) &&& 0x3f).toInt64.toUInt64).toInt64).toInt32).toInt8.toInt32).toInt8.toInt32)), (.int (0 : Int32))] (.int (0 : Int32)) := Arv.set Ara23 qa23 Sa23 Za23 Ha23 Ga23 (fits_nar_byte _) W25 6 rfl (Nat.le_of_ble_eq_true rfl)
    obtain ⟨cla26, Ara26, qa26, Sa26, Za26, Ha26, Ga26⟩ := id V25
    have hin27 : ¬ ((7 : Int32) < 0 ∨ cla26.slots.size ≤ ((7 : Int32)).toNatClampNeg) := inb_of Sa26 ⟨by decide, by decide⟩
    obtain ⟨T28, h28, X28, e28, W28, st28⟩ := stB X25 hx hZ e25 Ara26 (j := (7 : Int32)) hin27 (g := (mkF m 92 #[.val (.int p0), .val (.int p1), .val (.long p2), .second, .val (.int (0 : Int32)), .val (.ref b4)] [(.int ((((p2.toUInt64 >>> ((56 : Int32) &&& 0x3f).toInt64.toUInt64).toInt64).toInt32).toInt8.toInt32)), (.int (7 : Int32)), (.ref b4)])) rfl rfl (hb hby at_92)
    have O28 := O25.wr W28 g_b4
    have N28 := Fr.snoc X28 N25 g_b4
    have V28 : Arv Z h28 b4 k4 .byte (8 : Int32) [(.int (((p2.toInt32).toInt8.toInt32).toInt8.toInt32)), (.int (((((p2.toUInt64 >>> ((8 : Int32) &&& 0x3f).toInt64.toUInt64).toInt64).toInt32).toInt8.toInt32).toInt8.toInt32)), (.int (((((p2.toUInt64 >>> ((16 : Int32) &&& 0x3f).toInt64.toUInt64).toInt64).toInt32).toInt8.toInt32).toInt8.toInt32)), (.int (((((p2.toUInt64 >>> ((24 : Int32) &&& 0x3f).toInt64.toUInt64).toInt64).toInt32).toInt8.toInt32).toInt8.toInt32)), (.int (((((p2.toUInt64 >>> ((32 : Int32) &&& 0x3f).toInt64.toUInt64).toInt64).toInt32).toInt8.toInt32).toInt8.toInt32)), (.int (((((p2.toUInt64 >>> ((40 : Int32) &&& 0x3f).toInt64.toUInt64).toInt64).toInt32).toInt8.toInt32).toInt8.toInt32)), (.int (((((p2.toUInt64 >>> ((48 : Int32) &&& 0x3f).toInt64.toUInt64).toInt64).toInt32).toInt8.toInt32).toInt8.toInt32)), (.int (((((p2.toUInt64 >>> ((56 : Int32) &&& 0x3f).toInt64.toUInt64).toInt64).toInt32).toInt8.toInt32).toInt8.toInt32))] (.int (0 : Int32)) := Arv.set Ara26 qa26 Sa26 Za26 Ha26 Ga26 (fits_nar_byte _) W28 7 rfl (Nat.le_of_ble_eq_true rfl)
    obtain ⟨cla29, Ara29, qa29, Sa29, Za29, Ha29, Ga29⟩ := id V28
    have hin30 : ¬ ((0 : Int32) < 0 ∨ cla29.slots.size ≤ ((0 : Int32)).toNatClampNeg) := inb_of Sa29 ⟨by decide, by decide⟩
    obtain ⟨T31, h31, X31, e31, W31, st31⟩ := stB X28 hx hZ e28 Ara29 (j := (0 : Int32)) hin30 (g := (mkF m 102 #[.val (.int p0), .val (.int p1), .val (.long p2), .second, .val (.int (0 : Int32)), .val (.ref b4)] [(.int (((p0.toUInt32 >>> ((24 : Int32) &&& 31).toUInt32).toInt32).toInt8.toInt32)), (.int (0 : Int32)), (.ref b4)])) rfl rfl (hb hby at_102)
    have O31 := O28.wr W31 g_b4
    have N31 := Fr.snoc X31 N28 g_b4
    have V31 : Arv Z h31 b4 k4 .byte (8 : Int32) [(.int ((((p0.toUInt32 >>> ((24 : Int32) &&& 31).toUInt32).toInt32).toInt8.toInt32).toInt8.toInt32)), (.int (((((p2.toUInt64 >>> ((8 : Int32) &&& 0x3f).toInt64.toUInt64).toInt64).toInt32).toInt8.toInt32).toInt8.toInt32)), (.int (((((p2.toUInt64 >>> ((16 : Int32) &&& 0x3f).toInt64.toUInt64).toInt64).toInt32).toInt8.toInt32).toInt8.toInt32)), (.int (((((p2.toUInt64 >>> ((24 : Int32) &&& 0x3f).toInt64.toUInt64).toInt64).toInt32).toInt8.toInt32).toInt8.toInt32)), (.int (((((p2.toUInt64 >>> ((32 : Int32) &&& 0x3f).toInt64.toUInt64).toInt64).toInt32).toInt8.toInt32).toInt8.toInt32)), (.int (((((p2.toUInt64 >>> ((40 : Int32) &&& 0x3f).toInt64.toUInt64).toInt64).toInt32).toInt8.toInt32).toInt8.toInt32)), (.int (((((p2.toUInt64 >>> ((48 : Int32) &&& 0x3f).toInt64.toUInt64).toInt64).toInt32).toInt8.toInt32).toInt8.toInt32)), (.int (((((p2.toUInt64 >>> ((56 : Int32) &&& 0x3f).toInt64.toUInt64).toInt64).toInt32).toInt8.toInt32).toInt8.toInt32))] (.int (0 : Int32)) := Arv.set Ara29 qa29 Sa29 Za29 Ha29 Ga29 (fits_nar_byte _) W31 0 rfl (Nat.le_of_ble_eq_true rfl)
    obtain ⟨cla32, Ara32, qa32, Sa32, Za32, Ha32, Ga32⟩ := id V31
    have hin33 : ¬ ((1 : Int32) < 0 ∨ cla32.slots.size ≤ ((1 : Int32)).toNatClampNeg) := inb_of Sa32 ⟨by decide, by decide⟩
    obtain ⟨T34, h34, X34, e34, W34, st34⟩ := stB X31 hx hZ e31 Ara32 (j := (1 : Int32)) hin33 (g := (mkF m 114 #[.val (.int p0), .val (.int p1), .val (.long p2), .second, .val (.int (0 : Int32)), .val (.ref b4)] [(.int (((p0.toUInt32 >>> ((16 : Int32) &&& 31).toUInt32).toInt32).toInt8.toInt32)), (.int (1 : Int32)), (.ref b4)])) rfl rfl (hb hby at_114)
    have O34 := O31.wr W34 g_b4
    have N34 := Fr.snoc X34 N31 g_b4
    have V34 : Arv Z h34 b4 k4 .byte (8 : Int32) [(.int ((((p0.toUInt32 >>> ((24 : Int32) &&& 31).toUInt32).toInt32).toInt8.toInt32).toInt8.toInt32)), (.int ((((p0.toUInt32 >>> ((16 : Int32) &&& 31).toUInt32).toInt32).toInt8.toInt32).toInt8.toInt32)), (.int (((((p2.toUInt64 >>> ((16 : Int32) &&& 0x3f).toInt64.toUInt64).toInt64).toInt32).toInt8.toInt32).toInt8.toInt32)), (.int (((((p2.toUInt64 >>> ((24 : Int32) &&& 0x3f).toInt64.toUInt64).toInt64).toInt32).toInt8.toInt32).toInt8.toInt32)), (.int (((((p2.toUInt64 >>> ((32 : Int32) &&& 0x3f).toInt64.toUInt64).toInt64).toInt32).toInt8.toInt32).toInt8.toInt32)), (.int (((((p2.toUInt64 >>> ((40 : Int32) &&& 0x3f).toInt64.toUInt64).toInt64).toInt32).toInt8.toInt32).toInt8.toInt32)), (.int (((((p2.toUInt64 >>> ((48 : Int32) &&& 0x3f).toInt64.toUInt64).toInt64).toInt32).toInt8.toInt32).toInt8.toInt32)), (.int (((((p2.toUInt64 >>> ((56 : Int32) &&& 0x3f).toInt64.toUInt64).toInt64).toInt32).toInt8.toInt32).toInt8.toInt32))] (.int (0 : Int32)) := Arv.set Ara32 qa32 Sa32 Za32 Ha32 Ga32 (fits_nar_byte _) W34 1 rfl (Nat.le_of_ble_eq_true rfl)
    obtain ⟨cla35, Ara35, qa35, Sa35, Za35, Ha35, Ga35⟩ := id V34
    have hin36 : ¬ ((2 : Int32) < 0 ∨ cla35.slots.size ≤ ((2 : Int32)).toNatClampNeg) := inb_of Sa35 ⟨by decide, by decide⟩
    obtain ⟨T37, h37, X37, e37, W37, st37⟩ := stB X34 hx hZ e34 Ara35 (j := (2 : Int32)) hin36 (g := (mkF m 126 #[.val (.int p0), .val (.int p1), .val (.long p2), .second, .val (.int (0 : Int32)), .val (.ref b4)] [(.int (((p0.toUInt32 >>> ((8 : Int32) &&& 31).toUInt32).toInt32).toInt8.toInt32)), (.int (2 : Int32)), (.ref b4)])) rfl rfl (hb hby at_126)
    have O37 := O34.wr W37 g_b4
    have N37 := Fr.snoc X37 N34 g_b4
    have V37 : Arv Z h37 b4 k4 .byte (8 : Int32) [(.int ((((p0.toUInt32 >>> ((24 : Int32) &&& 31).toUInt32).toInt32).toInt8.toInt32).toInt8.toInt32)), (.int ((((p0.toUInt32 >>> ((16 : Int32) &&& 31).toUInt32).toInt32).toInt8.toInt32).toInt8.toInt32)), (.int ((((p0.toUInt32 >>> ((8 : Int32) &&& 31).toUInt32).toInt32).toInt8.toInt32).toInt8.toInt32)), (.int (((((p2.toUInt64 >>> ((24 : Int32) &&& 0x3f).toInt64.toUInt64).toInt64).toInt32).toInt8.toInt32).toInt8.toInt32)), (.int (((((p2.toUInt64 >>> ((32 : Int32) &&& 0x3f).toInt64.toUInt64).toInt64).toInt32).toInt8.toInt32).toInt8.toInt32)), (.int (((((p2.toUInt64 >>> ((40 : Int32) &&& 0x3f).toInt64.toUInt64).toInt64).toInt32).toInt8.toInt32).toInt8.toInt32)), (.int (((((p2.toUInt64 >>> ((48 : Int32) &&& 0x3f).toInt64.toUInt64).toInt64).toInt32).toInt8.toInt32).toInt8.toInt32)), (.int (((((p2.toUInt64 >>> ((56 : Int32) &&& 0x3f).toInt64.toUInt64).toInt64).toInt32).toInt8.toInt32).toInt8.toInt32))] (.int (0 : Int32)) := Arv.set Ara35 qa35 Sa35 Za35 Ha35 Ga35 (fits_nar_byte _) W37 2 rfl (Nat.le_of_ble_eq_true rfl)
    obtain ⟨cla38, Ara38, qa38, Sa38, Za38, Ha38, Ga38⟩ := id V37
    have hin39 : ¬ ((3 : Int32) < 0 ∨ cla38.slots.size ≤ ((3 : Int32)).toNatClampNeg) := inb_of Sa38 ⟨by decide, by decide⟩
    obtain ⟨T40, h40, X40, e40, W40, st40⟩ := stB X37 hx hZ e37 Ara38 (j := (3 : Int32)) hin39 (g := (mkF m 135 #[.val (.int p0), .val (.int p1), .val (.long p2), .second, .val (.int (0 : Int32)), .val (.ref b4)] [(.int (p0.toInt8.toInt32)), (.int (3 : Int32)), (.ref b4)])) rfl rfl (hb hby at_135)
    have O40 := O37.wr W40 g_b4
    have N40 := Fr.snoc X40 N37 g_b4
    have V40 : Arv Z h40 b4 k4 .byte (8 : Int32) [(.int ((((p0.toUInt32 >>> ((24 : Int32) &&& 31).toUInt32).toInt32).toInt8.toInt32).toInt8.toInt32)), (.int ((((p0.toUInt32 >>> ((16 : Int32) &&& 31).toUInt32).toInt32).toInt8.toInt32).toInt8.toInt32)), (.int ((((p0.toUInt32 >>> ((8 : Int32) &&& 31).toUInt32).toInt32).toInt8.toInt32).toInt8.toInt32)), (.int ((p0.toInt8.toInt32).toInt8.toInt32)), (.int (((((p2.toUInt64 >>> ((32 : Int32) &&& 0x3f).toInt64.toUInt64).toInt64).toInt32).toInt8.toInt32).toInt8.toInt32)), (.int (((((p2.toUInt64 >>> ((40 : Int32) &&& 0x3f).toInt64.toUInt64).toInt64).toInt32).toInt8.toInt32).toInt8.toInt32)), (.int (((((p2.toUInt64 >>> ((48 : Int32) &&& 0x3f).toInt64.toUInt64).toInt64).toInt32).toInt8.toInt32).toInt8.toInt32)), (.int (((((p2.toUInt64 >>> ((56 : Int32) &&& 0x3f).toInt64.toUInt64).toInt64).toInt32).toInt8.toInt32).toInt8.toInt32))] (.int (0 : Int32)) := Arv.set Ara38 qa38 Sa38 Za38 Ha38 Ga38 (fits_nar_byte _) W40 3 rfl (Nat.le_of_ble_eq_true rfl)
    obtain ⟨_, _, ⟨T41, L41, k41, n41⟩, -, X41, ⟨Lc41, hQ41, l41, y41, z41⟩, st41⟩ := Jvm.LawKit.callS X40 hx (y := (⟨"com/example/strikewire/strikewire/engine/JournalReader", "intAt", "([BI)I"⟩ : MethodName)) hown (mvT hZ (hw _ (List.mem_of_getElem? (i := 2) rfl))) (mvT hZ (hw _ (List.mem_of_getElem? (i := 3) rfl))) (mvT hZ (hw _ (List.mem_of_getElem? (i := 4) rfl))) (mvT hZ (hw _ (List.mem_of_getElem? (i := 5) rfl))) (by decide) (backOf (W := 0) (rm1_0 l Z a0 hw [] b4 k4 ((((p0.toUInt32 >>> ((24 : Int32) &&& 31).toUInt32).toInt32).toInt8.toInt32).toInt8.toInt32) ((((p0.toUInt32 >>> ((16 : Int32) &&& 31).toUInt32).toInt32).toInt8.toInt32).toInt8.toInt32) ((((p0.toUInt32 >>> ((8 : Int32) &&& 31).toUInt32).toInt32).toInt8.toInt32).toInt8.toInt32) ((p0.toInt8.toInt32).toInt8.toInt32) (((((p2.toUInt64 >>> ((32 : Int32) &&& 0x3f).toInt64.toUInt64).toInt64).toInt32).toInt8.toInt32).toInt8.toInt32) (((((p2.toUInt64 >>> ((40 : Int32) &&& 0x3f).toInt64.toUInt64).toInt64).toInt32).toInt8.toInt32).toInt8.toInt32) (((((p2.toUInt64 >>> ((48 : Int32) &&& 0x3f).toInt64.toUInt64).toInt64).toInt32).toInt8.toInt32).toInt8.toInt32) (((((p2.toUInt64 >>> ((56 : Int32) &&& 0x3f).toInt64.toUInt64).toInt64).toInt32).toInt8.toInt32).toInt8.toInt32) h40 n0 O40 V40) hZ (hw _ (List.mem_of_getElem? (i := 5) rfl)) (hw _ (List.mem_of_getElem? (i := 4) rfl)) (by decide) (by decide)) (g := (mkF m 140 #[.val (.int p0), .val (.int p1), .val (.long p2), .second, .val (.int (0 : Int32)), .val (.ref b4)] [(.int (0 : Int32)), (.ref b4)])) rfl (by rw [hml]; rfl) (argsL := [(.ref b4), (.int (0 : Int32))]) (rest := []) (lenOf pd_rm0_0 rfl) rfl (by show 2 * 0 + _ ≤ _; exact Nat.le_of_eq rfl) (hb hby at_140) (fun _ _ => ⟨rfl, e40, (by decide : 1 + 0 ≤ _), (by decide : 8 + 0 ≤ _)⟩)
    dsimp only [Pt.U, Pt.locs, Pt.cells, Pt.slots] at X41 l41 y41 z41 st41 hQ41
    subst l41 y41 z41
    obtain ⟨rfl, Nq41, e41⟩ := hQ41
    have N41 := Fr.app N40 Nq41
    have s42 : Steps p.tables e below (s₁.setTop (entryFrame m #[(.int p0), (.int p1), (.long p2)] maxLocals)) (T41.setTop (mkF m 152 #[.val (.int p0), .val (.int p1), .val (.long p2), .second, .val (.int (0 : Int32)), .val (.ref b4)] [(.int (1 : Int32))])) := by
      refine s3.trans ?_
      show Steps p.tables e below (s₁.setTop (mkF m 6 #[.val (.int p0), .val (.int p1), .val (.long p2), .second, .unset, .unset] [(.int (0 : Int32))])) _
      refine XS.istore X0.here hx rfl (hb hby at_6) rfl (l' := #[.val (.int p0), .val (.int p1), .val (.long p2), .second, .val (.int (0 : Int32)), .unset]) rfl ?_
      show Steps p.tables e below (s₁.setTop (mkF m 8 #[.val (.int p0), .val (.int p1), .val (.long p2), .second, .val (.int (0 : Int32)), .unset] [])) _
      refine XS.bipush X0.here hx rfl (hb hby at_8) ?_
      show Steps p.tables e below (s₁.setTop (mkF m 10 #[.val (.int p0), .val (.int p1), .val (.long p2), .second, .val (.int (0 : Int32)), .unset] [(.int (8 : Int32))])) _
      refine st4 _ ?_
      show Steps p.tables e below (T4.setTop (mkF m 12 #[.val (.int p0), .val (.int p1), .val (.long p2), .second, .val (.int (0 : Int32)), .unset] [(.ref b4)])) _
      refine XS.astore X4.here hx rfl (hb hby at_12) rfl rfl (l' := #[.val (.int p0), .val (.int p1), .val (.long p2), .second, .val (.int (0 : Int32)), .val (.ref b4)]) rfl ?_
      show Steps p.tables e below (T4.setTop (mkF m 14 #[.val (.int p0), .val (.int p1), .val (.long p2), .second, .val (.int (0 : Int32)), .val (.ref b4)] [])) _
      refine XS.aload X4.here hx rfl (hb hby at_14) rfl rfl ?_
      show Steps p.tables e below (T4.setTop (mkF m 16 #[.val (.int p0), .val (.int p1), .val (.long p2), .second, .val (.int (0 : Int32)), .val (.ref b4)] [(.ref b4)])) _
      refine XS.iconst X4.here hx rfl (hb hby at_16) ?_
      show Steps p.tables e below (T4.setTop (mkF m 17 #[.val (.int p0), .val (.int p1), .val (.long p2), .second, .val (.int (0 : Int32)), .val (.ref b4)] [(.int (0 : Int32)), (.ref b4)])) _
      refine XS.lloadN X4.here hx rfl (hb hby at_17) rfl ?_
      show Steps p.tables e below (T4.setTop (mkF m 18 #[.val (.int p0), .val (.int p1), .val (.long p2), .second, .val (.int (0 : Int32)), .val (.ref b4)] [(.long p2), (.int (0 : Int32)), (.ref b4)])) _
      refine XS.l2i X4.here hx rfl (hb hby at_18) rfl ?_
      show Steps p.tables e below (T4.setTop (mkF m 19 #[.val (.int p0), .val (.int p1), .val (.long p2), .second, .val (.int (0 : Int32)), .val (.ref b4)] [(.int (p2.toInt32)), (.int (0 : Int32)), (.ref b4)])) _
      refine XS.i2b X4.here hx rfl (hb hby at_19) rfl ?_
      show Steps p.tables e below (T4.setTop (mkF m 20 #[.val (.int p0), .val (.int p1), .val (.long p2), .second, .val (.int (0 : Int32)), .val (.ref b4)] [(.int ((p2.toInt32).toInt8.toInt32)), (.int (0 : Int32)), (.ref b4)])) _
      refine st7 _ ?_
      show Steps p.tables e below (T7.setTop (mkF m 21 #[.val (.int p0), .val (.int p1), .val (.long p2), .second, .val (.int (0 : Int32)), .val (.ref b4)] [])) _
      refine XS.aload X7.here hx rfl (hb hby at_21) rfl rfl ?_
      show Steps p.tables e below (T7.setTop (mkF m 23 #[.val (.int p0), .val (.int p1), .val (.long p2), .second, .val (.int (0 : Int32)), .val (.ref b4)] [(.ref b4)])) _
      refine XS.iconst X7.here hx rfl (hb hby at_23) ?_
      show Steps p.tables e below (T7.setTop (mkF m 24 #[.val (.int p0), .val (.int p1), .val (.long p2), .second, .val (.int (0 : Int32)), .val (.ref b4)] [(.int (1 : Int32)), (.ref b4)])) _
      refine XS.lloadN X7.here hx rfl (hb hby at_24) rfl ?_
      show Steps p.tables e below (T7.setTop (mkF m 25 #[.val (.int p0), .val (.int p1), .val (.long p2), .second, .val (.int (0 : Int32)), .val (.ref b4)] [(.long p2), (.int (1 : Int32)), (.ref b4)])) _
      refine XS.bipush X7.here hx rfl (hb hby at_25) ?_
      show Steps p.tables e below (T7.setTop (mkF m 27 #[.val (.int p0), .val (.int p1), .val (.long p2), .second, .val (.int (0 : Int32)), .val (.ref b4)] [(.int (8 : Int32)), (.long p2), (.int (1 : Int32)), (.ref b4)])) _
      refine XS.lushr X7.here hx rfl (hb hby at_27) rfl ?_
      show Steps p.tables e below (T7.setTop (mkF m 28 #[.val (.int p0), .val (.int p1), .val (.long p2), .second, .val (.int (0 : Int32)), .val (.ref b4)] [(.long ((p2.toUInt64 >>> ((8 : Int32) &&& 0x3f).toInt64.toUInt64).toInt64)), (.int (1 : Int32)), (.ref b4)])) _
      refine XS.l2i X7.here hx rfl (hb hby at_28) rfl ?_
      show Steps p.tables e below (T7.setTop (mkF m 29 #[.val (.int p0), .val (.int p1), .val (.long p2), .second, .val (.int (0 : Int32)), .val (.ref b4)] [(.int (((p2.toUInt64 >>> ((8 : Int32) &&& 0x3f).toInt64.toUInt64).toInt64).toInt32)), (.int (1 : Int32)), (.ref b4)])) _
      refine XS.i2b X7.here hx rfl (hb hby at_29) rfl ?_
      show Steps p.tables e below (T7.setTop (mkF m 30 #[.val (.int p0), .val (.int p1), .val (.long p2), .second, .val (.int (0 : Int32)), .val (.ref b4)] [(.int ((((p2.toUInt64 >>> ((8 : Int32) &&& 0x3f).toInt64.toUInt64).toInt64).toInt32).toInt8.toInt32)), (.int (1 : Int32)), (.ref b4)])) _
      refine st10 _ ?_
      show Steps p.tables e below (T10.setTop (mkF m 31 #[.val (.int p0), .val (.int p1), .val (.long p2), .second, .val (.int (0 : Int32)), .val (.ref b4)] [])) _
      refine XS.aload X10.here hx rfl (hb hby at_31) rfl rfl ?_
      show Steps p.tables e below (T10.setTop (mkF m 33 #[.val (.int p0), .val (.int p1), .val (.long p2), .second, .val (.int (0 : Int32)), .val (.ref b4)] [(.ref b4)])) _
      refine XS.iconst X10.here hx rfl (hb hby at_33) ?_
      show Steps p.tables e below (T10.setTop (mkF m 34 #[.val (.int p0), .val (.int p1), .val (.long p2), .second, .val (.int (0 : Int32)), .val (.ref b4)] [(.int (2 : Int32)), (.ref b4)])) _
      refine XS.lloadN X10.here hx rfl (hb hby at_34) rfl ?_
      show Steps p.tables e below (T10.setTop (mkF m 35 #[.val (.int p0), .val (.int p1), .val (.long p2), .second, .val (.int (0 : Int32)), .val (.ref b4)] [(.long p2), (.int (2 : Int32)), (.ref b4)])) _
      refine XS.bipush X10.here hx rfl (hb hby at_35) ?_
      show Steps p.tables e below (T10.setTop (mkF m 37 #[.val (.int p0), .val (.int p1), .val (.long p2), .second, .val (.int (0 : Int32)), .val (.ref b4)] [(.int (16 : Int32)), (.long p2), (.int (2 : Int32)), (.ref b4)])) _
      refine XS.lushr X10.here hx rfl (hb hby at_37) rfl ?_
      show Steps p.tables e below (T10.setTop (mkF m 38 #[.val (.int p0), .val (.int p1), .val (.long p2), .second, .val (.int (0 : Int32)), .val (.ref b4)] [(.long ((p2.toUInt64 >>> ((16 : Int32) &&& 0x3f).toInt64.toUInt64).toInt64)), (.int (2 : Int32)), (.ref b4)])) _
      refine XS.l2i X10.here hx rfl (hb hby at_38) rfl ?_
      show Steps p.tables e below (T10.setTop (mkF m 39 #[.val (.int p0), .val (.int p1), .val (.long p2), .second, .val (.int (0 : Int32)), .val (.ref b4)] [(.int (((p2.toUInt64 >>> ((16 : Int32) &&& 0x3f).toInt64.toUInt64).toInt64).toInt32)), (.int (2 : Int32)), (.ref b4)])) _
      refine XS.i2b X10.here hx rfl (hb hby at_39) rfl ?_
      show Steps p.tables e below (T10.setTop (mkF m 40 #[.val (.int p0), .val (.int p1), .val (.long p2), .second, .val (.int (0 : Int32)), .val (.ref b4)] [(.int ((((p2.toUInt64 >>> ((16 : Int32) &&& 0x3f).toInt64.toUInt64).toInt64).toInt32).toInt8.toInt32)), (.int (2 : Int32)), (.ref b4)])) _
      refine st13 _ ?_
      show Steps p.tables e below (T13.setTop (mkF m 41 #[.val (.int p0), .val (.int p1), .val (.long p2), .second, .val (.int (0 : Int32)), .val (.ref b4)] [])) _
      refine XS.aload X13.here hx rfl (hb hby at_41) rfl rfl ?_
      show Steps p.tables e below (T13.setTop (mkF m 43 #[.val (.int p0), .val (.int p1), .val (.long p2), .second, .val (.int (0 : Int32)), .val (.ref b4)] [(.ref b4)])) _
      refine XS.iconst X13.here hx rfl (hb hby at_43) ?_
      show Steps p.tables e below (T13.setTop (mkF m 44 #[.val (.int p0), .val (.int p1), .val (.long p2), .second, .val (.int (0 : Int32)), .val (.ref b4)] [(.int (3 : Int32)), (.ref b4)])) _
      refine XS.lloadN X13.here hx rfl (hb hby at_44) rfl ?_
      show Steps p.tables e below (T13.setTop (mkF m 45 #[.val (.int p0), .val (.int p1), .val (.long p2), .second, .val (.int (0 : Int32)), .val (.ref b4)] [(.long p2), (.int (3 : Int32)), (.ref b4)])) _
      refine XS.bipush X13.here hx rfl (hb hby at_45) ?_
      show Steps p.tables e below (T13.setTop (mkF m 47 #[.val (.int p0), .val (.int p1), .val (.long p2), .second, .val (.int (0 : Int32)), .val (.ref b4)] [(.int (24 : Int32)), (.long p2), (.int (3 : Int32)), (.ref b4)])) _
      refine XS.lushr X13.here hx rfl (hb hby at_47) rfl ?_
      show Steps p.tables e below (T13.setTop (mkF m 48 #[.val (.int p0), .val (.int p1), .val (.long p2), .second, .val (.int (0 : Int32)), .val (.ref b4)] [(.long ((p2.toUInt64 >>> ((24 : Int32) &&& 0x3f).toInt64.toUInt64).toInt64)), (.int (3 : Int32)), (.ref b4)])) _
      refine XS.l2i X13.here hx rfl (hb hby at_48) rfl ?_
      show Steps p.tables e below (T13.setTop (mkF m 49 #[.val (.int p0), .val (.int p1), .val (.long p2), .second, .val (.int (0 : Int32)), .val (.ref b4)] [(.int (((p2.toUInt64 >>> ((24 : Int32) &&& 0x3f).toInt64.toUInt64).toInt64).toInt32)), (.int (3 : Int32)), (.ref b4)])) _
      refine XS.i2b X13.here hx rfl (hb hby at_49) rfl ?_
      show Steps p.tables e below (T13.setTop (mkF m 50 #[.val (.int p0), .val (.int p1), .val (.long p2), .second, .val (.int (0 : Int32)), .val (.ref b4)] [(.int ((((p2.toUInt64 >>> ((24 : Int32) &&& 0x3f).toInt64.toUInt64).toInt64).toInt32).toInt8.toInt32)), (.int (3 : Int32)), (.ref b4)])) _
      refine st16 _ ?_
      show Steps p.tables e below (T16.setTop (mkF m 51 #[.val (.int p0), .val (.int p1), .val (.long p2), .second, .val (.int (0 : Int32)), .val (.ref b4)] [])) _
      refine XS.aload X16.here hx rfl (hb hby at_51) rfl rfl ?_
      show Steps p.tables e below (T16.setTop (mkF m 53 #[.val (.int p0), .val (.int p1), .val (.long p2), .second, .val (.int (0 : Int32)), .val (.ref b4)] [(.ref b4)])) _
      refine XS.iconst X16.here hx rfl (hb hby at_53) ?_
      show Steps p.tables e below (T16.setTop (mkF m 54 #[.val (.int p0), .val (.int p1), .val (.long p2), .second, .val (.int (0 : Int32)), .val (.ref b4)] [(.int (4 : Int32)), (.ref b4)])) _
      refine XS.lloadN X16.here hx rfl (hb hby at_54) rfl ?_
      show Steps p.tables e below (T16.setTop (mkF m 55 #[.val (.int p0), .val (.int p1), .val (.long p2), .second, .val (.int (0 : Int32)), .val (.ref b4)] [(.long p2), (.int (4 : Int32)), (.ref b4)])) _
      refine XS.bipush X16.here hx rfl (hb hby at_55) ?_
      show Steps p.tables e below (T16.setTop (mkF m 57 #[.val (.int p0), .val (.int p1), .val (.long p2), .second, .val (.int (0 : Int32)), .val (.ref b4)] [(.int (32 : Int32)), (.long p2), (.int (4 : Int32)), (.ref b4)])) _
      refine XS.lushr X16.here hx rfl (hb hby at_57) rfl ?_
      show Steps p.tables e below (T16.setTop (mkF m 58 #[.val (.int p0), .val (.int p1), .val (.long p2), .second, .val (.int (0 : Int32)), .val (.ref b4)] [(.long ((p2.toUInt64 >>> ((32 : Int32) &&& 0x3f).toInt64.toUInt64).toInt64)), (.int (4 : Int32)), (.ref b4)])) _
      refine XS.l2i X16.here hx rfl (hb hby at_58) rfl ?_
      show Steps p.tables e below (T16.setTop (mkF m 59 #[.val (.int p0), .val (.int p1), .val (.long p2), .second, .val (.int (0 : Int32)), .val (.ref b4)] [(.int (((p2.toUInt64 >>> ((32 : Int32) &&& 0x3f).toInt64.toUInt64).toInt64).toInt32)), (.int (4 : Int32)), (.ref b4)])) _
      refine XS.i2b X16.here hx rfl (hb hby at_59) rfl ?_
      show Steps p.tables e below (T16.setTop (mkF m 60 #[.val (.int p0), .val (.int p1), .val (.long p2), .second, .val (.int (0 : Int32)), .val (.ref b4)] [(.int ((((p2.toUInt64 >>> ((32 : Int32) &&& 0x3f).toInt64.toUInt64).toInt64).toInt32).toInt8.toInt32)), (.int (4 : Int32)), (.ref b4)])) _
      refine st19 _ ?_
      show Steps p.tables e below (T19.setTop (mkF m 61 #[.val (.int p0), .val (.int p1), .val (.long p2), .second, .val (.int (0 : Int32)), .val (.ref b4)] [])) _
      refine XS.aload X19.here hx rfl (hb hby at_61) rfl rfl ?_
      show Steps p.tables e below (T19.setTop (mkF m 63 #[.val (.int p0), .val (.int p1), .val (.long p2), .second, .val (.int (0 : Int32)), .val (.ref b4)] [(.ref b4)])) _
      refine XS.iconst X19.here hx rfl (hb hby at_63) ?_
      show Steps p.tables e below (T19.setTop (mkF m 64 #[.val (.int p0), .val (.int p1), .val (.long p2), .second, .val (.int (0 : Int32)), .val (.ref b4)] [(.int (5 : Int32)), (.ref b4)])) _
      refine XS.lloadN X19.here hx rfl (hb hby at_64) rfl ?_
      show Steps p.tables e below (T19.setTop (mkF m 65 #[.val (.int p0), .val (.int p1), .val (.long p2), .second, .val (.int (0 : Int32)), .val (.ref b4)] [(.long p2), (.int (5 : Int32)), (.ref b4)])) _
      refine XS.bipush X19.here hx rfl (hb hby at_65) ?_
      show Steps p.tables e below (T19.setTop (mkF m 67 #[.val (.int p0), .val (.int p1), .val (.long p2), .second, .val (.int (0 : Int32)), .val (.ref b4)] [(.int (40 : Int32)), (.long p2), (.int (5 : Int32)), (.ref b4)])) _
      refine XS.lushr X19.here hx rfl (hb hby at_67) rfl ?_
      show Steps p.tables e below (T19.setTop (mkF m 68 #[.val (.int p0), .val (.int p1), .val (.long p2), .second, .val (.int (0 : Int32)), .val (.ref b4)] [(.long ((p2.toUInt64 >>> ((40 : Int32) &&& 0x3f).toInt64.toUInt64).toInt64)), (.int (5 : Int32)), (.ref b4)])) _
      refine XS.l2i X19.here hx rfl (hb hby at_68) rfl ?_
      show Steps p.tables e below (T19.setTop (mkF m 69 #[.val (.int p0), .val (.int p1), .val (.long p2), .second, .val (.int (0 : Int32)), .val (.ref b4)] [(.int (((p2.toUInt64 >>> ((40 : Int32) &&& 0x3f).toInt64.toUInt64).toInt64).toInt32)), (.int (5 : Int32)), (.ref b4)])) _
      refine XS.i2b X19.here hx rfl (hb hby at_69) rfl ?_
      show Steps p.tables e below (T19.setTop (mkF m 70 #[.val (.int p0), .val (.int p1), .val (.long p2), .second, .val (.int (0 : Int32)), .val (.ref b4)] [(.int ((((p2.toUInt64 >>> ((40 : Int32) &&& 0x3f).toInt64.toUInt64).toInt64).toInt32).toInt8.toInt32)), (.int (5 : Int32)), (.ref b4)])) _
      refine st22 _ ?_
      show Steps p.tables e below (T22.setTop (mkF m 71 #[.val (.int p0), .val (.int p1), .val (.long p2), .second, .val (.int (0 : Int32)), .val (.ref b4)] [])) _
      refine XS.aload X22.here hx rfl (hb hby at_71) rfl rfl ?_
      show Steps p.tables e below (T22.setTop (mkF m 73 #[.val (.int p0), .val (.int p1), .val (.long p2), .second, .val (.int (0 : Int32)), .val (.ref b4)] [(.ref b4)])) _
      refine XS.bipush X22.here hx rfl (hb hby at_73) ?_
      show Steps p.tables e below (T22.setTop (mkF m 75 #[.val (.int p0), .val (.int p1), .val (.long p2), .second, .val (.int (0 : Int32)), .val (.ref b4)] [(.int (6 : Int32)), (.ref b4)])) _
      refine XS.lloadN X22.here hx rfl (hb hby at_75) rfl ?_
      show Steps p.tables e below (T22.setTop (mkF m 76 #[.val (.int p0), .val (.int p1), .val (.long p2), .second, .val (.int (0 : Int32)), .val (.ref b4)] [(.long p2), (.int (6 : Int32)), (.ref b4)])) _
      refine XS.bipush X22.here hx rfl (hb hby at_76) ?_
      show Steps p.tables e below (T22.setTop (mkF m 78 #[.val (.int p0), .val (.int p1), .val (.long p2), .second, .val (.int (0 : Int32)), .val (.ref b4)] [(.int (48 : Int32)), (.long p2), (.int (6 : Int32)), (.ref b4)])) _
      refine XS.lushr X22.here hx rfl (hb hby at_78) rfl ?_
      show Steps p.tables e below (T22.setTop (mkF m 79 #[.val (.int p0), .val (.int p1), .val (.long p2), .second, .val (.int (0 : Int32)), .val (.ref b4)] [(.long ((p2.toUInt64 >>> ((48 : Int32) &&& 0x3f).toInt64.toUInt64).toInt64)), (.int (6 : Int32)), (.ref b4)])) _
      refine XS.l2i X22.here hx rfl (hb hby at_79) rfl ?_
      show Steps p.tables e below (T22.setTop (mkF m 80 #[.val (.int p0), .val (.int p1), .val (.long p2), .second, .val (.int (0 : Int32)), .val (.ref b4)] [(.int (((p2.toUInt64 >>> ((48 : Int32) &&& 0x3f).toInt64.toUInt64).toInt64).toInt32)), (.int (6 : Int32)), (.ref b4)])) _
      refine XS.i2b X22.here hx rfl (hb hby at_80) rfl ?_
      show Steps p.tables e below (T22.setTop (mkF m 81 #[.val (.int p0), .val (.int p1), .val (.long p2), .second, .val (.int (0 : Int32)), .val (.ref b4)] [(.int ((((p2.toUInt64 >>> ((48 : Int32) &&& 0x3f).toInt64.toUInt64).toInt64).toInt32).toInt8.toInt32)), (.int (6 : Int32)), (.ref b4)])) _
      refine st25 _ ?_
      show Steps p.tables e below (T25.setTop (mkF m 82 #[.val (.int p0), .val (.int p1), .val (.long p2), .second, .val (.int (0 : Int32)), .val (.ref b4)] [])) _
      refine XS.aload X25.here hx rfl (hb hby at_82) rfl rfl ?_
      show Steps p.tables e below (T25.setTop (mkF m 84 #[.val (.int p0), .val (.int p1), .val (.long p2), .second, .val (.int (0 : Int32)), .val (.ref b4)] [(.ref b4)])) _
      refine XS.bipush X25.here hx rfl (hb hby at_84) ?_
      show Steps p.tables e below (T25.setTop (mkF m 86 #[.val (.int p0), .val (.int p1), .val (.long p2), .second, .val (.int (0 : Int32)), .val (.ref b4)] [(.int (7 : Int32)), (.ref b4)])) _
      refine XS.lloadN X25.here hx rfl (hb hby at_86) rfl ?_
      show Steps p.tables e below (T25.setTop (mkF m 87 #[.val (.int p0), .val (.int p1), .val (.long p2), .second, .val (.int (0 : Int32)), .val (.ref b4)] [(.long p2), (.int (7 : Int32)), (.ref b4)])) _
      refine XS.bipush X25.here hx rfl (hb hby at_87) ?_
      show Steps p.tables e below (T25.setTop (mkF m 89 #[.val (.int p0), .val (.int p1), .val (.long p2), .second, .val (.int (0 : Int32)), .val (.ref b4)] [(.int (56 : Int32)), (.long p2), (.int (7 : Int32)), (.ref b4)])) _
      refine XS.lushr X25.here hx rfl (hb hby at_89) rfl ?_
      show Steps p.tables e below (T25.setTop (mkF m 90 #[.val (.int p0), .val (.int p1), .val (.long p2), .second, .val (.int (0 : Int32)), .val (.ref b4)] [(.long ((p2.toUInt64 >>> ((56 : Int32) &&& 0x3f).toInt64.toUInt64).toInt64)), (.int (7 : Int32)), (.ref b4)])) _
      refine XS.l2i X25.here hx rfl (hb hby at_90) rfl ?_
      show Steps p.tables e below (T25.setTop (mkF m 91 #[.val (.int p0), .val (.int p1), .val (.long p2), .second, .val (.int (0 : Int32)), .val (.ref b4)] [(.int (((p2.toUInt64 >>> ((56 : Int32) &&& 0x3f).toInt64.toUInt64).toInt64).toInt32)), (.int (7 : Int32)), (.ref b4)])) _
      refine XS.i2b X25.here hx rfl (hb hby at_91) rfl ?_
      show Steps p.tables e below (T25.setTop (mkF m 92 #[.val (.int p0), .val (.int p1), .val (.long p2), .second, .val (.int (0 : Int32)), .val (.ref b4)] [(.int ((((p2.toUInt64 >>> ((56 : Int32) &&& 0x3f).toInt64.toUInt64).toInt64).toInt32).toInt8.toInt32)), (.int (7 : Int32)), (.ref b4)])) _
      refine st28 _ ?_
      show Steps p.tables e below (T28.setTop (mkF m 93 #[.val (.int p0), .val (.int p1), .val (.long p2), .second, .val (.int (0 : Int32)), .val (.ref b4)] [])) _
      refine XS.aload X28.here hx rfl (hb hby at_93) rfl rfl ?_
      show Steps p.tables e below (T28.setTop (mkF m 95 #[.val (.int p0), .val (.int p1), .val (.long p2), .second, .val (.int (0 : Int32)), .val (.ref b4)] [(.ref b4)])) _
      refine XS.iload X28.here hx rfl (hb hby at_95) rfl ?_
      show Steps p.tables e below (T28.setTop (mkF m 97 #[.val (.int p0), .val (.int p1), .val (.long p2), .second, .val (.int (0 : Int32)), .val (.ref b4)] [(.int (0 : Int32)), (.ref b4)])) _
      refine XS.iloadN X28.here hx rfl (hb hby at_97) rfl ?_
      show Steps p.tables e below (T28.setTop (mkF m 98 #[.val (.int p0), .val (.int p1), .val (.long p2), .second, .val (.int (0 : Int32)), .val (.ref b4)] [(.int p0), (.int (0 : Int32)), (.ref b4)])) _
      refine XS.bipush X28.here hx rfl (hb hby at_98) ?_
      show Steps p.tables e below (T28.setTop (mkF m 100 #[.val (.int p0), .val (.int p1), .val (.long p2), .second, .val (.int (0 : Int32)), .val (.ref b4)] [(.int (24 : Int32)), (.int p0), (.int (0 : Int32)), (.ref b4)])) _
      refine XS.iushr X28.here hx rfl (hb hby at_100) rfl ?_
      show Steps p.tables e below (T28.setTop (mkF m 101 #[.val (.int p0), .val (.int p1), .val (.long p2), .second, .val (.int (0 : Int32)), .val (.ref b4)] [(.int ((p0.toUInt32 >>> ((24 : Int32) &&& 31).toUInt32).toInt32)), (.int (0 : Int32)), (.ref b4)])) _
      refine XS.i2b X28.here hx rfl (hb hby at_101) rfl ?_
      show Steps p.tables e below (T28.setTop (mkF m 102 #[.val (.int p0), .val (.int p1), .val (.long p2), .second, .val (.int (0 : Int32)), .val (.ref b4)] [(.int (((p0.toUInt32 >>> ((24 : Int32) &&& 31).toUInt32).toInt32).toInt8.toInt32)), (.int (0 : Int32)), (.ref b4)])) _
      refine st31 _ ?_
      show Steps p.tables e below (T31.setTop (mkF m 103 #[.val (.int p0), .val (.int p1), .val (.long p2), .second, .val (.int (0 : Int32)), .val (.ref b4)] [])) _
      refine XS.aload X31.here hx rfl (hb hby at_103) rfl rfl ?_
      show Steps p.tables e below (T31.setTop (mkF m 105 #[.val (.int p0), .val (.int p1), .val (.long p2), .second, .val (.int (0 : Int32)), .val (.ref b4)] [(.ref b4)])) _
      refine XS.iload X31.here hx rfl (hb hby at_105) rfl ?_
      show Steps p.tables e below (T31.setTop (mkF m 107 #[.val (.int p0), .val (.int p1), .val (.long p2), .second, .val (.int (0 : Int32)), .val (.ref b4)] [(.int (0 : Int32)), (.ref b4)])) _
      refine XS.iconst X31.here hx rfl (hb hby at_107) ?_
      show Steps p.tables e below (T31.setTop (mkF m 108 #[.val (.int p0), .val (.int p1), .val (.long p2), .second, .val (.int (0 : Int32)), .val (.ref b4)] [(.int (1 : Int32)), (.int (0 : Int32)), (.ref b4)])) _
      refine XS.iadd X31.here hx rfl (hb hby at_108) rfl ?_
      show Steps p.tables e below (T31.setTop (mkF m 109 #[.val (.int p0), .val (.int p1), .val (.long p2), .second, .val (.int (0 : Int32)), .val (.ref b4)] [(.int (1 : Int32)), (.ref b4)])) _
      refine XS.iloadN X31.here hx rfl (hb hby at_109) rfl ?_
      show Steps p.tables e below (T31.setTop (mkF m 110 #[.val (.int p0), .val (.int p1), .val (.long p2), .second, .val (.int (0 : Int32)), .val (.ref b4)] [(.int p0), (.int (1 : Int32)), (.ref b4)])) _
      refine XS.bipush X31.here hx rfl (hb hby at_110) ?_
      show Steps p.tables e below (T31.setTop (mkF m 112 #[.val (.int p0), .val (.int p1), .val (.long p2), .second, .val (.int (0 : Int32)), .val (.ref b4)] [(.int (16 : Int32)), (.int p0), (.int (1 : Int32)), (.ref b4)])) _
      refine XS.iushr X31.here hx rfl (hb hby at_112) rfl ?_
      show Steps p.tables e below (T31.setTop (mkF m 113 #[.val (.int p0), .val (.int p1), .val (.long p2), .second, .val (.int (0 : Int32)), .val (.ref b4)] [(.int ((p0.toUInt32 >>> ((16 : Int32) &&& 31).toUInt32).toInt32)), (.int (1 : Int32)), (.ref b4)])) _
      refine XS.i2b X31.here hx rfl (hb hby at_113) rfl ?_
      show Steps p.tables e below (T31.setTop (mkF m 114 #[.val (.int p0), .val (.int p1), .val (.long p2), .second, .val (.int (0 : Int32)), .val (.ref b4)] [(.int (((p0.toUInt32 >>> ((16 : Int32) &&& 31).toUInt32).toInt32).toInt8.toInt32)), (.int (1 : Int32)), (.ref b4)])) _
      refine st34 _ ?_
      show Steps p.tables e below (T34.setTop (mkF m 115 #[.val (.int p0), .val (.int p1), .val (.long p2), .second, .val (.int (0 : Int32)), .val (.ref b4)] [])) _
      refine XS.aload X34.here hx rfl (hb hby at_115) rfl rfl ?_
      show Steps p.tables e below (T34.setTop (mkF m 117 #[.val (.int p0), .val (.int p1), .val (.long p2), .second, .val (.int (0 : Int32)), .val (.ref b4)] [(.ref b4)])) _
      refine XS.iload X34.here hx rfl (hb hby at_117) rfl ?_
      show Steps p.tables e below (T34.setTop (mkF m 119 #[.val (.int p0), .val (.int p1), .val (.long p2), .second, .val (.int (0 : Int32)), .val (.ref b4)] [(.int (0 : Int32)), (.ref b4)])) _
      refine XS.iconst X34.here hx rfl (hb hby at_119) ?_
      show Steps p.tables e below (T34.setTop (mkF m 120 #[.val (.int p0), .val (.int p1), .val (.long p2), .second, .val (.int (0 : Int32)), .val (.ref b4)] [(.int (2 : Int32)), (.int (0 : Int32)), (.ref b4)])) _
      refine XS.iadd X34.here hx rfl (hb hby at_120) rfl ?_
      show Steps p.tables e below (T34.setTop (mkF m 121 #[.val (.int p0), .val (.int p1), .val (.long p2), .second, .val (.int (0 : Int32)), .val (.ref b4)] [(.int (2 : Int32)), (.ref b4)])) _
      refine XS.iloadN X34.here hx rfl (hb hby at_121) rfl ?_
      show Steps p.tables e below (T34.setTop (mkF m 122 #[.val (.int p0), .val (.int p1), .val (.long p2), .second, .val (.int (0 : Int32)), .val (.ref b4)] [(.int p0), (.int (2 : Int32)), (.ref b4)])) _
      refine XS.bipush X34.here hx rfl (hb hby at_122) ?_
      show Steps p.tables e below (T34.setTop (mkF m 124 #[.val (.int p0), .val (.int p1), .val (.long p2), .second, .val (.int (0 : Int32)), .val (.ref b4)] [(.int (8 : Int32)), (.int p0), (.int (2 : Int32)), (.ref b4)])) _
      refine XS.iushr X34.here hx rfl (hb hby at_124) rfl ?_
      show Steps p.tables e below (T34.setTop (mkF m 125 #[.val (.int p0), .val (.int p1), .val (.long p2), .second, .val (.int (0 : Int32)), .val (.ref b4)] [(.int ((p0.toUInt32 >>> ((8 : Int32) &&& 31).toUInt32).toInt32)), (.int (2 : Int32)), (.ref b4)])) _
      refine XS.i2b X34.here hx rfl (hb hby at_125) rfl ?_
      show Steps p.tables e below (T34.setTop (mkF m 126 #[.val (.int p0), .val (.int p1), .val (.long p2), .second, .val (.int (0 : Int32)), .val (.ref b4)] [(.int (((p0.toUInt32 >>> ((8 : Int32) &&& 31).toUInt32).toInt32).toInt8.toInt32)), (.int (2 : Int32)), (.ref b4)])) _
      refine st37 _ ?_
      show Steps p.tables e below (T37.setTop (mkF m 127 #[.val (.int p0), .val (.int p1), .val (.long p2), .second, .val (.int (0 : Int32)), .val (.ref b4)] [])) _
      refine XS.aload X37.here hx rfl (hb hby at_127) rfl rfl ?_
      show Steps p.tables e below (T37.setTop (mkF m 129 #[.val (.int p0), .val (.int p1), .val (.long p2), .second, .val (.int (0 : Int32)), .val (.ref b4)] [(.ref b4)])) _
      refine XS.iload X37.here hx rfl (hb hby at_129) rfl ?_
      show Steps p.tables e below (T37.setTop (mkF m 131 #[.val (.int p0), .val (.int p1), .val (.long p2), .second, .val (.int (0 : Int32)), .val (.ref b4)] [(.int (0 : Int32)), (.ref b4)])) _
      refine XS.iconst X37.here hx rfl (hb hby at_131) ?_
      show Steps p.tables e below (T37.setTop (mkF m 132 #[.val (.int p0), .val (.int p1), .val (.long p2), .second, .val (.int (0 : Int32)), .val (.ref b4)] [(.int (3 : Int32)), (.int (0 : Int32)), (.ref b4)])) _
      refine XS.iadd X37.here hx rfl (hb hby at_132) rfl ?_
      show Steps p.tables e below (T37.setTop (mkF m 133 #[.val (.int p0), .val (.int p1), .val (.long p2), .second, .val (.int (0 : Int32)), .val (.ref b4)] [(.int (3 : Int32)), (.ref b4)])) _
      refine XS.iloadN X37.here hx rfl (hb hby at_133) rfl ?_
      show Steps p.tables e below (T37.setTop (mkF m 134 #[.val (.int p0), .val (.int p1), .val (.long p2), .second, .val (.int (0 : Int32)), .val (.ref b4)] [(.int p0), (.int (3 : Int32)), (.ref b4)])) _
      refine XS.i2b X37.here hx rfl (hb hby at_134) rfl ?_
      show Steps p.tables e below (T37.setTop (mkF m 135 #[.val (.int p0), .val (.int p1), .val (.long p2), .second, .val (.int (0 : Int32)), .val (.ref b4)] [(.int (p0.toInt8.toInt32)), (.int (3 : Int32)), (.ref b4)])) _
      refine st40 _ ?_
      show Steps p.tables e below (T40.setTop (mkF m 136 #[.val (.int p0), .val (.int p1), .val (.long p2), .second, .val (.int (0 : Int32)), .val (.ref b4)] [])) _
      refine XS.aload X40.here hx rfl (hb hby at_136) rfl rfl ?_
      show Steps p.tables e below (T40.setTop (mkF m 138 #[.val (.int p0), .val (.int p1), .val (.long p2), .second, .val (.int (0 : Int32)), .val (.ref b4)] [(.ref b4)])) _
      refine XS.iload X40.here hx rfl (hb hby at_138) rfl ?_
      show Steps p.tables e below (T40.setTop (mkF m 140 #[.val (.int p0), .val (.int p1), .val (.long p2), .second, .val (.int (0 : Int32)), .val (.ref b4)] [(.int (0 : Int32)), (.ref b4)])) _
      refine st41 _ ?_
      show Steps p.tables e below (T41.setTop (mkF m 143 #[.val (.int p0), .val (.int p1), .val (.long p2), .second, .val (.int (0 : Int32)), .val (.ref b4)] [(.int (own_be ((((p0.toUInt32 >>> ((24 : Int32) &&& 31).toUInt32).toInt32).toInt8.toInt32).toInt8.toInt32) ((((p0.toUInt32 >>> ((16 : Int32) &&& 31).toUInt32).toInt32).toInt8.toInt32).toInt8.toInt32) ((((p0.toUInt32 >>> ((8 : Int32) &&& 31).toUInt32).toInt32).toInt8.toInt32).toInt8.toInt32) ((p0.toInt8.toInt32).toInt8.toInt32)))])) _
      refine XS.iloadN X41.here hx rfl (hb hby at_143) rfl ?_
      show Steps p.tables e below (T41.setTop (mkF m 144 #[.val (.int p0), .val (.int p1), .val (.long p2), .second, .val (.int (0 : Int32)), .val (.ref b4)] [(.int p0), (.int (own_be ((((p0.toUInt32 >>> ((24 : Int32) &&& 31).toUInt32).toInt32).toInt8.toInt32).toInt8.toInt32) ((((p0.toUInt32 >>> ((16 : Int32) &&& 31).toUInt32).toInt32).toInt8.toInt32).toInt8.toInt32) ((((p0.toUInt32 >>> ((8 : Int32) &&& 31).toUInt32).toInt32).toInt8.toInt32).toInt8.toInt32) ((p0.toInt8.toInt32).toInt8.toInt32)))])) _
      refine XS.icmpNo X41.here hx rfl (hb hby at_144) rfl (teq (own_be_ok p0)).2 ?_
      show Steps p.tables e below (T41.setTop (mkF m 147 #[.val (.int p0), .val (.int p1), .val (.long p2), .second, .val (.int (0 : Int32)), .val (.ref b4)] [])) _
      refine XS.iconst X41.here hx rfl (hb hby at_147) ?_
      show Steps p.tables e below (T41.setTop (mkF m 148 #[.val (.int p0), .val (.int p1), .val (.long p2), .second, .val (.int (0 : Int32)), .val (.ref b4)] [(.int (1 : Int32))])) _
      refine XS.goto X41.here hx rfl (pc0 := 148) (pc' := 152) rfl (hb hby at_148) (by decide) (by decide) ?_
      exact Steps.refl _
    obtain ⟨fs, hr, hrun, hended, hW, hsame⟩ := X41.leave (v := some (.int (1 : Int32))) (fun h => by rw [Bd.returns] at h; cases h)
    refine ⟨_, _, s42.trans ?_, hrun, hended, _, _, rfl, ?_, ⟨_, rfl⟩, hW, hsame.mono (by decide) (by decide)⟩
    · show Steps p.tables e below (T41.setTop (mkF m 152 #[.val (.int p0), .val (.int p1), .val (.long p2), .second, .val (.int (0 : Int32)), .val (.ref b4)] [(.int (1 : Int32))])) _
      exact retN X41 hx (t := .boolean) Bd.returns (by simp) (hb hby at_152) hr
    · show Q0 Z p0 p1 p2 h0 n0 _ T41.heap _
      rw [e41]
      exact ⟨rfl, N41⟩
  · have s43 := s1
    rw [hk2] at s43
    obtain ⟨T44, h44, k44, X44, e44, E44, A44, st44⟩ := newP X0 hx hZ (hw _ (List.mem_of_getElem? (i := 1) rfl)) e0 (g := (mkF m 10 #[.val (.int p0), .val (.int p1), .val (.long p2), .second, .val (.int (1 : Int32)), .unset] [(.int (8 : Int32))])) rfl (hb hby at_10) rfl (by decide) (cap := 8) (by decide) (by decide) (by decide) (by decide)
    obtain ⟨b44, g44⟩ : ∃ z, z = h0.size := ⟨_, rfl⟩
    rw [← g44] at A44 st44
    have g_b44 : n0 ≤ b44 := Nat.le_trans (Nat.le_of_eq O0.1.symm) (Nat.le_trans O0.2.1 (Nat.le_of_eq g44.symm))
    have O44 := O0.ext E44
    have V44 : Arv Z h44 b44 k44 .byte (8 : Int32) [(.int (0 : Int32)), (.int (0 : Int32)), (.int (0 : Int32)), (.int (0 : Int32)), (.int (0 : Int32)), (.int (0 : Int32)), (.int (0 : Int32)), (.int (0 : Int32))] (.int (0 : Int32)) := (Arv.new A44 (by decide)).pad (pad_rep [] (.int (0 : Int32)) 8)
    obtain ⟨cla45, Ara45, qa45, Sa45, Za45, Ha45, Ga45⟩ := id V44
    have hin46 : ¬ ((0 : Int32) < 0 ∨ cla45.slots.size ≤ ((0 : Int32)).toNatClampNeg) := inb_of Sa45 ⟨by decide, by decide⟩
    obtain ⟨T47, h47, X47, e47, W47, st47⟩ := stB X44 hx hZ e44 Ara45 (j := (0 : Int32)) hin46 (g := (mkF m 20 #[.val (.int p0), .val (.int p1), .val (.long p2), .second, .val (.int (1 : Int32)), .val (.ref b44)] [(.int ((p2.toInt32).toInt8.toInt32)), (.int (0 : Int32)), (.ref b44)])) rfl rfl (hb hby at_20)
    have O47 := O44.wr W47 g_b44
    have N47 := Fr.snoc X47 N0 g_b44
    have V47 : Arv Z h47 b44 k44 .byte (8 : Int32) [(.int (((p2.toInt32).toInt8.toInt32).toInt8.toInt32)), (.int (0 : Int32)), (.int (0 : Int32)), (.int (0 : Int32)), (.int (0 : Int32)), (.int (0 : Int32)), (.int (0 : Int32)), (.int (0 : Int32))] (.int (0 : Int32)) := Arv.set Ara45 qa45 Sa45 Za45 Ha45 Ga45 (fits_nar_byte _) W47 0 rfl (Nat.le_of_ble_eq_true rfl)
    obtain ⟨cla48, Ara48, qa48, Sa48, Za48, Ha48, Ga48⟩ := id V47
    have hin49 : ¬ ((1 : Int32) < 0 ∨ cla48.slots.size ≤ ((1 : Int32)).toNatClampNeg) := inb_of Sa48 ⟨by decide, by decide⟩
    obtain ⟨T50, h50, X50, e50, W50, st50⟩ := stB X47 hx hZ e47 Ara48 (j := (1 : Int32)) hin49 (g := (mkF m 30 #[.val (.int p0), .val (.int p1), .val (.long p2), .second, .val (.int (1 : Int32)), .val (.ref b44)] [(.int ((((p2.toUInt64 >>> ((8 : Int32) &&& 0x3f).toInt64.toUInt64).toInt64).toInt32).toInt8.toInt32)), (.int (1 : Int32)), (.ref b44)])) rfl rfl (hb hby at_30)
    have O50 := O47.wr W50 g_b44
    have N50 := Fr.snoc X50 N47 g_b44
    have V50 : Arv Z h50 b44 k44 .byte (8 : Int32) [(.int (((p2.toInt32).toInt8.toInt32).toInt8.toInt32)), (.int (((((p2.toUInt64 >>> ((8 : Int32) &&& 0x3f).toInt64.toUInt64).toInt64).toInt32).toInt8.toInt32).toInt8.toInt32)), (.int (0 : Int32)), (.int (0 : Int32)), (.int (0 : Int32)), (.int (0 : Int32)), (.int (0 : Int32)), (.int (0 : Int32))] (.int (0 : Int32)) := Arv.set Ara48 qa48 Sa48 Za48 Ha48 Ga48 (fits_nar_byte _) W50 1 rfl (Nat.le_of_ble_eq_true rfl)
    obtain ⟨cla51, Ara51, qa51, Sa51, Za51, Ha51, Ga51⟩ := id V50
    have hin52 : ¬ ((2 : Int32) < 0 ∨ cla51.slots.size ≤ ((2 : Int32)).toNatClampNeg) := inb_of Sa51 ⟨by decide, by decide⟩
    obtain ⟨T53, h53, X53, e53, W53, st53⟩ := stB X50 hx hZ e50 Ara51 (j := (2 : Int32)) hin52 (g := (mkF m 40 #[.val (.int p0), .val (.int p1), .val (.long p2), .second, .val (.int (1 : Int32)), .val (.ref b44)] [(.int ((((p2.toUInt64 >>> ((16 : Int32) &&& 0x3f).toInt64.toUInt64).toInt64).toInt32).toInt8.toInt32)), (.int (2 : Int32)), (.ref b44)])) rfl rfl (hb hby at_40)
    have O53 := O50.wr W53 g_b44
    have N53 := Fr.snoc X53 N50 g_b44
    have V53 : Arv Z h53 b44 k44 .byte (8 : Int32) [(.int (((p2.toInt32).toInt8.toInt32).toInt8.toInt32)), (.int (((((p2.toUInt64 >>> ((8 : Int32) &&& 0x3f).toInt64.toUInt64).toInt64).toInt32).toInt8.toInt32).toInt8.toInt32)), (.int (((((p2.toUInt64 >>> ((16 : Int32) &&& 0x3f).toInt64.toUInt64).toInt64).toInt32).toInt8.toInt32).toInt8.toInt32)), (.int (0 : Int32)), (.int (0 : Int32)), (.int (0 : Int32)), (.int (0 : Int32)), (.int (0 : Int32))] (.int (0 : Int32)) := Arv.set Ara51 qa51 Sa51 Za51 Ha51 Ga51 (fits_nar_byte _) W53 2 rfl (Nat.le_of_ble_eq_true rfl)
    obtain ⟨cla54, Ara54, qa54, Sa54, Za54, Ha54, Ga54⟩ := id V53
    have hin55 : ¬ ((3 : Int32) < 0 ∨ cla54.slots.size ≤ ((3 : Int32)).toNatClampNeg) := inb_of Sa54 ⟨by decide, by decide⟩
    obtain ⟨T56, h56, X56, e56, W56, st56⟩ := stB X53 hx hZ e53 Ara54 (j := (3 : Int32)) hin55 (g := (mkF m 50 #[.val (.int p0), .val (.int p1), .val (.long p2), .second, .val (.int (1 : Int32)), .val (.ref b44)] [(.int ((((p2.toUInt64 >>> ((24 : Int32) &&& 0x3f).toInt64.toUInt64).toInt64).toInt32).toInt8.toInt32)), (.int (3 : Int32)), (.ref b44)])) rfl rfl (hb hby at_50)
    have O56 := O53.wr W56 g_b44
    have N56 := Fr.snoc X56 N53 g_b44
    have V56 : Arv Z h56 b44 k44 .byte (8 : Int32) [(.int (((p2.toInt32).toInt8.toInt32).toInt8.toInt32)), (.int (((((p2.toUInt64 >>> ((8 : Int32) &&& 0x3f).toInt64.toUInt64).toInt64).toInt32).toInt8.toInt32).toInt8.toInt32)), (.int (((((p2.toUInt64 >>> ((16 : Int32) &&& 0x3f).toInt64.toUInt64).toInt64).toInt32).toInt8.toInt32).toInt8.toInt32)), (.int (((((p2.toUInt64 >>> ((24 : Int32) &&& 0x3f).toInt64.toUInt64).toInt64).toInt32).toInt8.toInt32).toInt8.toInt32)), (.int (0 : Int32)), (.int (0 : Int32)), (.int (0 : Int32)), (.int (0 : Int32))] (.int (0 : Int32)) := Arv.set Ara54 qa54 Sa54 Za54 Ha54 Ga54 (fits_nar_byte _) W56 3 rfl (Nat.le_of_ble_eq_true rfl)
    obtain ⟨cla57, Ara57, qa57, Sa57, Za57, Ha57, Ga57⟩ := id V56
    have hin58 : ¬ ((4 : Int32) < 0 ∨ cla57.slots.size ≤ ((4 : Int32)).toNatClampNeg) := inb_of Sa57 ⟨by decide, by decide⟩
    obtain ⟨T59, h59, X59, e59, W59, st59⟩ := stB X56 hx hZ e56 Ara57 (j := (4 : Int32)) hin58 (g := (mkF m 60 #[.val (.int p0), .val (.int p1), .val (.long p2), .second, .val (.int (1 : Int32)), .val (.ref b44)] [(.int ((((p2.toUInt64 >>> ((32 : Int32) &&& 0x3f).toInt64.toUInt64).toInt64).toInt32).toInt8.toInt32)), (.int (4 : Int32)), (.ref b44)])) rfl rfl (hb hby at_60)
    have O59 := O56.wr W59 g_b44
    have N59 := Fr.snoc X59 N56 g_b44
    have V59 : Arv Z h59 b44 k44 .byte (8 : Int32) [(.int (((p2.toInt32).toInt8.toInt32).toInt8.toInt32)), (.int (((((p2.toUInt64 >>> ((8 : Int32) &&& 0x3f).toInt64.toUInt64).toInt64).toInt32).toInt8.toInt32).toInt8.toInt32)), (.int (((((p2.toUInt64 >>> ((16 : Int32) &&& 0x3f).toInt64.toUInt64).toInt64).toInt32).toInt8.toInt32).toInt8.toInt32)), (.int (((((p2.toUInt64 >>> ((24 : Int32) &&& 0x3f).toInt64.toUInt64).toInt64).toInt32).toInt8.toInt32).toInt8.toInt32)), (.int (((((p2.toUInt64 >>> ((32 : Int32) &&& 0x3f).toInt64.toUInt64).toInt64).toInt32).toInt8.toInt32).toInt8.toInt32)), (.int (0 : Int32)), (.int (0 : Int32)), (.int (0 : Int32))] (.int (0 : Int32)) := Arv.set Ara57 qa57 Sa57 Za57 Ha57 Ga57 (fits_nar_byte _) W59 4 rfl (Nat.le_of_ble_eq_true rfl)
    obtain ⟨cla60, Ara60, qa60, Sa60, Za60, Ha60, Ga60⟩ := id V59
    have hin61 : ¬ ((5 : Int32) < 0 ∨ cla60.slots.size ≤ ((5 : Int32)).toNatClampNeg) := inb_of Sa60 ⟨by decide, by decide⟩
    obtain ⟨T62, h62, X62, e62, W62, st62⟩ := stB X59 hx hZ e59 Ara60 (j := (5 : Int32)) hin61 (g := (mkF m 70 #[.val (.int p0), .val (.int p1), .val (.long p2), .second, .val (.int (1 : Int32)), .val (.ref b44)] [(.int ((((p2.toUInt64 >>> ((40 : Int32) &&& 0x3f).toInt64.toUInt64).toInt64).toInt32).toInt8.toInt32)), (.int (5 : Int32)), (.ref b44)])) rfl rfl (hb hby at_70)
    have O62 := O59.wr W62 g_b44
    have N62 := Fr.snoc X62 N59 g_b44
    have V62 : Arv Z h62 b44 k44 .byte (8 : Int32) [(.int (((p2.toInt32).toInt8.toInt32).toInt8.toInt32)), (.int (((((p2.toUInt64 >>> ((8 : Int32) &&& 0x3f).toInt64.toUInt64).toInt64).toInt32).toInt8.toInt32).toInt8.toInt32)), (.int (((((p2.toUInt64 >>> ((16 : Int32) &&& 0x3f).toInt64.toUInt64).toInt64).toInt32).toInt8.toInt32).toInt8.toInt32)), (.int (((((p2.toUInt64 >>> ((24 : Int32) &&& 0x3f).toInt64.toUInt64).toInt64).toInt32).toInt8.toInt32).toInt8.toInt32)), (.int (((((p2.toUInt64 >>> ((32 : Int32) &&& 0x3f).toInt64.toUInt64).toInt64).toInt32).toInt8.toInt32).toInt8.toInt32)), (.int (((((p2.toUInt64 >>> ((40 : Int32) &&& 0x3f).toInt64.toUInt64).toInt64).toInt32).toInt8.toInt32).toInt8.toInt32)), (.int (0 : Int32)), (.int (0 : Int32))] (.int (0 : Int32)) := Arv.set Ara60 qa60 Sa60 Za60 Ha60 Ga60 (fits_nar_byte _) W62 5 rfl (Nat.le_of_ble_eq_true rfl)
    obtain ⟨cla63, Ara63, qa63, Sa63, Za63, Ha63, Ga63⟩ := id V62
    have hin64 : ¬ ((6 : Int32) < 0 ∨ cla63.slots.size ≤ ((6 : Int32)).toNatClampNeg) := inb_of Sa63 ⟨by decide, by decide⟩
    obtain ⟨T65, h65, X65, e65, W65, st65⟩ := stB X62 hx hZ e62 Ara63 (j := (6 : Int32)) hin64 (g := (mkF m 81 #[.val (.int p0), .val (.int p1), .val (.long p2), .second, .val (.int (1 : Int32)), .val (.ref b44)] [(.int ((((p2.toUInt64 >>> ((48 : Int32) &&& 0x3f).toInt64.toUInt64).toInt64).toInt32).toInt8.toInt32)), (.int (6 : Int32)), (.ref b44)])) rfl rfl (hb hby at_81)
    have O65 := O62.wr W65 g_b44
    have N65 := Fr.snoc X65 N62 g_b44
    have V65 : Arv Z h65 b44 k44 .byte (8 : Int32) [(.int (((p2.toInt32).toInt8.toInt32).toInt8.toInt32)), (.int (((((p2.toUInt64 >>> ((8 : Int32) &&& 0x3f).toInt64.toUInt64).toInt64).toInt32).toInt8.toInt32).toInt8.toInt32)), (.int (((((p2.toUInt64 >>> ((16 : Int32) &&& 0x3f).toInt64.toUInt64).toInt64).toInt32).toInt8.toInt32).toInt8.toInt32)), (.int (((((p2.toUInt64 >>> ((24 : Int32) &&& 0x3f).toInt64.toUInt64).toInt64).toInt32).toInt8.toInt32).toInt8.toInt32)), (.int (((((p2.toUInt64 >>> ((32 : Int32) &&& 0x3f).toInt64.toUInt64).toInt64).toInt32).toInt8.toInt32).toInt8.toInt32)), (.int (((((p2.toUInt64 >>> ((40 : Int32) &&& 0x3f).toInt64.toUInt64).toInt64).toInt32).toInt8.toInt32).toInt8.toInt32)), (.int (((((p2.toUInt64 >>> ((48 : Int32) &&& 0x3f).toInt64.toUInt64).toInt64).toInt32).toInt8.toInt32).toInt8.toInt32)), (.int (0 : Int32))] (.int (0 : Int32)) := Arv.set Ara63 qa63 Sa63 Za63 Ha63 Ga63 (fits_nar_byte _) W65 6 rfl (Nat.le_of_ble_eq_true rfl)
    obtain ⟨cla66, Ara66, qa66, Sa66, Za66, Ha66, Ga66⟩ := id V65
    have hin67 : ¬ ((7 : Int32) < 0 ∨ cla66.slots.size ≤ ((7 : Int32)).toNatClampNeg) := inb_of Sa66 ⟨by decide, by decide⟩
    obtain ⟨T68, h68, X68, e68, W68, st68⟩ := stB X65 hx hZ e65 Ara66 (j := (7 : Int32)) hin67 (g := (mkF m 92 #[.val (.int p0), .val (.int p1), .val (.long p2), .second, .val (.int (1 : Int32)), .val (.ref b44)] [(.int ((((p2.toUInt64 >>> ((56 : Int32) &&& 0x3f).toInt64.toUInt64).toInt64).toInt32).toInt8.toInt32)), (.int (7 : Int32)), (.ref b44)])) rfl rfl (hb hby at_92)
    have O68 := O65.wr W68 g_b44
    have N68 := Fr.snoc X68 N65 g_b44
    have V68 : Arv Z h68 b44 k44 .byte (8 : Int32) [(.int (((p2.toInt32).toInt8.toInt32).toInt8.toInt32)), (.int (((((p2.toUInt64 >>> ((8 : Int32) &&& 0x3f).toInt64.toUInt64).toInt64).toInt32).toInt8.toInt32).toInt8.toInt32)), (.int (((((p2.toUInt64 >>> ((16 : Int32) &&& 0x3f).toInt64.toUInt64).toInt64).toInt32).toInt8.toInt32).toInt8.toInt32)), (.int (((((p2.toUInt64 >>> ((24 : Int32) &&& 0x3f).toInt64.toUInt64).toInt64).toInt32).toInt8.toInt32).toInt8.toInt32)), (.int (((((p2.toUInt64 >>> ((32 : Int32) &&& 0x3f).toInt64.toUInt64).toInt64).toInt32).toInt8.toInt32).toInt8.toInt32)), (.int (((((p2.toUInt64 >>> ((40 : Int32) &&& 0x3f).toInt64.toUInt64).toInt64).toInt32).toInt8.toInt32).toInt8.toInt32)), (.int (((((p2.toUInt64 >>> ((48 : Int32) &&& 0x3f).toInt64.toUInt64).toInt64).toInt32).toInt8.toInt32).toInt8.toInt32)), (.int (((((p2.toUInt64 >>> ((56 : Int32) &&& 0x3f).toInt64.toUInt64).toInt64).toInt32).toInt8.toInt32).toInt8.toInt32))] (.int (0 : Int32)) := Arv.set Ara66 qa66 Sa66 Za66 Ha66 Ga66 (fits_nar_byte _) W68 7 rfl (Nat.le_of_ble_eq_true rfl)
    obtain ⟨cla69, Ara69, qa69, Sa69, Za69, Ha69, Ga69⟩ := id V68
    have hin70 : ¬ ((1 : Int32) < 0 ∨ cla69.slots.size ≤ ((1 : Int32)).toNatClampNeg) := inb_of Sa69 ⟨by decide, by decide⟩
    obtain ⟨T71, h71, X71, e71, W71, st71⟩ := stB X68 hx hZ e68 Ara69 (j := (1 : Int32)) hin70 (g := (mkF m 102 #[.val (.int p0), .val (.int p1), .val (.long p2), .second, .val (.int (1 : Int32)), .val (.ref b44)] [(.int (((p0.toUInt32 >>> ((24 : Int32) &&& 31).toUInt32).toInt32).toInt8.toInt32)), (.int (1 : Int32)), (.ref b44)])) rfl rfl (hb hby at_102)
    have O71 := O68.wr W71 g_b44
    have N71 := Fr.snoc X71 N68 g_b44
    have V71 : Arv Z h71 b44 k44 .byte (8 : Int32) [(.int (((p2.toInt32).toInt8.toInt32).toInt8.toInt32)), (.int ((((p0.toUInt32 >>> ((24 : Int32) &&& 31).toUInt32).toInt32).toInt8.toInt32).toInt8.toInt32)), (.int (((((p2.toUInt64 >>> ((16 : Int32) &&& 0x3f).toInt64.toUInt64).toInt64).toInt32).toInt8.toInt32).toInt8.toInt32)), (.int (((((p2.toUInt64 >>> ((24 : Int32) &&& 0x3f).toInt64.toUInt64).toInt64).toInt32).toInt8.toInt32).toInt8.toInt32)), (.int (((((p2.toUInt64 >>> ((32 : Int32) &&& 0x3f).toInt64.toUInt64).toInt64).toInt32).toInt8.toInt32).toInt8.toInt32)), (.int (((((p2.toUInt64 >>> ((40 : Int32) &&& 0x3f).toInt64.toUInt64).toInt64).toInt32).toInt8.toInt32).toInt8.toInt32)), (.int (((((p2.toUInt64 >>> ((48 : Int32) &&& 0x3f).toInt64.toUInt64).toInt64).toInt32).toInt8.toInt32).toInt8.toInt32)), (.int (((((p2.toUInt64 >>> ((56 : Int32) &&& 0x3f).toInt64.toUInt64).toInt64).toInt32).toInt8.toInt32).toInt8.toInt32))] (.int (0 : Int32)) := Arv.set Ara69 qa69 Sa69 Za69 Ha69 Ga69 (fits_nar_byte _) W71 1 rfl (Nat.le_of_ble_eq_true rfl)
    obtain ⟨cla72, Ara72, qa72, Sa72, Za72, Ha72, Ga72⟩ := id V71
    have hin73 : ¬ ((2 : Int32) < 0 ∨ cla72.slots.size ≤ ((2 : Int32)).toNatClampNeg) := inb_of Sa72 ⟨by decide, by decide⟩
    obtain ⟨T74, h74, X74, e74, W74, st74⟩ := stB X71 hx hZ e71 Ara72 (j := (2 : Int32)) hin73 (g := (mkF m 114 #[.val (.int p0), .val (.int p1), .val (.long p2), .second, .val (.int (1 : Int32)), .val (.ref b44)] [(.int (((p0.toUInt32 >>> ((16 : Int32) &&& 31).toUInt32).toInt32).toInt8.toInt32)), (.int (2 : Int32)), (.ref b44)])) rfl rfl (hb hby at_114)
    have O74 := O71.wr W74 g_b44
    have N74 := Fr.snoc X74 N71 g_b44
    have V74 : Arv Z h74 b44 k44 .byte (8 : Int32) [(.int (((p2.toInt32).toInt8.toInt32).toInt8.toInt32)), (.int ((((p0.toUInt32 >>> ((24 : Int32) &&& 31).toUInt32).toInt32).toInt8.toInt32).toInt8.toInt32)), (.int ((((p0.toUInt32 >>> ((16 : Int32) &&& 31).toUInt32).toInt32).toInt8.toInt32).toInt8.toInt32)), (.int (((((p2.toUInt64 >>> ((24 : Int32) &&& 0x3f).toInt64.toUInt64).toInt64).toInt32).toInt8.toInt32).toInt8.toInt32)), (.int (((((p2.toUInt64 >>> ((32 : Int32) &&& 0x3f).toInt64.toUInt64).toInt64).toInt32).toInt8.toInt32).toInt8.toInt32)), (.int (((((p2.toUInt64 >>> ((40 : Int32) &&& 0x3f).toInt64.toUInt64).toInt64).toInt32).toInt8.toInt32).toInt8.toInt32)), (.int (((((p2.toUInt64 >>> ((48 : Int32) &&& 0x3f).toInt64.toUInt64).toInt64).toInt32).toInt8.toInt32).toInt8.toInt32)), (.int (((((p2.toUInt64 >>> ((56 : Int32) &&& 0x3f).toInt64.toUInt64).toInt64).toInt32).toInt8.toInt32).toInt8.toInt32))] (.int (0 : Int32)) := Arv.set Ara72 qa72 Sa72 Za72 Ha72 Ga72 (fits_nar_byte _) W74 2 rfl (Nat.le_of_ble_eq_true rfl)
    obtain ⟨cla75, Ara75, qa75, Sa75, Za75, Ha75, Ga75⟩ := id V74
    have hin76 : ¬ ((3 : Int32) < 0 ∨ cla75.slots.size ≤ ((3 : Int32)).toNatClampNeg) := inb_of Sa75 ⟨by decide, by decide⟩
    obtain ⟨T77, h77, X77, e77, W77, st77⟩ := stB X74 hx hZ e74 Ara75 (j := (3 : Int32)) hin76 (g := (mkF m 126 #[.val (.int p0), .val (.int p1), .val (.long p2), .second, .val (.int (1 : Int32)), .val (.ref b44)] [(.int (((p0.toUInt32 >>> ((8 : Int32) &&& 31).toUInt32).toInt32).toInt8.toInt32)), (.int (3 : Int32)), (.ref b44)])) rfl rfl (hb hby at_126)
    have O77 := O74.wr W77 g_b44
    have N77 := Fr.snoc X77 N74 g_b44
    have V77 : Arv Z h77 b44 k44 .byte (8 : Int32) [(.int (((p2.toInt32).toInt8.toInt32).toInt8.toInt32)), (.int ((((p0.toUInt32 >>> ((24 : Int32) &&& 31).toUInt32).toInt32).toInt8.toInt32).toInt8.toInt32)), (.int ((((p0.toUInt32 >>> ((16 : Int32) &&& 31).toUInt32).toInt32).toInt8.toInt32).toInt8.toInt32)), (.int ((((p0.toUInt32 >>> ((8 : Int32) &&& 31).toUInt32).toInt32).toInt8.toInt32).toInt8.toInt32)), (.int (((((p2.toUInt64 >>> ((32 : Int32) &&& 0x3f).toInt64.toUInt64).toInt64).toInt32).toInt8.toInt32).toInt8.toInt32)), (.int (((((p2.toUInt64 >>> ((40 : Int32) &&& 0x3f).toInt64.toUInt64).toInt64).toInt32).toInt8.toInt32).toInt8.toInt32)), (.int (((((p2.toUInt64 >>> ((48 : Int32) &&& 0x3f).toInt64.toUInt64).toInt64).toInt32).toInt8.toInt32).toInt8.toInt32)), (.int (((((p2.toUInt64 >>> ((56 : Int32) &&& 0x3f).toInt64.toUInt64).toInt64).toInt32).toInt8.toInt32).toInt8.toInt32))] (.int (0 : Int32)) := Arv.set Ara75 qa75 Sa75 Za75 Ha75 Ga75 (fits_nar_byte _) W77 3 rfl (Nat.le_of_ble_eq_true rfl)
    obtain ⟨cla78, Ara78, qa78, Sa78, Za78, Ha78, Ga78⟩ := id V77
    have hin79 : ¬ ((4 : Int32) < 0 ∨ cla78.slots.size ≤ ((4 : Int32)).toNatClampNeg) := inb_of Sa78 ⟨by decide, by decide⟩
    obtain ⟨T80, h80, X80, e80, W80, st80⟩ := stB X77 hx hZ e77 Ara78 (j := (4 : Int32)) hin79 (g := (mkF m 135 #[.val (.int p0), .val (.int p1), .val (.long p2), .second, .val (.int (1 : Int32)), .val (.ref b44)] [(.int (p0.toInt8.toInt32)), (.int (4 : Int32)), (.ref b44)])) rfl rfl (hb hby at_135)
    have O80 := O77.wr W80 g_b44
    have N80 := Fr.snoc X80 N77 g_b44
    have V80 : Arv Z h80 b44 k44 .byte (8 : Int32) [(.int (((p2.toInt32).toInt8.toInt32).toInt8.toInt32)), (.int ((((p0.toUInt32 >>> ((24 : Int32) &&& 31).toUInt32).toInt32).toInt8.toInt32).toInt8.toInt32)), (.int ((((p0.toUInt32 >>> ((16 : Int32) &&& 31).toUInt32).toInt32).toInt8.toInt32).toInt8.toInt32)), (.int ((((p0.toUInt32 >>> ((8 : Int32) &&& 31).toUInt32).toInt32).toInt8.toInt32).toInt8.toInt32)), (.int ((p0.toInt8.toInt32).toInt8.toInt32)), (.int (((((p2.toUInt64 >>> ((40 : Int32) &&& 0x3f).toInt64.toUInt64).toInt64).toInt32).toInt8.toInt32).toInt8.toInt32)), (.int (((((p2.toUInt64 >>> ((48 : Int32) &&& 0x3f).toInt64.toUInt64).toInt64).toInt32).toInt8.toInt32).toInt8.toInt32)), (.int (((((p2.toUInt64 >>> ((56 : Int32) &&& 0x3f).toInt64.toUInt64).toInt64).toInt32).toInt8.toInt32).toInt8.toInt32))] (.int (0 : Int32)) := Arv.set Ara78 qa78 Sa78 Za78 Ha78 Ga78 (fits_nar_byte _) W80 4 rfl (Nat.le_of_ble_eq_true rfl)
    obtain ⟨_, _, ⟨T81, L81, k81, n81⟩, -, X81, ⟨Lc81, hQ81, l81, y81, z81⟩, st81⟩ := Jvm.LawKit.callS X80 hx (y := (⟨"com/example/strikewire/strikewire/engine/JournalReader", "intAt", "([BI)I"⟩ : MethodName)) hown (mvT hZ (hw _ (List.mem_of_getElem? (i := 2) rfl))) (mvT hZ (hw _ (List.mem_of_getElem? (i := 3) rfl))) (mvT hZ (hw _ (List.mem_of_getElem? (i := 4) rfl))) (mvT hZ (hw _ (List.mem_of_getElem? (i := 5) rfl))) (by decide) (backOf (W := 0) (rm1_1 l Z a0 hw [] b44 k44 (((p2.toInt32).toInt8.toInt32).toInt8.toInt32) ((((p0.toUInt32 >>> ((24 : Int32) &&& 31).toUInt32).toInt32).toInt8.toInt32).toInt8.toInt32) ((((p0.toUInt32 >>> ((16 : Int32) &&& 31).toUInt32).toInt32).toInt8.toInt32).toInt8.toInt32) ((((p0.toUInt32 >>> ((8 : Int32) &&& 31).toUInt32).toInt32).toInt8.toInt32).toInt8.toInt32) ((p0.toInt8.toInt32).toInt8.toInt32) (((((p2.toUInt64 >>> ((40 : Int32) &&& 0x3f).toInt64.toUInt64).toInt64).toInt32).toInt8.toInt32).toInt8.toInt32) (((((p2.toUInt64 >>> ((48 : Int32) &&& 0x3f).toInt64.toUInt64).toInt64).toInt32).toInt8.toInt32).toInt8.toInt32) (((((p2.toUInt64 >>> ((56 : Int32) &&& 0x3f).toInt64.toUInt64).toInt64).toInt32).toInt8.toInt32).toInt8.toInt32) h80 n0 O80 V80) hZ (hw _ (List.mem_of_getElem? (i := 5) rfl)) (hw _ (List.mem_of_getElem? (i := 4) rfl)) (by decide) (by decide)) (g := (mkF m 140 #[.val (.int p0), .val (.int p1), .val (.long p2), .second, .val (.int (1 : Int32)), .val (.ref b44)] [(.int (1 : Int32)), (.ref b44)])) rfl (by rw [hml]; rfl) (argsL := [(.ref b44), (.int (1 : Int32))]) (rest := []) (lenOf pd_rm0_0 rfl) rfl (by show 2 * 0 + _ ≤ _; exact Nat.le_of_eq rfl) (hb hby at_140) (fun _ _ => ⟨rfl, e80, (by decide : 1 + 0 ≤ _), (by decide : 8 + 0 ≤ _)⟩)
    dsimp only [Pt.U, Pt.locs, Pt.cells, Pt.slots] at X81 l81 y81 z81 st81 hQ81
    subst l81 y81 z81
    obtain ⟨rfl, Nq81, e81⟩ := hQ81
    have N81 := Fr.app N80 Nq81
    have s82 : Steps p.tables e below (s₁.setTop (entryFrame m #[(.int p0), (.int p1), (.long p2)] maxLocals)) (T81.setTop (mkF m 152 #[.val (.int p0), .val (.int p1), .val (.long p2), .second, .val (.int (1 : Int32)), .val (.ref b44)] [(.int (1 : Int32))])) := by
      refine s43.trans ?_
      show Steps p.tables e below (s₁.setTop (mkF m 6 #[.val (.int p0), .val (.int p1), .val (.long p2), .second, .unset, .unset] [(.int (1 : Int32))])) _
      refine XS.istore X0.here hx rfl (hb hby at_6) rfl (l' := #[.val (.int p0), .val (.int p1), .val (.long p2), .second, .val (.int (1 : Int32)), .unset]) rfl ?_
      show Steps p.tables e below (s₁.setTop (mkF m 8 #[.val (.int p0), .val (.int p1), .val (.long p2), .second, .val (.int (1 : Int32)), .unset] [])) _
      refine XS.bipush X0.here hx rfl (hb hby at_8) ?_
      show Steps p.tables e below (s₁.setTop (mkF m 10 #[.val (.int p0), .val (.int p1), .val (.long p2), .second, .val (.int (1 : Int32)), .unset] [(.int (8 : Int32))])) _
      refine st44 _ ?_
      show Steps p.tables e below (T44.setTop (mkF m 12 #[.val (.int p0), .val (.int p1), .val (.long p2), .second, .val (.int (1 : Int32)), .unset] [(.ref b44)])) _
      refine XS.astore X44.here hx rfl (hb hby at_12) rfl rfl (l' := #[.val (.int p0), .val (.int p1), .val (.long p2), .second, .val (.int (1 : Int32)), .val (.ref b44)]) rfl ?_
      show Steps p.tables e below (T44.setTop (mkF m 14 #[.val (.int p0), .val (.int p1), .val (.long p2), .second, .val (.int (1 : Int32)), .val (.ref b44)] [])) _
      refine XS.aload X44.here hx rfl (hb hby at_14) rfl rfl ?_
      show Steps p.tables e below (T44.setTop (mkF m 16 #[.val (.int p0), .val (.int p1), .val (.long p2), .second, .val (.int (1 : Int32)), .val (.ref b44)] [(.ref b44)])) _
      refine XS.iconst X44.here hx rfl (hb hby at_16) ?_
      show Steps p.tables e below (T44.setTop (mkF m 17 #[.val (.int p0), .val (.int p1), .val (.long p2), .second, .val (.int (1 : Int32)), .val (.ref b44)] [(.int (0 : Int32)), (.ref b44)])) _
      refine XS.lloadN X44.here hx rfl (hb hby at_17) rfl ?_
      show Steps p.tables e below (T44.setTop (mkF m 18 #[.val (.int p0), .val (.int p1), .val (.long p2), .second, .val (.int (1 : Int32)), .val (.ref b44)] [(.long p2), (.int (0 : Int32)), (.ref b44)])) _
      refine XS.l2i X44.here hx rfl (hb hby at_18) rfl ?_
      show Steps p.tables e below (T44.setTop (mkF m 19 #[.val (.int p0), .val (.int p1), .val (.long p2), .second, .val (.int (1 : Int32)), .val (.ref b44)] [(.int (p2.toInt32)), (.int (0 : Int32)), (.ref b44)])) _
      refine XS.i2b X44.here hx rfl (hb hby at_19) rfl ?_
      show Steps p.tables e below (T44.setTop (mkF m 20 #[.val (.int p0), .val (.int p1), .val (.long p2), .second, .val (.int (1 : Int32)), .val (.ref b44)] [(.int ((p2.toInt32).toInt8.toInt32)), (.int (0 : Int32)), (.ref b44)])) _
      refine st47 _ ?_
      show Steps p.tables e below (T47.setTop (mkF m 21 #[.val (.int p0), .val (.int p1), .val (.long p2), .second, .val (.int (1 : Int32)), .val (.ref b44)] [])) _
      refine XS.aload X47.here hx rfl (hb hby at_21) rfl rfl ?_
      show Steps p.tables e below (T47.setTop (mkF m 23 #[.val (.int p0), .val (.int p1), .val (.long p2), .second, .val (.int (1 : Int32)), .val (.ref b44)] [(.ref b44)])) _
      refine XS.iconst X47.here hx rfl (hb hby at_23) ?_
      show Steps p.tables e below (T47.setTop (mkF m 24 #[.val (.int p0), .val (.int p1), .val (.long p2), .second, .val (.int (1 : Int32)), .val (.ref b44)] [(.int (1 : Int32)), (.ref b44)])) _
      refine XS.lloadN X47.here hx rfl (hb hby at_24) rfl ?_
      show Steps p.tables e below (T47.setTop (mkF m 25 #[.val (.int p0), .val (.int p1), .val (.long p2), .second, .val (.int (1 : Int32)), .val (.ref b44)] [(.long p2), (.int (1 : Int32)), (.ref b44)])) _
      refine XS.bipush X47.here hx rfl (hb hby at_25) ?_
      show Steps p.tables e below (T47.setTop (mkF m 27 #[.val (.int p0), .val (.int p1), .val (.long p2), .second, .val (.int (1 : Int32)), .val (.ref b44)] [(.int (8 : Int32)), (.long p2), (.int (1 : Int32)), (.ref b44)])) _
      refine XS.lushr X47.here hx rfl (hb hby at_27) rfl ?_
      show Steps p.tables e below (T47.setTop (mkF m 28 #[.val (.int p0), .val (.int p1), .val (.long p2), .second, .val (.int (1 : Int32)), .val (.ref b44)] [(.long ((p2.toUInt64 >>> ((8 : Int32) &&& 0x3f).toInt64.toUInt64).toInt64)), (.int (1 : Int32)), (.ref b44)])) _
      refine XS.l2i X47.here hx rfl (hb hby at_28) rfl ?_
      show Steps p.tables e below (T47.setTop (mkF m 29 #[.val (.int p0), .val (.int p1), .val (.long p2), .second, .val (.int (1 : Int32)), .val (.ref b44)] [(.int (((p2.toUInt64 >>> ((8 : Int32) &&& 0x3f).toInt64.toUInt64).toInt64).toInt32)), (.int (1 : Int32)), (.ref b44)])) _
      refine XS.i2b X47.here hx rfl (hb hby at_29) rfl ?_
      show Steps p.tables e below (T47.setTop (mkF m 30 #[.val (.int p0), .val (.int p1), .val (.long p2), .second, .val (.int (1 : Int32)), .val (.ref b44)] [(.int ((((p2.toUInt64 >>> ((8 : Int32) &&& 0x3f).toInt64.toUInt64).toInt64).toInt32).toInt8.toInt32)), (.int (1 : Int32)), (.ref b44)])) _
      refine st50 _ ?_
      show Steps p.tables e below (T50.setTop (mkF m 31 #[.val (.int p0), .val (.int p1), .val (.long p2), .second, .val (.int (1 : Int32)), .val (.ref b44)] [])) _
      refine XS.aload X50.here hx rfl (hb hby at_31) rfl rfl ?_
      show Steps p.tables e below (T50.setTop (mkF m 33 #[.val (.int p0), .val (.int p1), .val (.long p2), .second, .val (.int (1 : Int32)), .val (.ref b44)] [(.ref b44)])) _
      refine XS.iconst X50.here hx rfl (hb hby at_33) ?_
      show Steps p.tables e below (T50.setTop (mkF m 34 #[.val (.int p0), .val (.int p1), .val (.long p2), .second, .val (.int (1 : Int32)), .val (.ref b44)] [(.int (2 : Int32)), (.ref b44)])) _
      refine XS.lloadN X50.here hx rfl (hb hby at_34) rfl ?_
      show Steps p.tables e below (T50.setTop (mkF m 35 #[.val (.int p0), .val (.int p1), .val (.long p2), .second, .val (.int (1 : Int32)), .val (.ref b44)] [(.long p2), (.int (2 : Int32)), (.ref b44)])) _
      refine XS.bipush X50.here hx rfl (hb hby at_35) ?_
      show Steps p.tables e below (T50.setTop (mkF m 37 #[.val (.int p0), .val (.int p1), .val (.long p2), .second, .val (.int (1 : Int32)), .val (.ref b44)] [(.int (16 : Int32)), (.long p2), (.int (2 : Int32)), (.ref b44)])) _
      refine XS.lushr X50.here hx rfl (hb hby at_37) rfl ?_
      show Steps p.tables e below (T50.setTop (mkF m 38 #[.val (.int p0), .val (.int p1), .val (.long p2), .second, .val (.int (1 : Int32)), .val (.ref b44)] [(.long ((p2.toUInt64 >>> ((16 : Int32) &&& 0x3f).toInt64.toUInt64).toInt64)), (.int (2 : Int32)), (.ref b44)])) _
      refine XS.l2i X50.here hx rfl (hb hby at_38) rfl ?_
      show Steps p.tables e below (T50.setTop (mkF m 39 #[.val (.int p0), .val (.int p1), .val (.long p2), .second, .val (.int (1 : Int32)), .val (.ref b44)] [(.int (((p2.toUInt64 >>> ((16 : Int32) &&& 0x3f).toInt64.toUInt64).toInt64).toInt32)), (.int (2 : Int32)), (.ref b44)])) _
      refine XS.i2b X50.here hx rfl (hb hby at_39) rfl ?_
      show Steps p.tables e below (T50.setTop (mkF m 40 #[.val (.int p0), .val (.int p1), .val (.long p2), .second, .val (.int (1 : Int32)), .val (.ref b44)] [(.int ((((p2.toUInt64 >>> ((16 : Int32) &&& 0x3f).toInt64.toUInt64).toInt64).toInt32).toInt8.toInt32)), (.int (2 : Int32)), (.ref b44)])) _
      refine st53 _ ?_
      show Steps p.tables e below (T53.setTop (mkF m 41 #[.val (.int p0), .val (.int p1), .val (.long p2), .second, .val (.int (1 : Int32)), .val (.ref b44)] [])) _
      refine XS.aload X53.here hx rfl (hb hby at_41) rfl rfl ?_
      show Steps p.tables e below (T53.setTop (mkF m 43 #[.val (.int p0), .val (.int p1), .val (.long p2), .second, .val (.int (1 : Int32)), .val (.ref b44)] [(.ref b44)])) _
      refine XS.iconst X53.here hx rfl (hb hby at_43) ?_
      show Steps p.tables e below (T53.setTop (mkF m 44 #[.val (.int p0), .val (.int p1), .val (.long p2), .second, .val (.int (1 : Int32)), .val (.ref b44)] [(.int (3 : Int32)), (.ref b44)])) _
      refine XS.lloadN X53.here hx rfl (hb hby at_44) rfl ?_
      show Steps p.tables e below (T53.setTop (mkF m 45 #[.val (.int p0), .val (.int p1), .val (.long p2), .second, .val (.int (1 : Int32)), .val (.ref b44)] [(.long p2), (.int (3 : Int32)), (.ref b44)])) _
      refine XS.bipush X53.here hx rfl (hb hby at_45) ?_
      show Steps p.tables e below (T53.setTop (mkF m 47 #[.val (.int p0), .val (.int p1), .val (.long p2), .second, .val (.int (1 : Int32)), .val (.ref b44)] [(.int (24 : Int32)), (.long p2), (.int (3 : Int32)), (.ref b44)])) _
      refine XS.lushr X53.here hx rfl (hb hby at_47) rfl ?_
      show Steps p.tables e below (T53.setTop (mkF m 48 #[.val (.int p0), .val (.int p1), .val (.long p2), .second, .val (.int (1 : Int32)), .val (.ref b44)] [(.long ((p2.toUInt64 >>> ((24 : Int32) &&& 0x3f).toInt64.toUInt64).toInt64)), (.int (3 : Int32)), (.ref b44)])) _
      refine XS.l2i X53.here hx rfl (hb hby at_48) rfl ?_
      show Steps p.tables e below (T53.setTop (mkF m 49 #[.val (.int p0), .val (.int p1), .val (.long p2), .second, .val (.int (1 : Int32)), .val (.ref b44)] [(.int (((p2.toUInt64 >>> ((24 : Int32) &&& 0x3f).toInt64.toUInt64).toInt64).toInt32)), (.int (3 : Int32)), (.ref b44)])) _
      refine XS.i2b X53.here hx rfl (hb hby at_49) rfl ?_
      show Steps p.tables e below (T53.setTop (mkF m 50 #[.val (.int p0), .val (.int p1), .val (.long p2), .second, .val (.int (1 : Int32)), .val (.ref b44)] [(.int ((((p2.toUInt64 >>> ((24 : Int32) &&& 0x3f).toInt64.toUInt64).toInt64).toInt32).toInt8.toInt32)), (.int (3 : Int32)), (.ref b44)])) _
      refine st56 _ ?_
      show Steps p.tables e below (T56.setTop (mkF m 51 #[.val (.int p0), .val (.int p1), .val (.long p2), .second, .val (.int (1 : Int32)), .val (.ref b44)] [])) _
      refine XS.aload X56.here hx rfl (hb hby at_51) rfl rfl ?_
      show Steps p.tables e below (T56.setTop (mkF m 53 #[.val (.int p0), .val (.int p1), .val (.long p2), .second, .val (.int (1 : Int32)), .val (.ref b44)] [(.ref b44)])) _
      refine XS.iconst X56.here hx rfl (hb hby at_53) ?_
      show Steps p.tables e below (T56.setTop (mkF m 54 #[.val (.int p0), .val (.int p1), .val (.long p2), .second, .val (.int (1 : Int32)), .val (.ref b44)] [(.int (4 : Int32)), (.ref b44)])) _
      refine XS.lloadN X56.here hx rfl (hb hby at_54) rfl ?_
      show Steps p.tables e below (T56.setTop (mkF m 55 #[.val (.int p0), .val (.int p1), .val (.long p2), .second, .val (.int (1 : Int32)), .val (.ref b44)] [(.long p2), (.int (4 : Int32)), (.ref b44)])) _
      refine XS.bipush X56.here hx rfl (hb hby at_55) ?_
      show Steps p.tables e below (T56.setTop (mkF m 57 #[.val (.int p0), .val (.int p1), .val (.long p2), .second, .val (.int (1 : Int32)), .val (.ref b44)] [(.int (32 : Int32)), (.long p2), (.int (4 : Int32)), (.ref b44)])) _
      refine XS.lushr X56.here hx rfl (hb hby at_57) rfl ?_
      show Steps p.tables e below (T56.setTop (mkF m 58 #[.val (.int p0), .val (.int p1), .val (.long p2), .second, .val (.int (1 : Int32)), .val (.ref b44)] [(.long ((p2.toUInt64 >>> ((32 : Int32) &&& 0x3f).toInt64.toUInt64).toInt64)), (.int (4 : Int32)), (.ref b44)])) _
      refine XS.l2i X56.here hx rfl (hb hby at_58) rfl ?_
      show Steps p.tables e below (T56.setTop (mkF m 59 #[.val (.int p0), .val (.int p1), .val (.long p2), .second, .val (.int (1 : Int32)), .val (.ref b44)] [(.int (((p2.toUInt64 >>> ((32 : Int32) &&& 0x3f).toInt64.toUInt64).toInt64).toInt32)), (.int (4 : Int32)), (.ref b44)])) _
      refine XS.i2b X56.here hx rfl (hb hby at_59) rfl ?_
      show Steps p.tables e below (T56.setTop (mkF m 60 #[.val (.int p0), .val (.int p1), .val (.long p2), .second, .val (.int (1 : Int32)), .val (.ref b44)] [(.int ((((p2.toUInt64 >>> ((32 : Int32) &&& 0x3f).toInt64.toUInt64).toInt64).toInt32).toInt8.toInt32)), (.int (4 : Int32)), (.ref b44)])) _
      refine st59 _ ?_
      show Steps p.tables e below (T59.setTop (mkF m 61 #[.val (.int p0), .val (.int p1), .val (.long p2), .second, .val (.int (1 : Int32)), .val (.ref b44)] [])) _
      refine XS.aload X59.here hx rfl (hb hby at_61) rfl rfl ?_
      show Steps p.tables e below (T59.setTop (mkF m 63 #[.val (.int p0), .val (.int p1), .val (.long p2), .second, .val (.int (1 : Int32)), .val (.ref b44)] [(.ref b44)])) _
      refine XS.iconst X59.here hx rfl (hb hby at_63) ?_
      show Steps p.tables e below (T59.setTop (mkF m 64 #[.val (.int p0), .val (.int p1), .val (.long p2), .second, .val (.int (1 : Int32)), .val (.ref b44)] [(.int (5 : Int32)), (.ref b44)])) _
      refine XS.lloadN X59.here hx rfl (hb hby at_64) rfl ?_
      show Steps p.tables e below (T59.setTop (mkF m 65 #[.val (.int p0), .val (.int p1), .val (.long p2), .second, .val (.int (1 : Int32)), .val (.ref b44)] [(.long p2), (.int (5 : Int32)), (.ref b44)])) _
      refine XS.bipush X59.here hx rfl (hb hby at_65) ?_
      show Steps p.tables e below (T59.setTop (mkF m 67 #[.val (.int p0), .val (.int p1), .val (.long p2), .second, .val (.int (1 : Int32)), .val (.ref b44)] [(.int (40 : Int32)), (.long p2), (.int (5 : Int32)), (.ref b44)])) _
      refine XS.lushr X59.here hx rfl (hb hby at_67) rfl ?_
      show Steps p.tables e below (T59.setTop (mkF m 68 #[.val (.int p0), .val (.int p1), .val (.long p2), .second, .val (.int (1 : Int32)), .val (.ref b44)] [(.long ((p2.toUInt64 >>> ((40 : Int32) &&& 0x3f).toInt64.toUInt64).toInt64)), (.int (5 : Int32)), (.ref b44)])) _
      refine XS.l2i X59.here hx rfl (hb hby at_68) rfl ?_
      show Steps p.tables e below (T59.setTop (mkF m 69 #[.val (.int p0), .val (.int p1), .val (.long p2), .second, .val (.int (1 : Int32)), .val (.ref b44)] [(.int (((p2.toUInt64 >>> ((40 : Int32) &&& 0x3f).toInt64.toUInt64).toInt64).toInt32)), (.int (5 : Int32)), (.ref b44)])) _
      refine XS.i2b X59.here hx rfl (hb hby at_69) rfl ?_
      show Steps p.tables e below (T59.setTop (mkF m 70 #[.val (.int p0), .val (.int p1), .val (.long p2), .second, .val (.int (1 : Int32)), .val (.ref b44)] [(.int ((((p2.toUInt64 >>> ((40 : Int32) &&& 0x3f).toInt64.toUInt64).toInt64).toInt32).toInt8.toInt32)), (.int (5 : Int32)), (.ref b44)])) _
      refine st62 _ ?_
      show Steps p.tables e below (T62.setTop (mkF m 71 #[.val (.int p0), .val (.int p1), .val (.long p2), .second, .val (.int (1 : Int32)), .val (.ref b44)] [])) _
      refine XS.aload X62.here hx rfl (hb hby at_71) rfl rfl ?_
      show Steps p.tables e below (T62.setTop (mkF m 73 #[.val (.int p0), .val (.int p1), .val (.long p2), .second, .val (.int (1 : Int32)), .val (.ref b44)] [(.ref b44)])) _
      refine XS.bipush X62.here hx rfl (hb hby at_73) ?_
      show Steps p.tables e below (T62.setTop (mkF m 75 #[.val (.int p0), .val (.int p1), .val (.long p2), .second, .val (.int (1 : Int32)), .val (.ref b44)] [(.int (6 : Int32)), (.ref b44)])) _
      refine XS.lloadN X62.here hx rfl (hb hby at_75) rfl ?_
      show Steps p.tables e below (T62.setTop (mkF m 76 #[.val (.int p0), .val (.int p1), .val (.long p2), .second, .val (.int (1 : Int32)), .val (.ref b44)] [(.long p2), (.int (6 : Int32)), (.ref b44)])) _
      refine XS.bipush X62.here hx rfl (hb hby at_76) ?_
      show Steps p.tables e below (T62.setTop (mkF m 78 #[.val (.int p0), .val (.int p1), .val (.long p2), .second, .val (.int (1 : Int32)), .val (.ref b44)] [(.int (48 : Int32)), (.long p2), (.int (6 : Int32)), (.ref b44)])) _
      refine XS.lushr X62.here hx rfl (hb hby at_78) rfl ?_
      show Steps p.tables e below (T62.setTop (mkF m 79 #[.val (.int p0), .val (.int p1), .val (.long p2), .second, .val (.int (1 : Int32)), .val (.ref b44)] [(.long ((p2.toUInt64 >>> ((48 : Int32) &&& 0x3f).toInt64.toUInt64).toInt64)), (.int (6 : Int32)), (.ref b44)])) _
      refine XS.l2i X62.here hx rfl (hb hby at_79) rfl ?_
      show Steps p.tables e below (T62.setTop (mkF m 80 #[.val (.int p0), .val (.int p1), .val (.long p2), .second, .val (.int (1 : Int32)), .val (.ref b44)] [(.int (((p2.toUInt64 >>> ((48 : Int32) &&& 0x3f).toInt64.toUInt64).toInt64).toInt32)), (.int (6 : Int32)), (.ref b44)])) _
      refine XS.i2b X62.here hx rfl (hb hby at_80) rfl ?_
      show Steps p.tables e below (T62.setTop (mkF m 81 #[.val (.int p0), .val (.int p1), .val (.long p2), .second, .val (.int (1 : Int32)), .val (.ref b44)] [(.int ((((p2.toUInt64 >>> ((48 : Int32) &&& 0x3f).toInt64.toUInt64).toInt64).toInt32).toInt8.toInt32)), (.int (6 : Int32)), (.ref b44)])) _
      refine st65 _ ?_
      show Steps p.tables e below (T65.setTop (mkF m 82 #[.val (.int p0), .val (.int p1), .val (.long p2), .second, .val (.int (1 : Int32)), .val (.ref b44)] [])) _
      refine XS.aload X65.here hx rfl (hb hby at_82) rfl rfl ?_
      show Steps p.tables e below (T65.setTop (mkF m 84 #[.val (.int p0), .val (.int p1), .val (.long p2), .second, .val (.int (1 : Int32)), .val (.ref b44)] [(.ref b44)])) _
      refine XS.bipush X65.here hx rfl (hb hby at_84) ?_
      show Steps p.tables e below (T65.setTop (mkF m 86 #[.val (.int p0), .val (.int p1), .val (.long p2), .second, .val (.int (1 : Int32)), .val (.ref b44)] [(.int (7 : Int32)), (.ref b44)])) _
      refine XS.lloadN X65.here hx rfl (hb hby at_86) rfl ?_
      show Steps p.tables e below (T65.setTop (mkF m 87 #[.val (.int p0), .val (.int p1), .val (.long p2), .second, .val (.int (1 : Int32)), .val (.ref b44)] [(.long p2), (.int (7 : Int32)), (.ref b44)])) _
      refine XS.bipush X65.here hx rfl (hb hby at_87) ?_
      show Steps p.tables e below (T65.setTop (mkF m 89 #[.val (.int p0), .val (.int p1), .val (.long p2), .second, .val (.int (1 : Int32)), .val (.ref b44)] [(.int (56 : Int32)), (.long p2), (.int (7 : Int32)), (.ref b44)])) _
      refine XS.lushr X65.here hx rfl (hb hby at_89) rfl ?_
      show Steps p.tables e below (T65.setTop (mkF m 90 #[.val (.int p0), .val (.int p1), .val (.long p2), .second, .val (.int (1 : Int32)), .val (.ref b44)] [(.long ((p2.toUInt64 >>> ((56 : Int32) &&& 0x3f).toInt64.toUInt64).toInt64)), (.int (7 : Int32)), (.ref b44)])) _
      refine XS.l2i X65.here hx rfl (hb hby at_90) rfl ?_
      show Steps p.tables e below (T65.setTop (mkF m 91 #[.val (.int p0), .val (.int p1), .val (.long p2), .second, .val (.int (1 : Int32)), .val (.ref b44)] [(.int (((p2.toUInt64 >>> ((56 : Int32) &&& 0x3f).toInt64.toUInt64).toInt64).toInt32)), (.int (7 : Int32)), (.ref b44)])) _
      refine XS.i2b X65.here hx rfl (hb hby at_91) rfl ?_
      show Steps p.tables e below (T65.setTop (mkF m 92 #[.val (.int p0), .val (.int p1), .val (.long p2), .second, .val (.int (1 : Int32)), .val (.ref b44)] [(.int ((((p2.toUInt64 >>> ((56 : Int32) &&& 0x3f).toInt64.toUInt64).toInt64).toInt32).toInt8.toInt32)), (.int (7 : Int32)), (.ref b44)])) _
      refine st68 _ ?_
      show Steps p.tables e below (T68.setTop (mkF m 93 #[.val (.int p0), .val (.int p1), .val (.long p2), .second, .val (.int (1 : Int32)), .val (.ref b44)] [])) _
      refine XS.aload X68.here hx rfl (hb hby at_93) rfl rfl ?_
      show Steps p.tables e below (T68.setTop (mkF m 95 #[.val (.int p0), .val (.int p1), .val (.long p2), .second, .val (.int (1 : Int32)), .val (.ref b44)] [(.ref b44)])) _
      refine XS.iload X68.here hx rfl (hb hby at_95) rfl ?_
      show Steps p.tables e below (T68.setTop (mkF m 97 #[.val (.int p0), .val (.int p1), .val (.long p2), .second, .val (.int (1 : Int32)), .val (.ref b44)] [(.int (1 : Int32)), (.ref b44)])) _
      refine XS.iloadN X68.here hx rfl (hb hby at_97) rfl ?_
      show Steps p.tables e below (T68.setTop (mkF m 98 #[.val (.int p0), .val (.int p1), .val (.long p2), .second, .val (.int (1 : Int32)), .val (.ref b44)] [(.int p0), (.int (1 : Int32)), (.ref b44)])) _
      refine XS.bipush X68.here hx rfl (hb hby at_98) ?_
      show Steps p.tables e below (T68.setTop (mkF m 100 #[.val (.int p0), .val (.int p1), .val (.long p2), .second, .val (.int (1 : Int32)), .val (.ref b44)] [(.int (24 : Int32)), (.int p0), (.int (1 : Int32)), (.ref b44)])) _
      refine XS.iushr X68.here hx rfl (hb hby at_100) rfl ?_
      show Steps p.tables e below (T68.setTop (mkF m 101 #[.val (.int p0), .val (.int p1), .val (.long p2), .second, .val (.int (1 : Int32)), .val (.ref b44)] [(.int ((p0.toUInt32 >>> ((24 : Int32) &&& 31).toUInt32).toInt32)), (.int (1 : Int32)), (.ref b44)])) _
      refine XS.i2b X68.here hx rfl (hb hby at_101) rfl ?_
      show Steps p.tables e below (T68.setTop (mkF m 102 #[.val (.int p0), .val (.int p1), .val (.long p2), .second, .val (.int (1 : Int32)), .val (.ref b44)] [(.int (((p0.toUInt32 >>> ((24 : Int32) &&& 31).toUInt32).toInt32).toInt8.toInt32)), (.int (1 : Int32)), (.ref b44)])) _
      refine st71 _ ?_
      show Steps p.tables e below (T71.setTop (mkF m 103 #[.val (.int p0), .val (.int p1), .val (.long p2), .second, .val (.int (1 : Int32)), .val (.ref b44)] [])) _
      refine XS.aload X71.here hx rfl (hb hby at_103) rfl rfl ?_
      show Steps p.tables e below (T71.setTop (mkF m 105 #[.val (.int p0), .val (.int p1), .val (.long p2), .second, .val (.int (1 : Int32)), .val (.ref b44)] [(.ref b44)])) _
      refine XS.iload X71.here hx rfl (hb hby at_105) rfl ?_
      show Steps p.tables e below (T71.setTop (mkF m 107 #[.val (.int p0), .val (.int p1), .val (.long p2), .second, .val (.int (1 : Int32)), .val (.ref b44)] [(.int (1 : Int32)), (.ref b44)])) _
      refine XS.iconst X71.here hx rfl (hb hby at_107) ?_
      show Steps p.tables e below (T71.setTop (mkF m 108 #[.val (.int p0), .val (.int p1), .val (.long p2), .second, .val (.int (1 : Int32)), .val (.ref b44)] [(.int (1 : Int32)), (.int (1 : Int32)), (.ref b44)])) _
      refine XS.iadd X71.here hx rfl (hb hby at_108) rfl ?_
      show Steps p.tables e below (T71.setTop (mkF m 109 #[.val (.int p0), .val (.int p1), .val (.long p2), .second, .val (.int (1 : Int32)), .val (.ref b44)] [(.int (2 : Int32)), (.ref b44)])) _
      refine XS.iloadN X71.here hx rfl (hb hby at_109) rfl ?_
      show Steps p.tables e below (T71.setTop (mkF m 110 #[.val (.int p0), .val (.int p1), .val (.long p2), .second, .val (.int (1 : Int32)), .val (.ref b44)] [(.int p0), (.int (2 : Int32)), (.ref b44)])) _
      refine XS.bipush X71.here hx rfl (hb hby at_110) ?_
      show Steps p.tables e below (T71.setTop (mkF m 112 #[.val (.int p0), .val (.int p1), .val (.long p2), .second, .val (.int (1 : Int32)), .val (.ref b44)] [(.int (16 : Int32)), (.int p0), (.int (2 : Int32)), (.ref b44)])) _
      refine XS.iushr X71.here hx rfl (hb hby at_112) rfl ?_
      show Steps p.tables e below (T71.setTop (mkF m 113 #[.val (.int p0), .val (.int p1), .val (.long p2), .second, .val (.int (1 : Int32)), .val (.ref b44)] [(.int ((p0.toUInt32 >>> ((16 : Int32) &&& 31).toUInt32).toInt32)), (.int (2 : Int32)), (.ref b44)])) _
      refine XS.i2b X71.here hx rfl (hb hby at_113) rfl ?_
      show Steps p.tables e below (T71.setTop (mkF m 114 #[.val (.int p0), .val (.int p1), .val (.long p2), .second, .val (.int (1 : Int32)), .val (.ref b44)] [(.int (((p0.toUInt32 >>> ((16 : Int32) &&& 31).toUInt32).toInt32).toInt8.toInt32)), (.int (2 : Int32)), (.ref b44)])) _
      refine st74 _ ?_
      show Steps p.tables e below (T74.setTop (mkF m 115 #[.val (.int p0), .val (.int p1), .val (.long p2), .second, .val (.int (1 : Int32)), .val (.ref b44)] [])) _
      refine XS.aload X74.here hx rfl (hb hby at_115) rfl rfl ?_
      show Steps p.tables e below (T74.setTop (mkF m 117 #[.val (.int p0), .val (.int p1), .val (.long p2), .second, .val (.int (1 : Int32)), .val (.ref b44)] [(.ref b44)])) _
      refine XS.iload X74.here hx rfl (hb hby at_117) rfl ?_
      show Steps p.tables e below (T74.setTop (mkF m 119 #[.val (.int p0), .val (.int p1), .val (.long p2), .second, .val (.int (1 : Int32)), .val (.ref b44)] [(.int (1 : Int32)), (.ref b44)])) _
      refine XS.iconst X74.here hx rfl (hb hby at_119) ?_
      show Steps p.tables e below (T74.setTop (mkF m 120 #[.val (.int p0), .val (.int p1), .val (.long p2), .second, .val (.int (1 : Int32)), .val (.ref b44)] [(.int (2 : Int32)), (.int (1 : Int32)), (.ref b44)])) _
      refine XS.iadd X74.here hx rfl (hb hby at_120) rfl ?_
      show Steps p.tables e below (T74.setTop (mkF m 121 #[.val (.int p0), .val (.int p1), .val (.long p2), .second, .val (.int (1 : Int32)), .val (.ref b44)] [(.int (3 : Int32)), (.ref b44)])) _
      refine XS.iloadN X74.here hx rfl (hb hby at_121) rfl ?_
      show Steps p.tables e below (T74.setTop (mkF m 122 #[.val (.int p0), .val (.int p1), .val (.long p2), .second, .val (.int (1 : Int32)), .val (.ref b44)] [(.int p0), (.int (3 : Int32)), (.ref b44)])) _
      refine XS.bipush X74.here hx rfl (hb hby at_122) ?_
      show Steps p.tables e below (T74.setTop (mkF m 124 #[.val (.int p0), .val (.int p1), .val (.long p2), .second, .val (.int (1 : Int32)), .val (.ref b44)] [(.int (8 : Int32)), (.int p0), (.int (3 : Int32)), (.ref b44)])) _
      refine XS.iushr X74.here hx rfl (hb hby at_124) rfl ?_
      show Steps p.tables e below (T74.setTop (mkF m 125 #[.val (.int p0), .val (.int p1), .val (.long p2), .second, .val (.int (1 : Int32)), .val (.ref b44)] [(.int ((p0.toUInt32 >>> ((8 : Int32) &&& 31).toUInt32).toInt32)), (.int (3 : Int32)), (.ref b44)])) _
      refine XS.i2b X74.here hx rfl (hb hby at_125) rfl ?_
      show Steps p.tables e below (T74.setTop (mkF m 126 #[.val (.int p0), .val (.int p1), .val (.long p2), .second, .val (.int (1 : Int32)), .val (.ref b44)] [(.int (((p0.toUInt32 >>> ((8 : Int32) &&& 31).toUInt32).toInt32).toInt8.toInt32)), (.int (3 : Int32)), (.ref b44)])) _
      refine st77 _ ?_
      show Steps p.tables e below (T77.setTop (mkF m 127 #[.val (.int p0), .val (.int p1), .val (.long p2), .second, .val (.int (1 : Int32)), .val (.ref b44)] [])) _
      refine XS.aload X77.here hx rfl (hb hby at_127) rfl rfl ?_
      show Steps p.tables e below (T77.setTop (mkF m 129 #[.val (.int p0), .val (.int p1), .val (.long p2), .second, .val (.int (1 : Int32)), .val (.ref b44)] [(.ref b44)])) _
      refine XS.iload X77.here hx rfl (hb hby at_129) rfl ?_
      show Steps p.tables e below (T77.setTop (mkF m 131 #[.val (.int p0), .val (.int p1), .val (.long p2), .second, .val (.int (1 : Int32)), .val (.ref b44)] [(.int (1 : Int32)), (.ref b44)])) _
      refine XS.iconst X77.here hx rfl (hb hby at_131) ?_
      show Steps p.tables e below (T77.setTop (mkF m 132 #[.val (.int p0), .val (.int p1), .val (.long p2), .second, .val (.int (1 : Int32)), .val (.ref b44)] [(.int (3 : Int32)), (.int (1 : Int32)), (.ref b44)])) _
      refine XS.iadd X77.here hx rfl (hb hby at_132) rfl ?_
      show Steps p.tables e below (T77.setTop (mkF m 133 #[.val (.int p0), .val (.int p1), .val (.long p2), .second, .val (.int (1 : Int32)), .val (.ref b44)] [(.int (4 : Int32)), (.ref b44)])) _
      refine XS.iloadN X77.here hx rfl (hb hby at_133) rfl ?_
      show Steps p.tables e below (T77.setTop (mkF m 134 #[.val (.int p0), .val (.int p1), .val (.long p2), .second, .val (.int (1 : Int32)), .val (.ref b44)] [(.int p0), (.int (4 : Int32)), (.ref b44)])) _
      refine XS.i2b X77.here hx rfl (hb hby at_134) rfl ?_
      show Steps p.tables e below (T77.setTop (mkF m 135 #[.val (.int p0), .val (.int p1), .val (.long p2), .second, .val (.int (1 : Int32)), .val (.ref b44)] [(.int (p0.toInt8.toInt32)), (.int (4 : Int32)), (.ref b44)])) _
      refine st80 _ ?_
      show Steps p.tables e below (T80.setTop (mkF m 136 #[.val (.int p0), .val (.int p1), .val (.long p2), .second, .val (.int (1 : Int32)), .val (.ref b44)] [])) _
      refine XS.aload X80.here hx rfl (hb hby at_136) rfl rfl ?_
      show Steps p.tables e below (T80.setTop (mkF m 138 #[.val (.int p0), .val (.int p1), .val (.long p2), .second, .val (.int (1 : Int32)), .val (.ref b44)] [(.ref b44)])) _
      refine XS.iload X80.here hx rfl (hb hby at_138) rfl ?_
      show Steps p.tables e below (T80.setTop (mkF m 140 #[.val (.int p0), .val (.int p1), .val (.long p2), .second, .val (.int (1 : Int32)), .val (.ref b44)] [(.int (1 : Int32)), (.ref b44)])) _
      refine st81 _ ?_
      show Steps p.tables e below (T81.setTop (mkF m 143 #[.val (.int p0), .val (.int p1), .val (.long p2), .second, .val (.int (1 : Int32)), .val (.ref b44)] [(.int (own_be ((((p0.toUInt32 >>> ((24 : Int32) &&& 31).toUInt32).toInt32).toInt8.toInt32).toInt8.toInt32) ((((p0.toUInt32 >>> ((16 : Int32) &&& 31).toUInt32).toInt32).toInt8.toInt32).toInt8.toInt32) ((((p0.toUInt32 >>> ((8 : Int32) &&& 31).toUInt32).toInt32).toInt8.toInt32).toInt8.toInt32) ((p0.toInt8.toInt32).toInt8.toInt32)))])) _
      refine XS.iloadN X81.here hx rfl (hb hby at_143) rfl ?_
      show Steps p.tables e below (T81.setTop (mkF m 144 #[.val (.int p0), .val (.int p1), .val (.long p2), .second, .val (.int (1 : Int32)), .val (.ref b44)] [(.int p0), (.int (own_be ((((p0.toUInt32 >>> ((24 : Int32) &&& 31).toUInt32).toInt32).toInt8.toInt32).toInt8.toInt32) ((((p0.toUInt32 >>> ((16 : Int32) &&& 31).toUInt32).toInt32).toInt8.toInt32).toInt8.toInt32) ((((p0.toUInt32 >>> ((8 : Int32) &&& 31).toUInt32).toInt32).toInt8.toInt32).toInt8.toInt32) ((p0.toInt8.toInt32).toInt8.toInt32)))])) _
      refine XS.icmpNo X81.here hx rfl (hb hby at_144) rfl (teq (own_be_ok p0)).2 ?_
      show Steps p.tables e below (T81.setTop (mkF m 147 #[.val (.int p0), .val (.int p1), .val (.long p2), .second, .val (.int (1 : Int32)), .val (.ref b44)] [])) _
      refine XS.iconst X81.here hx rfl (hb hby at_147) ?_
      show Steps p.tables e below (T81.setTop (mkF m 148 #[.val (.int p0), .val (.int p1), .val (.long p2), .second, .val (.int (1 : Int32)), .val (.ref b44)] [(.int (1 : Int32))])) _
      refine XS.goto X81.here hx rfl (pc0 := 148) (pc' := 152) rfl (hb hby at_148) (by decide) (by decide) ?_
      exact Steps.refl _
    obtain ⟨fs, hr, hrun, hended, hW, hsame⟩ := X81.leave (v := some (.int (1 : Int32))) (fun h => by rw [Bd.returns] at h; cases h)
    refine ⟨_, _, s82.trans ?_, hrun, hended, _, _, rfl, ?_, ⟨_, rfl⟩, hW, hsame.mono (by decide) (by decide)⟩
    · show Steps p.tables e below (T81.setTop (mkF m 152 #[.val (.int p0), .val (.int p1), .val (.long p2), .second, .val (.int (1 : Int32)), .val (.ref b44)] [(.int (1 : Int32))])) _
      exact retN X81 hx (t := .boolean) Bd.returns (by simp) (hb hby at_152) hr
    · show Q0 Z p0 p1 p2 h0 n0 _ T81.heap _
      rw [e81]
      exact ⟨rfl, N81⟩
  · have s83 := s1
    rw [hk2] at s83
    obtain ⟨T84, h84, k84, X84, e84, E84, A84, st84⟩ := newP X0 hx hZ (hw _ (List.mem_of_getElem? (i := 1) rfl)) e0 (g := (mkF m 10 #[.val (.int p0), .val (.int p1), .val (.long p2), .second, .val (.int (2 : Int32)), .unset] [(.int (8 : Int32))])) rfl (hb hby at_10) rfl (by decide) (cap := 8) (by decide) (by decide) (by decide) (by decide)
    obtain ⟨b84, g84⟩ : ∃ z, z = h0.size := ⟨_, rfl⟩
    rw [← g84] at A84 st84
    have g_b84 : n0 ≤ b84 := Nat.le_trans (Nat.le_of_eq O0.1.symm) (Nat.le_trans O0.2.1 (Nat.le_of_eq g84.symm))
    have O84 := O0.ext E84
    have V84 : Arv Z h84 b84 k84 .byte (8 : Int32) [(.int (0 : Int32)), (.int (0 : Int32)), (.int (0 : Int32)), (.int (0 : Int32)), (.int (0 : Int32)), (.int (0 : Int32)), (.int (0 : Int32)), (.int (0 : Int32))] (.int (0 : Int32)) := (Arv.new A84 (by decide)).pad (pad_rep [] (.int (0 : Int32)) 8)
    obtain ⟨cla85, Ara85, qa85, Sa85, Za85, Ha85, Ga85⟩ := id V84
    have hin86 : ¬ ((0 : Int32) < 0 ∨ cla85.slots.size ≤ ((0 : Int32)).toNatClampNeg) := inb_of Sa85 ⟨by decide, by decide⟩
    obtain ⟨T87, h87, X87, e87, W87, st87⟩ := stB X84 hx hZ e84 Ara85 (j := (0 : Int32)) hin86 (g := (mkF m 20 #[.val (.int p0), .val (.int p1), .val (.long p2), .second, .val (.int (2 : Int32)), .val (.ref b84)] [(.int ((p2.toInt32).toInt8.toInt32)), (.int (0 : Int32)), (.ref b84)])) rfl rfl (hb hby at_20)
    have O87 := O84.wr W87 g_b84
    have N87 := Fr.snoc X87 N0 g_b84
    have V87 : Arv Z h87 b84 k84 .byte (8 : Int32) [(.int (((p2.toInt32).toInt8.toInt32).toInt8.toInt32)), (.int (0 : Int32)), (.int (0 : Int32)), (.int (0 : Int32)), (.int (0 : Int32)), (.int (0 : Int32)), (.int (0 : Int32)), (.int (0 : Int32))] (.int (0 : Int32)) := Arv.set Ara85 qa85 Sa85 Za85 Ha85 Ga85 (fits_nar_byte _) W87 0 rfl (Nat.le_of_ble_eq_true rfl)
    obtain ⟨cla88, Ara88, qa88, Sa88, Za88, Ha88, Ga88⟩ := id V87
    have hin89 : ¬ ((1 : Int32) < 0 ∨ cla88.slots.size ≤ ((1 : Int32)).toNatClampNeg) := inb_of Sa88 ⟨by decide, by decide⟩
    obtain ⟨T90, h90, X90, e90, W90, st90⟩ := stB X87 hx hZ e87 Ara88 (j := (1 : Int32)) hin89 (g := (mkF m 30 #[.val (.int p0), .val (.int p1), .val (.long p2), .second, .val (.int (2 : Int32)), .val (.ref b84)] [(.int ((((p2.toUInt64 >>> ((8 : Int32) &&& 0x3f).toInt64.toUInt64).toInt64).toInt32).toInt8.toInt32)), (.int (1 : Int32)), (.ref b84)])) rfl rfl (hb hby at_30)
    have O90 := O87.wr W90 g_b84
    have N90 := Fr.snoc X90 N87 g_b84
    have V90 : Arv Z h90 b84 k84 .byte (8 : Int32) [(.int (((p2.toInt32).toInt8.toInt32).toInt8.toInt32)), (.int (((((p2.toUInt64 >>> ((8 : Int32) &&& 0x3f).toInt64.toUInt64).toInt64).toInt32).toInt8.toInt32).toInt8.toInt32)), (.int (0 : Int32)), (.int (0 : Int32)), (.int (0 : Int32)), (.int (0 : Int32)), (.int (0 : Int32)), (.int (0 : Int32))] (.int (0 : Int32)) := Arv.set Ara88 qa88 Sa88 Za88 Ha88 Ga88 (fits_nar_byte _) W90 1 rfl (Nat.le_of_ble_eq_true rfl)
    obtain ⟨cla91, Ara91, qa91, Sa91, Za91, Ha91, Ga91⟩ := id V90
    have hin92 : ¬ ((2 : Int32) < 0 ∨ cla91.slots.size ≤ ((2 : Int32)).toNatClampNeg) := inb_of Sa91 ⟨by decide, by decide⟩
    obtain ⟨T93, h93, X93, e93, W93, st93⟩ := stB X90 hx hZ e90 Ara91 (j := (2 : Int32)) hin92 (g := (mkF m 40 #[.val (.int p0), .val (.int p1), .val (.long p2), .second, .val (.int (2 : Int32)), .val (.ref b84)] [(.int ((((p2.toUInt64 >>> ((16 : Int32) &&& 0x3f).toInt64.toUInt64).toInt64).toInt32).toInt8.toInt32)), (.int (2 : Int32)), (.ref b84)])) rfl rfl (hb hby at_40)
    have O93 := O90.wr W93 g_b84
    have N93 := Fr.snoc X93 N90 g_b84
    have V93 : Arv Z h93 b84 k84 .byte (8 : Int32) [(.int (((p2.toInt32).toInt8.toInt32).toInt8.toInt32)), (.int (((((p2.toUInt64 >>> ((8 : Int32) &&& 0x3f).toInt64.toUInt64).toInt64).toInt32).toInt8.toInt32).toInt8.toInt32)), (.int (((((p2.toUInt64 >>> ((16 : Int32) &&& 0x3f).toInt64.toUInt64).toInt64).toInt32).toInt8.toInt32).toInt8.toInt32)), (.int (0 : Int32)), (.int (0 : Int32)), (.int (0 : Int32)), (.int (0 : Int32)), (.int (0 : Int32))] (.int (0 : Int32)) := Arv.set Ara91 qa91 Sa91 Za91 Ha91 Ga91 (fits_nar_byte _) W93 2 rfl (Nat.le_of_ble_eq_true rfl)
    obtain ⟨cla94, Ara94, qa94, Sa94, Za94, Ha94, Ga94⟩ := id V93
    have hin95 : ¬ ((3 : Int32) < 0 ∨ cla94.slots.size ≤ ((3 : Int32)).toNatClampNeg) := inb_of Sa94 ⟨by decide, by decide⟩
    obtain ⟨T96, h96, X96, e96, W96, st96⟩ := stB X93 hx hZ e93 Ara94 (j := (3 : Int32)) hin95 (g := (mkF m 50 #[.val (.int p0), .val (.int p1), .val (.long p2), .second, .val (.int (2 : Int32)), .val (.ref b84)] [(.int ((((p2.toUInt64 >>> ((24 : Int32) &&& 0x3f).toInt64.toUInt64).toInt64).toInt32).toInt8.toInt32)), (.int (3 : Int32)), (.ref b84)])) rfl rfl (hb hby at_50)
    have O96 := O93.wr W96 g_b84
    have N96 := Fr.snoc X96 N93 g_b84
    have V96 : Arv Z h96 b84 k84 .byte (8 : Int32) [(.int (((p2.toInt32).toInt8.toInt32).toInt8.toInt32)), (.int (((((p2.toUInt64 >>> ((8 : Int32) &&& 0x3f).toInt64.toUInt64).toInt64).toInt32).toInt8.toInt32).toInt8.toInt32)), (.int (((((p2.toUInt64 >>> ((16 : Int32) &&& 0x3f).toInt64.toUInt64).toInt64).toInt32).toInt8.toInt32).toInt8.toInt32)), (.int (((((p2.toUInt64 >>> ((24 : Int32) &&& 0x3f).toInt64.toUInt64).toInt64).toInt32).toInt8.toInt32).toInt8.toInt32)), (.int (0 : Int32)), (.int (0 : Int32)), (.int (0 : Int32)), (.int (0 : Int32))] (.int (0 : Int32)) := Arv.set Ara94 qa94 Sa94 Za94 Ha94 Ga94 (fits_nar_byte _) W96 3 rfl (Nat.le_of_ble_eq_true rfl)
    obtain ⟨cla97, Ara97, qa97, Sa97, Za97, Ha97, Ga97⟩ := id V96
    have hin98 : ¬ ((4 : Int32) < 0 ∨ cla97.slots.size ≤ ((4 : Int32)).toNatClampNeg) := inb_of Sa97 ⟨by decide, by decide⟩
    obtain ⟨T99, h99, X99, e99, W99, st99⟩ := stB X96 hx hZ e96 Ara97 (j := (4 : Int32)) hin98 (g := (mkF m 60 #[.val (.int p0), .val (.int p1), .val (.long p2), .second, .val (.int (2 : Int32)), .val (.ref b84)] [(.int ((((p2.toUInt64 >>> ((32 : Int32) &&& 0x3f).toInt64.toUInt64).toInt64).toInt32).toInt8.toInt32)), (.int (4 : Int32)), (.ref b84)])) rfl rfl (hb hby at_60)
    have O99 := O96.wr W99 g_b84
    have N99 := Fr.snoc X99 N96 g_b84
    have V99 : Arv Z h99 b84 k84 .byte (8 : Int32) [(.int (((p2.toInt32).toInt8.toInt32).toInt8.toInt32)), (.int (((((p2.toUInt64 >>> ((8 : Int32) &&& 0x3f).toInt64.toUInt64).toInt64).toInt32).toInt8.toInt32).toInt8.toInt32)), (.int (((((p2.toUInt64 >>> ((16 : Int32) &&& 0x3f).toInt64.toUInt64).toInt64).toInt32).toInt8.toInt32).toInt8.toInt32)), (.int (((((p2.toUInt64 >>> ((24 : Int32) &&& 0x3f).toInt64.toUInt64).toInt64).toInt32).toInt8.toInt32).toInt8.toInt32)), (.int (((((p2.toUInt64 >>> ((32 : Int32) &&& 0x3f).toInt64.toUInt64).toInt64).toInt32).toInt8.toInt32).toInt8.toInt32)), (.int (0 : Int32)), (.int (0 : Int32)), (.int (0 : Int32))] (.int (0 : Int32)) := Arv.set Ara97 qa97 Sa97 Za97 Ha97 Ga97 (fits_nar_byte _) W99 4 rfl (Nat.le_of_ble_eq_true rfl)
    obtain ⟨cla100, Ara100, qa100, Sa100, Za100, Ha100, Ga100⟩ := id V99
    have hin101 : ¬ ((5 : Int32) < 0 ∨ cla100.slots.size ≤ ((5 : Int32)).toNatClampNeg) := inb_of Sa100 ⟨by decide, by decide⟩
    obtain ⟨T102, h102, X102, e102, W102, st102⟩ := stB X99 hx hZ e99 Ara100 (j := (5 : Int32)) hin101 (g := (mkF m 70 #[.val (.int p0), .val (.int p1), .val (.long p2), .second, .val (.int (2 : Int32)), .val (.ref b84)] [(.int ((((p2.toUInt64 >>> ((40 : Int32) &&& 0x3f).toInt64.toUInt64).toInt64).toInt32).toInt8.toInt32)), (.int (5 : Int32)), (.ref b84)])) rfl rfl (hb hby at_70)
    have O102 := O99.wr W102 g_b84
    have N102 := Fr.snoc X102 N99 g_b84
    have V102 : Arv Z h102 b84 k84 .byte (8 : Int32) [(.int (((p2.toInt32).toInt8.toInt32).toInt8.toInt32)), (.int (((((p2.toUInt64 >>> ((8 : Int32) &&& 0x3f).toInt64.toUInt64).toInt64).toInt32).toInt8.toInt32).toInt8.toInt32)), (.int (((((p2.toUInt64 >>> ((16 : Int32) &&& 0x3f).toInt64.toUInt64).toInt64).toInt32).toInt8.toInt32).toInt8.toInt32)), (.int (((((p2.toUInt64 >>> ((24 : Int32) &&& 0x3f).toInt64.toUInt64).toInt64).toInt32).toInt8.toInt32).toInt8.toInt32)), (.int (((((p2.toUInt64 >>> ((32 : Int32) &&& 0x3f).toInt64.toUInt64).toInt64).toInt32).toInt8.toInt32).toInt8.toInt32)), (.int (((((p2.toUInt64 >>> ((40 : Int32) &&& 0x3f).toInt64.toUInt64).toInt64).toInt32).toInt8.toInt32).toInt8.toInt32)), (.int (0 : Int32)), (.int (0 : Int32))] (.int (0 : Int32)) := Arv.set Ara100 qa100 Sa100 Za100 Ha100 Ga100 (fits_nar_byte _) W102 5 rfl (Nat.le_of_ble_eq_true rfl)
    obtain ⟨cla103, Ara103, qa103, Sa103, Za103, Ha103, Ga103⟩ := id V102
    have hin104 : ¬ ((6 : Int32) < 0 ∨ cla103.slots.size ≤ ((6 : Int32)).toNatClampNeg) := inb_of Sa103 ⟨by decide, by decide⟩
    obtain ⟨T105, h105, X105, e105, W105, st105⟩ := stB X102 hx hZ e102 Ara103 (j := (6 : Int32)) hin104 (g := (mkF m 81 #[.val (.int p0), .val (.int p1), .val (.long p2), .second, .val (.int (2 : Int32)), .val (.ref b84)] [(.int ((((p2.toUInt64 >>> ((48 : Int32) &&& 0x3f).toInt64.toUInt64).toInt64).toInt32).toInt8.toInt32)), (.int (6 : Int32)), (.ref b84)])) rfl rfl (hb hby at_81)
    have O105 := O102.wr W105 g_b84
    have N105 := Fr.snoc X105 N102 g_b84
    have V105 : Arv Z h105 b84 k84 .byte (8 : Int32) [(.int (((p2.toInt32).toInt8.toInt32).toInt8.toInt32)), (.int (((((p2.toUInt64 >>> ((8 : Int32) &&& 0x3f).toInt64.toUInt64).toInt64).toInt32).toInt8.toInt32).toInt8.toInt32)), (.int (((((p2.toUInt64 >>> ((16 : Int32) &&& 0x3f).toInt64.toUInt64).toInt64).toInt32).toInt8.toInt32).toInt8.toInt32)), (.int (((((p2.toUInt64 >>> ((24 : Int32) &&& 0x3f).toInt64.toUInt64).toInt64).toInt32).toInt8.toInt32).toInt8.toInt32)), (.int (((((p2.toUInt64 >>> ((32 : Int32) &&& 0x3f).toInt64.toUInt64).toInt64).toInt32).toInt8.toInt32).toInt8.toInt32)), (.int (((((p2.toUInt64 >>> ((40 : Int32) &&& 0x3f).toInt64.toUInt64).toInt64).toInt32).toInt8.toInt32).toInt8.toInt32)), (.int (((((p2.toUInt64 >>> ((48 : Int32) &&& 0x3f).toInt64.toUInt64).toInt64).toInt32).toInt8.toInt32).toInt8.toInt32)), (.int (0 : Int32))] (.int (0 : Int32)) := Arv.set Ara103 qa103 Sa103 Za103 Ha103 Ga103 (fits_nar_byte _) W105 6 rfl (Nat.le_of_ble_eq_true rfl)
    obtain ⟨cla106, Ara106, qa106, Sa106, Za106, Ha106, Ga106⟩ := id V105
    have hin107 : ¬ ((7 : Int32) < 0 ∨ cla106.slots.size ≤ ((7 : Int32)).toNatClampNeg) := inb_of Sa106 ⟨by decide, by decide⟩
    obtain ⟨T108, h108, X108, e108, W108, st108⟩ := stB X105 hx hZ e105 Ara106 (j := (7 : Int32)) hin107 (g := (mkF m 92 #[.val (.int p0), .val (.int p1), .val (.long p2), .second, .val (.int (2 : Int32)), .val (.ref b84)] [(.int ((((p2.toUInt64 >>> ((56 : Int32) &&& 0x3f).toInt64.toUInt64).toInt64).toInt32).toInt8.toInt32)), (.int (7 : Int32)), (.ref b84)])) rfl rfl (hb hby at_92)
    have O108 := O105.wr W108 g_b84
    have N108 := Fr.snoc X108 N105 g_b84
    have V108 : Arv Z h108 b84 k84 .byte (8 : Int32) [(.int (((p2.toInt32).toInt8.toInt32).toInt8.toInt32)), (.int (((((p2.toUInt64 >>> ((8 : Int32) &&& 0x3f).toInt64.toUInt64).toInt64).toInt32).toInt8.toInt32).toInt8.toInt32)), (.int (((((p2.toUInt64 >>> ((16 : Int32) &&& 0x3f).toInt64.toUInt64).toInt64).toInt32).toInt8.toInt32).toInt8.toInt32)), (.int (((((p2.toUInt64 >>> ((24 : Int32) &&& 0x3f).toInt64.toUInt64).toInt64).toInt32).toInt8.toInt32).toInt8.toInt32)), (.int (((((p2.toUInt64 >>> ((32 : Int32) &&& 0x3f).toInt64.toUInt64).toInt64).toInt32).toInt8.toInt32).toInt8.toInt32)), (.int (((((p2.toUInt64 >>> ((40 : Int32) &&& 0x3f).toInt64.toUInt64).toInt64).toInt32).toInt8.toInt32).toInt8.toInt32)), (.int (((((p2.toUInt64 >>> ((48 : Int32) &&& 0x3f).toInt64.toUInt64).toInt64).toInt32).toInt8.toInt32).toInt8.toInt32)), (.int (((((p2.toUInt64 >>> ((56 : Int32) &&& 0x3f).toInt64.toUInt64).toInt64).toInt32).toInt8.toInt32).toInt8.toInt32))] (.int (0 : Int32)) := Arv.set Ara106 qa106 Sa106 Za106 Ha106 Ga106 (fits_nar_byte _) W108 7 rfl (Nat.le_of_ble_eq_true rfl)
    obtain ⟨cla109, Ara109, qa109, Sa109, Za109, Ha109, Ga109⟩ := id V108
    have hin110 : ¬ ((2 : Int32) < 0 ∨ cla109.slots.size ≤ ((2 : Int32)).toNatClampNeg) := inb_of Sa109 ⟨by decide, by decide⟩
    obtain ⟨T111, h111, X111, e111, W111, st111⟩ := stB X108 hx hZ e108 Ara109 (j := (2 : Int32)) hin110 (g := (mkF m 102 #[.val (.int p0), .val (.int p1), .val (.long p2), .second, .val (.int (2 : Int32)), .val (.ref b84)] [(.int (((p0.toUInt32 >>> ((24 : Int32) &&& 31).toUInt32).toInt32).toInt8.toInt32)), (.int (2 : Int32)), (.ref b84)])) rfl rfl (hb hby at_102)
    have O111 := O108.wr W111 g_b84
    have N111 := Fr.snoc X111 N108 g_b84
    have V111 : Arv Z h111 b84 k84 .byte (8 : Int32) [(.int (((p2.toInt32).toInt8.toInt32).toInt8.toInt32)), (.int (((((p2.toUInt64 >>> ((8 : Int32) &&& 0x3f).toInt64.toUInt64).toInt64).toInt32).toInt8.toInt32).toInt8.toInt32)), (.int ((((p0.toUInt32 >>> ((24 : Int32) &&& 31).toUInt32).toInt32).toInt8.toInt32).toInt8.toInt32)), (.int (((((p2.toUInt64 >>> ((24 : Int32) &&& 0x3f).toInt64.toUInt64).toInt64).toInt32).toInt8.toInt32).toInt8.toInt32)), (.int (((((p2.toUInt64 >>> ((32 : Int32) &&& 0x3f).toInt64.toUInt64).toInt64).toInt32).toInt8.toInt32).toInt8.toInt32)), (.int (((((p2.toUInt64 >>> ((40 : Int32) &&& 0x3f).toInt64.toUInt64).toInt64).toInt32).toInt8.toInt32).toInt8.toInt32)), (.int (((((p2.toUInt64 >>> ((48 : Int32) &&& 0x3f).toInt64.toUInt64).toInt64).toInt32).toInt8.toInt32).toInt8.toInt32)), (.int (((((p2.toUInt64 >>> ((56 : Int32) &&& 0x3f).toInt64.toUInt64).toInt64).toInt32).toInt8.toInt32).toInt8.toInt32))] (.int (0 : Int32)) := Arv.set Ara109 qa109 Sa109 Za109 Ha109 Ga109 (fits_nar_byte _) W111 2 rfl (Nat.le_of_ble_eq_true rfl)
    obtain ⟨cla112, Ara112, qa112, Sa112, Za112, Ha112, Ga112⟩ := id V111
    have hin113 : ¬ ((3 : Int32) < 0 ∨ cla112.slots.size ≤ ((3 : Int32)).toNatClampNeg) := inb_of Sa112 ⟨by decide, by decide⟩
    obtain ⟨T114, h114, X114, e114, W114, st114⟩ := stB X111 hx hZ e111 Ara112 (j := (3 : Int32)) hin113 (g := (mkF m 114 #[.val (.int p0), .val (.int p1), .val (.long p2), .second, .val (.int (2 : Int32)), .val (.ref b84)] [(.int (((p0.toUInt32 >>> ((16 : Int32) &&& 31).toUInt32).toInt32).toInt8.toInt32)), (.int (3 : Int32)), (.ref b84)])) rfl rfl (hb hby at_114)
    have O114 := O111.wr W114 g_b84
    have N114 := Fr.snoc X114 N111 g_b84
    have V114 : Arv Z h114 b84 k84 .byte (8 : Int32) [(.int (((p2.toInt32).toInt8.toInt32).toInt8.toInt32)), (.int (((((p2.toUInt64 >>> ((8 : Int32) &&& 0x3f).toInt64.toUInt64).toInt64).toInt32).toInt8.toInt32).toInt8.toInt32)), (.int ((((p0.toUInt32 >>> ((24 : Int32) &&& 31).toUInt32).toInt32).toInt8.toInt32).toInt8.toInt32)), (.int ((((p0.toUInt32 >>> ((16 : Int32) &&& 31).toUInt32).toInt32).toInt8.toInt32).toInt8.toInt32)), (.int (((((p2.toUInt64 >>> ((32 : Int32) &&& 0x3f).toInt64.toUInt64).toInt64).toInt32).toInt8.toInt32).toInt8.toInt32)), (.int (((((p2.toUInt64 >>> ((40 : Int32) &&& 0x3f).toInt64.toUInt64).toInt64).toInt32).toInt8.toInt32).toInt8.toInt32)), (.int (((((p2.toUInt64 >>> ((48 : Int32) &&& 0x3f).toInt64.toUInt64).toInt64).toInt32).toInt8.toInt32).toInt8.toInt32)), (.int (((((p2.toUInt64 >>> ((56 : Int32) &&& 0x3f).toInt64.toUInt64).toInt64).toInt32).toInt8.toInt32).toInt8.toInt32))] (.int (0 : Int32)) := Arv.set Ara112 qa112 Sa112 Za112 Ha112 Ga112 (fits_nar_byte _) W114 3 rfl (Nat.le_of_ble_eq_true rfl)
    obtain ⟨cla115, Ara115, qa115, Sa115, Za115, Ha115, Ga115⟩ := id V114
    have hin116 : ¬ ((4 : Int32) < 0 ∨ cla115.slots.size ≤ ((4 : Int32)).toNatClampNeg) := inb_of Sa115 ⟨by decide, by decide⟩
    obtain ⟨T117, h117, X117, e117, W117, st117⟩ := stB X114 hx hZ e114 Ara115 (j := (4 : Int32)) hin116 (g := (mkF m 126 #[.val (.int p0), .val (.int p1), .val (.long p2), .second, .val (.int (2 : Int32)), .val (.ref b84)] [(.int (((p0.toUInt32 >>> ((8 : Int32) &&& 31).toUInt32).toInt32).toInt8.toInt32)), (.int (4 : Int32)), (.ref b84)])) rfl rfl (hb hby at_126)
    have O117 := O114.wr W117 g_b84
    have N117 := Fr.snoc X117 N114 g_b84
    have V117 : Arv Z h117 b84 k84 .byte (8 : Int32) [(.int (((p2.toInt32).toInt8.toInt32).toInt8.toInt32)), (.int (((((p2.toUInt64 >>> ((8 : Int32) &&& 0x3f).toInt64.toUInt64).toInt64).toInt32).toInt8.toInt32).toInt8.toInt32)), (.int ((((p0.toUInt32 >>> ((24 : Int32) &&& 31).toUInt32).toInt32).toInt8.toInt32).toInt8.toInt32)), (.int ((((p0.toUInt32 >>> ((16 : Int32) &&& 31).toUInt32).toInt32).toInt8.toInt32).toInt8.toInt32)), (.int ((((p0.toUInt32 >>> ((8 : Int32) &&& 31).toUInt32).toInt32).toInt8.toInt32).toInt8.toInt32)), (.int (((((p2.toUInt64 >>> ((40 : Int32) &&& 0x3f).toInt64.toUInt64).toInt64).toInt32).toInt8.toInt32).toInt8.toInt32)), (.int (((((p2.toUInt64 >>> ((48 : Int32) &&& 0x3f).toInt64.toUInt64).toInt64).toInt32).toInt8.toInt32).toInt8.toInt32)), (.int (((((p2.toUInt64 >>> ((56 : Int32) &&& 0x3f).toInt64.toUInt64).toInt64).toInt32).toInt8.toInt32).toInt8.toInt32))] (.int (0 : Int32)) := Arv.set Ara115 qa115 Sa115 Za115 Ha115 Ga115 (fits_nar_byte _) W117 4 rfl (Nat.le_of_ble_eq_true rfl)
    obtain ⟨cla118, Ara118, qa118, Sa118, Za118, Ha118, Ga118⟩ := id V117
    have hin119 : ¬ ((5 : Int32) < 0 ∨ cla118.slots.size ≤ ((5 : Int32)).toNatClampNeg) := inb_of Sa118 ⟨by decide, by decide⟩
    obtain ⟨T120, h120, X120, e120, W120, st120⟩ := stB X117 hx hZ e117 Ara118 (j := (5 : Int32)) hin119 (g := (mkF m 135 #[.val (.int p0), .val (.int p1), .val (.long p2), .second, .val (.int (2 : Int32)), .val (.ref b84)] [(.int (p0.toInt8.toInt32)), (.int (5 : Int32)), (.ref b84)])) rfl rfl (hb hby at_135)
    have O120 := O117.wr W120 g_b84
    have N120 := Fr.snoc X120 N117 g_b84
    have V120 : Arv Z h120 b84 k84 .byte (8 : Int32) [(.int (((p2.toInt32).toInt8.toInt32).toInt8.toInt32)), (.int (((((p2.toUInt64 >>> ((8 : Int32) &&& 0x3f).toInt64.toUInt64).toInt64).toInt32).toInt8.toInt32).toInt8.toInt32)), (.int ((((p0.toUInt32 >>> ((24 : Int32) &&& 31).toUInt32).toInt32).toInt8.toInt32).toInt8.toInt32)), (.int ((((p0.toUInt32 >>> ((16 : Int32) &&& 31).toUInt32).toInt32).toInt8.toInt32).toInt8.toInt32)), (.int ((((p0.toUInt32 >>> ((8 : Int32) &&& 31).toUInt32).toInt32).toInt8.toInt32).toInt8.toInt32)), (.int ((p0.toInt8.toInt32).toInt8.toInt32)), (.int (((((p2.toUInt64 >>> ((48 : Int32) &&& 0x3f).toInt64.toUInt64).toInt64).toInt32).toInt8.toInt32).toInt8.toInt32)), (.int (((((p2.toUInt64 >>> ((56 : Int32) &&& 0x3f).toInt64.toUInt64).toInt64).toInt32).toInt8.toInt32).toInt8.toInt32))] (.int (0 : Int32)) := Arv.set Ara118 qa118 Sa118 Za118 Ha118 Ga118 (fits_nar_byte _) W120 5 rfl (Nat.le_of_ble_eq_true rfl)
    obtain ⟨_, _, ⟨T121, L121, k121, n121⟩, -, X121, ⟨Lc121, hQ121, l121, y121, z121⟩, st121⟩ := Jvm.LawKit.callS X120 hx (y := (⟨"com/example/strikewire/strikewire/engine/JournalReader", "intAt", "([BI)I"⟩ : MethodName)) hown (mvT hZ (hw _ (List.mem_of_getElem? (i := 2) rfl))) (mvT hZ (hw _ (List.mem_of_getElem? (i := 3) rfl))) (mvT hZ (hw _ (List.mem_of_getElem? (i := 4) rfl))) (mvT hZ (hw _ (List.mem_of_getElem? (i := 5) rfl))) (by decide) (backOf (W := 0) (rm1_2 l Z a0 hw [] b84 k84 (((p2.toInt32).toInt8.toInt32).toInt8.toInt32) (((((p2.toUInt64 >>> ((8 : Int32) &&& 0x3f).toInt64.toUInt64).toInt64).toInt32).toInt8.toInt32).toInt8.toInt32) ((((p0.toUInt32 >>> ((24 : Int32) &&& 31).toUInt32).toInt32).toInt8.toInt32).toInt8.toInt32) ((((p0.toUInt32 >>> ((16 : Int32) &&& 31).toUInt32).toInt32).toInt8.toInt32).toInt8.toInt32) ((((p0.toUInt32 >>> ((8 : Int32) &&& 31).toUInt32).toInt32).toInt8.toInt32).toInt8.toInt32) ((p0.toInt8.toInt32).toInt8.toInt32) (((((p2.toUInt64 >>> ((48 : Int32) &&& 0x3f).toInt64.toUInt64).toInt64).toInt32).toInt8.toInt32).toInt8.toInt32) (((((p2.toUInt64 >>> ((56 : Int32) &&& 0x3f).toInt64.toUInt64).toInt64).toInt32).toInt8.toInt32).toInt8.toInt32) h120 n0 O120 V120) hZ (hw _ (List.mem_of_getElem? (i := 5) rfl)) (hw _ (List.mem_of_getElem? (i := 4) rfl)) (by decide) (by decide)) (g := (mkF m 140 #[.val (.int p0), .val (.int p1), .val (.long p2), .second, .val (.int (2 : Int32)), .val (.ref b84)] [(.int (2 : Int32)), (.ref b84)])) rfl (by rw [hml]; rfl) (argsL := [(.ref b84), (.int (2 : Int32))]) (rest := []) (lenOf pd_rm0_0 rfl) rfl (by show 2 * 0 + _ ≤ _; exact Nat.le_of_eq rfl) (hb hby at_140) (fun _ _ => ⟨rfl, e120, (by decide : 1 + 0 ≤ _), (by decide : 8 + 0 ≤ _)⟩)
    dsimp only [Pt.U, Pt.locs, Pt.cells, Pt.slots] at X121 l121 y121 z121 st121 hQ121
    subst l121 y121 z121
    obtain ⟨rfl, Nq121, e121⟩ := hQ121
    have N121 := Fr.app N120 Nq121
    have s122 : Steps p.tables e below (s₁.setTop (entryFrame m #[(.int p0), (.int p1), (.long p2)] maxLocals)) (T121.setTop (mkF m 152 #[.val (.int p0), .val (.int p1), .val (.long p2), .second, .val (.int (2 : Int32)), .val (.ref b84)] [(.int (1 : Int32))])) := by
      refine s83.trans ?_
      show Steps p.tables e below (s₁.setTop (mkF m 6 #[.val (.int p0), .val (.int p1), .val (.long p2), .second, .unset, .unset] [(.int (2 : Int32))])) _
      refine XS.istore X0.here hx rfl (hb hby at_6) rfl (l' := #[.val (.int p0), .val (.int p1), .val (.long p2), .second, .val (.int (2 : Int32)), .unset]) rfl ?_
      show Steps p.tables e below (s₁.setTop (mkF m 8 #[.val (.int p0), .val (.int p1), .val (.long p2), .second, .val (.int (2 : Int32)), .unset] [])) _
      refine XS.bipush X0.here hx rfl (hb hby at_8) ?_
      show Steps p.tables e below (s₁.setTop (mkF m 10 #[.val (.int p0), .val (.int p1), .val (.long p2), .second, .val (.int (2 : Int32)), .unset] [(.int (8 : Int32))])) _
      refine st84 _ ?_
      show Steps p.tables e below (T84.setTop (mkF m 12 #[.val (.int p0), .val (.int p1), .val (.long p2), .second, .val (.int (2 : Int32)), .unset] [(.ref b84)])) _
      refine XS.astore X84.here hx rfl (hb hby at_12) rfl rfl (l' := #[.val (.int p0), .val (.int p1), .val (.long p2), .second, .val (.int (2 : Int32)), .val (.ref b84)]) rfl ?_
      show Steps p.tables e below (T84.setTop (mkF m 14 #[.val (.int p0), .val (.int p1), .val (.long p2), .second, .val (.int (2 : Int32)), .val (.ref b84)] [])) _
      refine XS.aload X84.here hx rfl (hb hby at_14) rfl rfl ?_
      show Steps p.tables e below (T84.setTop (mkF m 16 #[.val (.int p0), .val (.int p1), .val (.long p2), .second, .val (.int (2 : Int32)), .val (.ref b84)] [(.ref b84)])) _
      refine XS.iconst X84.here hx rfl (hb hby at_16) ?_
      show Steps p.tables e below (T84.setTop (mkF m 17 #[.val (.int p0), .val (.int p1), .val (.long p2), .second, .val (.int (2 : Int32)), .val (.ref b84)] [(.int (0 : Int32)), (.ref b84)])) _
      refine XS.lloadN X84.here hx rfl (hb hby at_17) rfl ?_
      show Steps p.tables e below (T84.setTop (mkF m 18 #[.val (.int p0), .val (.int p1), .val (.long p2), .second, .val (.int (2 : Int32)), .val (.ref b84)] [(.long p2), (.int (0 : Int32)), (.ref b84)])) _
      refine XS.l2i X84.here hx rfl (hb hby at_18) rfl ?_
      show Steps p.tables e below (T84.setTop (mkF m 19 #[.val (.int p0), .val (.int p1), .val (.long p2), .second, .val (.int (2 : Int32)), .val (.ref b84)] [(.int (p2.toInt32)), (.int (0 : Int32)), (.ref b84)])) _
      refine XS.i2b X84.here hx rfl (hb hby at_19) rfl ?_
      show Steps p.tables e below (T84.setTop (mkF m 20 #[.val (.int p0), .val (.int p1), .val (.long p2), .second, .val (.int (2 : Int32)), .val (.ref b84)] [(.int ((p2.toInt32).toInt8.toInt32)), (.int (0 : Int32)), (.ref b84)])) _
      refine st87 _ ?_
      show Steps p.tables e below (T87.setTop (mkF m 21 #[.val (.int p0), .val (.int p1), .val (.long p2), .second, .val (.int (2 : Int32)), .val (.ref b84)] [])) _
      refine XS.aload X87.here hx rfl (hb hby at_21) rfl rfl ?_
      show Steps p.tables e below (T87.setTop (mkF m 23 #[.val (.int p0), .val (.int p1), .val (.long p2), .second, .val (.int (2 : Int32)), .val (.ref b84)] [(.ref b84)])) _
      refine XS.iconst X87.here hx rfl (hb hby at_23) ?_
      show Steps p.tables e below (T87.setTop (mkF m 24 #[.val (.int p0), .val (.int p1), .val (.long p2), .second, .val (.int (2 : Int32)), .val (.ref b84)] [(.int (1 : Int32)), (.ref b84)])) _
      refine XS.lloadN X87.here hx rfl (hb hby at_24) rfl ?_
      show Steps p.tables e below (T87.setTop (mkF m 25 #[.val (.int p0), .val (.int p1), .val (.long p2), .second, .val (.int (2 : Int32)), .val (.ref b84)] [(.long p2), (.int (1 : Int32)), (.ref b84)])) _
      refine XS.bipush X87.here hx rfl (hb hby at_25) ?_
      show Steps p.tables e below (T87.setTop (mkF m 27 #[.val (.int p0), .val (.int p1), .val (.long p2), .second, .val (.int (2 : Int32)), .val (.ref b84)] [(.int (8 : Int32)), (.long p2), (.int (1 : Int32)), (.ref b84)])) _
      refine XS.lushr X87.here hx rfl (hb hby at_27) rfl ?_
      show Steps p.tables e below (T87.setTop (mkF m 28 #[.val (.int p0), .val (.int p1), .val (.long p2), .second, .val (.int (2 : Int32)), .val (.ref b84)] [(.long ((p2.toUInt64 >>> ((8 : Int32) &&& 0x3f).toInt64.toUInt64).toInt64)), (.int (1 : Int32)), (.ref b84)])) _
      refine XS.l2i X87.here hx rfl (hb hby at_28) rfl ?_
      show Steps p.tables e below (T87.setTop (mkF m 29 #[.val (.int p0), .val (.int p1), .val (.long p2), .second, .val (.int (2 : Int32)), .val (.ref b84)] [(.int (((p2.toUInt64 >>> ((8 : Int32) &&& 0x3f).toInt64.toUInt64).toInt64).toInt32)), (.int (1 : Int32)), (.ref b84)])) _
      refine XS.i2b X87.here hx rfl (hb hby at_29) rfl ?_
      show Steps p.tables e below (T87.setTop (mkF m 30 #[.val (.int p0), .val (.int p1), .val (.long p2), .second, .val (.int (2 : Int32)), .val (.ref b84)] [(.int ((((p2.toUInt64 >>> ((8 : Int32) &&& 0x3f).toInt64.toUInt64).toInt64).toInt32).toInt8.toInt32)), (.int (1 : Int32)), (.ref b84)])) _
      refine st90 _ ?_
      show Steps p.tables e below (T90.setTop (mkF m 31 #[.val (.int p0), .val (.int p1), .val (.long p2), .second, .val (.int (2 : Int32)), .val (.ref b84)] [])) _
      refine XS.aload X90.here hx rfl (hb hby at_31) rfl rfl ?_
      show Steps p.tables e below (T90.setTop (mkF m 33 #[.val (.int p0), .val (.int p1), .val (.long p2), .second, .val (.int (2 : Int32)), .val (.ref b84)] [(.ref b84)])) _
      refine XS.iconst X90.here hx rfl (hb hby at_33) ?_
      show Steps p.tables e below (T90.setTop (mkF m 34 #[.val (.int p0), .val (.int p1), .val (.long p2), .second, .val (.int (2 : Int32)), .val (.ref b84)] [(.int (2 : Int32)), (.ref b84)])) _
      refine XS.lloadN X90.here hx rfl (hb hby at_34) rfl ?_
      show Steps p.tables e below (T90.setTop (mkF m 35 #[.val (.int p0), .val (.int p1), .val (.long p2), .second, .val (.int (2 : Int32)), .val (.ref b84)] [(.long p2), (.int (2 : Int32)), (.ref b84)])) _
      refine XS.bipush X90.here hx rfl (hb hby at_35) ?_
      show Steps p.tables e below (T90.setTop (mkF m 37 #[.val (.int p0), .val (.int p1), .val (.long p2), .second, .val (.int (2 : Int32)), .val (.ref b84)] [(.int (16 : Int32)), (.long p2), (.int (2 : Int32)), (.ref b84)])) _
      refine XS.lushr X90.here hx rfl (hb hby at_37) rfl ?_
      show Steps p.tables e below (T90.setTop (mkF m 38 #[.val (.int p0), .val (.int p1), .val (.long p2), .second, .val (.int (2 : Int32)), .val (.ref b84)] [(.long ((p2.toUInt64 >>> ((16 : Int32) &&& 0x3f).toInt64.toUInt64).toInt64)), (.int (2 : Int32)), (.ref b84)])) _
      refine XS.l2i X90.here hx rfl (hb hby at_38) rfl ?_
      show Steps p.tables e below (T90.setTop (mkF m 39 #[.val (.int p0), .val (.int p1), .val (.long p2), .second, .val (.int (2 : Int32)), .val (.ref b84)] [(.int (((p2.toUInt64 >>> ((16 : Int32) &&& 0x3f).toInt64.toUInt64).toInt64).toInt32)), (.int (2 : Int32)), (.ref b84)])) _
      refine XS.i2b X90.here hx rfl (hb hby at_39) rfl ?_
      show Steps p.tables e below (T90.setTop (mkF m 40 #[.val (.int p0), .val (.int p1), .val (.long p2), .second, .val (.int (2 : Int32)), .val (.ref b84)] [(.int ((((p2.toUInt64 >>> ((16 : Int32) &&& 0x3f).toInt64.toUInt64).toInt64).toInt32).toInt8.toInt32)), (.int (2 : Int32)), (.ref b84)])) _
      refine st93 _ ?_
      show Steps p.tables e below (T93.setTop (mkF m 41 #[.val (.int p0), .val (.int p1), .val (.long p2), .second, .val (.int (2 : Int32)), .val (.ref b84)] [])) _
      refine XS.aload X93.here hx rfl (hb hby at_41) rfl rfl ?_
      show Steps p.tables e below (T93.setTop (mkF m 43 #[.val (.int p0), .val (.int p1), .val (.long p2), .second, .val (.int (2 : Int32)), .val (.ref b84)] [(.ref b84)])) _
      refine XS.iconst X93.here hx rfl (hb hby at_43) ?_
      show Steps p.tables e below (T93.setTop (mkF m 44 #[.val (.int p0), .val (.int p1), .val (.long p2), .second, .val (.int (2 : Int32)), .val (.ref b84)] [(.int (3 : Int32)), (.ref b84)])) _
      refine XS.lloadN X93.here hx rfl (hb hby at_44) rfl ?_
      show Steps p.tables e below (T93.setTop (mkF m 45 #[.val (.int p0), .val (.int p1), .val (.long p2), .second, .val (.int (2 : Int32)), .val (.ref b84)] [(.long p2), (.int (3 : Int32)), (.ref b84)])) _
      refine XS.bipush X93.here hx rfl (hb hby at_45) ?_
      show Steps p.tables e below (T93.setTop (mkF m 47 #[.val (.int p0), .val (.int p1), .val (.long p2), .second, .val (.int (2 : Int32)), .val (.ref b84)] [(.int (24 : Int32)), (.long p2), (.int (3 : Int32)), (.ref b84)])) _
      refine XS.lushr X93.here hx rfl (hb hby at_47) rfl ?_
      show Steps p.tables e below (T93.setTop (mkF m 48 #[.val (.int p0), .val (.int p1), .val (.long p2), .second, .val (.int (2 : Int32)), .val (.ref b84)] [(.long ((p2.toUInt64 >>> ((24 : Int32) &&& 0x3f).toInt64.toUInt64).toInt64)), (.int (3 : Int32)), (.ref b84)])) _
      refine XS.l2i X93.here hx rfl (hb hby at_48) rfl ?_
      show Steps p.tables e below (T93.setTop (mkF m 49 #[.val (.int p0), .val (.int p1), .val (.long p2), .second, .val (.int (2 : Int32)), .val (.ref b84)] [(.int (((p2.toUInt64 >>> ((24 : Int32) &&& 0x3f).toInt64.toUInt64).toInt64).toInt32)), (.int (3 : Int32)), (.ref b84)])) _
      refine XS.i2b X93.here hx rfl (hb hby at_49) rfl ?_
      show Steps p.tables e below (T93.setTop (mkF m 50 #[.val (.int p0), .val (.int p1), .val (.long p2), .second, .val (.int (2 : Int32)), .val (.ref b84)] [(.int ((((p2.toUInt64 >>> ((24 : Int32) &&& 0x3f).toInt64.toUInt64).toInt64).toInt32).toInt8.toInt32)), (.int (3 : Int32)), (.ref b84)])) _
      refine st96 _ ?_
      show Steps p.tables e below (T96.setTop (mkF m 51 #[.val (.int p0), .val (.int p1), .val (.long p2), .second, .val (.int (2 : Int32)), .val (.ref b84)] [])) _
      refine XS.aload X96.here hx rfl (hb hby at_51) rfl rfl ?_
      show Steps p.tables e below (T96.setTop (mkF m 53 #[.val (.int p0), .val (.int p1), .val (.long p2), .second, .val (.int (2 : Int32)), .val (.ref b84)] [(.ref b84)])) _
      refine XS.iconst X96.here hx rfl (hb hby at_53) ?_
      show Steps p.tables e below (T96.setTop (mkF m 54 #[.val (.int p0), .val (.int p1), .val (.long p2), .second, .val (.int (2 : Int32)), .val (.ref b84)] [(.int (4 : Int32)), (.ref b84)])) _
      refine XS.lloadN X96.here hx rfl (hb hby at_54) rfl ?_
      show Steps p.tables e below (T96.setTop (mkF m 55 #[.val (.int p0), .val (.int p1), .val (.long p2), .second, .val (.int (2 : Int32)), .val (.ref b84)] [(.long p2), (.int (4 : Int32)), (.ref b84)])) _
      refine XS.bipush X96.here hx rfl (hb hby at_55) ?_
      show Steps p.tables e below (T96.setTop (mkF m 57 #[.val (.int p0), .val (.int p1), .val (.long p2), .second, .val (.int (2 : Int32)), .val (.ref b84)] [(.int (32 : Int32)), (.long p2), (.int (4 : Int32)), (.ref b84)])) _
      refine XS.lushr X96.here hx rfl (hb hby at_57) rfl ?_
      show Steps p.tables e below (T96.setTop (mkF m 58 #[.val (.int p0), .val (.int p1), .val (.long p2), .second, .val (.int (2 : Int32)), .val (.ref b84)] [(.long ((p2.toUInt64 >>> ((32 : Int32) &&& 0x3f).toInt64.toUInt64).toInt64)), (.int (4 : Int32)), (.ref b84)])) _
      refine XS.l2i X96.here hx rfl (hb hby at_58) rfl ?_
      show Steps p.tables e below (T96.setTop (mkF m 59 #[.val (.int p0), .val (.int p1), .val (.long p2), .second, .val (.int (2 : Int32)), .val (.ref b84)] [(.int (((p2.toUInt64 >>> ((32 : Int32) &&& 0x3f).toInt64.toUInt64).toInt64).toInt32)), (.int (4 : Int32)), (.ref b84)])) _
      refine XS.i2b X96.here hx rfl (hb hby at_59) rfl ?_
      show Steps p.tables e below (T96.setTop (mkF m 60 #[.val (.int p0), .val (.int p1), .val (.long p2), .second, .val (.int (2 : Int32)), .val (.ref b84)] [(.int ((((p2.toUInt64 >>> ((32 : Int32) &&& 0x3f).toInt64.toUInt64).toInt64).toInt32).toInt8.toInt32)), (.int (4 : Int32)), (.ref b84)])) _
      refine st99 _ ?_
      show Steps p.tables e below (T99.setTop (mkF m 61 #[.val (.int p0), .val (.int p1), .val (.long p2), .second, .val (.int (2 : Int32)), .val (.ref b84)] [])) _
      refine XS.aload X99.here hx rfl (hb hby at_61) rfl rfl ?_
      show Steps p.tables e below (T99.setTop (mkF m 63 #[.val (.int p0), .val (.int p1), .val (.long p2), .second, .val (.int (2 : Int32)), .val (.ref b84)] [(.ref b84)])) _
      refine XS.iconst X99.here hx rfl (hb hby at_63) ?_
      show Steps p.tables e below (T99.setTop (mkF m 64 #[.val (.int p0), .val (.int p1), .val (.long p2), .second, .val (.int (2 : Int32)), .val (.ref b84)] [(.int (5 : Int32)), (.ref b84)])) _
      refine XS.lloadN X99.here hx rfl (hb hby at_64) rfl ?_
      show Steps p.tables e below (T99.setTop (mkF m 65 #[.val (.int p0), .val (.int p1), .val (.long p2), .second, .val (.int (2 : Int32)), .val (.ref b84)] [(.long p2), (.int (5 : Int32)), (.ref b84)])) _
      refine XS.bipush X99.here hx rfl (hb hby at_65) ?_
      show Steps p.tables e below (T99.setTop (mkF m 67 #[.val (.int p0), .val (.int p1), .val (.long p2), .second, .val (.int (2 : Int32)), .val (.ref b84)] [(.int (40 : Int32)), (.long p2), (.int (5 : Int32)), (.ref b84)])) _
      refine XS.lushr X99.here hx rfl (hb hby at_67) rfl ?_
      show Steps p.tables e below (T99.setTop (mkF m 68 #[.val (.int p0), .val (.int p1), .val (.long p2), .second, .val (.int (2 : Int32)), .val (.ref b84)] [(.long ((p2.toUInt64 >>> ((40 : Int32) &&& 0x3f).toInt64.toUInt64).toInt64)), (.int (5 : Int32)), (.ref b84)])) _
      refine XS.l2i X99.here hx rfl (hb hby at_68) rfl ?_
      show Steps p.tables e below (T99.setTop (mkF m 69 #[.val (.int p0), .val (.int p1), .val (.long p2), .second, .val (.int (2 : Int32)), .val (.ref b84)] [(.int (((p2.toUInt64 >>> ((40 : Int32) &&& 0x3f).toInt64.toUInt64).toInt64).toInt32)), (.int (5 : Int32)), (.ref b84)])) _
      refine XS.i2b X99.here hx rfl (hb hby at_69) rfl ?_
      show Steps p.tables e below (T99.setTop (mkF m 70 #[.val (.int p0), .val (.int p1), .val (.long p2), .second, .val (.int (2 : Int32)), .val (.ref b84)] [(.int ((((p2.toUInt64 >>> ((40 : Int32) &&& 0x3f).toInt64.toUInt64).toInt64).toInt32).toInt8.toInt32)), (.int (5 : Int32)), (.ref b84)])) _
      refine st102 _ ?_
      show Steps p.tables e below (T102.setTop (mkF m 71 #[.val (.int p0), .val (.int p1), .val (.long p2), .second, .val (.int (2 : Int32)), .val (.ref b84)] [])) _
      refine XS.aload X102.here hx rfl (hb hby at_71) rfl rfl ?_
      show Steps p.tables e below (T102.setTop (mkF m 73 #[.val (.int p0), .val (.int p1), .val (.long p2), .second, .val (.int (2 : Int32)), .val (.ref b84)] [(.ref b84)])) _
      refine XS.bipush X102.here hx rfl (hb hby at_73) ?_
      show Steps p.tables e below (T102.setTop (mkF m 75 #[.val (.int p0), .val (.int p1), .val (.long p2), .second, .val (.int (2 : Int32)), .val (.ref b84)] [(.int (6 : Int32)), (.ref b84)])) _
      refine XS.lloadN X102.here hx rfl (hb hby at_75) rfl ?_
      show Steps p.tables e below (T102.setTop (mkF m 76 #[.val (.int p0), .val (.int p1), .val (.long p2), .second, .val (.int (2 : Int32)), .val (.ref b84)] [(.long p2), (.int (6 : Int32)), (.ref b84)])) _
      refine XS.bipush X102.here hx rfl (hb hby at_76) ?_
      show Steps p.tables e below (T102.setTop (mkF m 78 #[.val (.int p0), .val (.int p1), .val (.long p2), .second, .val (.int (2 : Int32)), .val (.ref b84)] [(.int (48 : Int32)), (.long p2), (.int (6 : Int32)), (.ref b84)])) _
      refine XS.lushr X102.here hx rfl (hb hby at_78) rfl ?_
      show Steps p.tables e below (T102.setTop (mkF m 79 #[.val (.int p0), .val (.int p1), .val (.long p2), .second, .val (.int (2 : Int32)), .val (.ref b84)] [(.long ((p2.toUInt64 >>> ((48 : Int32) &&& 0x3f).toInt64.toUInt64).toInt64)), (.int (6 : Int32)), (.ref b84)])) _
      refine XS.l2i X102.here hx rfl (hb hby at_79) rfl ?_
      show Steps p.tables e below (T102.setTop (mkF m 80 #[.val (.int p0), .val (.int p1), .val (.long p2), .second, .val (.int (2 : Int32)), .val (.ref b84)] [(.int (((p2.toUInt64 >>> ((48 : Int32) &&& 0x3f).toInt64.toUInt64).toInt64).toInt32)), (.int (6 : Int32)), (.ref b84)])) _
      refine XS.i2b X102.here hx rfl (hb hby at_80) rfl ?_
      show Steps p.tables e below (T102.setTop (mkF m 81 #[.val (.int p0), .val (.int p1), .val (.long p2), .second, .val (.int (2 : Int32)), .val (.ref b84)] [(.int ((((p2.toUInt64 >>> ((48 : Int32) &&& 0x3f).toInt64.toUInt64).toInt64).toInt32).toInt8.toInt32)), (.int (6 : Int32)), (.ref b84)])) _
      refine st105 _ ?_
      show Steps p.tables e below (T105.setTop (mkF m 82 #[.val (.int p0), .val (.int p1), .val (.long p2), .second, .val (.int (2 : Int32)), .val (.ref b84)] [])) _
      refine XS.aload X105.here hx rfl (hb hby at_82) rfl rfl ?_
      show Steps p.tables e below (T105.setTop (mkF m 84 #[.val (.int p0), .val (.int p1), .val (.long p2), .second, .val (.int (2 : Int32)), .val (.ref b84)] [(.ref b84)])) _
      refine XS.bipush X105.here hx rfl (hb hby at_84) ?_
      show Steps p.tables e below (T105.setTop (mkF m 86 #[.val (.int p0), .val (.int p1), .val (.long p2), .second, .val (.int (2 : Int32)), .val (.ref b84)] [(.int (7 : Int32)), (.ref b84)])) _
      refine XS.lloadN X105.here hx rfl (hb hby at_86) rfl ?_
      show Steps p.tables e below (T105.setTop (mkF m 87 #[.val (.int p0), .val (.int p1), .val (.long p2), .second, .val (.int (2 : Int32)), .val (.ref b84)] [(.long p2), (.int (7 : Int32)), (.ref b84)])) _
      refine XS.bipush X105.here hx rfl (hb hby at_87) ?_
      show Steps p.tables e below (T105.setTop (mkF m 89 #[.val (.int p0), .val (.int p1), .val (.long p2), .second, .val (.int (2 : Int32)), .val (.ref b84)] [(.int (56 : Int32)), (.long p2), (.int (7 : Int32)), (.ref b84)])) _
      refine XS.lushr X105.here hx rfl (hb hby at_89) rfl ?_
      show Steps p.tables e below (T105.setTop (mkF m 90 #[.val (.int p0), .val (.int p1), .val (.long p2), .second, .val (.int (2 : Int32)), .val (.ref b84)] [(.long ((p2.toUInt64 >>> ((56 : Int32) &&& 0x3f).toInt64.toUInt64).toInt64)), (.int (7 : Int32)), (.ref b84)])) _
      refine XS.l2i X105.here hx rfl (hb hby at_90) rfl ?_
      show Steps p.tables e below (T105.setTop (mkF m 91 #[.val (.int p0), .val (.int p1), .val (.long p2), .second, .val (.int (2 : Int32)), .val (.ref b84)] [(.int (((p2.toUInt64 >>> ((56 : Int32) &&& 0x3f).toInt64.toUInt64).toInt64).toInt32)), (.int (7 : Int32)), (.ref b84)])) _
      refine XS.i2b X105.here hx rfl (hb hby at_91) rfl ?_
      show Steps p.tables e below (T105.setTop (mkF m 92 #[.val (.int p0), .val (.int p1), .val (.long p2), .second, .val (.int (2 : Int32)), .val (.ref b84)] [(.int ((((p2.toUInt64 >>> ((56 : Int32) &&& 0x3f).toInt64.toUInt64).toInt64).toInt32).toInt8.toInt32)), (.int (7 : Int32)), (.ref b84)])) _
      refine st108 _ ?_
      show Steps p.tables e below (T108.setTop (mkF m 93 #[.val (.int p0), .val (.int p1), .val (.long p2), .second, .val (.int (2 : Int32)), .val (.ref b84)] [])) _
      refine XS.aload X108.here hx rfl (hb hby at_93) rfl rfl ?_
      show Steps p.tables e below (T108.setTop (mkF m 95 #[.val (.int p0), .val (.int p1), .val (.long p2), .second, .val (.int (2 : Int32)), .val (.ref b84)] [(.ref b84)])) _
      refine XS.iload X108.here hx rfl (hb hby at_95) rfl ?_
      show Steps p.tables e below (T108.setTop (mkF m 97 #[.val (.int p0), .val (.int p1), .val (.long p2), .second, .val (.int (2 : Int32)), .val (.ref b84)] [(.int (2 : Int32)), (.ref b84)])) _
      refine XS.iloadN X108.here hx rfl (hb hby at_97) rfl ?_
      show Steps p.tables e below (T108.setTop (mkF m 98 #[.val (.int p0), .val (.int p1), .val (.long p2), .second, .val (.int (2 : Int32)), .val (.ref b84)] [(.int p0), (.int (2 : Int32)), (.ref b84)])) _
      refine XS.bipush X108.here hx rfl (hb hby at_98) ?_
      show Steps p.tables e below (T108.setTop (mkF m 100 #[.val (.int p0), .val (.int p1), .val (.long p2), .second, .val (.int (2 : Int32)), .val (.ref b84)] [(.int (24 : Int32)), (.int p0), (.int (2 : Int32)), (.ref b84)])) _
      refine XS.iushr X108.here hx rfl (hb hby at_100) rfl ?_
      show Steps p.tables e below (T108.setTop (mkF m 101 #[.val (.int p0), .val (.int p1), .val (.long p2), .second, .val (.int (2 : Int32)), .val (.ref b84)] [(.int ((p0.toUInt32 >>> ((24 : Int32) &&& 31).toUInt32).toInt32)), (.int (2 : Int32)), (.ref b84)])) _
      refine XS.i2b X108.here hx rfl (hb hby at_101) rfl ?_
      show Steps p.tables e below (T108.setTop (mkF m 102 #[.val (.int p0), .val (.int p1), .val (.long p2), .second, .val (.int (2 : Int32)), .val (.ref b84)] [(.int (((p0.toUInt32 >>> ((24 : Int32) &&& 31).toUInt32).toInt32).toInt8.toInt32)), (.int (2 : Int32)), (.ref b84)])) _
      refine st111 _ ?_
      show Steps p.tables e below (T111.setTop (mkF m 103 #[.val (.int p0), .val (.int p1), .val (.long p2), .second, .val (.int (2 : Int32)), .val (.ref b84)] [])) _
      refine XS.aload X111.here hx rfl (hb hby at_103) rfl rfl ?_
      show Steps p.tables e below (T111.setTop (mkF m 105 #[.val (.int p0), .val (.int p1), .val (.long p2), .second, .val (.int (2 : Int32)), .val (.ref b84)] [(.ref b84)])) _
      refine XS.iload X111.here hx rfl (hb hby at_105) rfl ?_
      show Steps p.tables e below (T111.setTop (mkF m 107 #[.val (.int p0), .val (.int p1), .val (.long p2), .second, .val (.int (2 : Int32)), .val (.ref b84)] [(.int (2 : Int32)), (.ref b84)])) _
      refine XS.iconst X111.here hx rfl (hb hby at_107) ?_
      show Steps p.tables e below (T111.setTop (mkF m 108 #[.val (.int p0), .val (.int p1), .val (.long p2), .second, .val (.int (2 : Int32)), .val (.ref b84)] [(.int (1 : Int32)), (.int (2 : Int32)), (.ref b84)])) _
      refine XS.iadd X111.here hx rfl (hb hby at_108) rfl ?_
      show Steps p.tables e below (T111.setTop (mkF m 109 #[.val (.int p0), .val (.int p1), .val (.long p2), .second, .val (.int (2 : Int32)), .val (.ref b84)] [(.int (3 : Int32)), (.ref b84)])) _
      refine XS.iloadN X111.here hx rfl (hb hby at_109) rfl ?_
      show Steps p.tables e below (T111.setTop (mkF m 110 #[.val (.int p0), .val (.int p1), .val (.long p2), .second, .val (.int (2 : Int32)), .val (.ref b84)] [(.int p0), (.int (3 : Int32)), (.ref b84)])) _
      refine XS.bipush X111.here hx rfl (hb hby at_110) ?_
      show Steps p.tables e below (T111.setTop (mkF m 112 #[.val (.int p0), .val (.int p1), .val (.long p2), .second, .val (.int (2 : Int32)), .val (.ref b84)] [(.int (16 : Int32)), (.int p0), (.int (3 : Int32)), (.ref b84)])) _
      refine XS.iushr X111.here hx rfl (hb hby at_112) rfl ?_
      show Steps p.tables e below (T111.setTop (mkF m 113 #[.val (.int p0), .val (.int p1), .val (.long p2), .second, .val (.int (2 : Int32)), .val (.ref b84)] [(.int ((p0.toUInt32 >>> ((16 : Int32) &&& 31).toUInt32).toInt32)), (.int (3 : Int32)), (.ref b84)])) _
      refine XS.i2b X111.here hx rfl (hb hby at_113) rfl ?_
      show Steps p.tables e below (T111.setTop (mkF m 114 #[.val (.int p0), .val (.int p1), .val (.long p2), .second, .val (.int (2 : Int32)), .val (.ref b84)] [(.int (((p0.toUInt32 >>> ((16 : Int32) &&& 31).toUInt32).toInt32).toInt8.toInt32)), (.int (3 : Int32)), (.ref b84)])) _
      refine st114 _ ?_
      show Steps p.tables e below (T114.setTop (mkF m 115 #[.val (.int p0), .val (.int p1), .val (.long p2), .second, .val (.int (2 : Int32)), .val (.ref b84)] [])) _
      refine XS.aload X114.here hx rfl (hb hby at_115) rfl rfl ?_
      show Steps p.tables e below (T114.setTop (mkF m 117 #[.val (.int p0), .val (.int p1), .val (.long p2), .second, .val (.int (2 : Int32)), .val (.ref b84)] [(.ref b84)])) _
      refine XS.iload X114.here hx rfl (hb hby at_117) rfl ?_
      show Steps p.tables e below (T114.setTop (mkF m 119 #[.val (.int p0), .val (.int p1), .val (.long p2), .second, .val (.int (2 : Int32)), .val (.ref b84)] [(.int (2 : Int32)), (.ref b84)])) _
      refine XS.iconst X114.here hx rfl (hb hby at_119) ?_
      show Steps p.tables e below (T114.setTop (mkF m 120 #[.val (.int p0), .val (.int p1), .val (.long p2), .second, .val (.int (2 : Int32)), .val (.ref b84)] [(.int (2 : Int32)), (.int (2 : Int32)), (.ref b84)])) _
      refine XS.iadd X114.here hx rfl (hb hby at_120) rfl ?_
      show Steps p.tables e below (T114.setTop (mkF m 121 #[.val (.int p0), .val (.int p1), .val (.long p2), .second, .val (.int (2 : Int32)), .val (.ref b84)] [(.int (4 : Int32)), (.ref b84)])) _
      refine XS.iloadN X114.here hx rfl (hb hby at_121) rfl ?_
      show Steps p.tables e below (T114.setTop (mkF m 122 #[.val (.int p0), .val (.int p1), .val (.long p2), .second, .val (.int (2 : Int32)), .val (.ref b84)] [(.int p0), (.int (4 : Int32)), (.ref b84)])) _
      refine XS.bipush X114.here hx rfl (hb hby at_122) ?_
      show Steps p.tables e below (T114.setTop (mkF m 124 #[.val (.int p0), .val (.int p1), .val (.long p2), .second, .val (.int (2 : Int32)), .val (.ref b84)] [(.int (8 : Int32)), (.int p0), (.int (4 : Int32)), (.ref b84)])) _
      refine XS.iushr X114.here hx rfl (hb hby at_124) rfl ?_
      show Steps p.tables e below (T114.setTop (mkF m 125 #[.val (.int p0), .val (.int p1), .val (.long p2), .second, .val (.int (2 : Int32)), .val (.ref b84)] [(.int ((p0.toUInt32 >>> ((8 : Int32) &&& 31).toUInt32).toInt32)), (.int (4 : Int32)), (.ref b84)])) _
      refine XS.i2b X114.here hx rfl (hb hby at_125) rfl ?_
      show Steps p.tables e below (T114.setTop (mkF m 126 #[.val (.int p0), .val (.int p1), .val (.long p2), .second, .val (.int (2 : Int32)), .val (.ref b84)] [(.int (((p0.toUInt32 >>> ((8 : Int32) &&& 31).toUInt32).toInt32).toInt8.toInt32)), (.int (4 : Int32)), (.ref b84)])) _
      refine st117 _ ?_
      show Steps p.tables e below (T117.setTop (mkF m 127 #[.val (.int p0), .val (.int p1), .val (.long p2), .second, .val (.int (2 : Int32)), .val (.ref b84)] [])) _
      refine XS.aload X117.here hx rfl (hb hby at_127) rfl rfl ?_
      show Steps p.tables e below (T117.setTop (mkF m 129 #[.val (.int p0), .val (.int p1), .val (.long p2), .second, .val (.int (2 : Int32)), .val (.ref b84)] [(.ref b84)])) _
      refine XS.iload X117.here hx rfl (hb hby at_129) rfl ?_
      show Steps p.tables e below (T117.setTop (mkF m 131 #[.val (.int p0), .val (.int p1), .val (.long p2), .second, .val (.int (2 : Int32)), .val (.ref b84)] [(.int (2 : Int32)), (.ref b84)])) _
      refine XS.iconst X117.here hx rfl (hb hby at_131) ?_
      show Steps p.tables e below (T117.setTop (mkF m 132 #[.val (.int p0), .val (.int p1), .val (.long p2), .second, .val (.int (2 : Int32)), .val (.ref b84)] [(.int (3 : Int32)), (.int (2 : Int32)), (.ref b84)])) _
      refine XS.iadd X117.here hx rfl (hb hby at_132) rfl ?_
      show Steps p.tables e below (T117.setTop (mkF m 133 #[.val (.int p0), .val (.int p1), .val (.long p2), .second, .val (.int (2 : Int32)), .val (.ref b84)] [(.int (5 : Int32)), (.ref b84)])) _
      refine XS.iloadN X117.here hx rfl (hb hby at_133) rfl ?_
      show Steps p.tables e below (T117.setTop (mkF m 134 #[.val (.int p0), .val (.int p1), .val (.long p2), .second, .val (.int (2 : Int32)), .val (.ref b84)] [(.int p0), (.int (5 : Int32)), (.ref b84)])) _
      refine XS.i2b X117.here hx rfl (hb hby at_134) rfl ?_
      show Steps p.tables e below (T117.setTop (mkF m 135 #[.val (.int p0), .val (.int p1), .val (.long p2), .second, .val (.int (2 : Int32)), .val (.ref b84)] [(.int (p0.toInt8.toInt32)), (.int (5 : Int32)), (.ref b84)])) _
      refine st120 _ ?_
      show Steps p.tables e below (T120.setTop (mkF m 136 #[.val (.int p0), .val (.int p1), .val (.long p2), .second, .val (.int (2 : Int32)), .val (.ref b84)] [])) _
      refine XS.aload X120.here hx rfl (hb hby at_136) rfl rfl ?_
      show Steps p.tables e below (T120.setTop (mkF m 138 #[.val (.int p0), .val (.int p1), .val (.long p2), .second, .val (.int (2 : Int32)), .val (.ref b84)] [(.ref b84)])) _
      refine XS.iload X120.here hx rfl (hb hby at_138) rfl ?_
      show Steps p.tables e below (T120.setTop (mkF m 140 #[.val (.int p0), .val (.int p1), .val (.long p2), .second, .val (.int (2 : Int32)), .val (.ref b84)] [(.int (2 : Int32)), (.ref b84)])) _
      refine st121 _ ?_
      show Steps p.tables e below (T121.setTop (mkF m 143 #[.val (.int p0), .val (.int p1), .val (.long p2), .second, .val (.int (2 : Int32)), .val (.ref b84)] [(.int (own_be ((((p0.toUInt32 >>> ((24 : Int32) &&& 31).toUInt32).toInt32).toInt8.toInt32).toInt8.toInt32) ((((p0.toUInt32 >>> ((16 : Int32) &&& 31).toUInt32).toInt32).toInt8.toInt32).toInt8.toInt32) ((((p0.toUInt32 >>> ((8 : Int32) &&& 31).toUInt32).toInt32).toInt8.toInt32).toInt8.toInt32) ((p0.toInt8.toInt32).toInt8.toInt32)))])) _
      refine XS.iloadN X121.here hx rfl (hb hby at_143) rfl ?_
      show Steps p.tables e below (T121.setTop (mkF m 144 #[.val (.int p0), .val (.int p1), .val (.long p2), .second, .val (.int (2 : Int32)), .val (.ref b84)] [(.int p0), (.int (own_be ((((p0.toUInt32 >>> ((24 : Int32) &&& 31).toUInt32).toInt32).toInt8.toInt32).toInt8.toInt32) ((((p0.toUInt32 >>> ((16 : Int32) &&& 31).toUInt32).toInt32).toInt8.toInt32).toInt8.toInt32) ((((p0.toUInt32 >>> ((8 : Int32) &&& 31).toUInt32).toInt32).toInt8.toInt32).toInt8.toInt32) ((p0.toInt8.toInt32).toInt8.toInt32)))])) _
      refine XS.icmpNo X121.here hx rfl (hb hby at_144) rfl (teq (own_be_ok p0)).2 ?_
      show Steps p.tables e below (T121.setTop (mkF m 147 #[.val (.int p0), .val (.int p1), .val (.long p2), .second, .val (.int (2 : Int32)), .val (.ref b84)] [])) _
      refine XS.iconst X121.here hx rfl (hb hby at_147) ?_
      show Steps p.tables e below (T121.setTop (mkF m 148 #[.val (.int p0), .val (.int p1), .val (.long p2), .second, .val (.int (2 : Int32)), .val (.ref b84)] [(.int (1 : Int32))])) _
      refine XS.goto X121.here hx rfl (pc0 := 148) (pc' := 152) rfl (hb hby at_148) (by decide) (by decide) ?_
      exact Steps.refl _
    obtain ⟨fs, hr, hrun, hended, hW, hsame⟩ := X121.leave (v := some (.int (1 : Int32))) (fun h => by rw [Bd.returns] at h; cases h)
    refine ⟨_, _, s122.trans ?_, hrun, hended, _, _, rfl, ?_, ⟨_, rfl⟩, hW, hsame.mono (by decide) (by decide)⟩
    · show Steps p.tables e below (T121.setTop (mkF m 152 #[.val (.int p0), .val (.int p1), .val (.long p2), .second, .val (.int (2 : Int32)), .val (.ref b84)] [(.int (1 : Int32))])) _
      exact retN X121 hx (t := .boolean) Bd.returns (by simp) (hb hby at_152) hr
    · show Q0 Z p0 p1 p2 h0 n0 _ T121.heap _
      rw [e121]
      exact ⟨rfl, N121⟩
  · have s123 := s1
    rw [hk2] at s123
    obtain ⟨T124, h124, k124, X124, e124, E124, A124, st124⟩ := newP X0 hx hZ (hw _ (List.mem_of_getElem? (i := 1) rfl)) e0 (g := (mkF m 10 #[.val (.int p0), .val (.int p1), .val (.long p2), .second, .val (.int (3 : Int32)), .unset] [(.int (8 : Int32))])) rfl (hb hby at_10) rfl (by decide) (cap := 8) (by decide) (by decide) (by decide) (by decide)
    obtain ⟨b124, g124⟩ : ∃ z, z = h0.size := ⟨_, rfl⟩
    rw [← g124] at A124 st124
    have g_b124 : n0 ≤ b124 := Nat.le_trans (Nat.le_of_eq O0.1.symm) (Nat.le_trans O0.2.1 (Nat.le_of_eq g124.symm))
    have O124 := O0.ext E124
    have V124 : Arv Z h124 b124 k124 .byte (8 : Int32) [(.int (0 : Int32)), (.int (0 : Int32)), (.int (0 : Int32)), (.int (0 : Int32)), (.int (0 : Int32)), (.int (0 : Int32)), (.int (0 : Int32)), (.int (0 : Int32))] (.int (0 : Int32)) := (Arv.new A124 (by decide)).pad (pad_rep [] (.int (0 : Int32)) 8)
    obtain ⟨cla125, Ara125, qa125, Sa125, Za125, Ha125, Ga125⟩ := id V124
    have hin126 : ¬ ((0 : Int32) < 0 ∨ cla125.slots.size ≤ ((0 : Int32)).toNatClampNeg) := inb_of Sa125 ⟨by decide, by decide⟩
    obtain ⟨T127, h127, X127, e127, W127, st127⟩ := stB X124 hx hZ e124 Ara125 (j := (0 : Int32)) hin126 (g := (mkF m 20 #[.val (.int p0), .val (.int p1), .val (.long p2), .second, .val (.int (3 : Int32)), .val (.ref b124)] [(.int ((p2.toInt32).toInt8.toInt32)), (.int (0 : Int32)), (.ref b124)])) rfl rfl (hb hby at_20)
    have O127 := O124.wr W127 g_b124
    have N127 := Fr.snoc X127 N0 g_b124
    have V127 : Arv Z h127 b124 k124 .byte (8 : Int32) [(.int (((p2.toInt32).toInt8.toInt32).toInt8.toInt32)), (.int (0 : Int32)), (.int (0 : Int32)), (.int (0 : Int32)), (.int (0 : Int32)), (.int (0 : Int32)), (.int (0 : Int32)), (.int (0 : Int32))] (.int (0 : Int32)) := Arv.set Ara125 qa125 Sa125 Za125 Ha125 Ga125 (fits_nar_byte _) W127 0 rfl (Nat.le_of_ble_eq_true rfl)
    obtain ⟨cla128, Ara128, qa128, Sa128, Za128, Ha128, Ga128⟩ := id V127
    have hin129 : ¬ ((1 : Int32) < 0 ∨ cla128.slots.size ≤ ((1 : Int32)).toNatClampNeg) := inb_of Sa128 ⟨by decide, by decide⟩
    obtain ⟨T130, h130, X130, e130, W130, st130⟩ := stB X127 hx hZ e127 Ara128 (j := (1 : Int32)) hin129 (g := (mkF m 30 #[.val (.int p0), .val (.int p1), .val (.long p2), .second, .val (.int (3 : Int32)), .val (.ref b124)] [(.int ((((p2.toUInt64 >>> ((8 : Int32) &&& 0x3f).toInt64.toUInt64).toInt64).toInt32).toInt8.toInt32)), (.int (1 : Int32)), (.ref b124)])) rfl rfl (hb hby at_30)
    have O130 := O127.wr W130 g_b124
    have N130 := Fr.snoc X130 N127 g_b124
    have V130 : Arv Z h130 b124 k124 .byte (8 : Int32) [(.int (((p2.toInt32).toInt8.toInt32).toInt8.toInt32)), (.int (((((p2.toUInt64 >>> ((8 : Int32) &&& 0x3f).toInt64.toUInt64).toInt64).toInt32).toInt8.toInt32).toInt8.toInt32)), (.int (0 : Int32)), (.int (0 : Int32)), (.int (0 : Int32)), (.int (0 : Int32)), (.int (0 : Int32)), (.int (0 : Int32))] (.int (0 : Int32)) := Arv.set Ara128 qa128 Sa128 Za128 Ha128 Ga128 (fits_nar_byte _) W130 1 rfl (Nat.le_of_ble_eq_true rfl)
    obtain ⟨cla131, Ara131, qa131, Sa131, Za131, Ha131, Ga131⟩ := id V130
    have hin132 : ¬ ((2 : Int32) < 0 ∨ cla131.slots.size ≤ ((2 : Int32)).toNatClampNeg) := inb_of Sa131 ⟨by decide, by decide⟩
    obtain ⟨T133, h133, X133, e133, W133, st133⟩ := stB X130 hx hZ e130 Ara131 (j := (2 : Int32)) hin132 (g := (mkF m 40 #[.val (.int p0), .val (.int p1), .val (.long p2), .second, .val (.int (3 : Int32)), .val (.ref b124)] [(.int ((((p2.toUInt64 >>> ((16 : Int32) &&& 0x3f).toInt64.toUInt64).toInt64).toInt32).toInt8.toInt32)), (.int (2 : Int32)), (.ref b124)])) rfl rfl (hb hby at_40)
    have O133 := O130.wr W133 g_b124
    have N133 := Fr.snoc X133 N130 g_b124
    have V133 : Arv Z h133 b124 k124 .byte (8 : Int32) [(.int (((p2.toInt32).toInt8.toInt32).toInt8.toInt32)), (.int (((((p2.toUInt64 >>> ((8 : Int32) &&& 0x3f).toInt64.toUInt64).toInt64).toInt32).toInt8.toInt32).toInt8.toInt32)), (.int (((((p2.toUInt64 >>> ((16 : Int32) &&& 0x3f).toInt64.toUInt64).toInt64).toInt32).toInt8.toInt32).toInt8.toInt32)), (.int (0 : Int32)), (.int (0 : Int32)), (.int (0 : Int32)), (.int (0 : Int32)), (.int (0 : Int32))] (.int (0 : Int32)) := Arv.set Ara131 qa131 Sa131 Za131 Ha131 Ga131 (fits_nar_byte _) W133 2 rfl (Nat.le_of_ble_eq_true rfl)
    obtain ⟨cla134, Ara134, qa134, Sa134, Za134, Ha134, Ga134⟩ := id V133
    have hin135 : ¬ ((3 : Int32) < 0 ∨ cla134.slots.size ≤ ((3 : Int32)).toNatClampNeg) := inb_of Sa134 ⟨by decide, by decide⟩
    obtain ⟨T136, h136, X136, e136, W136, st136⟩ := stB X133 hx hZ e133 Ara134 (j := (3 : Int32)) hin135 (g := (mkF m 50 #[.val (.int p0), .val (.int p1), .val (.long p2), .second, .val (.int (3 : Int32)), .val (.ref b124)] [(.int ((((p2.toUInt64 >>> ((24 : Int32) &&& 0x3f).toInt64.toUInt64).toInt64).toInt32).toInt8.toInt32)), (.int (3 : Int32)), (.ref b124)])) rfl rfl (hb hby at_50)
    have O136 := O133.wr W136 g_b124
    have N136 := Fr.snoc X136 N133 g_b124
    have V136 : Arv Z h136 b124 k124 .byte (8 : Int32) [(.int (((p2.toInt32).toInt8.toInt32).toInt8.toInt32)), (.int (((((p2.toUInt64 >>> ((8 : Int32) &&& 0x3f).toInt64.toUInt64).toInt64).toInt32).toInt8.toInt32).toInt8.toInt32)), (.int (((((p2.toUInt64 >>> ((16 : Int32) &&& 0x3f).toInt64.toUInt64).toInt64).toInt32).toInt8.toInt32).toInt8.toInt32)), (.int (((((p2.toUInt64 >>> ((24 : Int32) &&& 0x3f).toInt64.toUInt64).toInt64).toInt32).toInt8.toInt32).toInt8.toInt32)), (.int (0 : Int32)), (.int (0 : Int32)), (.int (0 : Int32)), (.int (0 : Int32))] (.int (0 : Int32)) := Arv.set Ara134 qa134 Sa134 Za134 Ha134 Ga134 (fits_nar_byte _) W136 3 rfl (Nat.le_of_ble_eq_true rfl)
    obtain ⟨cla137, Ara137, qa137, Sa137, Za137, Ha137, Ga137⟩ := id V136
    have hin138 : ¬ ((4 : Int32) < 0 ∨ cla137.slots.size ≤ ((4 : Int32)).toNatClampNeg) := inb_of Sa137 ⟨by decide, by decide⟩
    obtain ⟨T139, h139, X139, e139, W139, st139⟩ := stB X136 hx hZ e136 Ara137 (j := (4 : Int32)) hin138 (g := (mkF m 60 #[.val (.int p0), .val (.int p1), .val (.long p2), .second, .val (.int (3 : Int32)), .val (.ref b124)] [(.int ((((p2.toUInt64 >>> ((32 : Int32) &&& 0x3f).toInt64.toUInt64).toInt64).toInt32).toInt8.toInt32)), (.int (4 : Int32)), (.ref b124)])) rfl rfl (hb hby at_60)
    have O139 := O136.wr W139 g_b124
    have N139 := Fr.snoc X139 N136 g_b124
    have V139 : Arv Z h139 b124 k124 .byte (8 : Int32) [(.int (((p2.toInt32).toInt8.toInt32).toInt8.toInt32)), (.int (((((p2.toUInt64 >>> ((8 : Int32) &&& 0x3f).toInt64.toUInt64).toInt64).toInt32).toInt8.toInt32).toInt8.toInt32)), (.int (((((p2.toUInt64 >>> ((16 : Int32) &&& 0x3f).toInt64.toUInt64).toInt64).toInt32).toInt8.toInt32).toInt8.toInt32)), (.int (((((p2.toUInt64 >>> ((24 : Int32) &&& 0x3f).toInt64.toUInt64).toInt64).toInt32).toInt8.toInt32).toInt8.toInt32)), (.int (((((p2.toUInt64 >>> ((32 : Int32) &&& 0x3f).toInt64.toUInt64).toInt64).toInt32).toInt8.toInt32).toInt8.toInt32)), (.int (0 : Int32)), (.int (0 : Int32)), (.int (0 : Int32))] (.int (0 : Int32)) := Arv.set Ara137 qa137 Sa137 Za137 Ha137 Ga137 (fits_nar_byte _) W139 4 rfl (Nat.le_of_ble_eq_true rfl)
    obtain ⟨cla140, Ara140, qa140, Sa140, Za140, Ha140, Ga140⟩ := id V139
    have hin141 : ¬ ((5 : Int32) < 0 ∨ cla140.slots.size ≤ ((5 : Int32)).toNatClampNeg) := inb_of Sa140 ⟨by decide, by decide⟩
    obtain ⟨T142, h142, X142, e142, W142, st142⟩ := stB X139 hx hZ e139 Ara140 (j := (5 : Int32)) hin141 (g := (mkF m 70 #[.val (.int p0), .val (.int p1), .val (.long p2), .second, .val (.int (3 : Int32)), .val (.ref b124)] [(.int ((((p2.toUInt64 >>> ((40 : Int32) &&& 0x3f).toInt64.toUInt64).toInt64).toInt32).toInt8.toInt32)), (.int (5 : Int32)), (.ref b124)])) rfl rfl (hb hby at_70)
    have O142 := O139.wr W142 g_b124
    have N142 := Fr.snoc X142 N139 g_b124
    have V142 : Arv Z h142 b124 k124 .byte (8 : Int32) [(.int (((p2.toInt32).toInt8.toInt32).toInt8.toInt32)), (.int (((((p2.toUInt64 >>> ((8 : Int32) &&& 0x3f).toInt64.toUInt64).toInt64).toInt32).toInt8.toInt32).toInt8.toInt32)), (.int (((((p2.toUInt64 >>> ((16 : Int32) &&& 0x3f).toInt64.toUInt64).toInt64).toInt32).toInt8.toInt32).toInt8.toInt32)), (.int (((((p2.toUInt64 >>> ((24 : Int32) &&& 0x3f).toInt64.toUInt64).toInt64).toInt32).toInt8.toInt32).toInt8.toInt32)), (.int (((((p2.toUInt64 >>> ((32 : Int32) &&& 0x3f).toInt64.toUInt64).toInt64).toInt32).toInt8.toInt32).toInt8.toInt32)), (.int (((((p2.toUInt64 >>> ((40 : Int32) &&& 0x3f).toInt64.toUInt64).toInt64).toInt32).toInt8.toInt32).toInt8.toInt32)), (.int (0 : Int32)), (.int (0 : Int32))] (.int (0 : Int32)) := Arv.set Ara140 qa140 Sa140 Za140 Ha140 Ga140 (fits_nar_byte _) W142 5 rfl (Nat.le_of_ble_eq_true rfl)
    obtain ⟨cla143, Ara143, qa143, Sa143, Za143, Ha143, Ga143⟩ := id V142
    have hin144 : ¬ ((6 : Int32) < 0 ∨ cla143.slots.size ≤ ((6 : Int32)).toNatClampNeg) := inb_of Sa143 ⟨by decide, by decide⟩
    obtain ⟨T145, h145, X145, e145, W145, st145⟩ := stB X142 hx hZ e142 Ara143 (j := (6 : Int32)) hin144 (g := (mkF m 81 #[.val (.int p0), .val (.int p1), .val (.long p2), .second, .val (.int (3 : Int32)), .val (.ref b124)] [(.int ((((p2.toUInt64 >>> ((48 : Int32) &&& 0x3f).toInt64.toUInt64).toInt64).toInt32).toInt8.toInt32)), (.int (6 : Int32)), (.ref b124)])) rfl rfl (hb hby at_81)
    have O145 := O142.wr W145 g_b124
    have N145 := Fr.snoc X145 N142 g_b124
    have V145 : Arv Z h145 b124 k124 .byte (8 : Int32) [(.int (((p2.toInt32).toInt8.toInt32).toInt8.toInt32)), (.int (((((p2.toUInt64 >>> ((8 : Int32) &&& 0x3f).toInt64.toUInt64).toInt64).toInt32).toInt8.toInt32).toInt8.toInt32)), (.int (((((p2.toUInt64 >>> ((16 : Int32) &&& 0x3f).toInt64.toUInt64).toInt64).toInt32).toInt8.toInt32).toInt8.toInt32)), (.int (((((p2.toUInt64 >>> ((24 : Int32) &&& 0x3f).toInt64.toUInt64).toInt64).toInt32).toInt8.toInt32).toInt8.toInt32)), (.int (((((p2.toUInt64 >>> ((32 : Int32) &&& 0x3f).toInt64.toUInt64).toInt64).toInt32).toInt8.toInt32).toInt8.toInt32)), (.int (((((p2.toUInt64 >>> ((40 : Int32) &&& 0x3f).toInt64.toUInt64).toInt64).toInt32).toInt8.toInt32).toInt8.toInt32)), (.int (((((p2.toUInt64 >>> ((48 : Int32) &&& 0x3f).toInt64.toUInt64).toInt64).toInt32).toInt8.toInt32).toInt8.toInt32)), (.int (0 : Int32))] (.int (0 : Int32)) := Arv.set Ara143 qa143 Sa143 Za143 Ha143 Ga143 (fits_nar_byte _) W145 6 rfl (Nat.le_of_ble_eq_true rfl)
    obtain ⟨cla146, Ara146, qa146, Sa146, Za146, Ha146, Ga146⟩ := id V145
    have hin147 : ¬ ((7 : Int32) < 0 ∨ cla146.slots.size ≤ ((7 : Int32)).toNatClampNeg) := inb_of Sa146 ⟨by decide, by decide⟩
    obtain ⟨T148, h148, X148, e148, W148, st148⟩ := stB X145 hx hZ e145 Ara146 (j := (7 : Int32)) hin147 (g := (mkF m 92 #[.val (.int p0), .val (.int p1), .val (.long p2), .second, .val (.int (3 : Int32)), .val (.ref b124)] [(.int ((((p2.toUInt64 >>> ((56 : Int32) &&& 0x3f).toInt64.toUInt64).toInt64).toInt32).toInt8.toInt32)), (.int (7 : Int32)), (.ref b124)])) rfl rfl (hb hby at_92)
    have O148 := O145.wr W148 g_b124
    have N148 := Fr.snoc X148 N145 g_b124
    have V148 : Arv Z h148 b124 k124 .byte (8 : Int32) [(.int (((p2.toInt32).toInt8.toInt32).toInt8.toInt32)), (.int (((((p2.toUInt64 >>> ((8 : Int32) &&& 0x3f).toInt64.toUInt64).toInt64).toInt32).toInt8.toInt32).toInt8.toInt32)), (.int (((((p2.toUInt64 >>> ((16 : Int32) &&& 0x3f).toInt64.toUInt64).toInt64).toInt32).toInt8.toInt32).toInt8.toInt32)), (.int (((((p2.toUInt64 >>> ((24 : Int32) &&& 0x3f).toInt64.toUInt64).toInt64).toInt32).toInt8.toInt32).toInt8.toInt32)), (.int (((((p2.toUInt64 >>> ((32 : Int32) &&& 0x3f).toInt64.toUInt64).toInt64).toInt32).toInt8.toInt32).toInt8.toInt32)), (.int (((((p2.toUInt64 >>> ((40 : Int32) &&& 0x3f).toInt64.toUInt64).toInt64).toInt32).toInt8.toInt32).toInt8.toInt32)), (.int (((((p2.toUInt64 >>> ((48 : Int32) &&& 0x3f).toInt64.toUInt64).toInt64).toInt32).toInt8.toInt32).toInt8.toInt32)), (.int (((((p2.toUInt64 >>> ((56 : Int32) &&& 0x3f).toInt64.toUInt64).toInt64).toInt32).toInt8.toInt32).toInt8.toInt32))] (.int (0 : Int32)) := Arv.set Ara146 qa146 Sa146 Za146 Ha146 Ga146 (fits_nar_byte _) W148 7 rfl (Nat.le_of_ble_eq_true rfl)
    obtain ⟨cla149, Ara149, qa149, Sa149, Za149, Ha149, Ga149⟩ := id V148
    have hin150 : ¬ ((3 : Int32) < 0 ∨ cla149.slots.size ≤ ((3 : Int32)).toNatClampNeg) := inb_of Sa149 ⟨by decide, by decide⟩
    obtain ⟨T151, h151, X151, e151, W151, st151⟩ := stB X148 hx hZ e148 Ara149 (j := (3 : Int32)) hin150 (g := (mkF m 102 #[.val (.int p0), .val (.int p1), .val (.long p2), .second, .val (.int (3 : Int32)), .val (.ref b124)] [(.int (((p0.toUInt32 >>> ((24 : Int32) &&& 31).toUInt32).toInt32).toInt8.toInt32)), (.int (3 : Int32)), (.ref b124)])) rfl rfl (hb hby at_102)
    have O151 := O148.wr W151 g_b124
    have N151 := Fr.snoc X151 N148 g_b124
    have V151 : Arv Z h151 b124 k124 .byte (8 : Int32) [(.int (((p2.toInt32).toInt8.toInt32).toInt8.toInt32)), (.int (((((p2.toUInt64 >>> ((8 : Int32) &&& 0x3f).toInt64.toUInt64).toInt64).toInt32).toInt8.toInt32).toInt8.toInt32)), (.int (((((p2.toUInt64 >>> ((16 : Int32) &&& 0x3f).toInt64.toUInt64).toInt64).toInt32).toInt8.toInt32).toInt8.toInt32)), (.int ((((p0.toUInt32 >>> ((24 : Int32) &&& 31).toUInt32).toInt32).toInt8.toInt32).toInt8.toInt32)), (.int (((((p2.toUInt64 >>> ((32 : Int32) &&& 0x3f).toInt64.toUInt64).toInt64).toInt32).toInt8.toInt32).toInt8.toInt32)), (.int (((((p2.toUInt64 >>> ((40 : Int32) &&& 0x3f).toInt64.toUInt64).toInt64).toInt32).toInt8.toInt32).toInt8.toInt32)), (.int (((((p2.toUInt64 >>> ((48 : Int32) &&& 0x3f).toInt64.toUInt64).toInt64).toInt32).toInt8.toInt32).toInt8.toInt32)), (.int (((((p2.toUInt64 >>> ((56 : Int32) &&& 0x3f).toInt64.toUInt64).toInt64).toInt32).toInt8.toInt32).toInt8.toInt32))] (.int (0 : Int32)) := Arv.set Ara149 qa149 Sa149 Za149 Ha149 Ga149 (fits_nar_byte _) W151 3 rfl (Nat.le_of_ble_eq_true rfl)
    obtain ⟨cla152, Ara152, qa152, Sa152, Za152, Ha152, Ga152⟩ := id V151
    have hin153 : ¬ ((4 : Int32) < 0 ∨ cla152.slots.size ≤ ((4 : Int32)).toNatClampNeg) := inb_of Sa152 ⟨by decide, by decide⟩
    obtain ⟨T154, h154, X154, e154, W154, st154⟩ := stB X151 hx hZ e151 Ara152 (j := (4 : Int32)) hin153 (g := (mkF m 114 #[.val (.int p0), .val (.int p1), .val (.long p2), .second, .val (.int (3 : Int32)), .val (.ref b124)] [(.int (((p0.toUInt32 >>> ((16 : Int32) &&& 31).toUInt32).toInt32).toInt8.toInt32)), (.int (4 : Int32)), (.ref b124)])) rfl rfl (hb hby at_114)
    have O154 := O151.wr W154 g_b124
    have N154 := Fr.snoc X154 N151 g_b124
    have V154 : Arv Z h154 b124 k124 .byte (8 : Int32) [(.int (((p2.toInt32).toInt8.toInt32).toInt8.toInt32)), (.int (((((p2.toUInt64 >>> ((8 : Int32) &&& 0x3f).toInt64.toUInt64).toInt64).toInt32).toInt8.toInt32).toInt8.toInt32)), (.int (((((p2.toUInt64 >>> ((16 : Int32) &&& 0x3f).toInt64.toUInt64).toInt64).toInt32).toInt8.toInt32).toInt8.toInt32)), (.int ((((p0.toUInt32 >>> ((24 : Int32) &&& 31).toUInt32).toInt32).toInt8.toInt32).toInt8.toInt32)), (.int ((((p0.toUInt32 >>> ((16 : Int32) &&& 31).toUInt32).toInt32).toInt8.toInt32).toInt8.toInt32)), (.int (((((p2.toUInt64 >>> ((40 : Int32) &&& 0x3f).toInt64.toUInt64).toInt64).toInt32).toInt8.toInt32).toInt8.toInt32)), (.int (((((p2.toUInt64 >>> ((48 : Int32) &&& 0x3f).toInt64.toUInt64).toInt64).toInt32).toInt8.toInt32).toInt8.toInt32)), (.int (((((p2.toUInt64 >>> ((56 : Int32) &&& 0x3f).toInt64.toUInt64).toInt64).toInt32).toInt8.toInt32).toInt8.toInt32))] (.int (0 : Int32)) := Arv.set Ara152 qa152 Sa152 Za152 Ha152 Ga152 (fits_nar_byte _) W154 4 rfl (Nat.le_of_ble_eq_true rfl)
    obtain ⟨cla155, Ara155, qa155, Sa155, Za155, Ha155, Ga155⟩ := id V154
    have hin156 : ¬ ((5 : Int32) < 0 ∨ cla155.slots.size ≤ ((5 : Int32)).toNatClampNeg) := inb_of Sa155 ⟨by decide, by decide⟩
    obtain ⟨T157, h157, X157, e157, W157, st157⟩ := stB X154 hx hZ e154 Ara155 (j := (5 : Int32)) hin156 (g := (mkF m 126 #[.val (.int p0), .val (.int p1), .val (.long p2), .second, .val (.int (3 : Int32)), .val (.ref b124)] [(.int (((p0.toUInt32 >>> ((8 : Int32) &&& 31).toUInt32).toInt32).toInt8.toInt32)), (.int (5 : Int32)), (.ref b124)])) rfl rfl (hb hby at_126)
    have O157 := O154.wr W157 g_b124
    have N157 := Fr.snoc X157 N154 g_b124
    have V157 : Arv Z h157 b124 k124 .byte (8 : Int32) [(.int (((p2.toInt32).toInt8.toInt32).toInt8.toInt32)), (.int (((((p2.toUInt64 >>> ((8 : Int32) &&& 0x3f).toInt64.toUInt64).toInt64).toInt32).toInt8.toInt32).toInt8.toInt32)), (.int (((((p2.toUInt64 >>> ((16 : Int32) &&& 0x3f).toInt64.toUInt64).toInt64).toInt32).toInt8.toInt32).toInt8.toInt32)), (.int ((((p0.toUInt32 >>> ((24 : Int32) &&& 31).toUInt32).toInt32).toInt8.toInt32).toInt8.toInt32)), (.int ((((p0.toUInt32 >>> ((16 : Int32) &&& 31).toUInt32).toInt32).toInt8.toInt32).toInt8.toInt32)), (.int ((((p0.toUInt32 >>> ((8 : Int32) &&& 31).toUInt32).toInt32).toInt8.toInt32).toInt8.toInt32)), (.int (((((p2.toUInt64 >>> ((48 : Int32) &&& 0x3f).toInt64.toUInt64).toInt64).toInt32).toInt8.toInt32).toInt8.toInt32)), (.int (((((p2.toUInt64 >>> ((56 : Int32) &&& 0x3f).toInt64.toUInt64).toInt64).toInt32).toInt8.toInt32).toInt8.toInt32))] (.int (0 : Int32)) := Arv.set Ara155 qa155 Sa155 Za155 Ha155 Ga155 (fits_nar_byte _) W157 5 rfl (Nat.le_of_ble_eq_true rfl)
    obtain ⟨cla158, Ara158, qa158, Sa158, Za158, Ha158, Ga158⟩ := id V157
    have hin159 : ¬ ((6 : Int32) < 0 ∨ cla158.slots.size ≤ ((6 : Int32)).toNatClampNeg) := inb_of Sa158 ⟨by decide, by decide⟩
    obtain ⟨T160, h160, X160, e160, W160, st160⟩ := stB X157 hx hZ e157 Ara158 (j := (6 : Int32)) hin159 (g := (mkF m 135 #[.val (.int p0), .val (.int p1), .val (.long p2), .second, .val (.int (3 : Int32)), .val (.ref b124)] [(.int (p0.toInt8.toInt32)), (.int (6 : Int32)), (.ref b124)])) rfl rfl (hb hby at_135)
    have O160 := O157.wr W160 g_b124
    have N160 := Fr.snoc X160 N157 g_b124
    have V160 : Arv Z h160 b124 k124 .byte (8 : Int32) [(.int (((p2.toInt32).toInt8.toInt32).toInt8.toInt32)), (.int (((((p2.toUInt64 >>> ((8 : Int32) &&& 0x3f).toInt64.toUInt64).toInt64).toInt32).toInt8.toInt32).toInt8.toInt32)), (.int (((((p2.toUInt64 >>> ((16 : Int32) &&& 0x3f).toInt64.toUInt64).toInt64).toInt32).toInt8.toInt32).toInt8.toInt32)), (.int ((((p0.toUInt32 >>> ((24 : Int32) &&& 31).toUInt32).toInt32).toInt8.toInt32).toInt8.toInt32)), (.int ((((p0.toUInt32 >>> ((16 : Int32) &&& 31).toUInt32).toInt32).toInt8.toInt32).toInt8.toInt32)), (.int ((((p0.toUInt32 >>> ((8 : Int32) &&& 31).toUInt32).toInt32).toInt8.toInt32).toInt8.toInt32)), (.int ((p0.toInt8.toInt32).toInt8.toInt32)), (.int (((((p2.toUInt64 >>> ((56 : Int32) &&& 0x3f).toInt64.toUInt64).toInt64).toInt32).toInt8.toInt32).toInt8.toInt32))] (.int (0 : Int32)) := Arv.set Ara158 qa158 Sa158 Za158 Ha158 Ga158 (fits_nar_byte _) W160 6 rfl (Nat.le_of_ble_eq_true rfl)
    obtain ⟨_, _, ⟨T161, L161, k161, n161⟩, -, X161, ⟨Lc161, hQ161, l161, y161, z161⟩, st161⟩ := Jvm.LawKit.callS X160 hx (y := (⟨"com/example/strikewire/strikewire/engine/JournalReader", "intAt", "([BI)I"⟩ : MethodName)) hown (mvT hZ (hw _ (List.mem_of_getElem? (i := 2) rfl))) (mvT hZ (hw _ (List.mem_of_getElem? (i := 3) rfl))) (mvT hZ (hw _ (List.mem_of_getElem? (i := 4) rfl))) (mvT hZ (hw _ (List.mem_of_getElem? (i := 5) rfl))) (by decide) (backOf (W := 0) (rm1_3 l Z a0 hw [] b124 k124 (((p2.toInt32).toInt8.toInt32).toInt8.toInt32) (((((p2.toUInt64 >>> ((8 : Int32) &&& 0x3f).toInt64.toUInt64).toInt64).toInt32).toInt8.toInt32).toInt8.toInt32) (((((p2.toUInt64 >>> ((16 : Int32) &&& 0x3f).toInt64.toUInt64).toInt64).toInt32).toInt8.toInt32).toInt8.toInt32) ((((p0.toUInt32 >>> ((24 : Int32) &&& 31).toUInt32).toInt32).toInt8.toInt32).toInt8.toInt32) ((((p0.toUInt32 >>> ((16 : Int32) &&& 31).toUInt32).toInt32).toInt8.toInt32).toInt8.toInt32) ((((p0.toUInt32 >>> ((8 : Int32) &&& 31).toUInt32).toInt32).toInt8.toInt32).toInt8.toInt32) ((p0.toInt8.toInt32).toInt8.toInt32) (((((p2.toUInt64 >>> ((56 : Int32) &&& 0x3f).toInt64.toUInt64).toInt64).toInt32).toInt8.toInt32).toInt8.toInt32) h160 n0 O160 V160) hZ (hw _ (List.mem_of_getElem? (i := 5) rfl)) (hw _ (List.mem_of_getElem? (i := 4) rfl)) (by decide) (by decide)) (g := (mkF m 140 #[.val (.int p0), .val (.int p1), .val (.long p2), .second, .val (.int (3 : Int32)), .val (.ref b124)] [(.int (3 : Int32)), (.ref b124)])) rfl (by rw [hml]; rfl) (argsL := [(.ref b124), (.int (3 : Int32))]) (rest := []) (lenOf pd_rm0_0 rfl) rfl (by show 2 * 0 + _ ≤ _; exact Nat.le_of_eq rfl) (hb hby at_140) (fun _ _ => ⟨rfl, e160, (by decide : 1 + 0 ≤ _), (by decide : 8 + 0 ≤ _)⟩)
    dsimp only [Pt.U, Pt.locs, Pt.cells, Pt.slots] at X161 l161 y161 z161 st161 hQ161
    subst l161 y161 z161
    obtain ⟨rfl, Nq161, e161⟩ := hQ161
    have N161 := Fr.app N160 Nq161
    have s162 : Steps p.tables e below (s₁.setTop (entryFrame m #[(.int p0), (.int p1), (.long p2)] maxLocals)) (T161.setTop (mkF m 152 #[.val (.int p0), .val (.int p1), .val (.long p2), .second, .val (.int (3 : Int32)), .val (.ref b124)] [(.int (1 : Int32))])) := by
      refine s123.trans ?_
      show Steps p.tables e below (s₁.setTop (mkF m 6 #[.val (.int p0), .val (.int p1), .val (.long p2), .second, .unset, .unset] [(.int (3 : Int32))])) _
      refine XS.istore X0.here hx rfl (hb hby at_6) rfl (l' := #[.val (.int p0), .val (.int p1), .val (.long p2), .second, .val (.int (3 : Int32)), .unset]) rfl ?_
      show Steps p.tables e below (s₁.setTop (mkF m 8 #[.val (.int p0), .val (.int p1), .val (.long p2), .second, .val (.int (3 : Int32)), .unset] [])) _
      refine XS.bipush X0.here hx rfl (hb hby at_8) ?_
      show Steps p.tables e below (s₁.setTop (mkF m 10 #[.val (.int p0), .val (.int p1), .val (.long p2), .second, .val (.int (3 : Int32)), .unset] [(.int (8 : Int32))])) _
      refine st124 _ ?_
      show Steps p.tables e below (T124.setTop (mkF m 12 #[.val (.int p0), .val (.int p1), .val (.long p2), .second, .val (.int (3 : Int32)), .unset] [(.ref b124)])) _
      refine XS.astore X124.here hx rfl (hb hby at_12) rfl rfl (l' := #[.val (.int p0), .val (.int p1), .val (.long p2), .second, .val (.int (3 : Int32)), .val (.ref b124)]) rfl ?_
      show Steps p.tables e below (T124.setTop (mkF m 14 #[.val (.int p0), .val (.int p1), .val (.long p2), .second, .val (.int (3 : Int32)), .val (.ref b124)] [])) _
      refine XS.aload X124.here hx rfl (hb hby at_14) rfl rfl ?_
      show Steps p.tables e below (T124.setTop (mkF m 16 #[.val (.int p0), .val (.int p1), .val (.long p2), .second, .val (.int (3 : Int32)), .val (.ref b124)] [(.ref b124)])) _
      refine XS.iconst X124.here hx rfl (hb hby at_16) ?_
      show Steps p.tables e below (T124.setTop (mkF m 17 #[.val (.int p0), .val (.int p1), .val (.long p2), .second, .val (.int (3 : Int32)), .val (.ref b124)] [(.int (0 : Int32)), (.ref b124)])) _
      refine XS.lloadN X124.here hx rfl (hb hby at_17) rfl ?_
      show Steps p.tables e below (T124.setTop (mkF m 18 #[.val (.int p0), .val (.int p1), .val (.long p2), .second, .val (.int (3 : Int32)), .val (.ref b124)] [(.long p2), (.int (0 : Int32)), (.ref b124)])) _
      refine XS.l2i X124.here hx rfl (hb hby at_18) rfl ?_
      show Steps p.tables e below (T124.setTop (mkF m 19 #[.val (.int p0), .val (.int p1), .val (.long p2), .second, .val (.int (3 : Int32)), .val (.ref b124)] [(.int (p2.toInt32)), (.int (0 : Int32)), (.ref b124)])) _
      refine XS.i2b X124.here hx rfl (hb hby at_19) rfl ?_
      show Steps p.tables e below (T124.setTop (mkF m 20 #[.val (.int p0), .val (.int p1), .val (.long p2), .second, .val (.int (3 : Int32)), .val (.ref b124)] [(.int ((p2.toInt32).toInt8.toInt32)), (.int (0 : Int32)), (.ref b124)])) _
      refine st127 _ ?_
      show Steps p.tables e below (T127.setTop (mkF m 21 #[.val (.int p0), .val (.int p1), .val (.long p2), .second, .val (.int (3 : Int32)), .val (.ref b124)] [])) _
      refine XS.aload X127.here hx rfl (hb hby at_21) rfl rfl ?_
      show Steps p.tables e below (T127.setTop (mkF m 23 #[.val (.int p0), .val (.int p1), .val (.long p2), .second, .val (.int (3 : Int32)), .val (.ref b124)] [(.ref b124)])) _
      refine XS.iconst X127.here hx rfl (hb hby at_23) ?_
      show Steps p.tables e below (T127.setTop (mkF m 24 #[.val (.int p0), .val (.int p1), .val (.long p2), .second, .val (.int (3 : Int32)), .val (.ref b124)] [(.int (1 : Int32)), (.ref b124)])) _
      refine XS.lloadN X127.here hx rfl (hb hby at_24) rfl ?_
      show Steps p.tables e below (T127.setTop (mkF m 25 #[.val (.int p0), .val (.int p1), .val (.long p2), .second, .val (.int (3 : Int32)), .val (.ref b124)] [(.long p2), (.int (1 : Int32)), (.ref b124)])) _
      refine XS.bipush X127.here hx rfl (hb hby at_25) ?_
      show Steps p.tables e below (T127.setTop (mkF m 27 #[.val (.int p0), .val (.int p1), .val (.long p2), .second, .val (.int (3 : Int32)), .val (.ref b124)] [(.int (8 : Int32)), (.long p2), (.int (1 : Int32)), (.ref b124)])) _
      refine XS.lushr X127.here hx rfl (hb hby at_27) rfl ?_
      show Steps p.tables e below (T127.setTop (mkF m 28 #[.val (.int p0), .val (.int p1), .val (.long p2), .second, .val (.int (3 : Int32)), .val (.ref b124)] [(.long ((p2.toUInt64 >>> ((8 : Int32) &&& 0x3f).toInt64.toUInt64).toInt64)), (.int (1 : Int32)), (.ref b124)])) _
      refine XS.l2i X127.here hx rfl (hb hby at_28) rfl ?_
      show Steps p.tables e below (T127.setTop (mkF m 29 #[.val (.int p0), .val (.int p1), .val (.long p2), .second, .val (.int (3 : Int32)), .val (.ref b124)] [(.int (((p2.toUInt64 >>> ((8 : Int32) &&& 0x3f).toInt64.toUInt64).toInt64).toInt32)), (.int (1 : Int32)), (.ref b124)])) _
      refine XS.i2b X127.here hx rfl (hb hby at_29) rfl ?_
      show Steps p.tables e below (T127.setTop (mkF m 30 #[.val (.int p0), .val (.int p1), .val (.long p2), .second, .val (.int (3 : Int32)), .val (.ref b124)] [(.int ((((p2.toUInt64 >>> ((8 : Int32) &&& 0x3f).toInt64.toUInt64).toInt64).toInt32).toInt8.toInt32)), (.int (1 : Int32)), (.ref b124)])) _
      refine st130 _ ?_
      show Steps p.tables e below (T130.setTop (mkF m 31 #[.val (.int p0), .val (.int p1), .val (.long p2), .second, .val (.int (3 : Int32)), .val (.ref b124)] [])) _
      refine XS.aload X130.here hx rfl (hb hby at_31) rfl rfl ?_
      show Steps p.tables e below (T130.setTop (mkF m 33 #[.val (.int p0), .val (.int p1), .val (.long p2), .second, .val (.int (3 : Int32)), .val (.ref b124)] [(.ref b124)])) _
      refine XS.iconst X130.here hx rfl (hb hby at_33) ?_
      show Steps p.tables e below (T130.setTop (mkF m 34 #[.val (.int p0), .val (.int p1), .val (.long p2), .second, .val (.int (3 : Int32)), .val (.ref b124)] [(.int (2 : Int32)), (.ref b124)])) _
      refine XS.lloadN X130.here hx rfl (hb hby at_34) rfl ?_
      show Steps p.tables e below (T130.setTop (mkF m 35 #[.val (.int p0), .val (.int p1), .val (.long p2), .second, .val (.int (3 : Int32)), .val (.ref b124)] [(.long p2), (.int (2 : Int32)), (.ref b124)])) _
      refine XS.bipush X130.here hx rfl (hb hby at_35) ?_
      show Steps p.tables e below (T130.setTop (mkF m 37 #[.val (.int p0), .val (.int p1), .val (.long p2), .second, .val (.int (3 : Int32)), .val (.ref b124)] [(.int (16 : Int32)), (.long p2), (.int (2 : Int32)), (.ref b124)])) _
      refine XS.lushr X130.here hx rfl (hb hby at_37) rfl ?_
      show Steps p.tables e below (T130.setTop (mkF m 38 #[.val (.int p0), .val (.int p1), .val (.long p2), .second, .val (.int (3 : Int32)), .val (.ref b124)] [(.long ((p2.toUInt64 >>> ((16 : Int32) &&& 0x3f).toInt64.toUInt64).toInt64)), (.int (2 : Int32)), (.ref b124)])) _
      refine XS.l2i X130.here hx rfl (hb hby at_38) rfl ?_
      show Steps p.tables e below (T130.setTop (mkF m 39 #[.val (.int p0), .val (.int p1), .val (.long p2), .second, .val (.int (3 : Int32)), .val (.ref b124)] [(.int (((p2.toUInt64 >>> ((16 : Int32) &&& 0x3f).toInt64.toUInt64).toInt64).toInt32)), (.int (2 : Int32)), (.ref b124)])) _
      refine XS.i2b X130.here hx rfl (hb hby at_39) rfl ?_
      show Steps p.tables e below (T130.setTop (mkF m 40 #[.val (.int p0), .val (.int p1), .val (.long p2), .second, .val (.int (3 : Int32)), .val (.ref b124)] [(.int ((((p2.toUInt64 >>> ((16 : Int32) &&& 0x3f).toInt64.toUInt64).toInt64).toInt32).toInt8.toInt32)), (.int (2 : Int32)), (.ref b124)])) _
      refine st133 _ ?_
      show Steps p.tables e below (T133.setTop (mkF m 41 #[.val (.int p0), .val (.int p1), .val (.long p2), .second, .val (.int (3 : Int32)), .val (.ref b124)] [])) _
      refine XS.aload X133.here hx rfl (hb hby at_41) rfl rfl ?_
      show Steps p.tables e below (T133.setTop (mkF m 43 #[.val (.int p0), .val (.int p1), .val (.long p2), .second, .val (.int (3 : Int32)), .val (.ref b124)] [(.ref b124)])) _
      refine XS.iconst X133.here hx rfl (hb hby at_43) ?_
      show Steps p.tables e below (T133.setTop (mkF m 44 #[.val (.int p0), .val (.int p1), .val (.long p2), .second, .val (.int (3 : Int32)), .val (.ref b124)] [(.int (3 : Int32)), (.ref b124)])) _
      refine XS.lloadN X133.here hx rfl (hb hby at_44) rfl ?_
      show Steps p.tables e below (T133.setTop (mkF m 45 #[.val (.int p0), .val (.int p1), .val (.long p2), .second, .val (.int (3 : Int32)), .val (.ref b124)] [(.long p2), (.int (3 : Int32)), (.ref b124)])) _
      refine XS.bipush X133.here hx rfl (hb hby at_45) ?_
      show Steps p.tables e below (T133.setTop (mkF m 47 #[.val (.int p0), .val (.int p1), .val (.long p2), .second, .val (.int (3 : Int32)), .val (.ref b124)] [(.int (24 : Int32)), (.long p2), (.int (3 : Int32)), (.ref b124)])) _
      refine XS.lushr X133.here hx rfl (hb hby at_47) rfl ?_
      show Steps p.tables e below (T133.setTop (mkF m 48 #[.val (.int p0), .val (.int p1), .val (.long p2), .second, .val (.int (3 : Int32)), .val (.ref b124)] [(.long ((p2.toUInt64 >>> ((24 : Int32) &&& 0x3f).toInt64.toUInt64).toInt64)), (.int (3 : Int32)), (.ref b124)])) _
      refine XS.l2i X133.here hx rfl (hb hby at_48) rfl ?_
      show Steps p.tables e below (T133.setTop (mkF m 49 #[.val (.int p0), .val (.int p1), .val (.long p2), .second, .val (.int (3 : Int32)), .val (.ref b124)] [(.int (((p2.toUInt64 >>> ((24 : Int32) &&& 0x3f).toInt64.toUInt64).toInt64).toInt32)), (.int (3 : Int32)), (.ref b124)])) _
      refine XS.i2b X133.here hx rfl (hb hby at_49) rfl ?_
      show Steps p.tables e below (T133.setTop (mkF m 50 #[.val (.int p0), .val (.int p1), .val (.long p2), .second, .val (.int (3 : Int32)), .val (.ref b124)] [(.int ((((p2.toUInt64 >>> ((24 : Int32) &&& 0x3f).toInt64.toUInt64).toInt64).toInt32).toInt8.toInt32)), (.int (3 : Int32)), (.ref b124)])) _
      refine st136 _ ?_
      show Steps p.tables e below (T136.setTop (mkF m 51 #[.val (.int p0), .val (.int p1), .val (.long p2), .second, .val (.int (3 : Int32)), .val (.ref b124)] [])) _
      refine XS.aload X136.here hx rfl (hb hby at_51) rfl rfl ?_
      show Steps p.tables e below (T136.setTop (mkF m 53 #[.val (.int p0), .val (.int p1), .val (.long p2), .second, .val (.int (3 : Int32)), .val (.ref b124)] [(.ref b124)])) _
      refine XS.iconst X136.here hx rfl (hb hby at_53) ?_
      show Steps p.tables e below (T136.setTop (mkF m 54 #[.val (.int p0), .val (.int p1), .val (.long p2), .second, .val (.int (3 : Int32)), .val (.ref b124)] [(.int (4 : Int32)), (.ref b124)])) _
      refine XS.lloadN X136.here hx rfl (hb hby at_54) rfl ?_
      show Steps p.tables e below (T136.setTop (mkF m 55 #[.val (.int p0), .val (.int p1), .val (.long p2), .second, .val (.int (3 : Int32)), .val (.ref b124)] [(.long p2), (.int (4 : Int32)), (.ref b124)])) _
      refine XS.bipush X136.here hx rfl (hb hby at_55) ?_
      show Steps p.tables e below (T136.setTop (mkF m 57 #[.val (.int p0), .val (.int p1), .val (.long p2), .second, .val (.int (3 : Int32)), .val (.ref b124)] [(.int (32 : Int32)), (.long p2), (.int (4 : Int32)), (.ref b124)])) _
      refine XS.lushr X136.here hx rfl (hb hby at_57) rfl ?_
      show Steps p.tables e below (T136.setTop (mkF m 58 #[.val (.int p0), .val (.int p1), .val (.long p2), .second, .val (.int (3 : Int32)), .val (.ref b124)] [(.long ((p2.toUInt64 >>> ((32 : Int32) &&& 0x3f).toInt64.toUInt64).toInt64)), (.int (4 : Int32)), (.ref b124)])) _
      refine XS.l2i X136.here hx rfl (hb hby at_58) rfl ?_
      show Steps p.tables e below (T136.setTop (mkF m 59 #[.val (.int p0), .val (.int p1), .val (.long p2), .second, .val (.int (3 : Int32)), .val (.ref b124)] [(.int (((p2.toUInt64 >>> ((32 : Int32) &&& 0x3f).toInt64.toUInt64).toInt64).toInt32)), (.int (4 : Int32)), (.ref b124)])) _
      refine XS.i2b X136.here hx rfl (hb hby at_59) rfl ?_
      show Steps p.tables e below (T136.setTop (mkF m 60 #[.val (.int p0), .val (.int p1), .val (.long p2), .second, .val (.int (3 : Int32)), .val (.ref b124)] [(.int ((((p2.toUInt64 >>> ((32 : Int32) &&& 0x3f).toInt64.toUInt64).toInt64).toInt32).toInt8.toInt32)), (.int (4 : Int32)), (.ref b124)])) _
      refine st139 _ ?_
      show Steps p.tables e below (T139.setTop (mkF m 61 #[.val (.int p0), .val (.int p1), .val (.long p2), .second, .val (.int (3 : Int32)), .val (.ref b124)] [])) _
      refine XS.aload X139.here hx rfl (hb hby at_61) rfl rfl ?_
      show Steps p.tables e below (T139.setTop (mkF m 63 #[.val (.int p0), .val (.int p1), .val (.long p2), .second, .val (.int (3 : Int32)), .val (.ref b124)] [(.ref b124)])) _
      refine XS.iconst X139.here hx rfl (hb hby at_63) ?_
      show Steps p.tables e below (T139.setTop (mkF m 64 #[.val (.int p0), .val (.int p1), .val (.long p2), .second, .val (.int (3 : Int32)), .val (.ref b124)] [(.int (5 : Int32)), (.ref b124)])) _
      refine XS.lloadN X139.here hx rfl (hb hby at_64) rfl ?_
      show Steps p.tables e below (T139.setTop (mkF m 65 #[.val (.int p0), .val (.int p1), .val (.long p2), .second, .val (.int (3 : Int32)), .val (.ref b124)] [(.long p2), (.int (5 : Int32)), (.ref b124)])) _
      refine XS.bipush X139.here hx rfl (hb hby at_65) ?_
      show Steps p.tables e below (T139.setTop (mkF m 67 #[.val (.int p0), .val (.int p1), .val (.long p2), .second, .val (.int (3 : Int32)), .val (.ref b124)] [(.int (40 : Int32)), (.long p2), (.int (5 : Int32)), (.ref b124)])) _
      refine XS.lushr X139.here hx rfl (hb hby at_67) rfl ?_
      show Steps p.tables e below (T139.setTop (mkF m 68 #[.val (.int p0), .val (.int p1), .val (.long p2), .second, .val (.int (3 : Int32)), .val (.ref b124)] [(.long ((p2.toUInt64 >>> ((40 : Int32) &&& 0x3f).toInt64.toUInt64).toInt64)), (.int (5 : Int32)), (.ref b124)])) _
      refine XS.l2i X139.here hx rfl (hb hby at_68) rfl ?_
      show Steps p.tables e below (T139.setTop (mkF m 69 #[.val (.int p0), .val (.int p1), .val (.long p2), .second, .val (.int (3 : Int32)), .val (.ref b124)] [(.int (((p2.toUInt64 >>> ((40 : Int32) &&& 0x3f).toInt64.toUInt64).toInt64).toInt32)), (.int (5 : Int32)), (.ref b124)])) _
      refine XS.i2b X139.here hx rfl (hb hby at_69) rfl ?_
      show Steps p.tables e below (T139.setTop (mkF m 70 #[.val (.int p0), .val (.int p1), .val (.long p2), .second, .val (.int (3 : Int32)), .val (.ref b124)] [(.int ((((p2.toUInt64 >>> ((40 : Int32) &&& 0x3f).toInt64.toUInt64).toInt64).toInt32).toInt8.toInt32)), (.int (5 : Int32)), (.ref b124)])) _
      refine st142 _ ?_
      show Steps p.tables e below (T142.setTop (mkF m 71 #[.val (.int p0), .val (.int p1), .val (.long p2), .second, .val (.int (3 : Int32)), .val (.ref b124)] [])) _
      refine XS.aload X142.here hx rfl (hb hby at_71) rfl rfl ?_
      show Steps p.tables e below (T142.setTop (mkF m 73 #[.val (.int p0), .val (.int p1), .val (.long p2), .second, .val (.int (3 : Int32)), .val (.ref b124)] [(.ref b124)])) _
      refine XS.bipush X142.here hx rfl (hb hby at_73) ?_
      show Steps p.tables e below (T142.setTop (mkF m 75 #[.val (.int p0), .val (.int p1), .val (.long p2), .second, .val (.int (3 : Int32)), .val (.ref b124)] [(.int (6 : Int32)), (.ref b124)])) _
      refine XS.lloadN X142.here hx rfl (hb hby at_75) rfl ?_
      show Steps p.tables e below (T142.setTop (mkF m 76 #[.val (.int p0), .val (.int p1), .val (.long p2), .second, .val (.int (3 : Int32)), .val (.ref b124)] [(.long p2), (.int (6 : Int32)), (.ref b124)])) _
      refine XS.bipush X142.here hx rfl (hb hby at_76) ?_
      show Steps p.tables e below (T142.setTop (mkF m 78 #[.val (.int p0), .val (.int p1), .val (.long p2), .second, .val (.int (3 : Int32)), .val (.ref b124)] [(.int (48 : Int32)), (.long p2), (.int (6 : Int32)), (.ref b124)])) _
      refine XS.lushr X142.here hx rfl (hb hby at_78) rfl ?_
      show Steps p.tables e below (T142.setTop (mkF m 79 #[.val (.int p0), .val (.int p1), .val (.long p2), .second, .val (.int (3 : Int32)), .val (.ref b124)] [(.long ((p2.toUInt64 >>> ((48 : Int32) &&& 0x3f).toInt64.toUInt64).toInt64)), (.int (6 : Int32)), (.ref b124)])) _
      refine XS.l2i X142.here hx rfl (hb hby at_79) rfl ?_
      show Steps p.tables e below (T142.setTop (mkF m 80 #[.val (.int p0), .val (.int p1), .val (.long p2), .second, .val (.int (3 : Int32)), .val (.ref b124)] [(.int (((p2.toUInt64 >>> ((48 : Int32) &&& 0x3f).toInt64.toUInt64).toInt64).toInt32)), (.int (6 : Int32)), (.ref b124)])) _
      refine XS.i2b X142.here hx rfl (hb hby at_80) rfl ?_
      show Steps p.tables e below (T142.setTop (mkF m 81 #[.val (.int p0), .val (.int p1), .val (.long p2), .second, .val (.int (3 : Int32)), .val (.ref b124)] [(.int ((((p2.toUInt64 >>> ((48 : Int32) &&& 0x3f).toInt64.toUInt64).toInt64).toInt32).toInt8.toInt32)), (.int (6 : Int32)), (.ref b124)])) _
      refine st145 _ ?_
      show Steps p.tables e below (T145.setTop (mkF m 82 #[.val (.int p0), .val (.int p1), .val (.long p2), .second, .val (.int (3 : Int32)), .val (.ref b124)] [])) _
      refine XS.aload X145.here hx rfl (hb hby at_82) rfl rfl ?_
      show Steps p.tables e below (T145.setTop (mkF m 84 #[.val (.int p0), .val (.int p1), .val (.long p2), .second, .val (.int (3 : Int32)), .val (.ref b124)] [(.ref b124)])) _
      refine XS.bipush X145.here hx rfl (hb hby at_84) ?_
      show Steps p.tables e below (T145.setTop (mkF m 86 #[.val (.int p0), .val (.int p1), .val (.long p2), .second, .val (.int (3 : Int32)), .val (.ref b124)] [(.int (7 : Int32)), (.ref b124)])) _
      refine XS.lloadN X145.here hx rfl (hb hby at_86) rfl ?_
      show Steps p.tables e below (T145.setTop (mkF m 87 #[.val (.int p0), .val (.int p1), .val (.long p2), .second, .val (.int (3 : Int32)), .val (.ref b124)] [(.long p2), (.int (7 : Int32)), (.ref b124)])) _
      refine XS.bipush X145.here hx rfl (hb hby at_87) ?_
      show Steps p.tables e below (T145.setTop (mkF m 89 #[.val (.int p0), .val (.int p1), .val (.long p2), .second, .val (.int (3 : Int32)), .val (.ref b124)] [(.int (56 : Int32)), (.long p2), (.int (7 : Int32)), (.ref b124)])) _
      refine XS.lushr X145.here hx rfl (hb hby at_89) rfl ?_
      show Steps p.tables e below (T145.setTop (mkF m 90 #[.val (.int p0), .val (.int p1), .val (.long p2), .second, .val (.int (3 : Int32)), .val (.ref b124)] [(.long ((p2.toUInt64 >>> ((56 : Int32) &&& 0x3f).toInt64.toUInt64).toInt64)), (.int (7 : Int32)), (.ref b124)])) _
      refine XS.l2i X145.here hx rfl (hb hby at_90) rfl ?_
      show Steps p.tables e below (T145.setTop (mkF m 91 #[.val (.int p0), .val (.int p1), .val (.long p2), .second, .val (.int (3 : Int32)), .val (.ref b124)] [(.int (((p2.toUInt64 >>> ((56 : Int32) &&& 0x3f).toInt64.toUInt64).toInt64).toInt32)), (.int (7 : Int32)), (.ref b124)])) _
      refine XS.i2b X145.here hx rfl (hb hby at_91) rfl ?_
      show Steps p.tables e below (T145.setTop (mkF m 92 #[.val (.int p0), .val (.int p1), .val (.long p2), .second, .val (.int (3 : Int32)), .val (.ref b124)] [(.int ((((p2.toUInt64 >>> ((56 : Int32) &&& 0x3f).toInt64.toUInt64).toInt64).toInt32).toInt8.toInt32)), (.int (7 : Int32)), (.ref b124)])) _
      refine st148 _ ?_
      show Steps p.tables e below (T148.setTop (mkF m 93 #[.val (.int p0), .val (.int p1), .val (.long p2), .second, .val (.int (3 : Int32)), .val (.ref b124)] [])) _
      refine XS.aload X148.here hx rfl (hb hby at_93) rfl rfl ?_
      show Steps p.tables e below (T148.setTop (mkF m 95 #[.val (.int p0), .val (.int p1), .val (.long p2), .second, .val (.int (3 : Int32)), .val (.ref b124)] [(.ref b124)])) _
      refine XS.iload X148.here hx rfl (hb hby at_95) rfl ?_
      show Steps p.tables e below (T148.setTop (mkF m 97 #[.val (.int p0), .val (.int p1), .val (.long p2), .second, .val (.int (3 : Int32)), .val (.ref b124)] [(.int (3 : Int32)), (.ref b124)])) _
      refine XS.iloadN X148.here hx rfl (hb hby at_97) rfl ?_
      show Steps p.tables e below (T148.setTop (mkF m 98 #[.val (.int p0), .val (.int p1), .val (.long p2), .second, .val (.int (3 : Int32)), .val (.ref b124)] [(.int p0), (.int (3 : Int32)), (.ref b124)])) _
      refine XS.bipush X148.here hx rfl (hb hby at_98) ?_
      show Steps p.tables e below (T148.setTop (mkF m 100 #[.val (.int p0), .val (.int p1), .val (.long p2), .second, .val (.int (3 : Int32)), .val (.ref b124)] [(.int (24 : Int32)), (.int p0), (.int (3 : Int32)), (.ref b124)])) _
      refine XS.iushr X148.here hx rfl (hb hby at_100) rfl ?_
      show Steps p.tables e below (T148.setTop (mkF m 101 #[.val (.int p0), .val (.int p1), .val (.long p2), .second, .val (.int (3 : Int32)), .val (.ref b124)] [(.int ((p0.toUInt32 >>> ((24 : Int32) &&& 31).toUInt32).toInt32)), (.int (3 : Int32)), (.ref b124)])) _
      refine XS.i2b X148.here hx rfl (hb hby at_101) rfl ?_
      show Steps p.tables e below (T148.setTop (mkF m 102 #[.val (.int p0), .val (.int p1), .val (.long p2), .second, .val (.int (3 : Int32)), .val (.ref b124)] [(.int (((p0.toUInt32 >>> ((24 : Int32) &&& 31).toUInt32).toInt32).toInt8.toInt32)), (.int (3 : Int32)), (.ref b124)])) _
      refine st151 _ ?_
      show Steps p.tables e below (T151.setTop (mkF m 103 #[.val (.int p0), .val (.int p1), .val (.long p2), .second, .val (.int (3 : Int32)), .val (.ref b124)] [])) _
      refine XS.aload X151.here hx rfl (hb hby at_103) rfl rfl ?_
      show Steps p.tables e below (T151.setTop (mkF m 105 #[.val (.int p0), .val (.int p1), .val (.long p2), .second, .val (.int (3 : Int32)), .val (.ref b124)] [(.ref b124)])) _
      refine XS.iload X151.here hx rfl (hb hby at_105) rfl ?_
      show Steps p.tables e below (T151.setTop (mkF m 107 #[.val (.int p0), .val (.int p1), .val (.long p2), .second, .val (.int (3 : Int32)), .val (.ref b124)] [(.int (3 : Int32)), (.ref b124)])) _
      refine XS.iconst X151.here hx rfl (hb hby at_107) ?_
      show Steps p.tables e below (T151.setTop (mkF m 108 #[.val (.int p0), .val (.int p1), .val (.long p2), .second, .val (.int (3 : Int32)), .val (.ref b124)] [(.int (1 : Int32)), (.int (3 : Int32)), (.ref b124)])) _
      refine XS.iadd X151.here hx rfl (hb hby at_108) rfl ?_
      show Steps p.tables e below (T151.setTop (mkF m 109 #[.val (.int p0), .val (.int p1), .val (.long p2), .second, .val (.int (3 : Int32)), .val (.ref b124)] [(.int (4 : Int32)), (.ref b124)])) _
      refine XS.iloadN X151.here hx rfl (hb hby at_109) rfl ?_
      show Steps p.tables e below (T151.setTop (mkF m 110 #[.val (.int p0), .val (.int p1), .val (.long p2), .second, .val (.int (3 : Int32)), .val (.ref b124)] [(.int p0), (.int (4 : Int32)), (.ref b124)])) _
      refine XS.bipush X151.here hx rfl (hb hby at_110) ?_
      show Steps p.tables e below (T151.setTop (mkF m 112 #[.val (.int p0), .val (.int p1), .val (.long p2), .second, .val (.int (3 : Int32)), .val (.ref b124)] [(.int (16 : Int32)), (.int p0), (.int (4 : Int32)), (.ref b124)])) _
      refine XS.iushr X151.here hx rfl (hb hby at_112) rfl ?_
      show Steps p.tables e below (T151.setTop (mkF m 113 #[.val (.int p0), .val (.int p1), .val (.long p2), .second, .val (.int (3 : Int32)), .val (.ref b124)] [(.int ((p0.toUInt32 >>> ((16 : Int32) &&& 31).toUInt32).toInt32)), (.int (4 : Int32)), (.ref b124)])) _
      refine XS.i2b X151.here hx rfl (hb hby at_113) rfl ?_
      show Steps p.tables e below (T151.setTop (mkF m 114 #[.val (.int p0), .val (.int p1), .val (.long p2), .second, .val (.int (3 : Int32)), .val (.ref b124)] [(.int (((p0.toUInt32 >>> ((16 : Int32) &&& 31).toUInt32).toInt32).toInt8.toInt32)), (.int (4 : Int32)), (.ref b124)])) _
      refine st154 _ ?_
      show Steps p.tables e below (T154.setTop (mkF m 115 #[.val (.int p0), .val (.int p1), .val (.long p2), .second, .val (.int (3 : Int32)), .val (.ref b124)] [])) _
      refine XS.aload X154.here hx rfl (hb hby at_115) rfl rfl ?_
      show Steps p.tables e below (T154.setTop (mkF m 117 #[.val (.int p0), .val (.int p1), .val (.long p2), .second, .val (.int (3 : Int32)), .val (.ref b124)] [(.ref b124)])) _
      refine XS.iload X154.here hx rfl (hb hby at_117) rfl ?_
      show Steps p.tables e below (T154.setTop (mkF m 119 #[.val (.int p0), .val (.int p1), .val (.long p2), .second, .val (.int (3 : Int32)), .val (.ref b124)] [(.int (3 : Int32)), (.ref b124)])) _
      refine XS.iconst X154.here hx rfl (hb hby at_119) ?_
      show Steps p.tables e below (T154.setTop (mkF m 120 #[.val (.int p0), .val (.int p1), .val (.long p2), .second, .val (.int (3 : Int32)), .val (.ref b124)] [(.int (2 : Int32)), (.int (3 : Int32)), (.ref b124)])) _
      refine XS.iadd X154.here hx rfl (hb hby at_120) rfl ?_
      show Steps p.tables e below (T154.setTop (mkF m 121 #[.val (.int p0), .val (.int p1), .val (.long p2), .second, .val (.int (3 : Int32)), .val (.ref b124)] [(.int (5 : Int32)), (.ref b124)])) _
      refine XS.iloadN X154.here hx rfl (hb hby at_121) rfl ?_
      show Steps p.tables e below (T154.setTop (mkF m 122 #[.val (.int p0), .val (.int p1), .val (.long p2), .second, .val (.int (3 : Int32)), .val (.ref b124)] [(.int p0), (.int (5 : Int32)), (.ref b124)])) _
      refine XS.bipush X154.here hx rfl (hb hby at_122) ?_
      show Steps p.tables e below (T154.setTop (mkF m 124 #[.val (.int p0), .val (.int p1), .val (.long p2), .second, .val (.int (3 : Int32)), .val (.ref b124)] [(.int (8 : Int32)), (.int p0), (.int (5 : Int32)), (.ref b124)])) _
      refine XS.iushr X154.here hx rfl (hb hby at_124) rfl ?_
      show Steps p.tables e below (T154.setTop (mkF m 125 #[.val (.int p0), .val (.int p1), .val (.long p2), .second, .val (.int (3 : Int32)), .val (.ref b124)] [(.int ((p0.toUInt32 >>> ((8 : Int32) &&& 31).toUInt32).toInt32)), (.int (5 : Int32)), (.ref b124)])) _
      refine XS.i2b X154.here hx rfl (hb hby at_125) rfl ?_
      show Steps p.tables e below (T154.setTop (mkF m 126 #[.val (.int p0), .val (.int p1), .val (.long p2), .second, .val (.int (3 : Int32)), .val (.ref b124)] [(.int (((p0.toUInt32 >>> ((8 : Int32) &&& 31).toUInt32).toInt32).toInt8.toInt32)), (.int (5 : Int32)), (.ref b124)])) _
      refine st157 _ ?_
      show Steps p.tables e below (T157.setTop (mkF m 127 #[.val (.int p0), .val (.int p1), .val (.long p2), .second, .val (.int (3 : Int32)), .val (.ref b124)] [])) _
      refine XS.aload X157.here hx rfl (hb hby at_127) rfl rfl ?_
      show Steps p.tables e below (T157.setTop (mkF m 129 #[.val (.int p0), .val (.int p1), .val (.long p2), .second, .val (.int (3 : Int32)), .val (.ref b124)] [(.ref b124)])) _
      refine XS.iload X157.here hx rfl (hb hby at_129) rfl ?_
      show Steps p.tables e below (T157.setTop (mkF m 131 #[.val (.int p0), .val (.int p1), .val (.long p2), .second, .val (.int (3 : Int32)), .val (.ref b124)] [(.int (3 : Int32)), (.ref b124)])) _
      refine XS.iconst X157.here hx rfl (hb hby at_131) ?_
      show Steps p.tables e below (T157.setTop (mkF m 132 #[.val (.int p0), .val (.int p1), .val (.long p2), .second, .val (.int (3 : Int32)), .val (.ref b124)] [(.int (3 : Int32)), (.int (3 : Int32)), (.ref b124)])) _
      refine XS.iadd X157.here hx rfl (hb hby at_132) rfl ?_
      show Steps p.tables e below (T157.setTop (mkF m 133 #[.val (.int p0), .val (.int p1), .val (.long p2), .second, .val (.int (3 : Int32)), .val (.ref b124)] [(.int (6 : Int32)), (.ref b124)])) _
      refine XS.iloadN X157.here hx rfl (hb hby at_133) rfl ?_
      show Steps p.tables e below (T157.setTop (mkF m 134 #[.val (.int p0), .val (.int p1), .val (.long p2), .second, .val (.int (3 : Int32)), .val (.ref b124)] [(.int p0), (.int (6 : Int32)), (.ref b124)])) _
      refine XS.i2b X157.here hx rfl (hb hby at_134) rfl ?_
      show Steps p.tables e below (T157.setTop (mkF m 135 #[.val (.int p0), .val (.int p1), .val (.long p2), .second, .val (.int (3 : Int32)), .val (.ref b124)] [(.int (p0.toInt8.toInt32)), (.int (6 : Int32)), (.ref b124)])) _
      refine st160 _ ?_
      show Steps p.tables e below (T160.setTop (mkF m 136 #[.val (.int p0), .val (.int p1), .val (.long p2), .second, .val (.int (3 : Int32)), .val (.ref b124)] [])) _
      refine XS.aload X160.here hx rfl (hb hby at_136) rfl rfl ?_
      show Steps p.tables e below (T160.setTop (mkF m 138 #[.val (.int p0), .val (.int p1), .val (.long p2), .second, .val (.int (3 : Int32)), .val (.ref b124)] [(.ref b124)])) _
      refine XS.iload X160.here hx rfl (hb hby at_138) rfl ?_
      show Steps p.tables e below (T160.setTop (mkF m 140 #[.val (.int p0), .val (.int p1), .val (.long p2), .second, .val (.int (3 : Int32)), .val (.ref b124)] [(.int (3 : Int32)), (.ref b124)])) _
      refine st161 _ ?_
      show Steps p.tables e below (T161.setTop (mkF m 143 #[.val (.int p0), .val (.int p1), .val (.long p2), .second, .val (.int (3 : Int32)), .val (.ref b124)] [(.int (own_be ((((p0.toUInt32 >>> ((24 : Int32) &&& 31).toUInt32).toInt32).toInt8.toInt32).toInt8.toInt32) ((((p0.toUInt32 >>> ((16 : Int32) &&& 31).toUInt32).toInt32).toInt8.toInt32).toInt8.toInt32) ((((p0.toUInt32 >>> ((8 : Int32) &&& 31).toUInt32).toInt32).toInt8.toInt32).toInt8.toInt32) ((p0.toInt8.toInt32).toInt8.toInt32)))])) _
      refine XS.iloadN X161.here hx rfl (hb hby at_143) rfl ?_
      show Steps p.tables e below (T161.setTop (mkF m 144 #[.val (.int p0), .val (.int p1), .val (.long p2), .second, .val (.int (3 : Int32)), .val (.ref b124)] [(.int p0), (.int (own_be ((((p0.toUInt32 >>> ((24 : Int32) &&& 31).toUInt32).toInt32).toInt8.toInt32).toInt8.toInt32) ((((p0.toUInt32 >>> ((16 : Int32) &&& 31).toUInt32).toInt32).toInt8.toInt32).toInt8.toInt32) ((((p0.toUInt32 >>> ((8 : Int32) &&& 31).toUInt32).toInt32).toInt8.toInt32).toInt8.toInt32) ((p0.toInt8.toInt32).toInt8.toInt32)))])) _
      refine XS.icmpNo X161.here hx rfl (hb hby at_144) rfl (teq (own_be_ok p0)).2 ?_
      show Steps p.tables e below (T161.setTop (mkF m 147 #[.val (.int p0), .val (.int p1), .val (.long p2), .second, .val (.int (3 : Int32)), .val (.ref b124)] [])) _
      refine XS.iconst X161.here hx rfl (hb hby at_147) ?_
      show Steps p.tables e below (T161.setTop (mkF m 148 #[.val (.int p0), .val (.int p1), .val (.long p2), .second, .val (.int (3 : Int32)), .val (.ref b124)] [(.int (1 : Int32))])) _
      refine XS.goto X161.here hx rfl (pc0 := 148) (pc' := 152) rfl (hb hby at_148) (by decide) (by decide) ?_
      exact Steps.refl _
    obtain ⟨fs, hr, hrun, hended, hW, hsame⟩ := X161.leave (v := some (.int (1 : Int32))) (fun h => by rw [Bd.returns] at h; cases h)
    refine ⟨_, _, s162.trans ?_, hrun, hended, _, _, rfl, ?_, ⟨_, rfl⟩, hW, hsame.mono (by decide) (by decide)⟩
    · show Steps p.tables e below (T161.setTop (mkF m 152 #[.val (.int p0), .val (.int p1), .val (.long p2), .second, .val (.int (3 : Int32)), .val (.ref b124)] [(.int (1 : Int32))])) _
      exact retN X161 hx (t := .boolean) Bd.returns (by simp) (hb hby at_152) hr
    · show Q0 Z p0 p1 p2 h0 n0 _ T161.heap _
      rw [e161]
      exact ⟨rfl, N161⟩
  · have s163 := s1
    rw [hk2] at s163
    obtain ⟨T164, h164, k164, X164, e164, E164, A164, st164⟩ := newP X0 hx hZ (hw _ (List.mem_of_getElem? (i := 1) rfl)) e0 (g := (mkF m 10 #[.val (.int p0), .val (.int p1), .val (.long p2), .second, .val (.int (4 : Int32)), .unset] [(.int (8 : Int32))])) rfl (hb hby at_10) rfl (by decide) (cap := 8) (by decide) (by decide) (by decide) (by decide)
    obtain ⟨b164, g164⟩ : ∃ z, z = h0.size := ⟨_, rfl⟩
    rw [← g164] at A164 st164
    have g_b164 : n0 ≤ b164 := Nat.le_trans (Nat.le_of_eq O0.1.symm) (Nat.le_trans O0.2.1 (Nat.le_of_eq g164.symm))
    have O164 := O0.ext E164
    have V164 : Arv Z h164 b164 k164 .byte (8 : Int32) [(.int (0 : Int32)), (.int (0 : Int32)), (.int (0 : Int32)), (.int (0 : Int32)), (.int (0 : Int32)), (.int (0 : Int32)), (.int (0 : Int32)), (.int (0 : Int32))] (.int (0 : Int32)) := (Arv.new A164 (by decide)).pad (pad_rep [] (.int (0 : Int32)) 8)
    obtain ⟨cla165, Ara165, qa165, Sa165, Za165, Ha165, Ga165⟩ := id V164
    have hin166 : ¬ ((0 : Int32) < 0 ∨ cla165.slots.size ≤ ((0 : Int32)).toNatClampNeg) := inb_of Sa165 ⟨by decide, by decide⟩
    obtain ⟨T167, h167, X167, e167, W167, st167⟩ := stB X164 hx hZ e164 Ara165 (j := (0 : Int32)) hin166 (g := (mkF m 20 #[.val (.int p0), .val (.int p1), .val (.long p2), .second, .val (.int (4 : Int32)), .val (.ref b164)] [(.int ((p2.toInt32).toInt8.toInt32)), (.int (0 : Int32)), (.ref b164)])) rfl rfl (hb hby at_20)
    have O167 := O164.wr W167 g_b164
    have N167 := Fr.snoc X167 N0 g_b164
    have V167 : Arv Z h167 b164 k164 .byte (8 : Int32) [(.int (((p2.toInt32).toInt8.toInt32).toInt8.toInt32)), (.int (0 : Int32)), (.int (0 : Int32)), (.int (0 : Int32)), (.int (0 : Int32)), (.int (0 : Int32)), (.int (0 : Int32)), (.int (0 : Int32))] (.int (0 : Int32)) := Arv.set Ara165 qa165 Sa165 Za165 Ha165 Ga165 (fits_nar_byte _) W167 0 rfl (Nat.le_of_ble_eq_true rfl)
    obtain ⟨cla168, Ara168, qa168, Sa168, Za168, Ha168, Ga168⟩ := id V167
    have hin169 : ¬ ((1 : Int32) < 0 ∨ cla168.slots.size ≤ ((1 : Int32)).toNatClampNeg) := inb_of Sa168 ⟨by decide, by decide⟩
    obtain ⟨T170, h170, X170, e170, W170, st170⟩ := stB X167 hx hZ e167 Ara168 (j := (1 : Int32)) hin169 (g := (mkF m 30 #[.val (.int p0), .val (.int p1), .val (.long p2), .second, .val (.int (4 : Int32)), .val (.ref b164)] [(.int ((((p2.toUInt64 >>> ((8 : Int32) &&& 0x3f).toInt64.toUInt64).toInt64).toInt32).toInt8.toInt32)), (.int (1 : Int32)), (.ref b164)])) rfl rfl (hb hby at_30)
    have O170 := O167.wr W170 g_b164
    have N170 := Fr.snoc X170 N167 g_b164
    have V170 : Arv Z h170 b164 k164 .byte (8 : Int32) [(.int (((p2.toInt32).toInt8.toInt32).toInt8.toInt32)), (.int (((((p2.toUInt64 >>> ((8 : Int32) &&& 0x3f).toInt64.toUInt64).toInt64).toInt32).toInt8.toInt32).toInt8.toInt32)), (.int (0 : Int32)), (.int (0 : Int32)), (.int (0 : Int32)), (.int (0 : Int32)), (.int (0 : Int32)), (.int (0 : Int32))] (.int (0 : Int32)) := Arv.set Ara168 qa168 Sa168 Za168 Ha168 Ga168 (fits_nar_byte _) W170 1 rfl (Nat.le_of_ble_eq_true rfl)
    obtain ⟨cla171, Ara171, qa171, Sa171, Za171, Ha171, Ga171⟩ := id V170
    have hin172 : ¬ ((2 : Int32) < 0 ∨ cla171.slots.size ≤ ((2 : Int32)).toNatClampNeg) := inb_of Sa171 ⟨by decide, by decide⟩
    obtain ⟨T173, h173, X173, e173, W173, st173⟩ := stB X170 hx hZ e170 Ara171 (j := (2 : Int32)) hin172 (g := (mkF m 40 #[.val (.int p0), .val (.int p1), .val (.long p2), .second, .val (.int (4 : Int32)), .val (.ref b164)] [(.int ((((p2.toUInt64 >>> ((16 : Int32) &&& 0x3f).toInt64.toUInt64).toInt64).toInt32).toInt8.toInt32)), (.int (2 : Int32)), (.ref b164)])) rfl rfl (hb hby at_40)
    have O173 := O170.wr W173 g_b164
    have N173 := Fr.snoc X173 N170 g_b164
    have V173 : Arv Z h173 b164 k164 .byte (8 : Int32) [(.int (((p2.toInt32).toInt8.toInt32).toInt8.toInt32)), (.int (((((p2.toUInt64 >>> ((8 : Int32) &&& 0x3f).toInt64.toUInt64).toInt64).toInt32).toInt8.toInt32).toInt8.toInt32)), (.int (((((p2.toUInt64 >>> ((16 : Int32) &&& 0x3f).toInt64.toUInt64).toInt64).toInt32).toInt8.toInt32).toInt8.toInt32)), (.int (0 : Int32)), (.int (0 : Int32)), (.int (0 : Int32)), (.int (0 : Int32)), (.int (0 : Int32))] (.int (0 : Int32)) := Arv.set Ara171 qa171 Sa171 Za171 Ha171 Ga171 (fits_nar_byte _) W173 2 rfl (Nat.le_of_ble_eq_true rfl)
    obtain ⟨cla174, Ara174, qa174, Sa174, Za174, Ha174, Ga174⟩ := id V173
    have hin175 : ¬ ((3 : Int32) < 0 ∨ cla174.slots.size ≤ ((3 : Int32)).toNatClampNeg) := inb_of Sa174 ⟨by decide, by decide⟩
    obtain ⟨T176, h176, X176, e176, W176, st176⟩ := stB X173 hx hZ e173 Ara174 (j := (3 : Int32)) hin175 (g := (mkF m 50 #[.val (.int p0), .val (.int p1), .val (.long p2), .second, .val (.int (4 : Int32)), .val (.ref b164)] [(.int ((((p2.toUInt64 >>> ((24 : Int32) &&& 0x3f).toInt64.toUInt64).toInt64).toInt32).toInt8.toInt32)), (.int (3 : Int32)), (.ref b164)])) rfl rfl (hb hby at_50)
    have O176 := O173.wr W176 g_b164
    have N176 := Fr.snoc X176 N173 g_b164
    have V176 : Arv Z h176 b164 k164 .byte (8 : Int32) [(.int (((p2.toInt32).toInt8.toInt32).toInt8.toInt32)), (.int (((((p2.toUInt64 >>> ((8 : Int32) &&& 0x3f).toInt64.toUInt64).toInt64).toInt32).toInt8.toInt32).toInt8.toInt32)), (.int (((((p2.toUInt64 >>> ((16 : Int32) &&& 0x3f).toInt64.toUInt64).toInt64).toInt32).toInt8.toInt32).toInt8.toInt32)), (.int (((((p2.toUInt64 >>> ((24 : Int32) &&& 0x3f).toInt64.toUInt64).toInt64).toInt32).toInt8.toInt32).toInt8.toInt32)), (.int (0 : Int32)), (.int (0 : Int32)), (.int (0 : Int32)), (.int (0 : Int32))] (.int (0 : Int32)) := Arv.set Ara174 qa174 Sa174 Za174 Ha174 Ga174 (fits_nar_byte _) W176 3 rfl (Nat.le_of_ble_eq_true rfl)
    obtain ⟨cla177, Ara177, qa177, Sa177, Za177, Ha177, Ga177⟩ := id V176
    have hin178 : ¬ ((4 : Int32) < 0 ∨ cla177.slots.size ≤ ((4 : Int32)).toNatClampNeg) := inb_of Sa177 ⟨by decide, by decide⟩
    obtain ⟨T179, h179, X179, e179, W179, st179⟩ := stB X176 hx hZ e176 Ara177 (j := (4 : Int32)) hin178 (g := (mkF m 60 #[.val (.int p0), .val (.int p1), .val (.long p2), .second, .val (.int (4 : Int32)), .val (.ref b164)] [(.int ((((p2.toUInt64 >>> ((32 : Int32) &&& 0x3f).toInt64.toUInt64).toInt64).toInt32).toInt8.toInt32)), (.int (4 : Int32)), (.ref b164)])) rfl rfl (hb hby at_60)
    have O179 := O176.wr W179 g_b164
    have N179 := Fr.snoc X179 N176 g_b164
    have V179 : Arv Z h179 b164 k164 .byte (8 : Int32) [(.int (((p2.toInt32).toInt8.toInt32).toInt8.toInt32)), (.int (((((p2.toUInt64 >>> ((8 : Int32) &&& 0x3f).toInt64.toUInt64).toInt64).toInt32).toInt8.toInt32).toInt8.toInt32)), (.int (((((p2.toUInt64 >>> ((16 : Int32) &&& 0x3f).toInt64.toUInt64).toInt64).toInt32).toInt8.toInt32).toInt8.toInt32)), (.int (((((p2.toUInt64 >>> ((24 : Int32) &&& 0x3f).toInt64.toUInt64).toInt64).toInt32).toInt8.toInt32).toInt8.toInt32)), (.int (((((p2.toUInt64 >>> ((32 : Int32) &&& 0x3f).toInt64.toUInt64).toInt64).toInt32).toInt8.toInt32).toInt8.toInt32)), (.int (0 : Int32)), (.int (0 : Int32)), (.int (0 : Int32))] (.int (0 : Int32)) := Arv.set Ara177 qa177 Sa177 Za177 Ha177 Ga177 (fits_nar_byte _) W179 4 rfl (Nat.le_of_ble_eq_true rfl)
    obtain ⟨cla180, Ara180, qa180, Sa180, Za180, Ha180, Ga180⟩ := id V179
    have hin181 : ¬ ((5 : Int32) < 0 ∨ cla180.slots.size ≤ ((5 : Int32)).toNatClampNeg) := inb_of Sa180 ⟨by decide, by decide⟩
    obtain ⟨T182, h182, X182, e182, W182, st182⟩ := stB X179 hx hZ e179 Ara180 (j := (5 : Int32)) hin181 (g := (mkF m 70 #[.val (.int p0), .val (.int p1), .val (.long p2), .second, .val (.int (4 : Int32)), .val (.ref b164)] [(.int ((((p2.toUInt64 >>> ((40 : Int32) &&& 0x3f).toInt64.toUInt64).toInt64).toInt32).toInt8.toInt32)), (.int (5 : Int32)), (.ref b164)])) rfl rfl (hb hby at_70)
    have O182 := O179.wr W182 g_b164
    have N182 := Fr.snoc X182 N179 g_b164
    have V182 : Arv Z h182 b164 k164 .byte (8 : Int32) [(.int (((p2.toInt32).toInt8.toInt32).toInt8.toInt32)), (.int (((((p2.toUInt64 >>> ((8 : Int32) &&& 0x3f).toInt64.toUInt64).toInt64).toInt32).toInt8.toInt32).toInt8.toInt32)), (.int (((((p2.toUInt64 >>> ((16 : Int32) &&& 0x3f).toInt64.toUInt64).toInt64).toInt32).toInt8.toInt32).toInt8.toInt32)), (.int (((((p2.toUInt64 >>> ((24 : Int32) &&& 0x3f).toInt64.toUInt64).toInt64).toInt32).toInt8.toInt32).toInt8.toInt32)), (.int (((((p2.toUInt64 >>> ((32 : Int32) &&& 0x3f).toInt64.toUInt64).toInt64).toInt32).toInt8.toInt32).toInt8.toInt32)), (.int (((((p2.toUInt64 >>> ((40 : Int32) &&& 0x3f).toInt64.toUInt64).toInt64).toInt32).toInt8.toInt32).toInt8.toInt32)), (.int (0 : Int32)), (.int (0 : Int32))] (.int (0 : Int32)) := Arv.set Ara180 qa180 Sa180 Za180 Ha180 Ga180 (fits_nar_byte _) W182 5 rfl (Nat.le_of_ble_eq_true rfl)
    obtain ⟨cla183, Ara183, qa183, Sa183, Za183, Ha183, Ga183⟩ := id V182
    have hin184 : ¬ ((6 : Int32) < 0 ∨ cla183.slots.size ≤ ((6 : Int32)).toNatClampNeg) := inb_of Sa183 ⟨by decide, by decide⟩
    obtain ⟨T185, h185, X185, e185, W185, st185⟩ := stB X182 hx hZ e182 Ara183 (j := (6 : Int32)) hin184 (g := (mkF m 81 #[.val (.int p0), .val (.int p1), .val (.long p2), .second, .val (.int (4 : Int32)), .val (.ref b164)] [(.int ((((p2.toUInt64 >>> ((48 : Int32) &&& 0x3f).toInt64.toUInt64).toInt64).toInt32).toInt8.toInt32)), (.int (6 : Int32)), (.ref b164)])) rfl rfl (hb hby at_81)
    have O185 := O182.wr W185 g_b164
    have N185 := Fr.snoc X185 N182 g_b164
    have V185 : Arv Z h185 b164 k164 .byte (8 : Int32) [(.int (((p2.toInt32).toInt8.toInt32).toInt8.toInt32)), (.int (((((p2.toUInt64 >>> ((8 : Int32) &&& 0x3f).toInt64.toUInt64).toInt64).toInt32).toInt8.toInt32).toInt8.toInt32)), (.int (((((p2.toUInt64 >>> ((16 : Int32) &&& 0x3f).toInt64.toUInt64).toInt64).toInt32).toInt8.toInt32).toInt8.toInt32)), (.int (((((p2.toUInt64 >>> ((24 : Int32) &&& 0x3f).toInt64.toUInt64).toInt64).toInt32).toInt8.toInt32).toInt8.toInt32)), (.int (((((p2.toUInt64 >>> ((32 : Int32) &&& 0x3f).toInt64.toUInt64).toInt64).toInt32).toInt8.toInt32).toInt8.toInt32)), (.int (((((p2.toUInt64 >>> ((40 : Int32) &&& 0x3f).toInt64.toUInt64).toInt64).toInt32).toInt8.toInt32).toInt8.toInt32)), (.int (((((p2.toUInt64 >>> ((48 : Int32) &&& 0x3f).toInt64.toUInt64).toInt64).toInt32).toInt8.toInt32).toInt8.toInt32)), (.int (0 : Int32))] (.int (0 : Int32)) := Arv.set Ara183 qa183 Sa183 Za183 Ha183 Ga183 (fits_nar_byte _) W185 6 rfl (Nat.le_of_ble_eq_true rfl)
    obtain ⟨cla186, Ara186, qa186, Sa186, Za186, Ha186, Ga186⟩ := id V185
    have hin187 : ¬ ((7 : Int32) < 0 ∨ cla186.slots.size ≤ ((7 : Int32)).toNatClampNeg) := inb_of Sa186 ⟨by decide, by decide⟩
    obtain ⟨T188, h188, X188, e188, W188, st188⟩ := stB X185 hx hZ e185 Ara186 (j := (7 : Int32)) hin187 (g := (mkF m 92 #[.val (.int p0), .val (.int p1), .val (.long p2), .second, .val (.int (4 : Int32)), .val (.ref b164)] [(.int ((((p2.toUInt64 >>> ((56 : Int32) &&& 0x3f).toInt64.toUInt64).toInt64).toInt32).toInt8.toInt32)), (.int (7 : Int32)), (.ref b164)])) rfl rfl (hb hby at_92)
    have O188 := O185.wr W188 g_b164
    have N188 := Fr.snoc X188 N185 g_b164
    have V188 : Arv Z h188 b164 k164 .byte (8 : Int32) [(.int (((p2.toInt32).toInt8.toInt32).toInt8.toInt32)), (.int (((((p2.toUInt64 >>> ((8 : Int32) &&& 0x3f).toInt64.toUInt64).toInt64).toInt32).toInt8.toInt32).toInt8.toInt32)), (.int (((((p2.toUInt64 >>> ((16 : Int32) &&& 0x3f).toInt64.toUInt64).toInt64).toInt32).toInt8.toInt32).toInt8.toInt32)), (.int (((((p2.toUInt64 >>> ((24 : Int32) &&& 0x3f).toInt64.toUInt64).toInt64).toInt32).toInt8.toInt32).toInt8.toInt32)), (.int (((((p2.toUInt64 >>> ((32 : Int32) &&& 0x3f).toInt64.toUInt64).toInt64).toInt32).toInt8.toInt32).toInt8.toInt32)), (.int (((((p2.toUInt64 >>> ((40 : Int32) &&& 0x3f).toInt64.toUInt64).toInt64).toInt32).toInt8.toInt32).toInt8.toInt32)), (.int (((((p2.toUInt64 >>> ((48 : Int32) &&& 0x3f).toInt64.toUInt64).toInt64).toInt32).toInt8.toInt32).toInt8.toInt32)), (.int (((((p2.toUInt64 >>> ((56 : Int32) &&& 0x3f).toInt64.toUInt64).toInt64).toInt32).toInt8.toInt32).toInt8.toInt32))] (.int (0 : Int32)) := Arv.set Ara186 qa186 Sa186 Za186 Ha186 Ga186 (fits_nar_byte _) W188 7 rfl (Nat.le_of_ble_eq_true rfl)
    obtain ⟨cla189, Ara189, qa189, Sa189, Za189, Ha189, Ga189⟩ := id V188
    have hin190 : ¬ ((4 : Int32) < 0 ∨ cla189.slots.size ≤ ((4 : Int32)).toNatClampNeg) := inb_of Sa189 ⟨by decide, by decide⟩
    obtain ⟨T191, h191, X191, e191, W191, st191⟩ := stB X188 hx hZ e188 Ara189 (j := (4 : Int32)) hin190 (g := (mkF m 102 #[.val (.int p0), .val (.int p1), .val (.long p2), .second, .val (.int (4 : Int32)), .val (.ref b164)] [(.int (((p0.toUInt32 >>> ((24 : Int32) &&& 31).toUInt32).toInt32).toInt8.toInt32)), (.int (4 : Int32)), (.ref b164)])) rfl rfl (hb hby at_102)
    have O191 := O188.wr W191 g_b164
    have N191 := Fr.snoc X191 N188 g_b164
    have V191 : Arv Z h191 b164 k164 .byte (8 : Int32) [(.int (((p2.toInt32).toInt8.toInt32).toInt8.toInt32)), (.int (((((p2.toUInt64 >>> ((8 : Int32) &&& 0x3f).toInt64.toUInt64).toInt64).toInt32).toInt8.toInt32).toInt8.toInt32)), (.int (((((p2.toUInt64 >>> ((16 : Int32) &&& 0x3f).toInt64.toUInt64).toInt64).toInt32).toInt8.toInt32).toInt8.toInt32)), (.int (((((p2.toUInt64 >>> ((24 : Int32) &&& 0x3f).toInt64.toUInt64).toInt64).toInt32).toInt8.toInt32).toInt8.toInt32)), (.int ((((p0.toUInt32 >>> ((24 : Int32) &&& 31).toUInt32).toInt32).toInt8.toInt32).toInt8.toInt32)), (.int (((((p2.toUInt64 >>> ((40 : Int32) &&& 0x3f).toInt64.toUInt64).toInt64).toInt32).toInt8.toInt32).toInt8.toInt32)), (.int (((((p2.toUInt64 >>> ((48 : Int32) &&& 0x3f).toInt64.toUInt64).toInt64).toInt32).toInt8.toInt32).toInt8.toInt32)), (.int (((((p2.toUInt64 >>> ((56 : Int32) &&& 0x3f).toInt64.toUInt64).toInt64).toInt32).toInt8.toInt32).toInt8.toInt32))] (.int (0 : Int32)) := Arv.set Ara189 qa189 Sa189 Za189 Ha189 Ga189 (fits_nar_byte _) W191 4 rfl (Nat.le_of_ble_eq_true rfl)
    obtain ⟨cla192, Ara192, qa192, Sa192, Za192, Ha192, Ga192⟩ := id V191
    have hin193 : ¬ ((5 : Int32) < 0 ∨ cla192.slots.size ≤ ((5 : Int32)).toNatClampNeg) := inb_of Sa192 ⟨by decide, by decide⟩
    obtain ⟨T194, h194, X194, e194, W194, st194⟩ := stB X191 hx hZ e191 Ara192 (j := (5 : Int32)) hin193 (g := (mkF m 114 #[.val (.int p0), .val (.int p1), .val (.long p2), .second, .val (.int (4 : Int32)), .val (.ref b164)] [(.int (((p0.toUInt32 >>> ((16 : Int32) &&& 31).toUInt32).toInt32).toInt8.toInt32)), (.int (5 : Int32)), (.ref b164)])) rfl rfl (hb hby at_114)
    have O194 := O191.wr W194 g_b164
    have N194 := Fr.snoc X194 N191 g_b164
    have V194 : Arv Z h194 b164 k164 .byte (8 : Int32) [(.int (((p2.toInt32).toInt8.toInt32).toInt8.toInt32)), (.int (((((p2.toUInt64 >>> ((8 : Int32) &&& 0x3f).toInt64.toUInt64).toInt64).toInt32).toInt8.toInt32).toInt8.toInt32)), (.int (((((p2.toUInt64 >>> ((16 : Int32) &&& 0x3f).toInt64.toUInt64).toInt64).toInt32).toInt8.toInt32).toInt8.toInt32)), (.int (((((p2.toUInt64 >>> ((24 : Int32) &&& 0x3f).toInt64.toUInt64).toInt64).toInt32).toInt8.toInt32).toInt8.toInt32)), (.int ((((p0.toUInt32 >>> ((24 : Int32) &&& 31).toUInt32).toInt32).toInt8.toInt32).toInt8.toInt32)), (.int ((((p0.toUInt32 >>> ((16 : Int32) &&& 31).toUInt32).toInt32).toInt8.toInt32).toInt8.toInt32)), (.int (((((p2.toUInt64 >>> ((48 : Int32) &&& 0x3f).toInt64.toUInt64).toInt64).toInt32).toInt8.toInt32).toInt8.toInt32)), (.int (((((p2.toUInt64 >>> ((56 : Int32) &&& 0x3f).toInt64.toUInt64).toInt64).toInt32).toInt8.toInt32).toInt8.toInt32))] (.int (0 : Int32)) := Arv.set Ara192 qa192 Sa192 Za192 Ha192 Ga192 (fits_nar_byte _) W194 5 rfl (Nat.le_of_ble_eq_true rfl)
    obtain ⟨cla195, Ara195, qa195, Sa195, Za195, Ha195, Ga195⟩ := id V194
    have hin196 : ¬ ((6 : Int32) < 0 ∨ cla195.slots.size ≤ ((6 : Int32)).toNatClampNeg) := inb_of Sa195 ⟨by decide, by decide⟩
    obtain ⟨T197, h197, X197, e197, W197, st197⟩ := stB X194 hx hZ e194 Ara195 (j := (6 : Int32)) hin196 (g := (mkF m 126 #[.val (.int p0), .val (.int p1), .val (.long p2), .second, .val (.int (4 : Int32)), .val (.ref b164)] [(.int (((p0.toUInt32 >>> ((8 : Int32) &&& 31).toUInt32).toInt32).toInt8.toInt32)), (.int (6 : Int32)), (.ref b164)])) rfl rfl (hb hby at_126)
    have O197 := O194.wr W197 g_b164
    have N197 := Fr.snoc X197 N194 g_b164
    have V197 : Arv Z h197 b164 k164 .byte (8 : Int32) [(.int (((p2.toInt32).toInt8.toInt32).toInt8.toInt32)), (.int (((((p2.toUInt64 >>> ((8 : Int32) &&& 0x3f).toInt64.toUInt64).toInt64).toInt32).toInt8.toInt32).toInt8.toInt32)), (.int (((((p2.toUInt64 >>> ((16 : Int32) &&& 0x3f).toInt64.toUInt64).toInt64).toInt32).toInt8.toInt32).toInt8.toInt32)), (.int (((((p2.toUInt64 >>> ((24 : Int32) &&& 0x3f).toInt64.toUInt64).toInt64).toInt32).toInt8.toInt32).toInt8.toInt32)), (.int ((((p0.toUInt32 >>> ((24 : Int32) &&& 31).toUInt32).toInt32).toInt8.toInt32).toInt8.toInt32)), (.int ((((p0.toUInt32 >>> ((16 : Int32) &&& 31).toUInt32).toInt32).toInt8.toInt32).toInt8.toInt32)), (.int ((((p0.toUInt32 >>> ((8 : Int32) &&& 31).toUInt32).toInt32).toInt8.toInt32).toInt8.toInt32)), (.int (((((p2.toUInt64 >>> ((56 : Int32) &&& 0x3f).toInt64.toUInt64).toInt64).toInt32).toInt8.toInt32).toInt8.toInt32))] (.int (0 : Int32)) := Arv.set Ara195 qa195 Sa195 Za195 Ha195 Ga195 (fits_nar_byte _) W197 6 rfl (Nat.le_of_ble_eq_true rfl)
    obtain ⟨cla198, Ara198, qa198, Sa198, Za198, Ha198, Ga198⟩ := id V197
    have hin199 : ¬ ((7 : Int32) < 0 ∨ cla198.slots.size ≤ ((7 : Int32)).toNatClampNeg) := inb_of Sa198 ⟨by decide, by decide⟩
    obtain ⟨T200, h200, X200, e200, W200, st200⟩ := stB X197 hx hZ e197 Ara198 (j := (7 : Int32)) hin199 (g := (mkF m 135 #[.val (.int p0), .val (.int p1), .val (.long p2), .second, .val (.int (4 : Int32)), .val (.ref b164)] [(.int (p0.toInt8.toInt32)), (.int (7 : Int32)), (.ref b164)])) rfl rfl (hb hby at_135)
    have O200 := O197.wr W200 g_b164
    have N200 := Fr.snoc X200 N197 g_b164
    have V200 : Arv Z h200 b164 k164 .byte (8 : Int32) [(.int (((p2.toInt32).toInt8.toInt32).toInt8.toInt32)), (.int (((((p2.toUInt64 >>> ((8 : Int32) &&& 0x3f).toInt64.toUInt64).toInt64).toInt32).toInt8.toInt32).toInt8.toInt32)), (.int (((((p2.toUInt64 >>> ((16 : Int32) &&& 0x3f).toInt64.toUInt64).toInt64).toInt32).toInt8.toInt32).toInt8.toInt32)), (.int (((((p2.toUInt64 >>> ((24 : Int32) &&& 0x3f).toInt64.toUInt64).toInt64).toInt32).toInt8.toInt32).toInt8.toInt32)), (.int ((((p0.toUInt32 >>> ((24 : Int32) &&& 31).toUInt32).toInt32).toInt8.toInt32).toInt8.toInt32)), (.int ((((p0.toUInt32 >>> ((16 : Int32) &&& 31).toUInt32).toInt32).toInt8.toInt32).toInt8.toInt32)), (.int ((((p0.toUInt32 >>> ((8 : Int32) &&& 31).toUInt32).toInt32).toInt8.toInt32).toInt8.toInt32)), (.int ((p0.toInt8.toInt32).toInt8.toInt32))] (.int (0 : Int32)) := Arv.set Ara198 qa198 Sa198 Za198 Ha198 Ga198 (fits_nar_byte _) W200 7 rfl (Nat.le_of_ble_eq_true rfl)
    obtain ⟨_, _, ⟨T201, L201, k201, n201⟩, -, X201, ⟨Lc201, hQ201, l201, y201, z201⟩, st201⟩ := Jvm.LawKit.callS X200 hx (y := (⟨"com/example/strikewire/strikewire/engine/JournalReader", "intAt", "([BI)I"⟩ : MethodName)) hown (mvT hZ (hw _ (List.mem_of_getElem? (i := 2) rfl))) (mvT hZ (hw _ (List.mem_of_getElem? (i := 3) rfl))) (mvT hZ (hw _ (List.mem_of_getElem? (i := 4) rfl))) (mvT hZ (hw _ (List.mem_of_getElem? (i := 5) rfl))) (by decide) (backOf (W := 0) (rm1_4 l Z a0 hw [] b164 k164 (((p2.toInt32).toInt8.toInt32).toInt8.toInt32) (((((p2.toUInt64 >>> ((8 : Int32) &&& 0x3f).toInt64.toUInt64).toInt64).toInt32).toInt8.toInt32).toInt8.toInt32) (((((p2.toUInt64 >>> ((16 : Int32) &&& 0x3f).toInt64.toUInt64).toInt64).toInt32).toInt8.toInt32).toInt8.toInt32) (((((p2.toUInt64 >>> ((24 : Int32) &&& 0x3f).toInt64.toUInt64).toInt64).toInt32).toInt8.toInt32).toInt8.toInt32) ((((p0.toUInt32 >>> ((24 : Int32) &&& 31).toUInt32).toInt32).toInt8.toInt32).toInt8.toInt32) ((((p0.toUInt32 >>> ((16 : Int32) &&& 31).toUInt32).toInt32).toInt8.toInt32).toInt8.toInt32) ((((p0.toUInt32 >>> ((8 : Int32) &&& 31).toUInt32).toInt32).toInt8.toInt32).toInt8.toInt32) ((p0.toInt8.toInt32).toInt8.toInt32) h200 n0 O200 V200) hZ (hw _ (List.mem_of_getElem? (i := 5) rfl)) (hw _ (List.mem_of_getElem? (i := 4) rfl)) (by decide) (by decide)) (g := (mkF m 140 #[.val (.int p0), .val (.int p1), .val (.long p2), .second, .val (.int (4 : Int32)), .val (.ref b164)] [(.int (4 : Int32)), (.ref b164)])) rfl (by rw [hml]; rfl) (argsL := [(.ref b164), (.int (4 : Int32))]) (rest := []) (lenOf pd_rm0_0 rfl) rfl (by show 2 * 0 + _ ≤ _; exact Nat.le_of_eq rfl) (hb hby at_140) (fun _ _ => ⟨rfl, e200, (by decide : 1 + 0 ≤ _), (by decide : 8 + 0 ≤ _)⟩)
    dsimp only [Pt.U, Pt.locs, Pt.cells, Pt.slots] at X201 l201 y201 z201 st201 hQ201
    subst l201 y201 z201
    obtain ⟨rfl, Nq201, e201⟩ := hQ201
    have N201 := Fr.app N200 Nq201
    have s202 : Steps p.tables e below (s₁.setTop (entryFrame m #[(.int p0), (.int p1), (.long p2)] maxLocals)) (T201.setTop (mkF m 152 #[.val (.int p0), .val (.int p1), .val (.long p2), .second, .val (.int (4 : Int32)), .val (.ref b164)] [(.int (1 : Int32))])) := by
      refine s163.trans ?_
      show Steps p.tables e below (s₁.setTop (mkF m 6 #[.val (.int p0), .val (.int p1), .val (.long p2), .second, .unset, .unset] [(.int (4 : Int32))])) _
      refine XS.istore X0.here hx rfl (hb hby at_6) rfl (l' := #[.val (.int p0), .val (.int p1), .val (.long p2), .second, .val (.int (4 : Int32)), .unset]) rfl ?_
      show Steps p.tables e below (s₁.setTop (mkF m 8 #[.val (.int p0), .val (.int p1), .val (.long p2), .second, .val (.int (4 : Int32)), .unset] [])) _
      refine XS.bipush X0.here hx rfl (hb hby at_8) ?_
      show Steps p.tables e below (s₁.setTop (mkF m 10 #[.val (.int p0), .val (.int p1), .val (.long p2), .second, .val (.int (4 : Int32)), .unset] [(.int (8 : Int32))])) _
      refine st164 _ ?_
      show Steps p.tables e below (T164.setTop (mkF m 12 #[.val (.int p0), .val (.int p1), .val (.long p2), .second, .val (.int (4 : Int32)), .unset] [(.ref b164)])) _
      refine XS.astore X164.here hx rfl (hb hby at_12) rfl rfl (l' := #[.val (.int p0), .val (.int p1), .val (.long p2), .second, .val (.int (4 : Int32)), .val (.ref b164)]) rfl ?_
      show Steps p.tables e below (T164.setTop (mkF m 14 #[.val (.int p0), .val (.int p1), .val (.long p2), .second, .val (.int (4 : Int32)), .val (.ref b164)] [])) _
      refine XS.aload X164.here hx rfl (hb hby at_14) rfl rfl ?_
      show Steps p.tables e below (T164.setTop (mkF m 16 #[.val (.int p0), .val (.int p1), .val (.long p2), .second, .val (.int (4 : Int32)), .val (.ref b164)] [(.ref b164)])) _
      refine XS.iconst X164.here hx rfl (hb hby at_16) ?_
      show Steps p.tables e below (T164.setTop (mkF m 17 #[.val (.int p0), .val (.int p1), .val (.long p2), .second, .val (.int (4 : Int32)), .val (.ref b164)] [(.int (0 : Int32)), (.ref b164)])) _
      refine XS.lloadN X164.here hx rfl (hb hby at_17) rfl ?_
      show Steps p.tables e below (T164.setTop (mkF m 18 #[.val (.int p0), .val (.int p1), .val (.long p2), .second, .val (.int (4 : Int32)), .val (.ref b164)] [(.long p2), (.int (0 : Int32)), (.ref b164)])) _
      refine XS.l2i X164.here hx rfl (hb hby at_18) rfl ?_
      show Steps p.tables e below (T164.setTop (mkF m 19 #[.val (.int p0), .val (.int p1), .val (.long p2), .second, .val (.int (4 : Int32)), .val (.ref b164)] [(.int (p2.toInt32)), (.int (0 : Int32)), (.ref b164)])) _
      refine XS.i2b X164.here hx rfl (hb hby at_19) rfl ?_
      show Steps p.tables e below (T164.setTop (mkF m 20 #[.val (.int p0), .val (.int p1), .val (.long p2), .second, .val (.int (4 : Int32)), .val (.ref b164)] [(.int ((p2.toInt32).toInt8.toInt32)), (.int (0 : Int32)), (.ref b164)])) _
      refine st167 _ ?_
      show Steps p.tables e below (T167.setTop (mkF m 21 #[.val (.int p0), .val (.int p1), .val (.long p2), .second, .val (.int (4 : Int32)), .val (.ref b164)] [])) _
      refine XS.aload X167.here hx rfl (hb hby at_21) rfl rfl ?_
      show Steps p.tables e below (T167.setTop (mkF m 23 #[.val (.int p0), .val (.int p1), .val (.long p2), .second, .val (.int (4 : Int32)), .val (.ref b164)] [(.ref b164)])) _
      refine XS.iconst X167.here hx rfl (hb hby at_23) ?_
      show Steps p.tables e below (T167.setTop (mkF m 24 #[.val (.int p0), .val (.int p1), .val (.long p2), .second, .val (.int (4 : Int32)), .val (.ref b164)] [(.int (1 : Int32)), (.ref b164)])) _
      refine XS.lloadN X167.here hx rfl (hb hby at_24) rfl ?_
      show Steps p.tables e below (T167.setTop (mkF m 25 #[.val (.int p0), .val (.int p1), .val (.long p2), .second, .val (.int (4 : Int32)), .val (.ref b164)] [(.long p2), (.int (1 : Int32)), (.ref b164)])) _
      refine XS.bipush X167.here hx rfl (hb hby at_25) ?_
      show Steps p.tables e below (T167.setTop (mkF m 27 #[.val (.int p0), .val (.int p1), .val (.long p2), .second, .val (.int (4 : Int32)), .val (.ref b164)] [(.int (8 : Int32)), (.long p2), (.int (1 : Int32)), (.ref b164)])) _
      refine XS.lushr X167.here hx rfl (hb hby at_27) rfl ?_
      show Steps p.tables e below (T167.setTop (mkF m 28 #[.val (.int p0), .val (.int p1), .val (.long p2), .second, .val (.int (4 : Int32)), .val (.ref b164)] [(.long ((p2.toUInt64 >>> ((8 : Int32) &&& 0x3f).toInt64.toUInt64).toInt64)), (.int (1 : Int32)), (.ref b164)])) _
      refine XS.l2i X167.here hx rfl (hb hby at_28) rfl ?_
      show Steps p.tables e below (T167.setTop (mkF m 29 #[.val (.int p0), .val (.int p1), .val (.long p2), .second, .val (.int (4 : Int32)), .val (.ref b164)] [(.int (((p2.toUInt64 >>> ((8 : Int32) &&& 0x3f).toInt64.toUInt64).toInt64).toInt32)), (.int (1 : Int32)), (.ref b164)])) _
      refine XS.i2b X167.here hx rfl (hb hby at_29) rfl ?_
      show Steps p.tables e below (T167.setTop (mkF m 30 #[.val (.int p0), .val (.int p1), .val (.long p2), .second, .val (.int (4 : Int32)), .val (.ref b164)] [(.int ((((p2.toUInt64 >>> ((8 : Int32) &&& 0x3f).toInt64.toUInt64).toInt64).toInt32).toInt8.toInt32)), (.int (1 : Int32)), (.ref b164)])) _
      refine st170 _ ?_
      show Steps p.tables e below (T170.setTop (mkF m 31 #[.val (.int p0), .val (.int p1), .val (.long p2), .second, .val (.int (4 : Int32)), .val (.ref b164)] [])) _
      refine XS.aload X170.here hx rfl (hb hby at_31) rfl rfl ?_
      show Steps p.tables e below (T170.setTop (mkF m 33 #[.val (.int p0), .val (.int p1), .val (.long p2), .second, .val (.int (4 : Int32)), .val (.ref b164)] [(.ref b164)])) _
      refine XS.iconst X170.here hx rfl (hb hby at_33) ?_
      show Steps p.tables e below (T170.setTop (mkF m 34 #[.val (.int p0), .val (.int p1), .val (.long p2), .second, .val (.int (4 : Int32)), .val (.ref b164)] [(.int (2 : Int32)), (.ref b164)])) _
      refine XS.lloadN X170.here hx rfl (hb hby at_34) rfl ?_
      show Steps p.tables e below (T170.setTop (mkF m 35 #[.val (.int p0), .val (.int p1), .val (.long p2), .second, .val (.int (4 : Int32)), .val (.ref b164)] [(.long p2), (.int (2 : Int32)), (.ref b164)])) _
      refine XS.bipush X170.here hx rfl (hb hby at_35) ?_
      show Steps p.tables e below (T170.setTop (mkF m 37 #[.val (.int p0), .val (.int p1), .val (.long p2), .second, .val (.int (4 : Int32)), .val (.ref b164)] [(.int (16 : Int32)), (.long p2), (.int (2 : Int32)), (.ref b164)])) _
      refine XS.lushr X170.here hx rfl (hb hby at_37) rfl ?_
      show Steps p.tables e below (T170.setTop (mkF m 38 #[.val (.int p0), .val (.int p1), .val (.long p2), .second, .val (.int (4 : Int32)), .val (.ref b164)] [(.long ((p2.toUInt64 >>> ((16 : Int32) &&& 0x3f).toInt64.toUInt64).toInt64)), (.int (2 : Int32)), (.ref b164)])) _
      refine XS.l2i X170.here hx rfl (hb hby at_38) rfl ?_
      show Steps p.tables e below (T170.setTop (mkF m 39 #[.val (.int p0), .val (.int p1), .val (.long p2), .second, .val (.int (4 : Int32)), .val (.ref b164)] [(.int (((p2.toUInt64 >>> ((16 : Int32) &&& 0x3f).toInt64.toUInt64).toInt64).toInt32)), (.int (2 : Int32)), (.ref b164)])) _
      refine XS.i2b X170.here hx rfl (hb hby at_39) rfl ?_
      show Steps p.tables e below (T170.setTop (mkF m 40 #[.val (.int p0), .val (.int p1), .val (.long p2), .second, .val (.int (4 : Int32)), .val (.ref b164)] [(.int ((((p2.toUInt64 >>> ((16 : Int32) &&& 0x3f).toInt64.toUInt64).toInt64).toInt32).toInt8.toInt32)), (.int (2 : Int32)), (.ref b164)])) _
      refine st173 _ ?_
      show Steps p.tables e below (T173.setTop (mkF m 41 #[.val (.int p0), .val (.int p1), .val (.long p2), .second, .val (.int (4 : Int32)), .val (.ref b164)] [])) _
      refine XS.aload X173.here hx rfl (hb hby at_41) rfl rfl ?_
      show Steps p.tables e below (T173.setTop (mkF m 43 #[.val (.int p0), .val (.int p1), .val (.long p2), .second, .val (.int (4 : Int32)), .val (.ref b164)] [(.ref b164)])) _
      refine XS.iconst X173.here hx rfl (hb hby at_43) ?_
      show Steps p.tables e below (T173.setTop (mkF m 44 #[.val (.int p0), .val (.int p1), .val (.long p2), .second, .val (.int (4 : Int32)), .val (.ref b164)] [(.int (3 : Int32)), (.ref b164)])) _
      refine XS.lloadN X173.here hx rfl (hb hby at_44) rfl ?_
      show Steps p.tables e below (T173.setTop (mkF m 45 #[.val (.int p0), .val (.int p1), .val (.long p2), .second, .val (.int (4 : Int32)), .val (.ref b164)] [(.long p2), (.int (3 : Int32)), (.ref b164)])) _
      refine XS.bipush X173.here hx rfl (hb hby at_45) ?_
      show Steps p.tables e below (T173.setTop (mkF m 47 #[.val (.int p0), .val (.int p1), .val (.long p2), .second, .val (.int (4 : Int32)), .val (.ref b164)] [(.int (24 : Int32)), (.long p2), (.int (3 : Int32)), (.ref b164)])) _
      refine XS.lushr X173.here hx rfl (hb hby at_47) rfl ?_
      show Steps p.tables e below (T173.setTop (mkF m 48 #[.val (.int p0), .val (.int p1), .val (.long p2), .second, .val (.int (4 : Int32)), .val (.ref b164)] [(.long ((p2.toUInt64 >>> ((24 : Int32) &&& 0x3f).toInt64.toUInt64).toInt64)), (.int (3 : Int32)), (.ref b164)])) _
      refine XS.l2i X173.here hx rfl (hb hby at_48) rfl ?_
      show Steps p.tables e below (T173.setTop (mkF m 49 #[.val (.int p0), .val (.int p1), .val (.long p2), .second, .val (.int (4 : Int32)), .val (.ref b164)] [(.int (((p2.toUInt64 >>> ((24 : Int32) &&& 0x3f).toInt64.toUInt64).toInt64).toInt32)), (.int (3 : Int32)), (.ref b164)])) _
      refine XS.i2b X173.here hx rfl (hb hby at_49) rfl ?_
      show Steps p.tables e below (T173.setTop (mkF m 50 #[.val (.int p0), .val (.int p1), .val (.long p2), .second, .val (.int (4 : Int32)), .val (.ref b164)] [(.int ((((p2.toUInt64 >>> ((24 : Int32) &&& 0x3f).toInt64.toUInt64).toInt64).toInt32).toInt8.toInt32)), (.int (3 : Int32)), (.ref b164)])) _
      refine st176 _ ?_
      show Steps p.tables e below (T176.setTop (mkF m 51 #[.val (.int p0), .val (.int p1), .val (.long p2), .second, .val (.int (4 : Int32)), .val (.ref b164)] [])) _
      refine XS.aload X176.here hx rfl (hb hby at_51) rfl rfl ?_
      show Steps p.tables e below (T176.setTop (mkF m 53 #[.val (.int p0), .val (.int p1), .val (.long p2), .second, .val (.int (4 : Int32)), .val (.ref b164)] [(.ref b164)])) _
      refine XS.iconst X176.here hx rfl (hb hby at_53) ?_
      show Steps p.tables e below (T176.setTop (mkF m 54 #[.val (.int p0), .val (.int p1), .val (.long p2), .second, .val (.int (4 : Int32)), .val (.ref b164)] [(.int (4 : Int32)), (.ref b164)])) _
      refine XS.lloadN X176.here hx rfl (hb hby at_54) rfl ?_
      show Steps p.tables e below (T176.setTop (mkF m 55 #[.val (.int p0), .val (.int p1), .val (.long p2), .second, .val (.int (4 : Int32)), .val (.ref b164)] [(.long p2), (.int (4 : Int32)), (.ref b164)])) _
      refine XS.bipush X176.here hx rfl (hb hby at_55) ?_
      show Steps p.tables e below (T176.setTop (mkF m 57 #[.val (.int p0), .val (.int p1), .val (.long p2), .second, .val (.int (4 : Int32)), .val (.ref b164)] [(.int (32 : Int32)), (.long p2), (.int (4 : Int32)), (.ref b164)])) _
      refine XS.lushr X176.here hx rfl (hb hby at_57) rfl ?_
      show Steps p.tables e below (T176.setTop (mkF m 58 #[.val (.int p0), .val (.int p1), .val (.long p2), .second, .val (.int (4 : Int32)), .val (.ref b164)] [(.long ((p2.toUInt64 >>> ((32 : Int32) &&& 0x3f).toInt64.toUInt64).toInt64)), (.int (4 : Int32)), (.ref b164)])) _
      refine XS.l2i X176.here hx rfl (hb hby at_58) rfl ?_
      show Steps p.tables e below (T176.setTop (mkF m 59 #[.val (.int p0), .val (.int p1), .val (.long p2), .second, .val (.int (4 : Int32)), .val (.ref b164)] [(.int (((p2.toUInt64 >>> ((32 : Int32) &&& 0x3f).toInt64.toUInt64).toInt64).toInt32)), (.int (4 : Int32)), (.ref b164)])) _
      refine XS.i2b X176.here hx rfl (hb hby at_59) rfl ?_
      show Steps p.tables e below (T176.setTop (mkF m 60 #[.val (.int p0), .val (.int p1), .val (.long p2), .second, .val (.int (4 : Int32)), .val (.ref b164)] [(.int ((((p2.toUInt64 >>> ((32 : Int32) &&& 0x3f).toInt64.toUInt64).toInt64).toInt32).toInt8.toInt32)), (.int (4 : Int32)), (.ref b164)])) _
      refine st179 _ ?_
      show Steps p.tables e below (T179.setTop (mkF m 61 #[.val (.int p0), .val (.int p1), .val (.long p2), .second, .val (.int (4 : Int32)), .val (.ref b164)] [])) _
      refine XS.aload X179.here hx rfl (hb hby at_61) rfl rfl ?_
      show Steps p.tables e below (T179.setTop (mkF m 63 #[.val (.int p0), .val (.int p1), .val (.long p2), .second, .val (.int (4 : Int32)), .val (.ref b164)] [(.ref b164)])) _
      refine XS.iconst X179.here hx rfl (hb hby at_63) ?_
      show Steps p.tables e below (T179.setTop (mkF m 64 #[.val (.int p0), .val (.int p1), .val (.long p2), .second, .val (.int (4 : Int32)), .val (.ref b164)] [(.int (5 : Int32)), (.ref b164)])) _
      refine XS.lloadN X179.here hx rfl (hb hby at_64) rfl ?_
      show Steps p.tables e below (T179.setTop (mkF m 65 #[.val (.int p0), .val (.int p1), .val (.long p2), .second, .val (.int (4 : Int32)), .val (.ref b164)] [(.long p2), (.int (5 : Int32)), (.ref b164)])) _
      refine XS.bipush X179.here hx rfl (hb hby at_65) ?_
      show Steps p.tables e below (T179.setTop (mkF m 67 #[.val (.int p0), .val (.int p1), .val (.long p2), .second, .val (.int (4 : Int32)), .val (.ref b164)] [(.int (40 : Int32)), (.long p2), (.int (5 : Int32)), (.ref b164)])) _
      refine XS.lushr X179.here hx rfl (hb hby at_67) rfl ?_
      show Steps p.tables e below (T179.setTop (mkF m 68 #[.val (.int p0), .val (.int p1), .val (.long p2), .second, .val (.int (4 : Int32)), .val (.ref b164)] [(.long ((p2.toUInt64 >>> ((40 : Int32) &&& 0x3f).toInt64.toUInt64).toInt64)), (.int (5 : Int32)), (.ref b164)])) _
      refine XS.l2i X179.here hx rfl (hb hby at_68) rfl ?_
      show Steps p.tables e below (T179.setTop (mkF m 69 #[.val (.int p0), .val (.int p1), .val (.long p2), .second, .val (.int (4 : Int32)), .val (.ref b164)] [(.int (((p2.toUInt64 >>> ((40 : Int32) &&& 0x3f).toInt64.toUInt64).toInt64).toInt32)), (.int (5 : Int32)), (.ref b164)])) _
      refine XS.i2b X179.here hx rfl (hb hby at_69) rfl ?_
      show Steps p.tables e below (T179.setTop (mkF m 70 #[.val (.int p0), .val (.int p1), .val (.long p2), .second, .val (.int (4 : Int32)), .val (.ref b164)] [(.int ((((p2.toUInt64 >>> ((40 : Int32) &&& 0x3f).toInt64.toUInt64).toInt64).toInt32).toInt8.toInt32)), (.int (5 : Int32)), (.ref b164)])) _
      refine st182 _ ?_
      show Steps p.tables e below (T182.setTop (mkF m 71 #[.val (.int p0), .val (.int p1), .val (.long p2), .second, .val (.int (4 : Int32)), .val (.ref b164)] [])) _
      refine XS.aload X182.here hx rfl (hb hby at_71) rfl rfl ?_
      show Steps p.tables e below (T182.setTop (mkF m 73 #[.val (.int p0), .val (.int p1), .val (.long p2), .second, .val (.int (4 : Int32)), .val (.ref b164)] [(.ref b164)])) _
      refine XS.bipush X182.here hx rfl (hb hby at_73) ?_
      show Steps p.tables e below (T182.setTop (mkF m 75 #[.val (.int p0), .val (.int p1), .val (.long p2), .second, .val (.int (4 : Int32)), .val (.ref b164)] [(.int (6 : Int32)), (.ref b164)])) _
      refine XS.lloadN X182.here hx rfl (hb hby at_75) rfl ?_
      show Steps p.tables e below (T182.setTop (mkF m 76 #[.val (.int p0), .val (.int p1), .val (.long p2), .second, .val (.int (4 : Int32)), .val (.ref b164)] [(.long p2), (.int (6 : Int32)), (.ref b164)])) _
      refine XS.bipush X182.here hx rfl (hb hby at_76) ?_
      show Steps p.tables e below (T182.setTop (mkF m 78 #[.val (.int p0), .val (.int p1), .val (.long p2), .second, .val (.int (4 : Int32)), .val (.ref b164)] [(.int (48 : Int32)), (.long p2), (.int (6 : Int32)), (.ref b164)])) _
      refine XS.lushr X182.here hx rfl (hb hby at_78) rfl ?_
      show Steps p.tables e below (T182.setTop (mkF m 79 #[.val (.int p0), .val (.int p1), .val (.long p2), .second, .val (.int (4 : Int32)), .val (.ref b164)] [(.long ((p2.toUInt64 >>> ((48 : Int32) &&& 0x3f).toInt64.toUInt64).toInt64)), (.int (6 : Int32)), (.ref b164)])) _
      refine XS.l2i X182.here hx rfl (hb hby at_79) rfl ?_
      show Steps p.tables e below (T182.setTop (mkF m 80 #[.val (.int p0), .val (.int p1), .val (.long p2), .second, .val (.int (4 : Int32)), .val (.ref b164)] [(.int (((p2.toUInt64 >>> ((48 : Int32) &&& 0x3f).toInt64.toUInt64).toInt64).toInt32)), (.int (6 : Int32)), (.ref b164)])) _
      refine XS.i2b X182.here hx rfl (hb hby at_80) rfl ?_
      show Steps p.tables e below (T182.setTop (mkF m 81 #[.val (.int p0), .val (.int p1), .val (.long p2), .second, .val (.int (4 : Int32)), .val (.ref b164)] [(.int ((((p2.toUInt64 >>> ((48 : Int32) &&& 0x3f).toInt64.toUInt64).toInt64).toInt32).toInt8.toInt32)), (.int (6 : Int32)), (.ref b164)])) _
      refine st185 _ ?_
      show Steps p.tables e below (T185.setTop (mkF m 82 #[.val (.int p0), .val (.int p1), .val (.long p2), .second, .val (.int (4 : Int32)), .val (.ref b164)] [])) _
      refine XS.aload X185.here hx rfl (hb hby at_82) rfl rfl ?_
      show Steps p.tables e below (T185.setTop (mkF m 84 #[.val (.int p0), .val (.int p1), .val (.long p2), .second, .val (.int (4 : Int32)), .val (.ref b164)] [(.ref b164)])) _
      refine XS.bipush X185.here hx rfl (hb hby at_84) ?_
      show Steps p.tables e below (T185.setTop (mkF m 86 #[.val (.int p0), .val (.int p1), .val (.long p2), .second, .val (.int (4 : Int32)), .val (.ref b164)] [(.int (7 : Int32)), (.ref b164)])) _
      refine XS.lloadN X185.here hx rfl (hb hby at_86) rfl ?_
      show Steps p.tables e below (T185.setTop (mkF m 87 #[.val (.int p0), .val (.int p1), .val (.long p2), .second, .val (.int (4 : Int32)), .val (.ref b164)] [(.long p2), (.int (7 : Int32)), (.ref b164)])) _
      refine XS.bipush X185.here hx rfl (hb hby at_87) ?_
      show Steps p.tables e below (T185.setTop (mkF m 89 #[.val (.int p0), .val (.int p1), .val (.long p2), .second, .val (.int (4 : Int32)), .val (.ref b164)] [(.int (56 : Int32)), (.long p2), (.int (7 : Int32)), (.ref b164)])) _
      refine XS.lushr X185.here hx rfl (hb hby at_89) rfl ?_
      show Steps p.tables e below (T185.setTop (mkF m 90 #[.val (.int p0), .val (.int p1), .val (.long p2), .second, .val (.int (4 : Int32)), .val (.ref b164)] [(.long ((p2.toUInt64 >>> ((56 : Int32) &&& 0x3f).toInt64.toUInt64).toInt64)), (.int (7 : Int32)), (.ref b164)])) _
      refine XS.l2i X185.here hx rfl (hb hby at_90) rfl ?_
      show Steps p.tables e below (T185.setTop (mkF m 91 #[.val (.int p0), .val (.int p1), .val (.long p2), .second, .val (.int (4 : Int32)), .val (.ref b164)] [(.int (((p2.toUInt64 >>> ((56 : Int32) &&& 0x3f).toInt64.toUInt64).toInt64).toInt32)), (.int (7 : Int32)), (.ref b164)])) _
      refine XS.i2b X185.here hx rfl (hb hby at_91) rfl ?_
      show Steps p.tables e below (T185.setTop (mkF m 92 #[.val (.int p0), .val (.int p1), .val (.long p2), .second, .val (.int (4 : Int32)), .val (.ref b164)] [(.int ((((p2.toUInt64 >>> ((56 : Int32) &&& 0x3f).toInt64.toUInt64).toInt64).toInt32).toInt8.toInt32)), (.int (7 : Int32)), (.ref b164)])) _
      refine st188 _ ?_
      show Steps p.tables e below (T188.setTop (mkF m 93 #[.val (.int p0), .val (.int p1), .val (.long p2), .second, .val (.int (4 : Int32)), .val (.ref b164)] [])) _
      refine XS.aload X188.here hx rfl (hb hby at_93) rfl rfl ?_
      show Steps p.tables e below (T188.setTop (mkF m 95 #[.val (.int p0), .val (.int p1), .val (.long p2), .second, .val (.int (4 : Int32)), .val (.ref b164)] [(.ref b164)])) _
      refine XS.iload X188.here hx rfl (hb hby at_95) rfl ?_
      show Steps p.tables e below (T188.setTop (mkF m 97 #[.val (.int p0), .val (.int p1), .val (.long p2), .second, .val (.int (4 : Int32)), .val (.ref b164)] [(.int (4 : Int32)), (.ref b164)])) _
      refine XS.iloadN X188.here hx rfl (hb hby at_97) rfl ?_
      show Steps p.tables e below (T188.setTop (mkF m 98 #[.val (.int p0), .val (.int p1), .val (.long p2), .second, .val (.int (4 : Int32)), .val (.ref b164)] [(.int p0), (.int (4 : Int32)), (.ref b164)])) _
      refine XS.bipush X188.here hx rfl (hb hby at_98) ?_
      show Steps p.tables e below (T188.setTop (mkF m 100 #[.val (.int p0), .val (.int p1), .val (.long p2), .second, .val (.int (4 : Int32)), .val (.ref b164)] [(.int (24 : Int32)), (.int p0), (.int (4 : Int32)), (.ref b164)])) _
      refine XS.iushr X188.here hx rfl (hb hby at_100) rfl ?_
      show Steps p.tables e below (T188.setTop (mkF m 101 #[.val (.int p0), .val (.int p1), .val (.long p2), .second, .val (.int (4 : Int32)), .val (.ref b164)] [(.int ((p0.toUInt32 >>> ((24 : Int32) &&& 31).toUInt32).toInt32)), (.int (4 : Int32)), (.ref b164)])) _
      refine XS.i2b X188.here hx rfl (hb hby at_101) rfl ?_
      show Steps p.tables e below (T188.setTop (mkF m 102 #[.val (.int p0), .val (.int p1), .val (.long p2), .second, .val (.int (4 : Int32)), .val (.ref b164)] [(.int (((p0.toUInt32 >>> ((24 : Int32) &&& 31).toUInt32).toInt32).toInt8.toInt32)), (.int (4 : Int32)), (.ref b164)])) _
      refine st191 _ ?_
      show Steps p.tables e below (T191.setTop (mkF m 103 #[.val (.int p0), .val (.int p1), .val (.long p2), .second, .val (.int (4 : Int32)), .val (.ref b164)] [])) _
      refine XS.aload X191.here hx rfl (hb hby at_103) rfl rfl ?_
      show Steps p.tables e below (T191.setTop (mkF m 105 #[.val (.int p0), .val (.int p1), .val (.long p2), .second, .val (.int (4 : Int32)), .val (.ref b164)] [(.ref b164)])) _
      refine XS.iload X191.here hx rfl (hb hby at_105) rfl ?_
      show Steps p.tables e below (T191.setTop (mkF m 107 #[.val (.int p0), .val (.int p1), .val (.long p2), .second, .val (.int (4 : Int32)), .val (.ref b164)] [(.int (4 : Int32)), (.ref b164)])) _
      refine XS.iconst X191.here hx rfl (hb hby at_107) ?_
      show Steps p.tables e below (T191.setTop (mkF m 108 #[.val (.int p0), .val (.int p1), .val (.long p2), .second, .val (.int (4 : Int32)), .val (.ref b164)] [(.int (1 : Int32)), (.int (4 : Int32)), (.ref b164)])) _
      refine XS.iadd X191.here hx rfl (hb hby at_108) rfl ?_
      show Steps p.tables e below (T191.setTop (mkF m 109 #[.val (.int p0), .val (.int p1), .val (.long p2), .second, .val (.int (4 : Int32)), .val (.ref b164)] [(.int (5 : Int32)), (.ref b164)])) _
      refine XS.iloadN X191.here hx rfl (hb hby at_109) rfl ?_
      show Steps p.tables e below (T191.setTop (mkF m 110 #[.val (.int p0), .val (.int p1), .val (.long p2), .second, .val (.int (4 : Int32)), .val (.ref b164)] [(.int p0), (.int (5 : Int32)), (.ref b164)])) _
      refine XS.bipush X191.here hx rfl (hb hby at_110) ?_
      show Steps p.tables e below (T191.setTop (mkF m 112 #[.val (.int p0), .val (.int p1), .val (.long p2), .second, .val (.int (4 : Int32)), .val (.ref b164)] [(.int (16 : Int32)), (.int p0), (.int (5 : Int32)), (.ref b164)])) _
      refine XS.iushr X191.here hx rfl (hb hby at_112) rfl ?_
      show Steps p.tables e below (T191.setTop (mkF m 113 #[.val (.int p0), .val (.int p1), .val (.long p2), .second, .val (.int (4 : Int32)), .val (.ref b164)] [(.int ((p0.toUInt32 >>> ((16 : Int32) &&& 31).toUInt32).toInt32)), (.int (5 : Int32)), (.ref b164)])) _
      refine XS.i2b X191.here hx rfl (hb hby at_113) rfl ?_
      show Steps p.tables e below (T191.setTop (mkF m 114 #[.val (.int p0), .val (.int p1), .val (.long p2), .second, .val (.int (4 : Int32)), .val (.ref b164)] [(.int (((p0.toUInt32 >>> ((16 : Int32) &&& 31).toUInt32).toInt32).toInt8.toInt32)), (.int (5 : Int32)), (.ref b164)])) _
      refine st194 _ ?_
      show Steps p.tables e below (T194.setTop (mkF m 115 #[.val (.int p0), .val (.int p1), .val (.long p2), .second, .val (.int (4 : Int32)), .val (.ref b164)] [])) _
      refine XS.aload X194.here hx rfl (hb hby at_115) rfl rfl ?_
      show Steps p.tables e below (T194.setTop (mkF m 117 #[.val (.int p0), .val (.int p1), .val (.long p2), .second, .val (.int (4 : Int32)), .val (.ref b164)] [(.ref b164)])) _
      refine XS.iload X194.here hx rfl (hb hby at_117) rfl ?_
      show Steps p.tables e below (T194.setTop (mkF m 119 #[.val (.int p0), .val (.int p1), .val (.long p2), .second, .val (.int (4 : Int32)), .val (.ref b164)] [(.int (4 : Int32)), (.ref b164)])) _
      refine XS.iconst X194.here hx rfl (hb hby at_119) ?_
      show Steps p.tables e below (T194.setTop (mkF m 120 #[.val (.int p0), .val (.int p1), .val (.long p2), .second, .val (.int (4 : Int32)), .val (.ref b164)] [(.int (2 : Int32)), (.int (4 : Int32)), (.ref b164)])) _
      refine XS.iadd X194.here hx rfl (hb hby at_120) rfl ?_
      show Steps p.tables e below (T194.setTop (mkF m 121 #[.val (.int p0), .val (.int p1), .val (.long p2), .second, .val (.int (4 : Int32)), .val (.ref b164)] [(.int (6 : Int32)), (.ref b164)])) _
      refine XS.iloadN X194.here hx rfl (hb hby at_121) rfl ?_
      show Steps p.tables e below (T194.setTop (mkF m 122 #[.val (.int p0), .val (.int p1), .val (.long p2), .second, .val (.int (4 : Int32)), .val (.ref b164)] [(.int p0), (.int (6 : Int32)), (.ref b164)])) _
      refine XS.bipush X194.here hx rfl (hb hby at_122) ?_
      show Steps p.tables e below (T194.setTop (mkF m 124 #[.val (.int p0), .val (.int p1), .val (.long p2), .second, .val (.int (4 : Int32)), .val (.ref b164)] [(.int (8 : Int32)), (.int p0), (.int (6 : Int32)), (.ref b164)])) _
      refine XS.iushr X194.here hx rfl (hb hby at_124) rfl ?_
      show Steps p.tables e below (T194.setTop (mkF m 125 #[.val (.int p0), .val (.int p1), .val (.long p2), .second, .val (.int (4 : Int32)), .val (.ref b164)] [(.int ((p0.toUInt32 >>> ((8 : Int32) &&& 31).toUInt32).toInt32)), (.int (6 : Int32)), (.ref b164)])) _
      refine XS.i2b X194.here hx rfl (hb hby at_125) rfl ?_
      show Steps p.tables e below (T194.setTop (mkF m 126 #[.val (.int p0), .val (.int p1), .val (.long p2), .second, .val (.int (4 : Int32)), .val (.ref b164)] [(.int (((p0.toUInt32 >>> ((8 : Int32) &&& 31).toUInt32).toInt32).toInt8.toInt32)), (.int (6 : Int32)), (.ref b164)])) _
      refine st197 _ ?_
      show Steps p.tables e below (T197.setTop (mkF m 127 #[.val (.int p0), .val (.int p1), .val (.long p2), .second, .val (.int (4 : Int32)), .val (.ref b164)] [])) _
      refine XS.aload X197.here hx rfl (hb hby at_127) rfl rfl ?_
      show Steps p.tables e below (T197.setTop (mkF m 129 #[.val (.int p0), .val (.int p1), .val (.long p2), .second, .val (.int (4 : Int32)), .val (.ref b164)] [(.ref b164)])) _
      refine XS.iload X197.here hx rfl (hb hby at_129) rfl ?_
      show Steps p.tables e below (T197.setTop (mkF m 131 #[.val (.int p0), .val (.int p1), .val (.long p2), .second, .val (.int (4 : Int32)), .val (.ref b164)] [(.int (4 : Int32)), (.ref b164)])) _
      refine XS.iconst X197.here hx rfl (hb hby at_131) ?_
      show Steps p.tables e below (T197.setTop (mkF m 132 #[.val (.int p0), .val (.int p1), .val (.long p2), .second, .val (.int (4 : Int32)), .val (.ref b164)] [(.int (3 : Int32)), (.int (4 : Int32)), (.ref b164)])) _
      refine XS.iadd X197.here hx rfl (hb hby at_132) rfl ?_
      show Steps p.tables e below (T197.setTop (mkF m 133 #[.val (.int p0), .val (.int p1), .val (.long p2), .second, .val (.int (4 : Int32)), .val (.ref b164)] [(.int (7 : Int32)), (.ref b164)])) _
      refine XS.iloadN X197.here hx rfl (hb hby at_133) rfl ?_
      show Steps p.tables e below (T197.setTop (mkF m 134 #[.val (.int p0), .val (.int p1), .val (.long p2), .second, .val (.int (4 : Int32)), .val (.ref b164)] [(.int p0), (.int (7 : Int32)), (.ref b164)])) _
      refine XS.i2b X197.here hx rfl (hb hby at_134) rfl ?_
      show Steps p.tables e below (T197.setTop (mkF m 135 #[.val (.int p0), .val (.int p1), .val (.long p2), .second, .val (.int (4 : Int32)), .val (.ref b164)] [(.int (p0.toInt8.toInt32)), (.int (7 : Int32)), (.ref b164)])) _
      refine st200 _ ?_
      show Steps p.tables e below (T200.setTop (mkF m 136 #[.val (.int p0), .val (.int p1), .val (.long p2), .second, .val (.int (4 : Int32)), .val (.ref b164)] [])) _
      refine XS.aload X200.here hx rfl (hb hby at_136) rfl rfl ?_
      show Steps p.tables e below (T200.setTop (mkF m 138 #[.val (.int p0), .val (.int p1), .val (.long p2), .second, .val (.int (4 : Int32)), .val (.ref b164)] [(.ref b164)])) _
      refine XS.iload X200.here hx rfl (hb hby at_138) rfl ?_
      show Steps p.tables e below (T200.setTop (mkF m 140 #[.val (.int p0), .val (.int p1), .val (.long p2), .second, .val (.int (4 : Int32)), .val (.ref b164)] [(.int (4 : Int32)), (.ref b164)])) _
      refine st201 _ ?_
      show Steps p.tables e below (T201.setTop (mkF m 143 #[.val (.int p0), .val (.int p1), .val (.long p2), .second, .val (.int (4 : Int32)), .val (.ref b164)] [(.int (own_be ((((p0.toUInt32 >>> ((24 : Int32) &&& 31).toUInt32).toInt32).toInt8.toInt32).toInt8.toInt32) ((((p0.toUInt32 >>> ((16 : Int32) &&& 31).toUInt32).toInt32).toInt8.toInt32).toInt8.toInt32) ((((p0.toUInt32 >>> ((8 : Int32) &&& 31).toUInt32).toInt32).toInt8.toInt32).toInt8.toInt32) ((p0.toInt8.toInt32).toInt8.toInt32)))])) _
      refine XS.iloadN X201.here hx rfl (hb hby at_143) rfl ?_
      show Steps p.tables e below (T201.setTop (mkF m 144 #[.val (.int p0), .val (.int p1), .val (.long p2), .second, .val (.int (4 : Int32)), .val (.ref b164)] [(.int p0), (.int (own_be ((((p0.toUInt32 >>> ((24 : Int32) &&& 31).toUInt32).toInt32).toInt8.toInt32).toInt8.toInt32) ((((p0.toUInt32 >>> ((16 : Int32) &&& 31).toUInt32).toInt32).toInt8.toInt32).toInt8.toInt32) ((((p0.toUInt32 >>> ((8 : Int32) &&& 31).toUInt32).toInt32).toInt8.toInt32).toInt8.toInt32) ((p0.toInt8.toInt32).toInt8.toInt32)))])) _
      refine XS.icmpNo X201.here hx rfl (hb hby at_144) rfl (teq (own_be_ok p0)).2 ?_
      show Steps p.tables e below (T201.setTop (mkF m 147 #[.val (.int p0), .val (.int p1), .val (.long p2), .second, .val (.int (4 : Int32)), .val (.ref b164)] [])) _
      refine XS.iconst X201.here hx rfl (hb hby at_147) ?_
      show Steps p.tables e below (T201.setTop (mkF m 148 #[.val (.int p0), .val (.int p1), .val (.long p2), .second, .val (.int (4 : Int32)), .val (.ref b164)] [(.int (1 : Int32))])) _
      refine XS.goto X201.here hx rfl (pc0 := 148) (pc' := 152) rfl (hb hby at_148) (by decide) (by decide) ?_
      exact Steps.refl _
    obtain ⟨fs, hr, hrun, hended, hW, hsame⟩ := X201.leave (v := some (.int (1 : Int32))) (fun h => by rw [Bd.returns] at h; cases h)
    refine ⟨_, _, s202.trans ?_, hrun, hended, _, _, rfl, ?_, ⟨_, rfl⟩, hW, hsame.mono (by decide) (by decide)⟩
    · show Steps p.tables e below (T201.setTop (mkF m 152 #[.val (.int p0), .val (.int p1), .val (.long p2), .second, .val (.int (4 : Int32)), .val (.ref b164)] [(.int (1 : Int32))])) _
      exact retN X201 hx (t := .boolean) Bd.returns (by simp) (hb hby at_152) hr
    · show Q0 Z p0 p1 p2 h0 n0 _ T201.heap _
      rw [e201]
      exact ⟨rfl, N201⟩
set_option maxRecDepth 65536 in
set_option maxHeartbeats 40000000 in
theorem comes_1 {Post : Tables → Env → Array Value → State → Outcome → State → Prop} (hpost : ∀ tb e args s v u, (limb_1_1.after args s (.returned v) u = true ∧ limb_1_2.after args s (.returned v) u = true ∧ True) → FrameEnd s (.returned v) u (Jvm.fieldLocs frame_1_writes args s ++ Jvm.arrayLocs frame_1_arrays args s ++ Jvm.staticLocs frame_1_statics s) 16 128 → Post tb e args s (.returned v) u) :
    ArmFor flags0 classFile x code maxLocals ret World_1 tables_1 room_1 Calls_1 rest_1 Pre_1 Post := by
  intro l hfl _ _ p e ha hc hk s m args below hf hA hF happ hP
  obtain ⟨hcalls, hrest, hpre⟩ := hP
  obtain ⟨-, -, -, hnamed, -, -, -, hat⟩ := (Spec.applies_iff hf).mp happ
  obtain ⟨hg, hn⟩ := and_e (Cond.before_iff.mp (show (Jvm.Cond.and given_1 narrow_1).before args s = true from hpre))
  obtain ⟨gc, gk0⟩ := and_e hg
  obtain ⟨ga0, gk1⟩ := and_e gk0
  obtain ⟨ga1, gk2⟩ := and_e gk1
  obtain ⟨w0, w1, w2, rfl⟩ : ∃ w0 w1 w2 : Value, args = #[w0, w1, w2] := by
    have hs : args.size = 3 := by simpa [Cond.value, given_1] using gc
    obtain ⟨L⟩ := args
    match L, hs with
    | [w0, w1, w2], _ => exact ⟨w0, w1, w2, rfl⟩
  have hw := fun d (hd : d ∈ tables_1) => atoms_spec (ws := Jvm.Cond.code x code maxLocals ret :: tables_1) hat d (List.mem_cons_of_mem _ hd)
  have hfit : Fit s := fun {y c} hc i hi => by
    obtain ⟨ha, rfl⟩ := Array.getElem?_eq_some_iff.mp hc
    have q := List.all_eq_true.mp ((Array.all_eq_true_iff_forall_mem.mp hF) _ (Array.getElem_mem ha)) i (List.mem_range.mpr hi)
    simpa [Array.getElem?_eq_getElem hi] using q
  obtain ⟨i0, ei0⟩ := is_v ga0
  obtain rfl : w0 = (.int i0) := Option.some.inj ei0
  obtain ⟨i1, ei1⟩ := is_v ga1
  obtain rfl : w1 = (.int i1) := Option.some.inj ei1
  obtain ⟨i2, ei2⟩ := isL_v gk2
  obtain rfl : w2 = (.long i2) := Option.some.inj ei2
  obtain ⟨n, o, h1, h2, h3, _, L, rfl, ⟨rfl, N⟩, hq⟩ := rm0 l s _ hw tables_1 i0 i1 i2 s.heap s.heap.size (Old.start s) p e ha hc hk s m _ below hf ((Spec.applies_iff_loose hf).mp happ).1 ⟨rfl, State.Warmed39.refl s, rfl⟩ trivial
  refine ⟨n, _, h1, h2, h3, hpost _ _ _ _ _ _ ⟨Cond.after_iff.mpr rfl, Cond.after_iff.mpr (eq_i res_at (Term.int_eval (1)) rfl), trivial⟩ ⟨hq.1, hq.2.1, (hq.2.2.sift fun y hy => Or.inr (N y hy)).mono (by decide) (by decide)⟩⟩
theorem main_1_1 : Claimed_1_1 := comes_1 fun _ _ _ _ _ _ h hF => ⟨h.1, hF⟩
theorem main_1_2 : Claimed_1_2 := comes_1 fun _ _ _ _ _ _ h hF => ⟨h.2.1, hF⟩
end Jvm.Pilot.@@N@@
namespace Jvm.Pilot.@@N@@
open Jvm Jvm.ClassFile Sem Op Lib Jvm.Free Jvm.Stand Jvm.Pilot.@@N@@.Jvm.D
/-! MADE BY PROGRAM (witnessworld.py) out of the Statement's table words and the real class files: 9 classes; the members and pool entries that the words name. The judged class is class 1, her method 1. -/
namespace start1
open Jvm.ClassFile
def u (s : String) : CpInfo := .utf8 (stringToUtf16 s)
/-- a pool by its gaps: so many unusable entries, then the entry; so many at the end -/
def gap : Nat → List CpInfo → List CpInfo
  | 0, r => r
  | n + 1, r => .unusable :: gap n r
def poolList (es : List (Nat × CpInfo)) (last : Nat) : List CpInfo := es.foldr (fun e r => gap e.1 (e.2 :: r)) (gap last [])
def pool (es : List (Nat × CpInfo)) (last : Nat) : Array CpInfo := ⟨poolList es last⟩
def fileOf (pool : Array CpInfo) (this : Nat) (attrs : Array Attribute := #[]) (ms : Array MethodInfo := #[]) (fl : Nat := 33) (sup : Nat := 0) (ifs : Array Nat := #[]) (fds : Array FieldInfo := #[]) : ClassFile where
  minorVersion := 0
  majorVersion := 65
  constantPool := pool
  accessFlags := fl
  thisClass := this
  superClass := sup
  interfaces := ifs
  fields := fds
  methods := ms
  attributes := attrs
def plain (name : String) (sup : Option ClassId) : Class where
  name := name
  kind := .ordinary
  loader := none
  accessFlags := 33
  super := sup
  interfaces := #[]
  cf := none
  fields := #[]
  methods := #[]
  instanceTypes := #[]
  staticTypes := #[]
  resolved := #[]
  callSites := []
  init := .initialized
  statics := none
  mirror := none

def pool0 : Array CpInfo := pool [(5, u "<init>"), (0, u "()V"), (1, .class_ 10), (1, u "java/lang/Object")] 113

def k0m0 : Method := { name := "<init>", desc := "()V", sig := { parameters := [], returnType := none }, accessFlags := 1, code := none }
/-- java/lang/Object -/
def k0 : Class := { plain "java/lang/Object" none with
  accessFlags := 33
  interfaces := #[]
  cf := some (fileOf pool0 8 #[] #[{ accessFlags := 1, nameIndex := 5, descriptorIndex := 6, attributes := #[] }] 33 0 #[] #[])
  fields := #[]
  methods := #[k0m0]
  instanceTypes := #[]
  staticTypes := #[]
  resolved := Array.replicate 124 none
  statics := none }

def pool1 : Array CpInfo := pool [(2, .class_ 4), (1, u "java/lang/Object"), (0, u "<init>"), (0, u "()V"), (0, .integer 2147483647), (0, .methodref 9 10), (0, .class_ 11), (0, .nameAndType 12 13), (0, u "com/example/strikewire/strikewire/engine/JournalReader"), (0, u "intAt"), (0, u "([BI)I"), (0, .class_ 15), (0, u "com/example/strikewire/strikewire/engine/JournalReaderIntAtPinLaw"), (2, u "law"), (0, u "(IIJ)Z")] 5

def k1m0 : Method := { name := "<init>", desc := "()V", sig := { parameters := [], returnType := none }, accessFlags := 1, code := none }
def k1c1 : Code := { maxStack := 5, maxLocals := 6, code := code, exceptionTable := #[], attributes := #[] }
def k1m1 : Method := { name := "law", desc := "(IIJ)Z", sig := { parameters := [.int, .int, .long], returnType := some .boolean }, accessFlags := 9, code := some k1c1 }
/-- com/example/strikewire/strikewire/engine/JournalReaderIntAtPinLaw -/
def k1 : Class := { plain "com/example/strikewire/strikewire/engine/JournalReaderIntAtPinLaw" (some 0) with
  accessFlags := 49
  interfaces := #[]
  cf := some (fileOf pool1 14 #[] #[{ accessFlags := 1, nameIndex := 5, descriptorIndex := 6, attributes := #[] }, { accessFlags := 9, nameIndex := 18, descriptorIndex := 19, attributes := #[] }] 49 2 #[] #[])
  fields := #[]
  methods := #[k1m0, k1m1]
  instanceTypes := #[]
  staticTypes := #[]
  resolved := Array.replicate 25 none
  statics := none }

def pool2 : Array CpInfo := pool [(2, .class_ 4), (1, u "java/lang/Object"), (2, .class_ 8), (0, u "com/example/strikewire/strikewire/engine/JournalReader"), (4, u "mRecentParticipants"), (0, u "[Lcom/example/strikewire/strikewire/model/Participant;"), (1, u "[B"), (2, u "mRecentFirms"), (0, u "[[B"), (2, u "mInstruments"), (0, u "Lcom/example/strikewire/strikewire/model/Instruments;"), (2, u "mParticipants"), (0, u "Lcom/example/strikewire/strikewire/model/Participants;"), (2, u "mType"), (0, u "I"), (2, u "mRecordPosition"), (0, u "J"), (8, u "mBytes"), (50, u "CHOICES"), (0, u "Ljava/lang/ClassValue;"), (6, .class_ 105), (0, u "com/example/strikewire/strikewire/engine/JournalReader$Choices"), (41, u "mNextRecent"), (6, u "mPosition"), (2, u "mLastSeries"), (0, u "Lcom/example/strikewire/strikewire/model/Series;"), (2, u "mLastGroup"), (2, u "mLastInstrument"), (13, u "mEnd"), (4, u "intAt"), (0, u "([BI)I"), (12, .class_ 198), (0, u "com/example/strikewire/strikewire/engine/JournalReader$1"), (1, u "NONE"), (2, u "RECENT")] 71

def k2c0 : Code := { maxStack := 4, maxLocals := 2, code := prog_14_method_17_code, exceptionTable := #[], attributes := #[] }
def k2m0 : Method := { name := "intAt", desc := "([BI)I", sig := { parameters := [(.array .byte), .int], returnType := some .int }, accessFlags := 8, code := some k2c0 }
/-- com/example/strikewire/strikewire/engine/JournalReader -/
def k2 : Class := { plain "com/example/strikewire/strikewire/engine/JournalReader" (some 0) with
  accessFlags := 49
  interfaces := #[]
  cf := some (fileOf pool2 7 #[.nestMembers #[104, 197]] #[{ accessFlags := 8, nameIndex := 183, descriptorIndex := 184, attributes := #[] }] 49 2 #[] #[{ accessFlags := 26, nameIndex := 200, descriptorIndex := 32, attributes := #[] }, { accessFlags := 26, nameIndex := 203, descriptorIndex := 32, attributes := #[] }, { accessFlags := 26, nameIndex := 96, descriptorIndex := 97, attributes := #[] }, { accessFlags := 18, nameIndex := 23, descriptorIndex := 24, attributes := #[] }, { accessFlags := 18, nameIndex := 27, descriptorIndex := 28, attributes := #[] }, { accessFlags := 18, nameIndex := 13, descriptorIndex := 14, attributes := #[] }, { accessFlags := 18, nameIndex := 19, descriptorIndex := 20, attributes := #[] }, { accessFlags := 2, nameIndex := 147, descriptorIndex := 32, attributes := #[] }, { accessFlags := 2, nameIndex := 157, descriptorIndex := 158, attributes := #[] }, { accessFlags := 2, nameIndex := 161, descriptorIndex := 16, attributes := #[] }, { accessFlags := 2, nameIndex := 164, descriptorIndex := 16, attributes := #[] }, { accessFlags := 2, nameIndex := 45, descriptorIndex := 16, attributes := #[] }, { accessFlags := 2, nameIndex := 154, descriptorIndex := 32, attributes := #[] }, { accessFlags := 2, nameIndex := 178, descriptorIndex := 32, attributes := #[] }, { accessFlags := 2, nameIndex := 31, descriptorIndex := 32, attributes := #[] }, { accessFlags := 2, nameIndex := 35, descriptorIndex := 36, attributes := #[] }])
  fields := #[{ name := "NONE", type := .int, accessFlags := 26, slot := 0, constantValue := 0 }, { name := "RECENT", type := .int, accessFlags := 26, slot := 1, constantValue := 0 }, { name := "CHOICES", type := (.object "java/lang/ClassValue"), accessFlags := 26, slot := 2, constantValue := 0 }, { name := "mInstruments", type := (.object "com/example/strikewire/strikewire/model/Instruments"), accessFlags := 18, slot := 0, constantValue := 0 }, { name := "mParticipants", type := (.object "com/example/strikewire/strikewire/model/Participants"), accessFlags := 18, slot := 1, constantValue := 0 }, { name := "mRecentParticipants", type := (.array (.object "com/example/strikewire/strikewire/model/Participant")), accessFlags := 18, slot := 2, constantValue := 0 }, { name := "mRecentFirms", type := (.array (.array .byte)), accessFlags := 18, slot := 3, constantValue := 0 }, { name := "mNextRecent", type := .int, accessFlags := 2, slot := 4, constantValue := 0 }, { name := "mLastSeries", type := (.object "com/example/strikewire/strikewire/model/Series"), accessFlags := 2, slot := 5, constantValue := 0 }, { name := "mLastGroup", type := (.array .byte), accessFlags := 2, slot := 6, constantValue := 0 }, { name := "mLastInstrument", type := (.array .byte), accessFlags := 2, slot := 7, constantValue := 0 }, { name := "mBytes", type := (.array .byte), accessFlags := 2, slot := 8, constantValue := 0 }, { name := "mPosition", type := .int, accessFlags := 2, slot := 9, constantValue := 0 }, { name := "mEnd", type := .int, accessFlags := 2, slot := 10, constantValue := 0 }, { name := "mType", type := .int, accessFlags := 2, slot := 11, constantValue := 0 }, { name := "mRecordPosition", type := .long, accessFlags := 2, slot := 12, constantValue := 0 }]
  methods := #[k2m0]
  instanceTypes := #[(.object "com/example/strikewire/strikewire/model/Instruments"), (.object "com/example/strikewire/strikewire/model/Participants"), (.array (.object "com/example/strikewire/strikewire/model/Participant")), (.array (.array .byte)), .int, (.object "com/example/strikewire/strikewire/model/Series"), (.array .byte), (.array .byte), (.array .byte), .int, .int, .int, .long]
  staticTypes := #[.int, .int, (.object "java/lang/ClassValue")]
  resolved := Array.replicate 275 none
  statics := none }

def pool3 : Array CpInfo := pool [(1, u "java/lang/Cloneable"), (0, .class_ 1), (0, u "java/lang/Object"), (0, .class_ 3)] 3

/-- java/lang/Cloneable -/
def k3 : Class := { plain "java/lang/Cloneable" (some 0) with
  accessFlags := 1537
  interfaces := #[]
  cf := some (fileOf pool3 2 #[] #[] 1537 4 #[] #[])
  fields := #[]
  methods := #[]
  instanceTypes := #[]
  staticTypes := #[]
  resolved := Array.replicate 8 none
  statics := none }

def pool4 : Array CpInfo := pool [(1, u "java/io/Serializable"), (0, .class_ 1), (0, u "java/lang/Object"), (0, .class_ 3)] 3

/-- java/io/Serializable -/
def k4 : Class := { plain "java/io/Serializable" (some 0) with
  accessFlags := 1537
  interfaces := #[]
  cf := some (fileOf pool4 2 #[] #[] 1537 4 #[] #[])
  fields := #[]
  methods := #[]
  instanceTypes := #[]
  staticTypes := #[]
  resolved := Array.replicate 8 none
  statics := none }

/-- the primitive byte -/
def k5 : Class := { plain "byte" none with kind := .primitive 'B', accessFlags := 0x411 }
/-- [B -/
def k6 : Class := { plain "[B" (some 0) with kind := .array 5 .byte, interfaces := #[3, 4], accessFlags := 1041 }

/-- the primitive int -/
def k7 : Class := { plain "int" none with kind := .primitive 'I', accessFlags := 0x411 }
/-- [I -/
def k8 : Class := { plain "[I" (some 0) with kind := .array 7 .int, interfaces := #[3, 4], accessFlags := 1041 }

def heap : Heap := #[]
def classes : Array Class := #[k0, k1, k2, k3, k4, k5, k6, k7, k8]
def interned : List (Array UInt16 × Addr) := []
def slotsUsed : Nat := 0
def theMethod : MethodId := ⟨1, 1⟩
def args0 : Array Value := #[.int 5, .int 3, .long 7]
def aboutOver (below : List Frame) : State where
  vm := { classes := classes, interned := interned.toArray }
  heap := heap
  slotsUsed := slotsUsed
  threads := #[{ frames := .invoking theMethod args0 :: below }]
def below0 : List Frame := [.native { method := ⟨0, 0⟩, args := #[] }]
def about1 : State := aboutOver below0
def p0 : Program := .bare "" "" ""
def e0 : Env := launch0.env 0 0 0
theorem w_frames : about1.frames = Frame.invoking theMethod args0 :: below0 := rfl
set_option maxRecDepth 65536 in
theorem w_args : argsFit about1.vm theMethod args0 = true := by decide +kernel
set_option maxRecDepth 65536 in
theorem w_heap : heapFits about1 = true := by decide +kernel
set_option maxRecDepth 65536 in
theorem w_runnable : about1.curStatus? = some .runnable := by decide +kernel
set_option maxRecDepth 65536 in
theorem w_alone : about1.alone = true := by decide +kernel
set_option maxRecDepth 65536 in
theorem w_named : about1.methodNamed? x = some theMethod := by decide +kernel
set_option maxRecDepth 65536 in
theorem w_hears : about1.hears theMethod below0 = true := by decide +kernel
set_option maxRecDepth 65536 in
theorem w_ripe : about1.ripe theMethod args0 below0 = true := by decide +kernel
theorem w_running : about1.status = .running := rfl
set_option maxRecDepth 65536 in
theorem w_room : about1.hasRoom e0.platform room_1 = true :=
  launch0.hasRoom_least _ room_1 (by decide +kernel) (by decide +kernel) (by decide +kernel) (by decide +kernel) (by decide +kernel) (by decide +kernel)
theorem allAtoms_all (ts : List Jvm.Cond) (a : Array Jvm.Value) (st : Jvm.State) : (allAtoms ts).before a st = ts.all (fun c => c.before a st) := by
  induction ts with
  | nil => rfl
  | cons c t ih =>
    show (Jvm.Cond.and c (allAtoms t)).before a st = _
    rw [Jvm.Cond.before_and, ih, List.all_cons]
def words1 : List Jvm.Cond := Jvm.Cond.code x code maxLocals ret :: tables_1
/-- a 'code' word, met by the world's own term for the bytes: nothing is compared byte by byte -/
theorem code_word {y : MethodName} {bytes : ByteArray} {mx : Nat} {rt : Option FieldType} {a : Array Value} {s : State} {m : MethodId} {meth : Method} {c : Code} (h1 : s.methodNamed? y = some m) (h2 : s.vm.method? m = some meth) (h3 : meth.code = some c) (h4 : c.code = bytes)
    (h5 : (c.maxLocals == mx && c.exceptionTable.isEmpty && decide (c.maxStack ≤ mostOperands) && decide (meth.sig.returnType = rt) && !meth.locks && decide (parseMethodDescriptor y.desc = some meth.sig)) = true) : (Jvm.Cond.code y bytes mx rt).before a s = true := by
  simp only [Bool.and_eq_true, beq_iff_eq, Bool.not_eq_true', decide_eq_true_eq] at h5
  obtain ⟨⟨⟨⟨⟨g1, g2⟩, g3⟩, g4⟩, g5⟩, g6⟩ := h5
  simp [Cond.before, Cond.holds, Cond.value, h1, h2, h3, h4, g1, g2, g3, g4, g5, g6]
def isCode : Jvm.Cond → Bool
  | .code _ _ _ _ => true
  | _ => false
theorem all_split {L : List Jvm.Cond} {P : Jvm.Cond → Bool} (h1 : L.all (fun c => isCode c || P c) = true) (h2 : ∀ c ∈ L.filter isCode, P c = true) : L.all P = true := by
  refine List.all_eq_true.mpr fun c hc => ?_
  have h := List.all_eq_true.mp h1 c hc
  rcases Bool.eq_false_or_eq_true (isCode c) with hi | hi
  · exact h2 c (List.mem_filter.mpr ⟨hc, hi⟩)
  · simpa [hi] using h
set_option maxRecDepth 65536 in
theorem w_c0 : (Jvm.Cond.code x code maxLocals ret).before args0 about1 = true := code_word (m := ⟨1, 1⟩) (meth := k1m1) (c := k1c1) (by decide +kernel) rfl rfl rfl (by decide +kernel)
set_option maxRecDepth 65536 in
theorem w_c1 : (Jvm.Cond.code ({ cls := "com/example/strikewire/strikewire/engine/JournalReader", name := "intAt", desc := "([BI)I" } : Jvm.MethodName) prog_14_method_17_code (2 : Nat) (Option.some Jvm.ClassFile.FieldType.int)).before args0 about1 = true := code_word (m := ⟨2, 0⟩) (meth := k2m0) (c := k2c0) (by decide +kernel) rfl rfl rfl (by decide +kernel)
def codes1 : List Jvm.Cond := [Jvm.Cond.code x code maxLocals ret, Jvm.Cond.code ({ cls := "com/example/strikewire/strikewire/engine/JournalReader", name := "intAt", desc := "([BI)I" } : Jvm.MethodName) prog_14_method_17_code (2 : Nat) (Option.some Jvm.ClassFile.FieldType.int)]
set_option maxRecDepth 65536 in
theorem codes_eq : words1.filter isCode = codes1 := rfl
theorem w_codes : ∀ c ∈ words1.filter isCode, c.before args0 about1 = true := by
  rw [codes_eq]
  intro c hc
  simp only [codes1, List.mem_cons, List.not_mem_nil, or_false] at hc
  rcases hc with rfl | rfl
  · exact w_c0
  · exact w_c1
set_option maxRecDepth 65536 in
theorem w_t1 : words1.all (fun c => isCode c || c.before args0 about1) = true := by decide +kernel
theorem w_tables : (allAtoms (Jvm.Cond.code x code maxLocals ret :: tables_1)).before args0 about1 = true := by
  rw [allAtoms_all]
  show words1.all (fun c => c.before args0 about1) = true
  refine all_split ?_ w_codes
  rw [w_t1]
set_option maxRecDepth 65536 in
theorem w_case : (Jvm.Cond.and given_1 narrow_1).before args0 about1 = true := by decide +kernel
theorem w_applies : (headSpec (Jvm.Cond.code x code maxLocals ret :: tables_1) room_1).applies x e0.platform about1 = true :=
  (Spec.applies_iff w_frames).mpr ⟨w_running, w_runnable, w_alone, w_named, w_hears, w_ripe, w_room, w_tables⟩
theorem atStart : AtStart classFile x code maxLocals ret World_1 tables_1 room_1 Calls_1 rest_1 Pre_1 launch0 p0 e0 about1 theMethod args0 below0 :=
  ⟨lists_1, trivial, launch0.admits_env _ _ _, launch0.least_env, fairChoices_fair.cas, fairChoices_fair.clock, w_frames, w_args, w_heap, w_applies, trivial, trivial, w_case⟩
end start1
theorem witness_1 : WitnessClaimed_1 := ⟨start1.p0, start1.e0, start1.about1, start1.theMethod, start1.args0, start1.below0, start1.atStart⟩
end Jvm.Pilot.@@N@@
