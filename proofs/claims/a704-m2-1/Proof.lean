import JvmDerived
import JvmDerived.Pilot.@@N@@Statement
import JvmDerived.Pilot.@@N@@Code
set_option linter.unusedVariables false
set_option linter.unusedSimpArgs false
namespace Jvm.RoadKit
open Sem ClassFile Op Lib Jvm.Stand Jvm.Free Jvm.LawKit
section New
variable {p : Program} {l : Launch} {e : Env} {R : Room} {s : State} {m : MethodId} {args : Array Value} {below : List Frame} {meth : Method} {c : Code} {T : State} {locs : List Loc} {cells slots : Nat}
theorem retI (X : Stand p l e R s m args below meth c T locs cells slots) (hx : p.tables.exec = Jvm.exec) {pc : Nat} {Ls : Array Slot} {z : Int32} {rest : List Value} (hret : meth.sig.returnType = some .int) (hd : decode c.code pc = .ok (.ireturn, 1)) {fs : List Frame}
    (hl : ∀ (f : JFrame) (acts : List Action), f.method = m → f.locked = none → f.entered = [] → (doReturn e (T.setTop f) acts (some (.int z))).1 = T.setFrames fs) : Steps p.tables e below (T.setTop (mkF m pc Ls (.int z :: rest))) (T.setFrames fs) := by
  have hm' : T.vm.method? m = some meth := X.method'
  have hn : narrow .int (.int z) = .int z := rfl
  show Steps p.tables e below (T.setTop { method := m, pc := pc, locals := Ls, stack := _ :: rest, locked := none }) _
  jvm_step X.here [X.here.top, hx, hd, hm', hret, hn]
  first | (intro acts; rw [hl _ acts rfl rfl rfl]) | rw [hl _ _ rfl rfl rfl]
  exact Steps.refl _
end New
end Jvm.RoadKit
namespace Jvm.Pilot.@@N@@
open Jvm Jvm.ClassFile Sem Op Lib Jvm.Free Jvm.Stand Jvm.LawKit Jvm.RoadKit Bundle Jvm.Pilot.@@N@@.Jvm.D
theorem own_k0 : (0 : Int32).toInt = 0 := rfl
theorem own_k1 : (1 : Int32).toInt = 1 := rfl
theorem own_k2 : (2 : Int32).toInt = 2 := rfl
theorem own_k3 : (3 : Int32).toInt = 3 := rfl
theorem own_and3 (p : Int32) : (p &&& (3 : Int32)) = (0 : Int32) ∨ (p &&& (3 : Int32)) = (1 : Int32) ∨ (p &&& (3 : Int32)) = (2 : Int32) ∨ (p &&& (3 : Int32)) = (3 : Int32) := by
  have h1 := c_mask p 3 2 (by decide) (by decide)
  simp only [← Int32.toInt_inj, own_k0, own_k1, own_k2, own_k3]
  omega
theorem own_mod3 (p : Int32) : ((p &&& (2147483647 : Int32)) % (3 : Int32)) = (0 : Int32) ∨ ((p &&& (2147483647 : Int32)) % (3 : Int32)) = (1 : Int32) ∨ ((p &&& (2147483647 : Int32)) % (3 : Int32)) = (2 : Int32) := by
  have h1 := c_mask p 2147483647 31 (by decide) (by decide)
  have h2 := (c_irem (p &&& 2147483647) 3 3 rfl).1 (by omega)
  simp only [← Int32.toInt_inj, own_k0, own_k1, own_k2]
  omega
theorem own_selP {s : State} {args : Array Value} {y z : MethodName} (hs : (Jvm.Cond.selects z.cls z z).before args s = true) (hz : z.cls = y.cls) (hpriv : s.PrivateAt y) (hinst : (Jvm.Cond.instanceMethod y).before args s = true) (hy : y.cls ≠ "java/lang/invoke/MethodHandle" ∧ y.cls ≠ "java/lang/invoke/VarHandle") : (Jvm.Cond.selects y.cls y y).before args s = true := by
  obtain ⟨c2, r2, m2, q1, q2, q3, q4, kP, hkP, hkPi⟩ := Cond.selects_spec hs
  have hc := findClass_of_methodNamed q3
  exact selects_self_of_private (by rw [← hz]; exact hc) hkP hkPi hpriv hinst hy
theorem getD_all {vs : List Value} {d : Value} (e : vs = List.replicate vs.length d) (i : Nat) : vs.getD i d = d := by
  rw [e]
  have := pad_rep [] d vs.length i
  simpa using this
theorem own_multi {p : Program} {l : Launch} {e : Env} {R : Room} {s : State} {m : MethodId} {args : Array Value} {below : List Frame} {meth : Method} {c : Code} {T Z : State} {locs : List Loc} {cells slots : Nat} {a0 : Array Value} {h : Heap}
    (X : Stand p l e R s m args below meth c T locs cells slots) (hx : p.tables.exec = Jvm.exec) (hZ : Z.Warmed39 s.vm) {own : String} {index : Nat} (hown : s.vm.findClass own = some m.cls) (w1 : (Jvm.Cond.classLink own index "[[J").before a0 Z = true) (w2 : (Jvm.Cond.arrayOver (.array .long)).before a0 Z = true) (w3 : (Jvm.Cond.arrayClass .long).before a0 Z = true) (eT : T.heap = h)
    {g : JFrame} (hg : g.method = m) (hd : decode c.code g.pc = .ok (.multianewarray index 2, 4)) {rest : List Value} (hs : g.stack = .int 8 :: .int 1 :: rest) (hc : cells + 2 ≤ R.cells) (hl : slots + 9 ≤ R.slots) :
    ∃ (T' : State) (h' : Heap) (kA kI : ClassId), Stand p l e R s m args below meth c T' locs (cells + 2) (slots + 9) ∧ T'.heap = h' ∧ Ext h h' ∧ Arv Z h' h.size kA (.array .long) (1 : Int32) [(.ref (h.size + 1))] .null ∧ Arv Z h' (h.size + 1) kI .long (8 : Int32) [(.long (0 : Int64)), (.long (0 : Int64)), (.long (0 : Int64)), (.long (0 : Int64)), (.long (0 : Int64)), (.long (0 : Int64)), (.long (0 : Int64)), (.long (0 : Int64))] (.long (0 : Int64)) ∧
      ∀ target, Steps p.tables e below (T'.setTop { g with pc := g.pc + 4, stack := .ref h.size :: rest }) target → Steps p.tables e below (T.setTop g) target := by
  have n1 : (1 : Int32).toNatClampNeg = 1 := rfl
  have n8 : (8 : Int32).toNatClampNeg = 8 := rfl
  have w2' : (Jvm.Cond.arrayOver (.array .long)).before args s = true := by
    have q := (Cond.arrayOver_setVmC (args := a0) (s := Z) hZ.alike (.array .long)).trans w2
    exact q
  obtain ⟨vm₁, cA, comp, hW, hfA, hfC, -, -, X', st⟩ := X.multianewarray2F hx (ty := .long) hown (mv hZ w1) w2' (mvA hZ w3) hg hd hs (by decide) (by decide) (by decide) (by decide) (by decide) rfl rfl hc hl
  subst eT
  obtain ⟨c1, c2, k2, z1, z2, z3, z4⟩ := Cond.arrayOver_specA w2
  obtain ⟨c3, k3, q3, y1, y2, y3⟩ := Cond.arrayClass_spec w3
  rw [hZ.alike.findClass] at hfA hfC
  cases z4.symm.trans hfA
  cases (show Z.vm.findClass (FieldType.array FieldType.long).toString = some c3 from y1).symm.trans hfC
  obtain ⟨f1, f2, -, -⟩ := Jvm.Free.Multi.fill_facts (T.setVm vm₁) cA comp 1 8 (.long 0) 1
  have f3 := Jvm.Free.Multi.fill_inner (T.setVm vm₁) cA comp 1 8 (.long 0) 1 0 (by decide)
  obtain ⟨o1, o2, o3⟩ := Jvm.Free.Multi.outerC_facts cA 1 (T.setVm vm₁).heap.size 1
  have o4 := Jvm.Free.Multi.outerC_slot cA 1 (T.setVm vm₁).heap.size 1 0 (by decide)
  refine ⟨_, _, cA, comp, X', rfl, ⟨?_, fun a cl ha => ?_⟩, ⟨_, ⟨f2, ⟨fun q => ?_, k2, ?_, c1, z3⟩, ?_⟩, o1, o3, by decide, fun i hi => ?_, fun i hi => ?_⟩, ⟨_, ⟨f3, ⟨fun q => ?_, k3, y2, q3, y3⟩, ?_⟩, rfl, ?_, by decide, fun i hi => ?_, fun i hi => ?_⟩, st⟩
  · show T.heap.size ≤ _
    rw [n1, n8]
    have : (Jvm.Free.Multi.fill (T.setVm vm₁) cA comp 1 8 (.long 0) 1).heap.size = T.heap.size + 1 + 1 := f1
    exact Nat.le_trans (Nat.le_add_right _ 2) (Nat.le_of_eq this.symm)
  · exact (Jvm.Free.Multi.fill_old (T.setVm vm₁) cA comp 1 8 (.long 0) (a := a) (Array.getElem?_eq_some_iff.mp ha).1 1).trans ha
  · exact fun w => by rw [o2] at w; cases w
  · rw [o1]; exact z2
  · rw [o2]; exact fun w => by cases w
  · have hi0 : i = 0 := by rw [o3] at hi; omega
    subst hi0
    exact o4
  · have hi0 : i = 0 := by rw [o3] at hi; omega
    subst hi0
    rfl
  · exact fun w => by cases w
  · exact fun w => by cases w
  · exact Array.size_replicate
  · have hi8 : i < 8 := by rw [show (Jvm.Free.Multi.innerC comp 8 (Value.long 0)).slots.size = 8 from Array.size_replicate] at hi; exact hi
    have q : (Jvm.Free.Multi.innerC comp 8 (Value.long 0)).slots[i]? = some (Value.long 0) := by
      show (Array.replicate 8 (Value.long 0))[i]? = _
      rw [Array.getElem?_replicate, if_pos hi8]
    rw [q]
    exact congrArg some (getD_all (by rfl) i).symm
  · have q : ([(.long (0 : Int64)), (.long (0 : Int64)), (.long (0 : Int64)), (.long (0 : Int64)), (.long (0 : Int64)), (.long (0 : Int64)), (.long (0 : Int64)), (.long (0 : Int64))] : List Value).getD i (.long (0 : Int64)) = .long 0 := getD_all (by rfl) i
    rw [q]
    rfl
theorem d1_0 : decode prog_19_method_1_code 0 = .ok (.aload_n 0, 1) := by decide +kernel
theorem d1_1 : decode prog_19_method_1_code 1 = .ok (.invokespecial 3, 3) := by decide +kernel
theorem d1_4 : decode prog_19_method_1_code 4 = .ok (.aload_n 0, 1) := by decide +kernel
theorem d1_5 : decode prog_19_method_1_code 5 = .ok (.iconst 1, 1) := by decide +kernel
theorem d1_6 : decode prog_19_method_1_code 6 = .ok (.bipush 8, 2) := by decide +kernel
theorem d1_8 : decode prog_19_method_1_code 8 = .ok (.multianewarray 9 2, 4) := by decide +kernel
theorem d1_12 : decode prog_19_method_1_code 12 = .ok (.putfield 11, 3) := by decide +kernel
theorem d1_15 : decode prog_19_method_1_code 15 = .ok (.return_, 1) := by decide +kernel
theorem pn_1 : plainName "com/example/strikewire/strikewire/engine/LongList" = true := by first | (simp [plainName, overriddenIn]; done) | decide +kernel
theorem ef_rm1 (m : MethodId) (p0 : Addr) : entryFrame m #[(.ref p0)] 1 = mkF m 0 #[.val (.ref p0)] [] := by first | (simp [entryFrame, mkF, argsToLocals, Value.category]; done) | rfl
def Q1 (Z : State) (p0 : Addr) (h0 : Heap) (n0 : Nat) (v : Option Value) (h : Heap) (L : List Loc) : Prop := ∃ b1 : Addr, ∃ b2 : Addr, ∃ k1 : ClassId, ∃ k2 : ClassId, v = none ∧ Fr n0 L ∧ Keep h0 h [p0] ∧ (Exa Z h p0 "com/example/strikewire/strikewire/engine/LongList") ∧ (Fld Z h p0 "com/example/strikewire/strikewire/engine/LongList" "mBlocks" "[[J" (.ref b1)) ∧ (Fld Z h p0 "com/example/strikewire/strikewire/engine/LongList" "mSize" "I" (.int (0 : Int32))) ∧ (Arv Z h b1 k1 (.array .long) (1 : Int32) [(.ref b2)] .null) ∧ (Arv Z h b2 k2 .long (8 : Int32) [(.long (0 : Int64)), (.long (0 : Int64)), (.long (0 : Int64)), (.long (0 : Int64)), (.long (0 : Int64)), (.long (0 : Int64)), (.long (0 : Int64)), (.long (0 : Int64))] (.long (0 : Int64))) ∧ (h0.size ≤ b1) ∧ (h0.size ≤ b2) ∧ (b1 ≠ b2)
set_option maxRecDepth 65536 in
set_option maxHeartbeats 40000000 in
theorem rm1 (l : Launch) (Z : State) (a0 : Array Value) (hw : ∀ d ∈ tables_1, d.before a0 Z = true) (ws : List Jvm.Cond) (p0 : Addr) (h0 : Heap) (n0 : Nat) (O0 : Old Z n0 h0) (F0_ : Exa Z h0 p0 "com/example/strikewire/strikewire/engine/LongList") (F1_ : Fld Z h0 p0 "com/example/strikewire/strikewire/engine/LongList" "mBlocks" "[[J" .null) (F2_ : Fld Z h0 p0 "com/example/strikewire/strikewire/engine/LongList" "mSize" "I" (.int (0 : Int32))) (F3_ : n0 ≤ p0) :
    MetFree l (⟨"com/example/strikewire/strikewire/engine/LongList", "<init>", "()V"⟩ : MethodName) (head1 (Jvm.Cond.code (⟨"com/example/strikewire/strikewire/engine/LongList", "<init>", "()V"⟩ : MethodName) prog_19_method_1_code 1 none :: ws) ({ frames := 1, cells := 2, slots := 9, locals := 12 } : Room)) (fun a U => a = #[(.ref p0)] ∧ Z.Warmed39 U.vm ∧ U.heap = h0) (fun _ _ _ _ _ => True) (fun _ U o U' => ∃ v L, o = .returned v ∧ Q1 Z p0 h0 n0 v U'.heap L ∧ FrameEnd U o U' L ({ frames := 1, cells := 2, slots := 9, locals := 12 } : Room).cells ({ frames := 1, cells := 2, slots := 9, locals := 12 } : Room).slots) := by
  refine MetFree.of_bodySF (plainFor_of_name pn_1) hisR ?_
  intro p e s m args below meth c s₁ Bd hml0 hP hK
  obtain ⟨rfl, hZ, hh⟩ := hP
  have hx := Bd.exec
  have hby := Bd.bytes
  have hml : c.maxLocals = 1 := hml0
  have hown : s.vm.findClass "com/example/strikewire/strikewire/engine/LongList" = some m.cls := findClass_of_methodNamed Bd.named
  have hnm := (name_of_methodNamed Bd.named Bd.method).1
  have X0 : Stand p l e ({ frames := 1, cells := 2, slots := 9, locals := 12 } : Room) s m #[(.ref p0)] below meth c s₁ [] 0 0 := Stand.of_body Bd
  have e0 : s₁.heap = h0 := by rw [← hh, Bd.state]; rfl
  have N0 := Fr.nil n0
  have s0 : Steps p.tables e below (s₁.setTop (entryFrame m #[(.ref p0)] 1)) (s₁.setTop (mkF m 0 #[.val (.ref p0)] [])) := castTop (ef_rm1 m p0) (Steps.refl _)
  obtain ⟨T1, X1, e1, st1⟩ := initO X0 hx hZ hown (hw _ (List.mem_of_getElem? (i := 7) rfl)) (hw _ (List.mem_of_getElem? (i := 8) rfl)) (hw _ (List.mem_of_getElem? (i := 9) rfl)) e0 (g := (mkF m 1 #[.val (.ref p0)] [(.ref p0)])) rfl (by rw [hml]; rfl) rfl (hb hby d1_1) (by decide) (W := 0) (by show 2 * 0 + _ ≤ _; exact Nat.le_of_eq rfl) (by decide)
  obtain ⟨T2, h2, k2, ki2, X2, e2, E2, V2, Vi2, st2⟩ := own_multi X1 hx hZ hown (hw _ (List.mem_of_getElem? (i := 10) rfl)) (hw _ (List.mem_of_getElem? (i := 11) rfl)) (hw _ (List.mem_of_getElem? (i := 12) rfl)) e1 (g := (mkF m 8 #[.val (.ref p0)] [(.int (8 : Int32)), (.int (1 : Int32)), (.ref p0)])) rfl (hb hby d1_8) rfl (by decide) (by decide)
  obtain ⟨bi2, gi2⟩ : ∃ z, z = h0.size + 1 := ⟨_, rfl⟩
  obtain ⟨b2, g2⟩ : ∃ z, z = h0.size := ⟨_, rfl⟩
  rw [← gi2] at V2 Vi2
  rw [← g2] at V2 st2
  have ne_p0_b2 : p0 ≠ b2 := Nat.ne_of_lt (Nat.lt_of_lt_of_le F0_.lt (Nat.le_of_eq g2.symm))
  have g_b2 : n0 ≤ b2 := Nat.le_trans (Nat.le_of_eq O0.1.symm) (Nat.le_trans O0.2.1 (Nat.le_of_eq g2.symm))
  have sz_b2 : h0.size ≤ b2 := Nat.le_trans (Keep.refl h0 [p0]).1 (Nat.le_of_eq g2.symm)
  have ne_p0_bi2 : p0 ≠ bi2 := Nat.ne_of_lt (Nat.lt_of_lt_of_le F0_.lt (Nat.le_trans (Nat.le_succ _) (Nat.le_of_eq gi2.symm)))
  have g_bi2 : n0 ≤ bi2 := Nat.le_trans (Nat.le_of_eq O0.1.symm) (Nat.le_trans O0.2.1 (Nat.le_trans (Nat.le_succ _) (Nat.le_of_eq gi2.symm)))
  have sz_bi2 : h0.size ≤ bi2 := Nat.le_trans (Keep.refl h0 [p0]).1 (Nat.le_trans (Nat.le_succ _) (Nat.le_of_eq gi2.symm))
  have ne_b2_bi2 : b2 ≠ bi2 := by rw [g2, gi2]; exact Nat.ne_of_lt (Nat.lt_succ_self _)
  have O2 := O0.ext E2
  have K2 : Keep h0 h2 [p0] := (Keep.refl h0 [p0]).ext E2
  have c3 : Exa Z h2 p0 "com/example/strikewire/strikewire/engine/LongList" := (F0_.ext E2)
  have c4 : Fld Z h2 p0 "com/example/strikewire/strikewire/engine/LongList" "mBlocks" "[[J" .null := (F1_.ext E2)
  obtain ⟨T5, h5, X5, e5, W5, st5⟩ := putF X2 hx hZ hown (host := "") (Or.inl (hw _ (List.mem_of_getElem? (i := 13) rfl))) Via.refl e2 c4 c3 (Or.inl (hw _ (List.mem_of_getElem? (i := 14) rfl))) (hw _ (List.mem_of_getElem? (i := 2) rfl)) (ty := (.array (.array .long))) (by decide) rfl rfl (g := (mkF m 12 #[.val (.ref p0)] [(.ref b2), (.ref p0)])) rfl rfl (hb hby d1_12)
  have Fw5 := c4.same W5
  have O5 := O2.wr W5 F3_
  have K5 : Keep h0 h5 [p0] := K2.wr W5 (Or.inl (List.mem_of_getElem? (i := 0) rfl))
  have N5 := Fr.snoc X5 N0 F3_
  have s6 : Steps p.tables e below (s₁.setTop (entryFrame m #[(.ref p0)] 1)) (T5.setTop (mkF m 15 #[.val (.ref p0)] [])) := by
    refine s0.trans ?_
    show Steps p.tables e below (s₁.setTop (mkF m 0 #[.val (.ref p0)] [])) _
    refine XS.aloadN X0.here hx rfl (hb hby d1_0) rfl rfl ?_
    show Steps p.tables e below (s₁.setTop (mkF m 1 #[.val (.ref p0)] [(.ref p0)])) _
    refine st1 _ ?_
    show Steps p.tables e below (T1.setTop (mkF m 4 #[.val (.ref p0)] [])) _
    refine XS.aloadN X1.here hx rfl (hb hby d1_4) rfl rfl ?_
    show Steps p.tables e below (T1.setTop (mkF m 5 #[.val (.ref p0)] [(.ref p0)])) _
    refine XS.iconst X1.here hx rfl (hb hby d1_5) ?_
    show Steps p.tables e below (T1.setTop (mkF m 6 #[.val (.ref p0)] [(.int (1 : Int32)), (.ref p0)])) _
    refine XS.bipush X1.here hx rfl (hb hby d1_6) ?_
    show Steps p.tables e below (T1.setTop (mkF m 8 #[.val (.ref p0)] [(.int (8 : Int32)), (.int (1 : Int32)), (.ref p0)])) _
    refine st2 _ ?_
    show Steps p.tables e below (T2.setTop (mkF m 12 #[.val (.ref p0)] [(.ref b2), (.ref p0)])) _
    refine st5 _ ?_
    exact Steps.refl _
  have c7 : Exa Z h5 p0 "com/example/strikewire/strikewire/engine/LongList" := (c3.wr W5)
  have c8 : Fld Z h5 p0 "com/example/strikewire/strikewire/engine/LongList" "mSize" "I" (.int (0 : Int32)) := ((F2_.ext E2).other W5 (Or.inr (slot_ne (Or.inl (hw _ (List.mem_of_getElem? (i := 21) rfl))) (Or.inl (hw _ (List.mem_of_getElem? (i := 14) rfl))) (by decide) (t := .int) (t' := (.array (.array .long))) (by decide) (by decide))))
  have c9 : Arv Z h5 b2 k2 (.array .long) (1 : Int32) [(.ref bi2)] .null := (V2.other W5 (Ne.symm ne_p0_b2))
  have c10 : Arv Z h5 bi2 ki2 .long (8 : Int32) [(.long (0 : Int64)), (.long (0 : Int64)), (.long (0 : Int64)), (.long (0 : Int64)), (.long (0 : Int64)), (.long (0 : Int64)), (.long (0 : Int64)), (.long (0 : Int64))] (.long (0 : Int64)) := (Vi2.other W5 (Ne.symm ne_p0_bi2))
  obtain ⟨fs, hr, hrun, hended, hW, hsame⟩ := X5.leave (v := none) (fun _ => rfl)
  refine ⟨_, _, s6.trans ?_, hrun, hended, _, _, rfl, ?_, ⟨_, rfl⟩, hW, hsame.mono (by decide) (by decide)⟩
  · show Steps p.tables e below (T5.setTop (mkF m 15 #[.val (.ref p0)] [])) _
    exact X5.returnOut hx Bd.returns (hb hby d1_15) hr
  · show Q1 Z p0 h0 n0 _ T5.heap _
    rw [e5]
    exact ⟨b2, bi2, k2, ki2, rfl, N5, K5, c7, Fw5, c8, c9, c10, sz_b2, sz_bi2, ne_b2_bi2⟩
theorem d3_0 : decode prog_19_method_6_code 0 = .ok (.aload_n 0, 1) := by decide +kernel
theorem d3_1 : decode prog_19_method_6_code 1 = .ok (.iconst 1, 1) := by decide +kernel
theorem d3_2 : decode prog_19_method_6_code 2 = .ok (.bipush 8, 2) := by decide +kernel
theorem d3_4 : decode prog_19_method_6_code 4 = .ok (.multianewarray 9 2, 4) := by decide +kernel
theorem d3_8 : decode prog_19_method_6_code 8 = .ok (.putfield 11, 3) := by decide +kernel
theorem d3_11 : decode prog_19_method_6_code 11 = .ok (.aload_n 0, 1) := by decide +kernel
theorem d3_12 : decode prog_19_method_6_code 12 = .ok (.iconst 0, 1) := by decide +kernel
theorem d3_13 : decode prog_19_method_6_code 13 = .ok (.putfield 14, 3) := by decide +kernel
theorem d3_16 : decode prog_19_method_6_code 16 = .ok (.return_, 1) := by decide +kernel
theorem ef_rm3 (m : MethodId) (p0 : Addr) : entryFrame m #[(.ref p0)] 1 = mkF m 0 #[.val (.ref p0)] [] := by first | (simp [entryFrame, mkF, argsToLocals, Value.category]; done) | rfl
def Q3 (Z : State) (p0 : Addr) (o1 : Addr) (w1 : Int32) (h0 : Heap) (n0 : Nat) (v : Option Value) (h : Heap) (L : List Loc) : Prop := ∃ b1 : Addr, ∃ b2 : Addr, ∃ k1 : ClassId, ∃ k2 : ClassId, v = none ∧ Fr n0 L ∧ Keep h0 h [p0] ∧ (Exa Z h p0 "com/example/strikewire/strikewire/engine/LongList") ∧ (Fld Z h p0 "com/example/strikewire/strikewire/engine/LongList" "mBlocks" "[[J" (.ref b1)) ∧ (Fld Z h p0 "com/example/strikewire/strikewire/engine/LongList" "mSize" "I" (.int (0 : Int32))) ∧ (Arv Z h b1 k1 (.array .long) (1 : Int32) [(.ref b2)] .null) ∧ (Arv Z h b2 k2 .long (8 : Int32) [(.long (0 : Int64)), (.long (0 : Int64)), (.long (0 : Int64)), (.long (0 : Int64)), (.long (0 : Int64)), (.long (0 : Int64)), (.long (0 : Int64)), (.long (0 : Int64))] (.long (0 : Int64))) ∧ (h0.size ≤ b1) ∧ (h0.size ≤ b2) ∧ (b1 ≠ b2)
set_option maxRecDepth 65536 in
set_option maxHeartbeats 40000000 in
theorem rm3 (l : Launch) (Z : State) (a0 : Array Value) (hw : ∀ d ∈ tables_1, d.before a0 Z = true) (ws : List Jvm.Cond) (p0 : Addr) (o1 : Addr) (w1 : Int32) (h0 : Heap) (n0 : Nat) (O0 : Old Z n0 h0) (F0_ : Exa Z h0 p0 "com/example/strikewire/strikewire/engine/LongList") (F1_ : Fld Z h0 p0 "com/example/strikewire/strikewire/engine/LongList" "mBlocks" "[[J" (.ref o1)) (F2_ : Fld Z h0 p0 "com/example/strikewire/strikewire/engine/LongList" "mSize" "I" (.int w1)) (F3_ : n0 ≤ p0) :
    MetFree l (⟨"com/example/strikewire/strikewire/engine/LongList", "clear", "()V"⟩ : MethodName) (head1 (Jvm.Cond.code (⟨"com/example/strikewire/strikewire/engine/LongList", "clear", "()V"⟩ : MethodName) prog_19_method_6_code 1 none :: ws) ({ frames := 0, cells := 2, slots := 9, locals := 0 } : Room)) (fun a U => a = #[(.ref p0)] ∧ Z.Warmed39 U.vm ∧ U.heap = h0) (fun _ _ _ _ _ => True) (fun _ U o U' => ∃ v L, o = .returned v ∧ Q3 Z p0 o1 w1 h0 n0 v U'.heap L ∧ FrameEnd U o U' L ({ frames := 0, cells := 2, slots := 9, locals := 0 } : Room).cells ({ frames := 0, cells := 2, slots := 9, locals := 0 } : Room).slots) := by
  refine MetFree.of_bodySF (plainFor_of_name pn_1) hisR ?_
  intro p e s m args below meth c s₁ Bd hml0 hP hK
  obtain ⟨rfl, hZ, hh⟩ := hP
  have hx := Bd.exec
  have hby := Bd.bytes
  have hml : c.maxLocals = 1 := hml0
  have hown : s.vm.findClass "com/example/strikewire/strikewire/engine/LongList" = some m.cls := findClass_of_methodNamed Bd.named
  have hnm := (name_of_methodNamed Bd.named Bd.method).1
  have X0 : Stand p l e ({ frames := 0, cells := 2, slots := 9, locals := 0 } : Room) s m #[(.ref p0)] below meth c s₁ [] 0 0 := Stand.of_body Bd
  have e0 : s₁.heap = h0 := by rw [← hh, Bd.state]; rfl
  have N0 := Fr.nil n0
  have s0 : Steps p.tables e below (s₁.setTop (entryFrame m #[(.ref p0)] 1)) (s₁.setTop (mkF m 0 #[.val (.ref p0)] [])) := castTop (ef_rm3 m p0) (Steps.refl _)
  obtain ⟨T1, h1, k1, ki1, X1, e1, E1, V1, Vi1, st1⟩ := own_multi X0 hx hZ hown (hw _ (List.mem_of_getElem? (i := 10) rfl)) (hw _ (List.mem_of_getElem? (i := 11) rfl)) (hw _ (List.mem_of_getElem? (i := 12) rfl)) e0 (g := (mkF m 4 #[.val (.ref p0)] [(.int (8 : Int32)), (.int (1 : Int32)), (.ref p0)])) rfl (hb hby d3_4) rfl (by decide) (by decide)
  obtain ⟨bi1, gi1⟩ : ∃ z, z = h0.size + 1 := ⟨_, rfl⟩
  obtain ⟨b1, g1⟩ : ∃ z, z = h0.size := ⟨_, rfl⟩
  rw [← gi1] at V1 Vi1
  rw [← g1] at V1 st1
  have ne_p0_b1 : p0 ≠ b1 := Nat.ne_of_lt (Nat.lt_of_lt_of_le F0_.lt (Nat.le_of_eq g1.symm))
  have g_b1 : n0 ≤ b1 := Nat.le_trans (Nat.le_of_eq O0.1.symm) (Nat.le_trans O0.2.1 (Nat.le_of_eq g1.symm))
  have sz_b1 : h0.size ≤ b1 := Nat.le_trans (Keep.refl h0 [p0]).1 (Nat.le_of_eq g1.symm)
  have ne_p0_bi1 : p0 ≠ bi1 := Nat.ne_of_lt (Nat.lt_of_lt_of_le F0_.lt (Nat.le_trans (Nat.le_succ _) (Nat.le_of_eq gi1.symm)))
  have g_bi1 : n0 ≤ bi1 := Nat.le_trans (Nat.le_of_eq O0.1.symm) (Nat.le_trans O0.2.1 (Nat.le_trans (Nat.le_succ _) (Nat.le_of_eq gi1.symm)))
  have sz_bi1 : h0.size ≤ bi1 := Nat.le_trans (Keep.refl h0 [p0]).1 (Nat.le_trans (Nat.le_succ _) (Nat.le_of_eq gi1.symm))
  have ne_b1_bi1 : b1 ≠ bi1 := by rw [g1, gi1]; exact Nat.ne_of_lt (Nat.lt_succ_self _)
  have O1 := O0.ext E1
  have K1 : Keep h0 h1 [p0] := (Keep.refl h0 [p0]).ext E1
  have c2 : Exa Z h1 p0 "com/example/strikewire/strikewire/engine/LongList" := (F0_.ext E1)
  have c3 : Fld Z h1 p0 "com/example/strikewire/strikewire/engine/LongList" "mBlocks" "[[J" (.ref o1) := (F1_.ext E1)
  obtain ⟨T4, h4, X4, e4, W4, st4⟩ := putF X1 hx hZ hown (host := "") (Or.inl (hw _ (List.mem_of_getElem? (i := 13) rfl))) Via.refl e1 c3 c2 (Or.inl (hw _ (List.mem_of_getElem? (i := 14) rfl))) (hw _ (List.mem_of_getElem? (i := 2) rfl)) (ty := (.array (.array .long))) (by decide) rfl rfl (g := (mkF m 8 #[.val (.ref p0)] [(.ref b1), (.ref p0)])) rfl rfl (hb hby d3_8)
  have Fw4 := c3.same W4
  have O4 := O1.wr W4 F3_
  have K4 : Keep h0 h4 [p0] := K1.wr W4 (Or.inl (List.mem_of_getElem? (i := 0) rfl))
  have N4 := Fr.snoc X4 N0 F3_
  have c5 : Exa Z h4 p0 "com/example/strikewire/strikewire/engine/LongList" := (c2.wr W4)
  have c6 : Fld Z h4 p0 "com/example/strikewire/strikewire/engine/LongList" "mSize" "I" (.int w1) := ((F2_.ext E1).other W4 (Or.inr (slot_ne (Or.inl (hw _ (List.mem_of_getElem? (i := 21) rfl))) (Or.inl (hw _ (List.mem_of_getElem? (i := 14) rfl))) (by decide) (t := .int) (t' := (.array (.array .long))) (by decide) (by decide))))
  obtain ⟨T7, h7, X7, e7, W7, st7⟩ := putF X4 hx hZ hown (host := "") (Or.inl (hw _ (List.mem_of_getElem? (i := 20) rfl))) Via.refl e4 c6 c5 (Or.inl (hw _ (List.mem_of_getElem? (i := 21) rfl))) (hw _ (List.mem_of_getElem? (i := 2) rfl)) (ty := .int) (by decide) rfl rfl (g := (mkF m 13 #[.val (.ref p0)] [(.int (0 : Int32)), (.ref p0)])) rfl rfl (hb hby d3_13)
  have Fw7 := c6.same W7
  have O7 := O4.wr W7 F3_
  have K7 : Keep h0 h7 [p0] := K4.wr W7 (Or.inl (List.mem_of_getElem? (i := 0) rfl))
  have N7 := Fr.snoc X7 N4 F3_
  have s8 : Steps p.tables e below (s₁.setTop (entryFrame m #[(.ref p0)] 1)) (T7.setTop (mkF m 16 #[.val (.ref p0)] [])) := by
    refine s0.trans ?_
    show Steps p.tables e below (s₁.setTop (mkF m 0 #[.val (.ref p0)] [])) _
    refine XS.aloadN X0.here hx rfl (hb hby d3_0) rfl rfl ?_
    show Steps p.tables e below (s₁.setTop (mkF m 1 #[.val (.ref p0)] [(.ref p0)])) _
    refine XS.iconst X0.here hx rfl (hb hby d3_1) ?_
    show Steps p.tables e below (s₁.setTop (mkF m 2 #[.val (.ref p0)] [(.int (1 : Int32)), (.ref p0)])) _
    refine XS.bipush X0.here hx rfl (hb hby d3_2) ?_
    show Steps p.tables e below (s₁.setTop (mkF m 4 #[.val (.ref p0)] [(.int (8 : Int32)), (.int (1 : Int32)), (.ref p0)])) _
    refine st1 _ ?_
    show Steps p.tables e below (T1.setTop (mkF m 8 #[.val (.ref p0)] [(.ref b1), (.ref p0)])) _
    refine st4 _ ?_
    show Steps p.tables e below (T4.setTop (mkF m 11 #[.val (.ref p0)] [])) _
    refine XS.aloadN X4.here hx rfl (hb hby d3_11) rfl rfl ?_
    show Steps p.tables e below (T4.setTop (mkF m 12 #[.val (.ref p0)] [(.ref p0)])) _
    refine XS.iconst X4.here hx rfl (hb hby d3_12) ?_
    show Steps p.tables e below (T4.setTop (mkF m 13 #[.val (.ref p0)] [(.int (0 : Int32)), (.ref p0)])) _
    refine st7 _ ?_
    exact Steps.refl _
  have c9 : Exa Z h7 p0 "com/example/strikewire/strikewire/engine/LongList" := (c5.wr W7)
  have c10 : Fld Z h7 p0 "com/example/strikewire/strikewire/engine/LongList" "mBlocks" "[[J" (.ref b1) := (Fw4.other W7 (Or.inr (slot_ne (Or.inl (hw _ (List.mem_of_getElem? (i := 14) rfl))) (Or.inl (hw _ (List.mem_of_getElem? (i := 21) rfl))) (by decide) (t := (.array (.array .long))) (t' := .int) (by decide) (by decide))))
  have c11 : Arv Z h7 b1 k1 (.array .long) (1 : Int32) [(.ref bi1)] .null := ((V1.other W4 (Ne.symm ne_p0_b1)).other W7 (Ne.symm ne_p0_b1))
  have c12 : Arv Z h7 bi1 ki1 .long (8 : Int32) [(.long (0 : Int64)), (.long (0 : Int64)), (.long (0 : Int64)), (.long (0 : Int64)), (.long (0 : Int64)), (.long (0 : Int64)), (.long (0 : Int64)), (.long (0 : Int64))] (.long (0 : Int64)) := ((Vi1.other W4 (Ne.symm ne_p0_bi1)).other W7 (Ne.symm ne_p0_bi1))
  obtain ⟨fs, hr, hrun, hended, hW, hsame⟩ := X7.leave (v := none) (fun _ => rfl)
  refine ⟨_, _, s8.trans ?_, hrun, hended, _, _, rfl, ?_, ⟨_, rfl⟩, hW, hsame.mono (by decide) (by decide)⟩
  · show Steps p.tables e below (T7.setTop (mkF m 16 #[.val (.ref p0)] [])) _
    exact X7.returnOut hx Bd.returns (hb hby d3_16) hr
  · show Q3 Z p0 o1 w1 h0 n0 _ T7.heap _
    rw [e7]
    exact ⟨b1, bi1, k1, ki1, rfl, N7, K7, c9, c10, Fw7, c11, c12, sz_b1, sz_bi1, ne_b1_bi1⟩
theorem d4_0 : decode prog_19_method_2_code 0 = .ok (.aload_n 0, 1) := by decide +kernel
theorem d4_1 : decode prog_19_method_2_code 1 = .ok (.getfield 14, 3) := by decide +kernel
theorem d4_4 : decode prog_19_method_2_code 4 = .ok (.ireturn, 1) := by decide +kernel
theorem ef_rm4 (m : MethodId) (p0 : Addr) : entryFrame m #[(.ref p0)] 1 = mkF m 0 #[.val (.ref p0)] [] := by first | (simp [entryFrame, mkF, argsToLocals, Value.category]; done) | rfl
def Q4 (Z : State) (p0 : Addr) (w1 : Int32) (h0 : Heap) (n0 : Nat) (v : Option Value) (h : Heap) (L : List Loc) : Prop := v = some (.int w1) ∧ Fr n0 L ∧ h = h0
set_option maxRecDepth 65536 in
set_option maxHeartbeats 40000000 in
theorem rm4 (l : Launch) (Z : State) (a0 : Array Value) (hw : ∀ d ∈ tables_1, d.before a0 Z = true) (ws : List Jvm.Cond) (p0 : Addr) (w1 : Int32) (h0 : Heap) (n0 : Nat) (O0 : Old Z n0 h0) (F0_ : Fld Z h0 p0 "com/example/strikewire/strikewire/engine/LongList" "mSize" "I" (.int w1)) :
    MetFree l (⟨"com/example/strikewire/strikewire/engine/LongList", "size", "()I"⟩ : MethodName) (head1 (Jvm.Cond.code (⟨"com/example/strikewire/strikewire/engine/LongList", "size", "()I"⟩ : MethodName) prog_19_method_2_code 1 (some .int) :: ws) ({ frames := 0, cells := 0, slots := 0, locals := 0 } : Room)) (fun a U => a = #[(.ref p0)] ∧ Z.Warmed39 U.vm ∧ U.heap = h0) (fun _ _ _ _ _ => True) (fun _ U o U' => ∃ v L, o = .returned v ∧ Q4 Z p0 w1 h0 n0 v U'.heap L ∧ FrameEnd U o U' L ({ frames := 0, cells := 0, slots := 0, locals := 0 } : Room).cells ({ frames := 0, cells := 0, slots := 0, locals := 0 } : Room).slots) := by
  refine MetFree.of_bodySF (plainFor_of_name pn_1) hisR ?_
  intro p e s m args below meth c s₁ Bd hml0 hP hK
  obtain ⟨rfl, hZ, hh⟩ := hP
  have hx := Bd.exec
  have hby := Bd.bytes
  have hml : c.maxLocals = 1 := hml0
  have hown : s.vm.findClass "com/example/strikewire/strikewire/engine/LongList" = some m.cls := findClass_of_methodNamed Bd.named
  have hnm := (name_of_methodNamed Bd.named Bd.method).1
  have X0 : Stand p l e ({ frames := 0, cells := 0, slots := 0, locals := 0 } : Room) s m #[(.ref p0)] below meth c s₁ [] 0 0 := Stand.of_body Bd
  have e0 : s₁.heap = h0 := by rw [← hh, Bd.state]; rfl
  have N0 := Fr.nil n0
  have s0 : Steps p.tables e below (s₁.setTop (entryFrame m #[(.ref p0)] 1)) (s₁.setTop (mkF m 0 #[.val (.ref p0)] [])) := castTop (ef_rm4 m p0) (Steps.refl _)
  obtain ⟨T1, X1, e1, st1⟩ := getF X0 hx hZ hown (host := "") (Or.inl (hw _ (List.mem_of_getElem? (i := 20) rfl))) Via.refl e0 F0_ (g := (mkF m 1 #[.val (.ref p0)] [(.ref p0)])) rfl rfl (hb hby d4_1)
  have s2 : Steps p.tables e below (s₁.setTop (entryFrame m #[(.ref p0)] 1)) (T1.setTop (mkF m 4 #[.val (.ref p0)] [(.int w1)])) := by
    refine s0.trans ?_
    show Steps p.tables e below (s₁.setTop (mkF m 0 #[.val (.ref p0)] [])) _
    refine XS.aloadN X0.here hx rfl (hb hby d4_0) rfl rfl ?_
    show Steps p.tables e below (s₁.setTop (mkF m 1 #[.val (.ref p0)] [(.ref p0)])) _
    refine st1 _ ?_
    exact Steps.refl _
  obtain ⟨fs, hr, hrun, hended, hW, hsame⟩ := X1.leave (v := some (.int w1)) (fun h => by rw [Bd.returns] at h; cases h)
  refine ⟨_, _, s2.trans ?_, hrun, hended, _, _, rfl, ?_, ⟨_, rfl⟩, hW, hsame.mono (by decide) (by decide)⟩
  · show Steps p.tables e below (T1.setTop (mkF m 4 #[.val (.ref p0)] [(.int w1)])) _
    exact retI X1 hx Bd.returns (hb hby d4_4) hr
  · show Q4 Z p0 w1 h0 n0 _ T1.heap _
    rw [e1]
    exact ⟨rfl, N0, rfl⟩
theorem d5_0 : decode prog_19_method_3_code 0 = .ok (.aload_n 0, 1) := by decide +kernel
theorem d5_1 : decode prog_19_method_3_code 1 = .ok (.getfield 14, 3) := by decide +kernel
theorem d5_4 : decode prog_19_method_3_code 4 = .ok (.ldc 20, 2) := by decide +kernel
theorem d5_6 : decode prog_19_method_3_code 6 = .ok (.if_icmp .ne 13, 3) := by decide +kernel
theorem d5_19 : decode prog_19_method_3_code 19 = .ok (.aload_n 0, 1) := by decide +kernel
theorem d5_20 : decode prog_19_method_3_code 20 = .ok (.getfield 14, 3) := by decide +kernel
theorem d5_23 : decode prog_19_method_3_code 23 = .ok (.bipush 16, 2) := by decide +kernel
theorem d5_25 : decode prog_19_method_3_code 25 = .ok (.iushr, 1) := by decide +kernel
theorem d5_26 : decode prog_19_method_3_code 26 = .ok (.istore_n 3, 1) := by decide +kernel
theorem d5_27 : decode prog_19_method_3_code 27 = .ok (.aload_n 0, 1) := by decide +kernel
theorem d5_28 : decode prog_19_method_3_code 28 = .ok (.getfield 14, 3) := by decide +kernel
theorem d5_31 : decode prog_19_method_3_code 31 = .ok (.ldc 28, 2) := by decide +kernel
theorem d5_33 : decode prog_19_method_3_code 33 = .ok (.iand, 1) := by decide +kernel
theorem d5_34 : decode prog_19_method_3_code 34 = .ok (.istore 4, 2) := by decide +kernel
theorem d5_36 : decode prog_19_method_3_code 36 = .ok (.iload_n 3, 1) := by decide +kernel
theorem d5_37 : decode prog_19_method_3_code 37 = .ok (.aload_n 0, 1) := by decide +kernel
theorem d5_38 : decode prog_19_method_3_code 38 = .ok (.getfield 11, 3) := by decide +kernel
theorem d5_41 : decode prog_19_method_3_code 41 = .ok (.arraylength, 1) := by decide +kernel
theorem d5_42 : decode prog_19_method_3_code 42 = .ok (.if_icmp .ne 20, 3) := by decide +kernel
theorem d5_62 : decode prog_19_method_3_code 62 = .ok (.aload_n 0, 1) := by decide +kernel
theorem d5_63 : decode prog_19_method_3_code 63 = .ok (.getfield 11, 3) := by decide +kernel
theorem d5_66 : decode prog_19_method_3_code 66 = .ok (.iload_n 3, 1) := by decide +kernel
theorem d5_67 : decode prog_19_method_3_code 67 = .ok (.aaload, 1) := by decide +kernel
theorem d5_68 : decode prog_19_method_3_code 68 = .ok (.ifnonnull 16, 3) := by decide +kernel
theorem d5_84 : decode prog_19_method_3_code 84 = .ok (.iload 4, 2) := by decide +kernel
theorem d5_86 : decode prog_19_method_3_code 86 = .ok (.aload_n 0, 1) := by decide +kernel
theorem d5_87 : decode prog_19_method_3_code 87 = .ok (.getfield 11, 3) := by decide +kernel
theorem d5_90 : decode prog_19_method_3_code 90 = .ok (.iload_n 3, 1) := by decide +kernel
theorem d5_91 : decode prog_19_method_3_code 91 = .ok (.aaload, 1) := by decide +kernel
theorem d5_92 : decode prog_19_method_3_code 92 = .ok (.arraylength, 1) := by decide +kernel
theorem d5_93 : decode prog_19_method_3_code 93 = .ok (.if_icmp .ne 27, 3) := by decide +kernel
theorem d5_120 : decode prog_19_method_3_code 120 = .ok (.aload_n 0, 1) := by decide +kernel
theorem d5_121 : decode prog_19_method_3_code 121 = .ok (.getfield 11, 3) := by decide +kernel
theorem d5_124 : decode prog_19_method_3_code 124 = .ok (.iload_n 3, 1) := by decide +kernel
theorem d5_125 : decode prog_19_method_3_code 125 = .ok (.aaload, 1) := by decide +kernel
theorem d5_126 : decode prog_19_method_3_code 126 = .ok (.iload 4, 2) := by decide +kernel
theorem d5_128 : decode prog_19_method_3_code 128 = .ok (.lload_n 1, 1) := by decide +kernel
theorem d5_129 : decode prog_19_method_3_code 129 = .ok (.lastore, 1) := by decide +kernel
theorem d5_130 : decode prog_19_method_3_code 130 = .ok (.aload_n 0, 1) := by decide +kernel
theorem d5_131 : decode prog_19_method_3_code 131 = .ok (.dup, 1) := by decide +kernel
theorem d5_132 : decode prog_19_method_3_code 132 = .ok (.getfield 14, 3) := by decide +kernel
theorem d5_135 : decode prog_19_method_3_code 135 = .ok (.iconst 1, 1) := by decide +kernel
theorem d5_136 : decode prog_19_method_3_code 136 = .ok (.iadd, 1) := by decide +kernel
theorem d5_137 : decode prog_19_method_3_code 137 = .ok (.putfield 14, 3) := by decide +kernel
theorem d5_140 : decode prog_19_method_3_code 140 = .ok (.return_, 1) := by decide +kernel
theorem ef_rma0 (m : MethodId) (p0 : Addr) (p1 : Int64) : entryFrame m #[(.ref p0), (.long p1)] 5 = mkF m 0 #[.val (.ref p0), .val (.long p1), .second, .unset, .unset] [] := by first | (simp [entryFrame, mkF, argsToLocals, Value.category]; done) | rfl
def Qa0 (Z : State) (p0 : Addr) (p1 : Int64) (b1 : Addr) (b2 : Addr) (k1 : ClassId) (k2 : ClassId) (x0 : Int64) (x1 : Int64) (x2 : Int64) (x3 : Int64) (x4 : Int64) (x5 : Int64) (x6 : Int64) (x7 : Int64) (h0 : Heap) (n0 : Nat) (v : Option Value) (h : Heap) (L : List Loc) : Prop := v = none ∧ Fr n0 L ∧ Keep h0 h [p0, b2] ∧ (Exa Z h p0 "com/example/strikewire/strikewire/engine/LongList") ∧ (Fld Z h p0 "com/example/strikewire/strikewire/engine/LongList" "mBlocks" "[[J" (.ref b1)) ∧ (Arv Z h b1 k1 (.array .long) (1 : Int32) [(.ref b2)] .null) ∧ (Fld Z h p0 "com/example/strikewire/strikewire/engine/LongList" "mSize" "I" (.int (1 : Int32))) ∧ (Arv Z h b2 k2 .long (8 : Int32) [(.long p1), (.long x1), (.long x2), (.long x3), (.long x4), (.long x5), (.long x6), (.long x7)] (.long (0 : Int64)))
set_option maxRecDepth 65536 in
set_option maxHeartbeats 40000000 in
theorem rma0 (l : Launch) (Z : State) (a0 : Array Value) (hw : ∀ d ∈ tables_1, d.before a0 Z = true) (ws : List Jvm.Cond) (p0 : Addr) (p1 : Int64) (b1 : Addr) (b2 : Addr) (k1 : ClassId) (k2 : ClassId) (x0 : Int64) (x1 : Int64) (x2 : Int64) (x3 : Int64) (x4 : Int64) (x5 : Int64) (x6 : Int64) (x7 : Int64) (h0 : Heap) (n0 : Nat) (O0 : Old Z n0 h0) (F0_ : Exa Z h0 p0 "com/example/strikewire/strikewire/engine/LongList") (F1_ : Fld Z h0 p0 "com/example/strikewire/strikewire/engine/LongList" "mBlocks" "[[J" (.ref b1)) (F2_ : Arv Z h0 b1 k1 (.array .long) (1 : Int32) [(.ref b2)] .null) (F3_ : Fld Z h0 p0 "com/example/strikewire/strikewire/engine/LongList" "mSize" "I" (.int (0 : Int32))) (F4_ : Arv Z h0 b2 k2 .long (8 : Int32) [(.long x0), (.long x1), (.long x2), (.long x3), (.long x4), (.long x5), (.long x6), (.long x7)] (.long (0 : Int64))) (F5_ : n0 ≤ p0) (F6_ : n0 ≤ b2) (F7_ : p0 ≠ b1) (F8_ : p0 ≠ b2) (F9_ : b1 ≠ b2) :
    MetFree l (⟨"com/example/strikewire/strikewire/engine/LongList", "add", "(J)V"⟩ : MethodName) (head1 (Jvm.Cond.code (⟨"com/example/strikewire/strikewire/engine/LongList", "add", "(J)V"⟩ : MethodName) prog_19_method_3_code 5 none :: ws) ({ frames := 0, cells := 0, slots := 0, locals := 0 } : Room)) (fun a U => a = #[(.ref p0), (.long p1)] ∧ Z.Warmed39 U.vm ∧ U.heap = h0) (fun _ _ _ _ _ => True) (fun _ U o U' => ∃ v L, o = .returned v ∧ Qa0 Z p0 p1 b1 b2 k1 k2 x0 x1 x2 x3 x4 x5 x6 x7 h0 n0 v U'.heap L ∧ FrameEnd U o U' L ({ frames := 0, cells := 0, slots := 0, locals := 0 } : Room).cells ({ frames := 0, cells := 0, slots := 0, locals := 0 } : Room).slots) := by
  refine MetFree.of_bodySF (plainFor_of_name pn_1) hisR ?_
  intro p e s m args below meth c s₁ Bd hml0 hP hK
  obtain ⟨rfl, hZ, hh⟩ := hP
  have hx := Bd.exec
  have hby := Bd.bytes
  have hml : c.maxLocals = 5 := hml0
  have hown : s.vm.findClass "com/example/strikewire/strikewire/engine/LongList" = some m.cls := findClass_of_methodNamed Bd.named
  have hnm := (name_of_methodNamed Bd.named Bd.method).1
  have X0 : Stand p l e ({ frames := 0, cells := 0, slots := 0, locals := 0 } : Room) s m #[(.ref p0), (.long p1)] below meth c s₁ [] 0 0 := Stand.of_body Bd
  have e0 : s₁.heap = h0 := by rw [← hh, Bd.state]; rfl
  have N0 := Fr.nil n0
  have s0 : Steps p.tables e below (s₁.setTop (entryFrame m #[(.ref p0), (.long p1)] 5)) (s₁.setTop (mkF m 0 #[.val (.ref p0), .val (.long p1), .second, .unset, .unset] [])) := castTop (ef_rma0 m p0 p1) (Steps.refl _)
  obtain ⟨T1, X1, e1, st1⟩ := getF X0 hx hZ hown (host := "") (Or.inl (hw _ (List.mem_of_getElem? (i := 20) rfl))) Via.refl e0 F3_ (g := (mkF m 1 #[.val (.ref p0), .val (.long p1), .second, .unset, .unset] [(.ref p0)])) rfl rfl (hb hby d5_1)
  obtain ⟨T2, X2, e2, st2⟩ := getF X1 hx hZ hown (host := "") (Or.inl (hw _ (List.mem_of_getElem? (i := 20) rfl))) Via.refl e1 F3_ (g := (mkF m 20 #[.val (.ref p0), .val (.long p1), .second, .unset, .unset] [(.ref p0)])) rfl rfl (hb hby d5_20)
  obtain ⟨T3, X3, e3, st3⟩ := getF X2 hx hZ hown (host := "") (Or.inl (hw _ (List.mem_of_getElem? (i := 20) rfl))) Via.refl e2 F3_ (g := (mkF m 28 #[.val (.ref p0), .val (.long p1), .second, .val (.int (0 : Int32)), .unset] [(.ref p0)])) rfl rfl (hb hby d5_28)
  obtain ⟨T4, X4, e4, st4⟩ := getF X3 hx hZ hown (host := "") (Or.inl (hw _ (List.mem_of_getElem? (i := 13) rfl))) Via.refl e3 F1_ (g := (mkF m 38 #[.val (.ref p0), .val (.long p1), .second, .val (.int (0 : Int32)), .val (.int (0 : Int32))] [(.ref p0), (.int (0 : Int32))])) rfl rfl (hb hby d5_38)
  obtain ⟨cla5, Ara5, qa5, Sa5, Za5, Ha5, Ga5⟩ := id F2_
  obtain ⟨T6, X6, e6, st6⟩ := getF X4 hx hZ hown (host := "") (Or.inl (hw _ (List.mem_of_getElem? (i := 13) rfl))) Via.refl e4 F1_ (g := (mkF m 63 #[.val (.ref p0), .val (.long p1), .second, .val (.int (0 : Int32)), .val (.int (0 : Int32))] [(.ref p0)])) rfl rfl (hb hby d5_63)
  have hin7 : ¬ ((0 : Int32) < 0 ∨ cla5.slots.size ≤ ((0 : Int32)).toNatClampNeg) := inb_of Sa5 ⟨by decide, by decide⟩
  have hat8 : cla5.slots[((0 : Int32)).toNatClampNeg]? = some (.ref b2) := Has.at Ha5 hin7 rfl
  obtain ⟨T9, X9, e9, st9⟩ := getF X6 hx hZ hown (host := "") (Or.inl (hw _ (List.mem_of_getElem? (i := 13) rfl))) Via.refl e6 F1_ (g := (mkF m 87 #[.val (.ref p0), .val (.long p1), .second, .val (.int (0 : Int32)), .val (.int (0 : Int32))] [(.ref p0), (.int (0 : Int32))])) rfl rfl (hb hby d5_87)
  have hin10 : ¬ ((0 : Int32) < 0 ∨ cla5.slots.size ≤ ((0 : Int32)).toNatClampNeg) := inb_of Sa5 ⟨by decide, by decide⟩
  have hat11 : cla5.slots[((0 : Int32)).toNatClampNeg]? = some (.ref b2) := Has.at Ha5 hin10 rfl
  obtain ⟨cla12, Ara12, qa12, Sa12, Za12, Ha12, Ga12⟩ := id F4_
  obtain ⟨T13, X13, e13, st13⟩ := getF X9 hx hZ hown (host := "") (Or.inl (hw _ (List.mem_of_getElem? (i := 13) rfl))) Via.refl e9 F1_ (g := (mkF m 121 #[.val (.ref p0), .val (.long p1), .second, .val (.int (0 : Int32)), .val (.int (0 : Int32))] [(.ref p0)])) rfl rfl (hb hby d5_121)
  have hin14 : ¬ ((0 : Int32) < 0 ∨ cla5.slots.size ≤ ((0 : Int32)).toNatClampNeg) := inb_of Sa5 ⟨by decide, by decide⟩
  have hat15 : cla5.slots[((0 : Int32)).toNatClampNeg]? = some (.ref b2) := Has.at Ha5 hin14 rfl
  have hin16 : ¬ ((0 : Int32) < 0 ∨ cla12.slots.size ≤ ((0 : Int32)).toNatClampNeg) := inb_of Sa12 ⟨by decide, by decide⟩
  obtain ⟨T17, h17, X17, e17, W17, st17⟩ := stJ X13 hx hZ e13 Ara12 (j := (0 : Int32)) hin16 (g := (mkF m 129 #[.val (.ref p0), .val (.long p1), .second, .val (.int (0 : Int32)), .val (.int (0 : Int32))] [(.long p1), (.int (0 : Int32)), (.ref b2)])) rfl rfl (hb hby d5_129)
  have O17 := O0.wr W17 F6_
  have K17 : Keep h0 h17 [p0, b2] := (Keep.refl h0 [p0, b2]).wr W17 (Or.inl (List.mem_of_getElem? (i := 1) rfl))
  have N17 := Fr.snoc X17 N0 F6_
  have V17 : Arv Z h17 b2 k2 .long (8 : Int32) [(.long p1), (.long x1), (.long x2), (.long x3), (.long x4), (.long x5), (.long x6), (.long x7)] (.long (0 : Int64)) := Arv.set Ara12 qa12 Sa12 Za12 Ha12 Ga12 rfl W17 0 rfl (Nat.le_of_ble_eq_true rfl)
  have c18 : Fld Z h17 p0 "com/example/strikewire/strikewire/engine/LongList" "mSize" "I" (.int (0 : Int32)) := (F3_.other W17 (Or.inl F8_))
  obtain ⟨T19, X19, e19, st19⟩ := getF X17 hx hZ hown (host := "") (Or.inl (hw _ (List.mem_of_getElem? (i := 20) rfl))) Via.refl e17 c18 (g := (mkF m 132 #[.val (.ref p0), .val (.long p1), .second, .val (.int (0 : Int32)), .val (.int (0 : Int32))] [(.ref p0), (.ref p0)])) rfl rfl (hb hby d5_132)
  have c20 : Exa Z h17 p0 "com/example/strikewire/strikewire/engine/LongList" := (F0_.wr W17)
  obtain ⟨T21, h21, X21, e21, W21, st21⟩ := putF X19 hx hZ hown (host := "") (Or.inl (hw _ (List.mem_of_getElem? (i := 20) rfl))) Via.refl e19 c18 c20 (Or.inl (hw _ (List.mem_of_getElem? (i := 21) rfl))) (hw _ (List.mem_of_getElem? (i := 2) rfl)) (ty := .int) (by decide) rfl rfl (g := (mkF m 137 #[.val (.ref p0), .val (.long p1), .second, .val (.int (0 : Int32)), .val (.int (0 : Int32))] [(.int (1 : Int32)), (.ref p0)])) rfl rfl (hb hby d5_137)
  have Fw21 := c18.same W21
  have O21 := O17.wr W21 F5_
  have K21 : Keep h0 h21 [p0, b2] := K17.wr W21 (Or.inl (List.mem_of_getElem? (i := 0) rfl))
  have N21 := Fr.snoc X21 N17 F5_
  have s22 : Steps p.tables e below (s₁.setTop (entryFrame m #[(.ref p0), (.long p1)] 5)) (T21.setTop (mkF m 140 #[.val (.ref p0), .val (.long p1), .second, .val (.int (0 : Int32)), .val (.int (0 : Int32))] [])) := by
    refine s0.trans ?_
    show Steps p.tables e below (s₁.setTop (mkF m 0 #[.val (.ref p0), .val (.long p1), .second, .unset, .unset] [])) _
    refine XS.aloadN X0.here hx rfl (hb hby d5_0) rfl rfl ?_
    show Steps p.tables e below (s₁.setTop (mkF m 1 #[.val (.ref p0), .val (.long p1), .second, .unset, .unset] [(.ref p0)])) _
    refine st1 _ ?_
    show Steps p.tables e below (T1.setTop (mkF m 4 #[.val (.ref p0), .val (.long p1), .second, .unset, .unset] [(.int (0 : Int32))])) _
    refine X1.ldcInt hx hown (mvT hZ (hw _ (List.mem_of_getElem? (i := 32) rfl))) (g := (mkF m 4 #[.val (.ref p0), .val (.long p1), .second, .unset, .unset] [(.int (0 : Int32))])) rfl (hb hby d5_4) _ ?_
    show Steps p.tables e below (T1.setTop (mkF m 6 #[.val (.ref p0), .val (.long p1), .second, .unset, .unset] [(.int (2147483647 : Int32)), (.int (0 : Int32))])) _
    refine XS.icmpYes X1.here hx rfl (pc0 := 6) (pc' := 19) rfl (hb hby d5_6) rfl (feq (by decide)).2 (by decide) (by decide) ?_
    show Steps p.tables e below (T1.setTop (mkF m 19 #[.val (.ref p0), .val (.long p1), .second, .unset, .unset] [])) _
    refine XS.aloadN X1.here hx rfl (hb hby d5_19) rfl rfl ?_
    show Steps p.tables e below (T1.setTop (mkF m 20 #[.val (.ref p0), .val (.long p1), .second, .unset, .unset] [(.ref p0)])) _
    refine st2 _ ?_
    show Steps p.tables e below (T2.setTop (mkF m 23 #[.val (.ref p0), .val (.long p1), .second, .unset, .unset] [(.int (0 : Int32))])) _
    refine XS.bipush X2.here hx rfl (hb hby d5_23) ?_
    show Steps p.tables e below (T2.setTop (mkF m 25 #[.val (.ref p0), .val (.long p1), .second, .unset, .unset] [(.int (16 : Int32)), (.int (0 : Int32))])) _
    refine XS.iushr X2.here hx rfl (hb hby d5_25) rfl ?_
    show Steps p.tables e below (T2.setTop (mkF m 26 #[.val (.ref p0), .val (.long p1), .second, .unset, .unset] [(.int (0 : Int32))])) _
    refine XS.istoreN X2.here hx rfl (hb hby d5_26) rfl (l' := #[.val (.ref p0), .val (.long p1), .second, .val (.int (0 : Int32)), .unset]) rfl ?_
    show Steps p.tables e below (T2.setTop (mkF m 27 #[.val (.ref p0), .val (.long p1), .second, .val (.int (0 : Int32)), .unset] [])) _
    refine XS.aloadN X2.here hx rfl (hb hby d5_27) rfl rfl ?_
    show Steps p.tables e below (T2.setTop (mkF m 28 #[.val (.ref p0), .val (.long p1), .second, .val (.int (0 : Int32)), .unset] [(.ref p0)])) _
    refine st3 _ ?_
    show Steps p.tables e below (T3.setTop (mkF m 31 #[.val (.ref p0), .val (.long p1), .second, .val (.int (0 : Int32)), .unset] [(.int (0 : Int32))])) _
    refine X3.ldcInt hx hown (mvT hZ (hw _ (List.mem_of_getElem? (i := 33) rfl))) (g := (mkF m 31 #[.val (.ref p0), .val (.long p1), .second, .val (.int (0 : Int32)), .unset] [(.int (0 : Int32))])) rfl (hb hby d5_31) _ ?_
    show Steps p.tables e below (T3.setTop (mkF m 33 #[.val (.ref p0), .val (.long p1), .second, .val (.int (0 : Int32)), .unset] [(.int (65535 : Int32)), (.int (0 : Int32))])) _
    refine XS.iand X3.here hx rfl (hb hby d5_33) rfl ?_
    show Steps p.tables e below (T3.setTop (mkF m 34 #[.val (.ref p0), .val (.long p1), .second, .val (.int (0 : Int32)), .unset] [(.int (0 : Int32))])) _
    refine XS.istore X3.here hx rfl (hb hby d5_34) rfl (l' := #[.val (.ref p0), .val (.long p1), .second, .val (.int (0 : Int32)), .val (.int (0 : Int32))]) rfl ?_
    show Steps p.tables e below (T3.setTop (mkF m 36 #[.val (.ref p0), .val (.long p1), .second, .val (.int (0 : Int32)), .val (.int (0 : Int32))] [])) _
    refine XS.iloadN X3.here hx rfl (hb hby d5_36) rfl ?_
    show Steps p.tables e below (T3.setTop (mkF m 37 #[.val (.ref p0), .val (.long p1), .second, .val (.int (0 : Int32)), .val (.int (0 : Int32))] [(.int (0 : Int32))])) _
    refine XS.aloadN X3.here hx rfl (hb hby d5_37) rfl rfl ?_
    show Steps p.tables e below (T3.setTop (mkF m 38 #[.val (.ref p0), .val (.long p1), .second, .val (.int (0 : Int32)), .val (.int (0 : Int32))] [(.ref p0), (.int (0 : Int32))])) _
    refine st4 _ ?_
    show Steps p.tables e below (T4.setTop (mkF m 41 #[.val (.ref p0), .val (.long p1), .second, .val (.int (0 : Int32)), .val (.int (0 : Int32))] [(.ref b1), (.int (0 : Int32))])) _
    refine X4.arraylength hx (by rw [e4]; exact Ara5.1) (State.isArrayOf_alike hZ.alike Ara5.2.1) (g := (mkF m 41 #[.val (.ref p0), .val (.long p1), .second, .val (.int (0 : Int32)), .val (.int (0 : Int32))] [(.ref b1), (.int (0 : Int32))])) rfl rfl (hb hby d5_41) _ ?_
    rw [len_of Sa5 Za5]
    show Steps p.tables e below (T4.setTop (mkF m 42 #[.val (.ref p0), .val (.long p1), .second, .val (.int (0 : Int32)), .val (.int (0 : Int32))] [(.int (1 : Int32)), (.int (0 : Int32))])) _
    refine XS.icmpYes X4.here hx rfl (pc0 := 42) (pc' := 62) rfl (hb hby d5_42) rfl (feq (by decide)).2 (by decide) (by decide) ?_
    show Steps p.tables e below (T4.setTop (mkF m 62 #[.val (.ref p0), .val (.long p1), .second, .val (.int (0 : Int32)), .val (.int (0 : Int32))] [])) _
    refine XS.aloadN X4.here hx rfl (hb hby d5_62) rfl rfl ?_
    show Steps p.tables e below (T4.setTop (mkF m 63 #[.val (.ref p0), .val (.long p1), .second, .val (.int (0 : Int32)), .val (.int (0 : Int32))] [(.ref p0)])) _
    refine st6 _ ?_
    show Steps p.tables e below (T6.setTop (mkF m 66 #[.val (.ref p0), .val (.long p1), .second, .val (.int (0 : Int32)), .val (.int (0 : Int32))] [(.ref b1)])) _
    refine XS.iloadN X6.here hx rfl (hb hby d5_66) rfl ?_
    show Steps p.tables e below (T6.setTop (mkF m 67 #[.val (.ref p0), .val (.long p1), .second, .val (.int (0 : Int32)), .val (.int (0 : Int32))] [(.int (0 : Int32)), (.ref b1)])) _
    refine X6.aaload hx (j := (0 : Int32)) (v := (.ref b2)) (by rw [e6]; exact Ara5.1) (State.isArrayOf_alike hZ.alike Ara5.2.1) rfl Ara5.2.2 hin7 hat8 (g := (mkF m 67 #[.val (.ref p0), .val (.long p1), .second, .val (.int (0 : Int32)), .val (.int (0 : Int32))] [(.int (0 : Int32)), (.ref b1)])) rfl rfl (hb hby d5_67) _ ?_
    show Steps p.tables e below (T6.setTop (mkF m 68 #[.val (.ref p0), .val (.long p1), .second, .val (.int (0 : Int32)), .val (.int (0 : Int32))] [(.ref b2)])) _
    refine XS.ifnonnullYes X6.here hx rfl (pc0 := 68) (pc' := 84) rfl (hb hby d5_68) rfl (by decide) (by decide) ?_
    show Steps p.tables e below (T6.setTop (mkF m 84 #[.val (.ref p0), .val (.long p1), .second, .val (.int (0 : Int32)), .val (.int (0 : Int32))] [])) _
    refine XS.iload X6.here hx rfl (hb hby d5_84) rfl ?_
    show Steps p.tables e below (T6.setTop (mkF m 86 #[.val (.ref p0), .val (.long p1), .second, .val (.int (0 : Int32)), .val (.int (0 : Int32))] [(.int (0 : Int32))])) _
    refine XS.aloadN X6.here hx rfl (hb hby d5_86) rfl rfl ?_
    show Steps p.tables e below (T6.setTop (mkF m 87 #[.val (.ref p0), .val (.long p1), .second, .val (.int (0 : Int32)), .val (.int (0 : Int32))] [(.ref p0), (.int (0 : Int32))])) _
    refine st9 _ ?_
    show Steps p.tables e below (T9.setTop (mkF m 90 #[.val (.ref p0), .val (.long p1), .second, .val (.int (0 : Int32)), .val (.int (0 : Int32))] [(.ref b1), (.int (0 : Int32))])) _
    refine XS.iloadN X9.here hx rfl (hb hby d5_90) rfl ?_
    show Steps p.tables e below (T9.setTop (mkF m 91 #[.val (.ref p0), .val (.long p1), .second, .val (.int (0 : Int32)), .val (.int (0 : Int32))] [(.int (0 : Int32)), (.ref b1), (.int (0 : Int32))])) _
    refine X9.aaload hx (j := (0 : Int32)) (v := (.ref b2)) (by rw [e9]; exact Ara5.1) (State.isArrayOf_alike hZ.alike Ara5.2.1) rfl Ara5.2.2 hin10 hat11 (g := (mkF m 91 #[.val (.ref p0), .val (.long p1), .second, .val (.int (0 : Int32)), .val (.int (0 : Int32))] [(.int (0 : Int32)), (.ref b1), (.int (0 : Int32))])) rfl rfl (hb hby d5_91) _ ?_
    show Steps p.tables e below (T9.setTop (mkF m 92 #[.val (.ref p0), .val (.long p1), .second, .val (.int (0 : Int32)), .val (.int (0 : Int32))] [(.ref b2), (.int (0 : Int32))])) _
    refine X9.arraylength hx (by rw [e9]; exact Ara12.1) (State.isArrayOf_alike hZ.alike Ara12.2.1) (g := (mkF m 92 #[.val (.ref p0), .val (.long p1), .second, .val (.int (0 : Int32)), .val (.int (0 : Int32))] [(.ref b2), (.int (0 : Int32))])) rfl rfl (hb hby d5_92) _ ?_
    rw [len_of Sa12 Za12]
    show Steps p.tables e below (T9.setTop (mkF m 93 #[.val (.ref p0), .val (.long p1), .second, .val (.int (0 : Int32)), .val (.int (0 : Int32))] [(.int (8 : Int32)), (.int (0 : Int32))])) _
    refine XS.icmpYes X9.here hx rfl (pc0 := 93) (pc' := 120) rfl (hb hby d5_93) rfl (feq (by decide)).2 (by decide) (by decide) ?_
    show Steps p.tables e below (T9.setTop (mkF m 120 #[.val (.ref p0), .val (.long p1), .second, .val (.int (0 : Int32)), .val (.int (0 : Int32))] [])) _
    refine XS.aloadN X9.here hx rfl (hb hby d5_120) rfl rfl ?_
    show Steps p.tables e below (T9.setTop (mkF m 121 #[.val (.ref p0), .val (.long p1), .second, .val (.int (0 : Int32)), .val (.int (0 : Int32))] [(.ref p0)])) _
    refine st13 _ ?_
    show Steps p.tables e below (T13.setTop (mkF m 124 #[.val (.ref p0), .val (.long p1), .second, .val (.int (0 : Int32)), .val (.int (0 : Int32))] [(.ref b1)])) _
    refine XS.iloadN X13.here hx rfl (hb hby d5_124) rfl ?_
    show Steps p.tables e below (T13.setTop (mkF m 125 #[.val (.ref p0), .val (.long p1), .second, .val (.int (0 : Int32)), .val (.int (0 : Int32))] [(.int (0 : Int32)), (.ref b1)])) _
    refine X13.aaload hx (j := (0 : Int32)) (v := (.ref b2)) (by rw [e13]; exact Ara5.1) (State.isArrayOf_alike hZ.alike Ara5.2.1) rfl Ara5.2.2 hin14 hat15 (g := (mkF m 125 #[.val (.ref p0), .val (.long p1), .second, .val (.int (0 : Int32)), .val (.int (0 : Int32))] [(.int (0 : Int32)), (.ref b1)])) rfl rfl (hb hby d5_125) _ ?_
    show Steps p.tables e below (T13.setTop (mkF m 126 #[.val (.ref p0), .val (.long p1), .second, .val (.int (0 : Int32)), .val (.int (0 : Int32))] [(.ref b2)])) _
    refine XS.iload X13.here hx rfl (hb hby d5_126) rfl ?_
    show Steps p.tables e below (T13.setTop (mkF m 128 #[.val (.ref p0), .val (.long p1), .second, .val (.int (0 : Int32)), .val (.int (0 : Int32))] [(.int (0 : Int32)), (.ref b2)])) _
    refine XS.lloadN X13.here hx rfl (hb hby d5_128) rfl ?_
    show Steps p.tables e below (T13.setTop (mkF m 129 #[.val (.ref p0), .val (.long p1), .second, .val (.int (0 : Int32)), .val (.int (0 : Int32))] [(.long p1), (.int (0 : Int32)), (.ref b2)])) _
    refine st17 _ ?_
    show Steps p.tables e below (T17.setTop (mkF m 130 #[.val (.ref p0), .val (.long p1), .second, .val (.int (0 : Int32)), .val (.int (0 : Int32))] [])) _
    refine XS.aloadN X17.here hx rfl (hb hby d5_130) rfl rfl ?_
    show Steps p.tables e below (T17.setTop (mkF m 131 #[.val (.ref p0), .val (.long p1), .second, .val (.int (0 : Int32)), .val (.int (0 : Int32))] [(.ref p0)])) _
    refine XS.dup X17.here hx rfl (hb hby d5_131) rfl rfl ?_
    show Steps p.tables e below (T17.setTop (mkF m 132 #[.val (.ref p0), .val (.long p1), .second, .val (.int (0 : Int32)), .val (.int (0 : Int32))] [(.ref p0), (.ref p0)])) _
    refine st19 _ ?_
    show Steps p.tables e below (T19.setTop (mkF m 135 #[.val (.ref p0), .val (.long p1), .second, .val (.int (0 : Int32)), .val (.int (0 : Int32))] [(.int (0 : Int32)), (.ref p0)])) _
    refine XS.iconst X19.here hx rfl (hb hby d5_135) ?_
    show Steps p.tables e below (T19.setTop (mkF m 136 #[.val (.ref p0), .val (.long p1), .second, .val (.int (0 : Int32)), .val (.int (0 : Int32))] [(.int (1 : Int32)), (.int (0 : Int32)), (.ref p0)])) _
    refine XS.iadd X19.here hx rfl (hb hby d5_136) rfl ?_
    show Steps p.tables e below (T19.setTop (mkF m 137 #[.val (.ref p0), .val (.long p1), .second, .val (.int (0 : Int32)), .val (.int (0 : Int32))] [(.int (1 : Int32)), (.ref p0)])) _
    refine st21 _ ?_
    exact Steps.refl _
  have c23 : Exa Z h21 p0 "com/example/strikewire/strikewire/engine/LongList" := (c20.wr W21)
  have c24 : Fld Z h21 p0 "com/example/strikewire/strikewire/engine/LongList" "mBlocks" "[[J" (.ref b1) := ((F1_.other W17 (Or.inl F8_)).other W21 (Or.inr (slot_ne (Or.inl (hw _ (List.mem_of_getElem? (i := 14) rfl))) (Or.inl (hw _ (List.mem_of_getElem? (i := 21) rfl))) (by decide) (t := (.array (.array .long))) (t' := .int) (by decide) (by decide))))
  have c25 : Arv Z h21 b1 k1 (.array .long) (1 : Int32) [(.ref b2)] .null := ((F2_.other W17 F9_).other W21 (Ne.symm F7_))
  have c26 : Arv Z h21 b2 k2 .long (8 : Int32) [(.long p1), (.long x1), (.long x2), (.long x3), (.long x4), (.long x5), (.long x6), (.long x7)] (.long (0 : Int64)) := (V17.other W21 (Ne.symm F8_))
  obtain ⟨fs, hr, hrun, hended, hW, hsame⟩ := X21.leave (v := none) (fun _ => rfl)
  refine ⟨_, _, s22.trans ?_, hrun, hended, _, _, rfl, ?_, ⟨_, rfl⟩, hW, hsame.mono (by decide) (by decide)⟩
  · show Steps p.tables e below (T21.setTop (mkF m 140 #[.val (.ref p0), .val (.long p1), .second, .val (.int (0 : Int32)), .val (.int (0 : Int32))] [])) _
    exact X21.returnOut hx Bd.returns (hb hby d5_140) hr
  · show Qa0 Z p0 p1 b1 b2 k1 k2 x0 x1 x2 x3 x4 x5 x6 x7 h0 n0 _ T21.heap _
    rw [e21]
    exact ⟨rfl, N21, K21, c23, c24, c25, Fw21, c26⟩
theorem ef_rma1 (m : MethodId) (p0 : Addr) (p1 : Int64) : entryFrame m #[(.ref p0), (.long p1)] 5 = mkF m 0 #[.val (.ref p0), .val (.long p1), .second, .unset, .unset] [] := by first | (simp [entryFrame, mkF, argsToLocals, Value.category]; done) | rfl
def Qa1 (Z : State) (p0 : Addr) (p1 : Int64) (b1 : Addr) (b2 : Addr) (k1 : ClassId) (k2 : ClassId) (x0 : Int64) (x1 : Int64) (x2 : Int64) (x3 : Int64) (x4 : Int64) (x5 : Int64) (x6 : Int64) (x7 : Int64) (h0 : Heap) (n0 : Nat) (v : Option Value) (h : Heap) (L : List Loc) : Prop := v = none ∧ Fr n0 L ∧ Keep h0 h [p0, b2] ∧ (Exa Z h p0 "com/example/strikewire/strikewire/engine/LongList") ∧ (Fld Z h p0 "com/example/strikewire/strikewire/engine/LongList" "mBlocks" "[[J" (.ref b1)) ∧ (Arv Z h b1 k1 (.array .long) (1 : Int32) [(.ref b2)] .null) ∧ (Fld Z h p0 "com/example/strikewire/strikewire/engine/LongList" "mSize" "I" (.int (2 : Int32))) ∧ (Arv Z h b2 k2 .long (8 : Int32) [(.long x0), (.long p1), (.long x2), (.long x3), (.long x4), (.long x5), (.long x6), (.long x7)] (.long (0 : Int64)))
set_option maxRecDepth 65536 in
set_option maxHeartbeats 40000000 in
theorem rma1 (l : Launch) (Z : State) (a0 : Array Value) (hw : ∀ d ∈ tables_1, d.before a0 Z = true) (ws : List Jvm.Cond) (p0 : Addr) (p1 : Int64) (b1 : Addr) (b2 : Addr) (k1 : ClassId) (k2 : ClassId) (x0 : Int64) (x1 : Int64) (x2 : Int64) (x3 : Int64) (x4 : Int64) (x5 : Int64) (x6 : Int64) (x7 : Int64) (h0 : Heap) (n0 : Nat) (O0 : Old Z n0 h0) (F0_ : Exa Z h0 p0 "com/example/strikewire/strikewire/engine/LongList") (F1_ : Fld Z h0 p0 "com/example/strikewire/strikewire/engine/LongList" "mBlocks" "[[J" (.ref b1)) (F2_ : Arv Z h0 b1 k1 (.array .long) (1 : Int32) [(.ref b2)] .null) (F3_ : Fld Z h0 p0 "com/example/strikewire/strikewire/engine/LongList" "mSize" "I" (.int (1 : Int32))) (F4_ : Arv Z h0 b2 k2 .long (8 : Int32) [(.long x0), (.long x1), (.long x2), (.long x3), (.long x4), (.long x5), (.long x6), (.long x7)] (.long (0 : Int64))) (F5_ : n0 ≤ p0) (F6_ : n0 ≤ b2) (F7_ : p0 ≠ b1) (F8_ : p0 ≠ b2) (F9_ : b1 ≠ b2) :
    MetFree l (⟨"com/example/strikewire/strikewire/engine/LongList", "add", "(J)V"⟩ : MethodName) (head1 (Jvm.Cond.code (⟨"com/example/strikewire/strikewire/engine/LongList", "add", "(J)V"⟩ : MethodName) prog_19_method_3_code 5 none :: ws) ({ frames := 0, cells := 0, slots := 0, locals := 0 } : Room)) (fun a U => a = #[(.ref p0), (.long p1)] ∧ Z.Warmed39 U.vm ∧ U.heap = h0) (fun _ _ _ _ _ => True) (fun _ U o U' => ∃ v L, o = .returned v ∧ Qa1 Z p0 p1 b1 b2 k1 k2 x0 x1 x2 x3 x4 x5 x6 x7 h0 n0 v U'.heap L ∧ FrameEnd U o U' L ({ frames := 0, cells := 0, slots := 0, locals := 0 } : Room).cells ({ frames := 0, cells := 0, slots := 0, locals := 0 } : Room).slots) := by
  refine MetFree.of_bodySF (plainFor_of_name pn_1) hisR ?_
  intro p e s m args below meth c s₁ Bd hml0 hP hK
  obtain ⟨rfl, hZ, hh⟩ := hP
  have hx := Bd.exec
  have hby := Bd.bytes
  have hml : c.maxLocals = 5 := hml0
  have hown : s.vm.findClass "com/example/strikewire/strikewire/engine/LongList" = some m.cls := findClass_of_methodNamed Bd.named
  have hnm := (name_of_methodNamed Bd.named Bd.method).1
  have X0 : Stand p l e ({ frames := 0, cells := 0, slots := 0, locals := 0 } : Room) s m #[(.ref p0), (.long p1)] below meth c s₁ [] 0 0 := Stand.of_body Bd
  have e0 : s₁.heap = h0 := by rw [← hh, Bd.state]; rfl
  have N0 := Fr.nil n0
  have s0 : Steps p.tables e below (s₁.setTop (entryFrame m #[(.ref p0), (.long p1)] 5)) (s₁.setTop (mkF m 0 #[.val (.ref p0), .val (.long p1), .second, .unset, .unset] [])) := castTop (ef_rma1 m p0 p1) (Steps.refl _)
  obtain ⟨T1, X1, e1, st1⟩ := getF X0 hx hZ hown (host := "") (Or.inl (hw _ (List.mem_of_getElem? (i := 20) rfl))) Via.refl e0 F3_ (g := (mkF m 1 #[.val (.ref p0), .val (.long p1), .second, .unset, .unset] [(.ref p0)])) rfl rfl (hb hby d5_1)
  obtain ⟨T2, X2, e2, st2⟩ := getF X1 hx hZ hown (host := "") (Or.inl (hw _ (List.mem_of_getElem? (i := 20) rfl))) Via.refl e1 F3_ (g := (mkF m 20 #[.val (.ref p0), .val (.long p1), .second, .unset, .unset] [(.ref p0)])) rfl rfl (hb hby d5_20)
  obtain ⟨T3, X3, e3, st3⟩ := getF X2 hx hZ hown (host := "") (Or.inl (hw _ (List.mem_of_getElem? (i := 20) rfl))) Via.refl e2 F3_ (g := (mkF m 28 #[.val (.ref p0), .val (.long p1), .second, .val (.int (0 : Int32)), .unset] [(.ref p0)])) rfl rfl (hb hby d5_28)
  obtain ⟨T4, X4, e4, st4⟩ := getF X3 hx hZ hown (host := "") (Or.inl (hw _ (List.mem_of_getElem? (i := 13) rfl))) Via.refl e3 F1_ (g := (mkF m 38 #[.val (.ref p0), .val (.long p1), .second, .val (.int (0 : Int32)), .val (.int (1 : Int32))] [(.ref p0), (.int (0 : Int32))])) rfl rfl (hb hby d5_38)
  obtain ⟨cla5, Ara5, qa5, Sa5, Za5, Ha5, Ga5⟩ := id F2_
  obtain ⟨T6, X6, e6, st6⟩ := getF X4 hx hZ hown (host := "") (Or.inl (hw _ (List.mem_of_getElem? (i := 13) rfl))) Via.refl e4 F1_ (g := (mkF m 63 #[.val (.ref p0), .val (.long p1), .second, .val (.int (0 : Int32)), .val (.int (1 : Int32))] [(.ref p0)])) rfl rfl (hb hby d5_63)
  have hin7 : ¬ ((0 : Int32) < 0 ∨ cla5.slots.size ≤ ((0 : Int32)).toNatClampNeg) := inb_of Sa5 ⟨by decide, by decide⟩
  have hat8 : cla5.slots[((0 : Int32)).toNatClampNeg]? = some (.ref b2) := Has.at Ha5 hin7 rfl
  obtain ⟨T9, X9, e9, st9⟩ := getF X6 hx hZ hown (host := "") (Or.inl (hw _ (List.mem_of_getElem? (i := 13) rfl))) Via.refl e6 F1_ (g := (mkF m 87 #[.val (.ref p0), .val (.long p1), .second, .val (.int (0 : Int32)), .val (.int (1 : Int32))] [(.ref p0), (.int (1 : Int32))])) rfl rfl (hb hby d5_87)
  have hin10 : ¬ ((0 : Int32) < 0 ∨ cla5.slots.size ≤ ((0 : Int32)).toNatClampNeg) := inb_of Sa5 ⟨by decide, by decide⟩
  have hat11 : cla5.slots[((0 : Int32)).toNatClampNeg]? = some (.ref b2) := Has.at Ha5 hin10 rfl
  obtain ⟨cla12, Ara12, qa12, Sa12, Za12, Ha12, Ga12⟩ := id F4_
  obtain ⟨T13, X13, e13, st13⟩ := getF X9 hx hZ hown (host := "") (Or.inl (hw _ (List.mem_of_getElem? (i := 13) rfl))) Via.refl e9 F1_ (g := (mkF m 121 #[.val (.ref p0), .val (.long p1), .second, .val (.int (0 : Int32)), .val (.int (1 : Int32))] [(.ref p0)])) rfl rfl (hb hby d5_121)
  have hin14 : ¬ ((0 : Int32) < 0 ∨ cla5.slots.size ≤ ((0 : Int32)).toNatClampNeg) := inb_of Sa5 ⟨by decide, by decide⟩
  have hat15 : cla5.slots[((0 : Int32)).toNatClampNeg]? = some (.ref b2) := Has.at Ha5 hin14 rfl
  have hin16 : ¬ ((1 : Int32) < 0 ∨ cla12.slots.size ≤ ((1 : Int32)).toNatClampNeg) := inb_of Sa12 ⟨by decide, by decide⟩
  obtain ⟨T17, h17, X17, e17, W17, st17⟩ := stJ X13 hx hZ e13 Ara12 (j := (1 : Int32)) hin16 (g := (mkF m 129 #[.val (.ref p0), .val (.long p1), .second, .val (.int (0 : Int32)), .val (.int (1 : Int32))] [(.long p1), (.int (1 : Int32)), (.ref b2)])) rfl rfl (hb hby d5_129)
  have O17 := O0.wr W17 F6_
  have K17 : Keep h0 h17 [p0, b2] := (Keep.refl h0 [p0, b2]).wr W17 (Or.inl (List.mem_of_getElem? (i := 1) rfl))
  have N17 := Fr.snoc X17 N0 F6_
  have V17 : Arv Z h17 b2 k2 .long (8 : Int32) [(.long x0), (.long p1), (.long x2), (.long x3), (.long x4), (.long x5), (.long x6), (.long x7)] (.long (0 : Int64)) := Arv.set Ara12 qa12 Sa12 Za12 Ha12 Ga12 rfl W17 1 rfl (Nat.le_of_ble_eq_true rfl)
  have c18 : Fld Z h17 p0 "com/example/strikewire/strikewire/engine/LongList" "mSize" "I" (.int (1 : Int32)) := (F3_.other W17 (Or.inl F8_))
  obtain ⟨T19, X19, e19, st19⟩ := getF X17 hx hZ hown (host := "") (Or.inl (hw _ (List.mem_of_getElem? (i := 20) rfl))) Via.refl e17 c18 (g := (mkF m 132 #[.val (.ref p0), .val (.long p1), .second, .val (.int (0 : Int32)), .val (.int (1 : Int32))] [(.ref p0), (.ref p0)])) rfl rfl (hb hby d5_132)
  have c20 : Exa Z h17 p0 "com/example/strikewire/strikewire/engine/LongList" := (F0_.wr W17)
  obtain ⟨T21, h21, X21, e21, W21, st21⟩ := putF X19 hx hZ hown (host := "") (Or.inl (hw _ (List.mem_of_getElem? (i := 20) rfl))) Via.refl e19 c18 c20 (Or.inl (hw _ (List.mem_of_getElem? (i := 21) rfl))) (hw _ (List.mem_of_getElem? (i := 2) rfl)) (ty := .int) (by decide) rfl rfl (g := (mkF m 137 #[.val (.ref p0), .val (.long p1), .second, .val (.int (0 : Int32)), .val (.int (1 : Int32))] [(.int (2 : Int32)), (.ref p0)])) rfl rfl (hb hby d5_137)
  have Fw21 := c18.same W21
  have O21 := O17.wr W21 F5_
  have K21 : Keep h0 h21 [p0, b2] := K17.wr W21 (Or.inl (List.mem_of_getElem? (i := 0) rfl))
  have N21 := Fr.snoc X21 N17 F5_
  have s22 : Steps p.tables e below (s₁.setTop (entryFrame m #[(.ref p0), (.long p1)] 5)) (T21.setTop (mkF m 140 #[.val (.ref p0), .val (.long p1), .second, .val (.int (0 : Int32)), .val (.int (1 : Int32))] [])) := by
    refine s0.trans ?_
    show Steps p.tables e below (s₁.setTop (mkF m 0 #[.val (.ref p0), .val (.long p1), .second, .unset, .unset] [])) _
    refine XS.aloadN X0.here hx rfl (hb hby d5_0) rfl rfl ?_
    show Steps p.tables e below (s₁.setTop (mkF m 1 #[.val (.ref p0), .val (.long p1), .second, .unset, .unset] [(.ref p0)])) _
    refine st1 _ ?_
    show Steps p.tables e below (T1.setTop (mkF m 4 #[.val (.ref p0), .val (.long p1), .second, .unset, .unset] [(.int (1 : Int32))])) _
    refine X1.ldcInt hx hown (mvT hZ (hw _ (List.mem_of_getElem? (i := 32) rfl))) (g := (mkF m 4 #[.val (.ref p0), .val (.long p1), .second, .unset, .unset] [(.int (1 : Int32))])) rfl (hb hby d5_4) _ ?_
    show Steps p.tables e below (T1.setTop (mkF m 6 #[.val (.ref p0), .val (.long p1), .second, .unset, .unset] [(.int (2147483647 : Int32)), (.int (1 : Int32))])) _
    refine XS.icmpYes X1.here hx rfl (pc0 := 6) (pc' := 19) rfl (hb hby d5_6) rfl (feq (by decide)).2 (by decide) (by decide) ?_
    show Steps p.tables e below (T1.setTop (mkF m 19 #[.val (.ref p0), .val (.long p1), .second, .unset, .unset] [])) _
    refine XS.aloadN X1.here hx rfl (hb hby d5_19) rfl rfl ?_
    show Steps p.tables e below (T1.setTop (mkF m 20 #[.val (.ref p0), .val (.long p1), .second, .unset, .unset] [(.ref p0)])) _
    refine st2 _ ?_
    show Steps p.tables e below (T2.setTop (mkF m 23 #[.val (.ref p0), .val (.long p1), .second, .unset, .unset] [(.int (1 : Int32))])) _
    refine XS.bipush X2.here hx rfl (hb hby d5_23) ?_
    show Steps p.tables e below (T2.setTop (mkF m 25 #[.val (.ref p0), .val (.long p1), .second, .unset, .unset] [(.int (16 : Int32)), (.int (1 : Int32))])) _
    refine XS.iushr X2.here hx rfl (hb hby d5_25) rfl ?_
    show Steps p.tables e below (T2.setTop (mkF m 26 #[.val (.ref p0), .val (.long p1), .second, .unset, .unset] [(.int (0 : Int32))])) _
    refine XS.istoreN X2.here hx rfl (hb hby d5_26) rfl (l' := #[.val (.ref p0), .val (.long p1), .second, .val (.int (0 : Int32)), .unset]) rfl ?_
    show Steps p.tables e below (T2.setTop (mkF m 27 #[.val (.ref p0), .val (.long p1), .second, .val (.int (0 : Int32)), .unset] [])) _
    refine XS.aloadN X2.here hx rfl (hb hby d5_27) rfl rfl ?_
    show Steps p.tables e below (T2.setTop (mkF m 28 #[.val (.ref p0), .val (.long p1), .second, .val (.int (0 : Int32)), .unset] [(.ref p0)])) _
    refine st3 _ ?_
    show Steps p.tables e below (T3.setTop (mkF m 31 #[.val (.ref p0), .val (.long p1), .second, .val (.int (0 : Int32)), .unset] [(.int (1 : Int32))])) _
    refine X3.ldcInt hx hown (mvT hZ (hw _ (List.mem_of_getElem? (i := 33) rfl))) (g := (mkF m 31 #[.val (.ref p0), .val (.long p1), .second, .val (.int (0 : Int32)), .unset] [(.int (1 : Int32))])) rfl (hb hby d5_31) _ ?_
    show Steps p.tables e below (T3.setTop (mkF m 33 #[.val (.ref p0), .val (.long p1), .second, .val (.int (0 : Int32)), .unset] [(.int (65535 : Int32)), (.int (1 : Int32))])) _
    refine XS.iand X3.here hx rfl (hb hby d5_33) rfl ?_
    show Steps p.tables e below (T3.setTop (mkF m 34 #[.val (.ref p0), .val (.long p1), .second, .val (.int (0 : Int32)), .unset] [(.int (1 : Int32))])) _
    refine XS.istore X3.here hx rfl (hb hby d5_34) rfl (l' := #[.val (.ref p0), .val (.long p1), .second, .val (.int (0 : Int32)), .val (.int (1 : Int32))]) rfl ?_
    show Steps p.tables e below (T3.setTop (mkF m 36 #[.val (.ref p0), .val (.long p1), .second, .val (.int (0 : Int32)), .val (.int (1 : Int32))] [])) _
    refine XS.iloadN X3.here hx rfl (hb hby d5_36) rfl ?_
    show Steps p.tables e below (T3.setTop (mkF m 37 #[.val (.ref p0), .val (.long p1), .second, .val (.int (0 : Int32)), .val (.int (1 : Int32))] [(.int (0 : Int32))])) _
    refine XS.aloadN X3.here hx rfl (hb hby d5_37) rfl rfl ?_
    show Steps p.tables e below (T3.setTop (mkF m 38 #[.val (.ref p0), .val (.long p1), .second, .val (.int (0 : Int32)), .val (.int (1 : Int32))] [(.ref p0), (.int (0 : Int32))])) _
    refine st4 _ ?_
    show Steps p.tables e below (T4.setTop (mkF m 41 #[.val (.ref p0), .val (.long p1), .second, .val (.int (0 : Int32)), .val (.int (1 : Int32))] [(.ref b1), (.int (0 : Int32))])) _
    refine X4.arraylength hx (by rw [e4]; exact Ara5.1) (State.isArrayOf_alike hZ.alike Ara5.2.1) (g := (mkF m 41 #[.val (.ref p0), .val (.long p1), .second, .val (.int (0 : Int32)), .val (.int (1 : Int32))] [(.ref b1), (.int (0 : Int32))])) rfl rfl (hb hby d5_41) _ ?_
    rw [len_of Sa5 Za5]
    show Steps p.tables e below (T4.setTop (mkF m 42 #[.val (.ref p0), .val (.long p1), .second, .val (.int (0 : Int32)), .val (.int (1 : Int32))] [(.int (1 : Int32)), (.int (0 : Int32))])) _
    refine XS.icmpYes X4.here hx rfl (pc0 := 42) (pc' := 62) rfl (hb hby d5_42) rfl (feq (by decide)).2 (by decide) (by decide) ?_
    show Steps p.tables e below (T4.setTop (mkF m 62 #[.val (.ref p0), .val (.long p1), .second, .val (.int (0 : Int32)), .val (.int (1 : Int32))] [])) _
    refine XS.aloadN X4.here hx rfl (hb hby d5_62) rfl rfl ?_
    show Steps p.tables e below (T4.setTop (mkF m 63 #[.val (.ref p0), .val (.long p1), .second, .val (.int (0 : Int32)), .val (.int (1 : Int32))] [(.ref p0)])) _
    refine st6 _ ?_
    show Steps p.tables e below (T6.setTop (mkF m 66 #[.val (.ref p0), .val (.long p1), .second, .val (.int (0 : Int32)), .val (.int (1 : Int32))] [(.ref b1)])) _
    refine XS.iloadN X6.here hx rfl (hb hby d5_66) rfl ?_
    show Steps p.tables e below (T6.setTop (mkF m 67 #[.val (.ref p0), .val (.long p1), .second, .val (.int (0 : Int32)), .val (.int (1 : Int32))] [(.int (0 : Int32)), (.ref b1)])) _
    refine X6.aaload hx (j := (0 : Int32)) (v := (.ref b2)) (by rw [e6]; exact Ara5.1) (State.isArrayOf_alike hZ.alike Ara5.2.1) rfl Ara5.2.2 hin7 hat8 (g := (mkF m 67 #[.val (.ref p0), .val (.long p1), .second, .val (.int (0 : Int32)), .val (.int (1 : Int32))] [(.int (0 : Int32)), (.ref b1)])) rfl rfl (hb hby d5_67) _ ?_
    show Steps p.tables e below (T6.setTop (mkF m 68 #[.val (.ref p0), .val (.long p1), .second, .val (.int (0 : Int32)), .val (.int (1 : Int32))] [(.ref b2)])) _
    refine XS.ifnonnullYes X6.here hx rfl (pc0 := 68) (pc' := 84) rfl (hb hby d5_68) rfl (by decide) (by decide) ?_
    show Steps p.tables e below (T6.setTop (mkF m 84 #[.val (.ref p0), .val (.long p1), .second, .val (.int (0 : Int32)), .val (.int (1 : Int32))] [])) _
    refine XS.iload X6.here hx rfl (hb hby d5_84) rfl ?_
    show Steps p.tables e below (T6.setTop (mkF m 86 #[.val (.ref p0), .val (.long p1), .second, .val (.int (0 : Int32)), .val (.int (1 : Int32))] [(.int (1 : Int32))])) _
    refine XS.aloadN X6.here hx rfl (hb hby d5_86) rfl rfl ?_
    show Steps p.tables e below (T6.setTop (mkF m 87 #[.val (.ref p0), .val (.long p1), .second, .val (.int (0 : Int32)), .val (.int (1 : Int32))] [(.ref p0), (.int (1 : Int32))])) _
    refine st9 _ ?_
    show Steps p.tables e below (T9.setTop (mkF m 90 #[.val (.ref p0), .val (.long p1), .second, .val (.int (0 : Int32)), .val (.int (1 : Int32))] [(.ref b1), (.int (1 : Int32))])) _
    refine XS.iloadN X9.here hx rfl (hb hby d5_90) rfl ?_
    show Steps p.tables e below (T9.setTop (mkF m 91 #[.val (.ref p0), .val (.long p1), .second, .val (.int (0 : Int32)), .val (.int (1 : Int32))] [(.int (0 : Int32)), (.ref b1), (.int (1 : Int32))])) _
    refine X9.aaload hx (j := (0 : Int32)) (v := (.ref b2)) (by rw [e9]; exact Ara5.1) (State.isArrayOf_alike hZ.alike Ara5.2.1) rfl Ara5.2.2 hin10 hat11 (g := (mkF m 91 #[.val (.ref p0), .val (.long p1), .second, .val (.int (0 : Int32)), .val (.int (1 : Int32))] [(.int (0 : Int32)), (.ref b1), (.int (1 : Int32))])) rfl rfl (hb hby d5_91) _ ?_
    show Steps p.tables e below (T9.setTop (mkF m 92 #[.val (.ref p0), .val (.long p1), .second, .val (.int (0 : Int32)), .val (.int (1 : Int32))] [(.ref b2), (.int (1 : Int32))])) _
    refine X9.arraylength hx (by rw [e9]; exact Ara12.1) (State.isArrayOf_alike hZ.alike Ara12.2.1) (g := (mkF m 92 #[.val (.ref p0), .val (.long p1), .second, .val (.int (0 : Int32)), .val (.int (1 : Int32))] [(.ref b2), (.int (1 : Int32))])) rfl rfl (hb hby d5_92) _ ?_
    rw [len_of Sa12 Za12]
    show Steps p.tables e below (T9.setTop (mkF m 93 #[.val (.ref p0), .val (.long p1), .second, .val (.int (0 : Int32)), .val (.int (1 : Int32))] [(.int (8 : Int32)), (.int (1 : Int32))])) _
    refine XS.icmpYes X9.here hx rfl (pc0 := 93) (pc' := 120) rfl (hb hby d5_93) rfl (feq (by decide)).2 (by decide) (by decide) ?_
    show Steps p.tables e below (T9.setTop (mkF m 120 #[.val (.ref p0), .val (.long p1), .second, .val (.int (0 : Int32)), .val (.int (1 : Int32))] [])) _
    refine XS.aloadN X9.here hx rfl (hb hby d5_120) rfl rfl ?_
    show Steps p.tables e below (T9.setTop (mkF m 121 #[.val (.ref p0), .val (.long p1), .second, .val (.int (0 : Int32)), .val (.int (1 : Int32))] [(.ref p0)])) _
    refine st13 _ ?_
    show Steps p.tables e below (T13.setTop (mkF m 124 #[.val (.ref p0), .val (.long p1), .second, .val (.int (0 : Int32)), .val (.int (1 : Int32))] [(.ref b1)])) _
    refine XS.iloadN X13.here hx rfl (hb hby d5_124) rfl ?_
    show Steps p.tables e below (T13.setTop (mkF m 125 #[.val (.ref p0), .val (.long p1), .second, .val (.int (0 : Int32)), .val (.int (1 : Int32))] [(.int (0 : Int32)), (.ref b1)])) _
    refine X13.aaload hx (j := (0 : Int32)) (v := (.ref b2)) (by rw [e13]; exact Ara5.1) (State.isArrayOf_alike hZ.alike Ara5.2.1) rfl Ara5.2.2 hin14 hat15 (g := (mkF m 125 #[.val (.ref p0), .val (.long p1), .second, .val (.int (0 : Int32)), .val (.int (1 : Int32))] [(.int (0 : Int32)), (.ref b1)])) rfl rfl (hb hby d5_125) _ ?_
    show Steps p.tables e below (T13.setTop (mkF m 126 #[.val (.ref p0), .val (.long p1), .second, .val (.int (0 : Int32)), .val (.int (1 : Int32))] [(.ref b2)])) _
    refine XS.iload X13.here hx rfl (hb hby d5_126) rfl ?_
    show Steps p.tables e below (T13.setTop (mkF m 128 #[.val (.ref p0), .val (.long p1), .second, .val (.int (0 : Int32)), .val (.int (1 : Int32))] [(.int (1 : Int32)), (.ref b2)])) _
    refine XS.lloadN X13.here hx rfl (hb hby d5_128) rfl ?_
    show Steps p.tables e below (T13.setTop (mkF m 129 #[.val (.ref p0), .val (.long p1), .second, .val (.int (0 : Int32)), .val (.int (1 : Int32))] [(.long p1), (.int (1 : Int32)), (.ref b2)])) _
    refine st17 _ ?_
    show Steps p.tables e below (T17.setTop (mkF m 130 #[.val (.ref p0), .val (.long p1), .second, .val (.int (0 : Int32)), .val (.int (1 : Int32))] [])) _
    refine XS.aloadN X17.here hx rfl (hb hby d5_130) rfl rfl ?_
    show Steps p.tables e below (T17.setTop (mkF m 131 #[.val (.ref p0), .val (.long p1), .second, .val (.int (0 : Int32)), .val (.int (1 : Int32))] [(.ref p0)])) _
    refine XS.dup X17.here hx rfl (hb hby d5_131) rfl rfl ?_
    show Steps p.tables e below (T17.setTop (mkF m 132 #[.val (.ref p0), .val (.long p1), .second, .val (.int (0 : Int32)), .val (.int (1 : Int32))] [(.ref p0), (.ref p0)])) _
    refine st19 _ ?_
    show Steps p.tables e below (T19.setTop (mkF m 135 #[.val (.ref p0), .val (.long p1), .second, .val (.int (0 : Int32)), .val (.int (1 : Int32))] [(.int (1 : Int32)), (.ref p0)])) _
    refine XS.iconst X19.here hx rfl (hb hby d5_135) ?_
    show Steps p.tables e below (T19.setTop (mkF m 136 #[.val (.ref p0), .val (.long p1), .second, .val (.int (0 : Int32)), .val (.int (1 : Int32))] [(.int (1 : Int32)), (.int (1 : Int32)), (.ref p0)])) _
    refine XS.iadd X19.here hx rfl (hb hby d5_136) rfl ?_
    show Steps p.tables e below (T19.setTop (mkF m 137 #[.val (.ref p0), .val (.long p1), .second, .val (.int (0 : Int32)), .val (.int (1 : Int32))] [(.int (2 : Int32)), (.ref p0)])) _
    refine st21 _ ?_
    exact Steps.refl _
  have c23 : Exa Z h21 p0 "com/example/strikewire/strikewire/engine/LongList" := (c20.wr W21)
  have c24 : Fld Z h21 p0 "com/example/strikewire/strikewire/engine/LongList" "mBlocks" "[[J" (.ref b1) := ((F1_.other W17 (Or.inl F8_)).other W21 (Or.inr (slot_ne (Or.inl (hw _ (List.mem_of_getElem? (i := 14) rfl))) (Or.inl (hw _ (List.mem_of_getElem? (i := 21) rfl))) (by decide) (t := (.array (.array .long))) (t' := .int) (by decide) (by decide))))
  have c25 : Arv Z h21 b1 k1 (.array .long) (1 : Int32) [(.ref b2)] .null := ((F2_.other W17 F9_).other W21 (Ne.symm F7_))
  have c26 : Arv Z h21 b2 k2 .long (8 : Int32) [(.long x0), (.long p1), (.long x2), (.long x3), (.long x4), (.long x5), (.long x6), (.long x7)] (.long (0 : Int64)) := (V17.other W21 (Ne.symm F8_))
  obtain ⟨fs, hr, hrun, hended, hW, hsame⟩ := X21.leave (v := none) (fun _ => rfl)
  refine ⟨_, _, s22.trans ?_, hrun, hended, _, _, rfl, ?_, ⟨_, rfl⟩, hW, hsame.mono (by decide) (by decide)⟩
  · show Steps p.tables e below (T21.setTop (mkF m 140 #[.val (.ref p0), .val (.long p1), .second, .val (.int (0 : Int32)), .val (.int (1 : Int32))] [])) _
    exact X21.returnOut hx Bd.returns (hb hby d5_140) hr
  · show Qa1 Z p0 p1 b1 b2 k1 k2 x0 x1 x2 x3 x4 x5 x6 x7 h0 n0 _ T21.heap _
    rw [e21]
    exact ⟨rfl, N21, K21, c23, c24, c25, Fw21, c26⟩
theorem ef_rma2 (m : MethodId) (p0 : Addr) (p1 : Int64) : entryFrame m #[(.ref p0), (.long p1)] 5 = mkF m 0 #[.val (.ref p0), .val (.long p1), .second, .unset, .unset] [] := by first | (simp [entryFrame, mkF, argsToLocals, Value.category]; done) | rfl
def Qa2 (Z : State) (p0 : Addr) (p1 : Int64) (b1 : Addr) (b2 : Addr) (k1 : ClassId) (k2 : ClassId) (x0 : Int64) (x1 : Int64) (x2 : Int64) (x3 : Int64) (x4 : Int64) (x5 : Int64) (x6 : Int64) (x7 : Int64) (h0 : Heap) (n0 : Nat) (v : Option Value) (h : Heap) (L : List Loc) : Prop := v = none ∧ Fr n0 L ∧ Keep h0 h [p0, b2] ∧ (Exa Z h p0 "com/example/strikewire/strikewire/engine/LongList") ∧ (Fld Z h p0 "com/example/strikewire/strikewire/engine/LongList" "mBlocks" "[[J" (.ref b1)) ∧ (Arv Z h b1 k1 (.array .long) (1 : Int32) [(.ref b2)] .null) ∧ (Fld Z h p0 "com/example/strikewire/strikewire/engine/LongList" "mSize" "I" (.int (3 : Int32))) ∧ (Arv Z h b2 k2 .long (8 : Int32) [(.long x0), (.long x1), (.long p1), (.long x3), (.long x4), (.long x5), (.long x6), (.long x7)] (.long (0 : Int64)))
set_option maxRecDepth 65536 in
set_option maxHeartbeats 40000000 in
theorem rma2 (l : Launch) (Z : State) (a0 : Array Value) (hw : ∀ d ∈ tables_1, d.before a0 Z = true) (ws : List Jvm.Cond) (p0 : Addr) (p1 : Int64) (b1 : Addr) (b2 : Addr) (k1 : ClassId) (k2 : ClassId) (x0 : Int64) (x1 : Int64) (x2 : Int64) (x3 : Int64) (x4 : Int64) (x5 : Int64) (x6 : Int64) (x7 : Int64) (h0 : Heap) (n0 : Nat) (O0 : Old Z n0 h0) (F0_ : Exa Z h0 p0 "com/example/strikewire/strikewire/engine/LongList") (F1_ : Fld Z h0 p0 "com/example/strikewire/strikewire/engine/LongList" "mBlocks" "[[J" (.ref b1)) (F2_ : Arv Z h0 b1 k1 (.array .long) (1 : Int32) [(.ref b2)] .null) (F3_ : Fld Z h0 p0 "com/example/strikewire/strikewire/engine/LongList" "mSize" "I" (.int (2 : Int32))) (F4_ : Arv Z h0 b2 k2 .long (8 : Int32) [(.long x0), (.long x1), (.long x2), (.long x3), (.long x4), (.long x5), (.long x6), (.long x7)] (.long (0 : Int64))) (F5_ : n0 ≤ p0) (F6_ : n0 ≤ b2) (F7_ : p0 ≠ b1) (F8_ : p0 ≠ b2) (F9_ : b1 ≠ b2) :
    MetFree l (⟨"com/example/strikewire/strikewire/engine/LongList", "add", "(J)V"⟩ : MethodName) (head1 (Jvm.Cond.code (⟨"com/example/strikewire/strikewire/engine/LongList", "add", "(J)V"⟩ : MethodName) prog_19_method_3_code 5 none :: ws) ({ frames := 0, cells := 0, slots := 0, locals := 0 } : Room)) (fun a U => a = #[(.ref p0), (.long p1)] ∧ Z.Warmed39 U.vm ∧ U.heap = h0) (fun _ _ _ _ _ => True) (fun _ U o U' => ∃ v L, o = .returned v ∧ Qa2 Z p0 p1 b1 b2 k1 k2 x0 x1 x2 x3 x4 x5 x6 x7 h0 n0 v U'.heap L ∧ FrameEnd U o U' L ({ frames := 0, cells := 0, slots := 0, locals := 0 } : Room).cells ({ frames := 0, cells := 0, slots := 0, locals := 0 } : Room).slots) := by
  refine MetFree.of_bodySF (plainFor_of_name pn_1) hisR ?_
  intro p e s m args below meth c s₁ Bd hml0 hP hK
  obtain ⟨rfl, hZ, hh⟩ := hP
  have hx := Bd.exec
  have hby := Bd.bytes
  have hml : c.maxLocals = 5 := hml0
  have hown : s.vm.findClass "com/example/strikewire/strikewire/engine/LongList" = some m.cls := findClass_of_methodNamed Bd.named
  have hnm := (name_of_methodNamed Bd.named Bd.method).1
  have X0 : Stand p l e ({ frames := 0, cells := 0, slots := 0, locals := 0 } : Room) s m #[(.ref p0), (.long p1)] below meth c s₁ [] 0 0 := Stand.of_body Bd
  have e0 : s₁.heap = h0 := by rw [← hh, Bd.state]; rfl
  have N0 := Fr.nil n0
  have s0 : Steps p.tables e below (s₁.setTop (entryFrame m #[(.ref p0), (.long p1)] 5)) (s₁.setTop (mkF m 0 #[.val (.ref p0), .val (.long p1), .second, .unset, .unset] [])) := castTop (ef_rma2 m p0 p1) (Steps.refl _)
  obtain ⟨T1, X1, e1, st1⟩ := getF X0 hx hZ hown (host := "") (Or.inl (hw _ (List.mem_of_getElem? (i := 20) rfl))) Via.refl e0 F3_ (g := (mkF m 1 #[.val (.ref p0), .val (.long p1), .second, .unset, .unset] [(.ref p0)])) rfl rfl (hb hby d5_1)
  obtain ⟨T2, X2, e2, st2⟩ := getF X1 hx hZ hown (host := "") (Or.inl (hw _ (List.mem_of_getElem? (i := 20) rfl))) Via.refl e1 F3_ (g := (mkF m 20 #[.val (.ref p0), .val (.long p1), .second, .unset, .unset] [(.ref p0)])) rfl rfl (hb hby d5_20)
  obtain ⟨T3, X3, e3, st3⟩ := getF X2 hx hZ hown (host := "") (Or.inl (hw _ (List.mem_of_getElem? (i := 20) rfl))) Via.refl e2 F3_ (g := (mkF m 28 #[.val (.ref p0), .val (.long p1), .second, .val (.int (0 : Int32)), .unset] [(.ref p0)])) rfl rfl (hb hby d5_28)
  obtain ⟨T4, X4, e4, st4⟩ := getF X3 hx hZ hown (host := "") (Or.inl (hw _ (List.mem_of_getElem? (i := 13) rfl))) Via.refl e3 F1_ (g := (mkF m 38 #[.val (.ref p0), .val (.long p1), .second, .val (.int (0 : Int32)), .val (.int (2 : Int32))] [(.ref p0), (.int (0 : Int32))])) rfl rfl (hb hby d5_38)
  obtain ⟨cla5, Ara5, qa5, Sa5, Za5, Ha5, Ga5⟩ := id F2_
  obtain ⟨T6, X6, e6, st6⟩ := getF X4 hx hZ hown (host := "") (Or.inl (hw _ (List.mem_of_getElem? (i := 13) rfl))) Via.refl e4 F1_ (g := (mkF m 63 #[.val (.ref p0), .val (.long p1), .second, .val (.int (0 : Int32)), .val (.int (2 : Int32))] [(.ref p0)])) rfl rfl (hb hby d5_63)
  have hin7 : ¬ ((0 : Int32) < 0 ∨ cla5.slots.size ≤ ((0 : Int32)).toNatClampNeg) := inb_of Sa5 ⟨by decide, by decide⟩
  have hat8 : cla5.slots[((0 : Int32)).toNatClampNeg]? = some (.ref b2) := Has.at Ha5 hin7 rfl
  obtain ⟨T9, X9, e9, st9⟩ := getF X6 hx hZ hown (host := "") (Or.inl (hw _ (List.mem_of_getElem? (i := 13) rfl))) Via.refl e6 F1_ (g := (mkF m 87 #[.val (.ref p0), .val (.long p1), .second, .val (.int (0 : Int32)), .val (.int (2 : Int32))] [(.ref p0), (.int (2 : Int32))])) rfl rfl (hb hby d5_87)
  have hin10 : ¬ ((0 : Int32) < 0 ∨ cla5.slots.size ≤ ((0 : Int32)).toNatClampNeg) := inb_of Sa5 ⟨by decide, by decide⟩
  have hat11 : cla5.slots[((0 : Int32)).toNatClampNeg]? = some (.ref b2) := Has.at Ha5 hin10 rfl
  obtain ⟨cla12, Ara12, qa12, Sa12, Za12, Ha12, Ga12⟩ := id F4_
  obtain ⟨T13, X13, e13, st13⟩ := getF X9 hx hZ hown (host := "") (Or.inl (hw _ (List.mem_of_getElem? (i := 13) rfl))) Via.refl e9 F1_ (g := (mkF m 121 #[.val (.ref p0), .val (.long p1), .second, .val (.int (0 : Int32)), .val (.int (2 : Int32))] [(.ref p0)])) rfl rfl (hb hby d5_121)
  have hin14 : ¬ ((0 : Int32) < 0 ∨ cla5.slots.size ≤ ((0 : Int32)).toNatClampNeg) := inb_of Sa5 ⟨by decide, by decide⟩
  have hat15 : cla5.slots[((0 : Int32)).toNatClampNeg]? = some (.ref b2) := Has.at Ha5 hin14 rfl
  have hin16 : ¬ ((2 : Int32) < 0 ∨ cla12.slots.size ≤ ((2 : Int32)).toNatClampNeg) := inb_of Sa12 ⟨by decide, by decide⟩
  obtain ⟨T17, h17, X17, e17, W17, st17⟩ := stJ X13 hx hZ e13 Ara12 (j := (2 : Int32)) hin16 (g := (mkF m 129 #[.val (.ref p0), .val (.long p1), .second, .val (.int (0 : Int32)), .val (.int (2 : Int32))] [(.long p1), (.int (2 : Int32)), (.ref b2)])) rfl rfl (hb hby d5_129)
  have O17 := O0.wr W17 F6_
  have K17 : Keep h0 h17 [p0, b2] := (Keep.refl h0 [p0, b2]).wr W17 (Or.inl (List.mem_of_getElem? (i := 1) rfl))
  have N17 := Fr.snoc X17 N0 F6_
  have V17 : Arv Z h17 b2 k2 .long (8 : Int32) [(.long x0), (.long x1), (.long p1), (.long x3), (.long x4), (.long x5), (.long x6), (.long x7)] (.long (0 : Int64)) := Arv.set Ara12 qa12 Sa12 Za12 Ha12 Ga12 rfl W17 2 rfl (Nat.le_of_ble_eq_true rfl)
  have c18 : Fld Z h17 p0 "com/example/strikewire/strikewire/engine/LongList" "mSize" "I" (.int (2 : Int32)) := (F3_.other W17 (Or.inl F8_))
  obtain ⟨T19, X19, e19, st19⟩ := getF X17 hx hZ hown (host := "") (Or.inl (hw _ (List.mem_of_getElem? (i := 20) rfl))) Via.refl e17 c18 (g := (mkF m 132 #[.val (.ref p0), .val (.long p1), .second, .val (.int (0 : Int32)), .val (.int (2 : Int32))] [(.ref p0), (.ref p0)])) rfl rfl (hb hby d5_132)
  have c20 : Exa Z h17 p0 "com/example/strikewire/strikewire/engine/LongList" := (F0_.wr W17)
  obtain ⟨T21, h21, X21, e21, W21, st21⟩ := putF X19 hx hZ hown (host := "") (Or.inl (hw _ (List.mem_of_getElem? (i := 20) rfl))) Via.refl e19 c18 c20 (Or.inl (hw _ (List.mem_of_getElem? (i := 21) rfl))) (hw _ (List.mem_of_getElem? (i := 2) rfl)) (ty := .int) (by decide) rfl rfl (g := (mkF m 137 #[.val (.ref p0), .val (.long p1), .second, .val (.int (0 : Int32)), .val (.int (2 : Int32))] [(.int (3 : Int32)), (.ref p0)])) rfl rfl (hb hby d5_137)
  have Fw21 := c18.same W21
  have O21 := O17.wr W21 F5_
  have K21 : Keep h0 h21 [p0, b2] := K17.wr W21 (Or.inl (List.mem_of_getElem? (i := 0) rfl))
  have N21 := Fr.snoc X21 N17 F5_
  have s22 : Steps p.tables e below (s₁.setTop (entryFrame m #[(.ref p0), (.long p1)] 5)) (T21.setTop (mkF m 140 #[.val (.ref p0), .val (.long p1), .second, .val (.int (0 : Int32)), .val (.int (2 : Int32))] [])) := by
    refine s0.trans ?_
    show Steps p.tables e below (s₁.setTop (mkF m 0 #[.val (.ref p0), .val (.long p1), .second, .unset, .unset] [])) _
    refine XS.aloadN X0.here hx rfl (hb hby d5_0) rfl rfl ?_
    show Steps p.tables e below (s₁.setTop (mkF m 1 #[.val (.ref p0), .val (.long p1), .second, .unset, .unset] [(.ref p0)])) _
    refine st1 _ ?_
    show Steps p.tables e below (T1.setTop (mkF m 4 #[.val (.ref p0), .val (.long p1), .second, .unset, .unset] [(.int (2 : Int32))])) _
    refine X1.ldcInt hx hown (mvT hZ (hw _ (List.mem_of_getElem? (i := 32) rfl))) (g := (mkF m 4 #[.val (.ref p0), .val (.long p1), .second, .unset, .unset] [(.int (2 : Int32))])) rfl (hb hby d5_4) _ ?_
    show Steps p.tables e below (T1.setTop (mkF m 6 #[.val (.ref p0), .val (.long p1), .second, .unset, .unset] [(.int (2147483647 : Int32)), (.int (2 : Int32))])) _
    refine XS.icmpYes X1.here hx rfl (pc0 := 6) (pc' := 19) rfl (hb hby d5_6) rfl (feq (by decide)).2 (by decide) (by decide) ?_
    show Steps p.tables e below (T1.setTop (mkF m 19 #[.val (.ref p0), .val (.long p1), .second, .unset, .unset] [])) _
    refine XS.aloadN X1.here hx rfl (hb hby d5_19) rfl rfl ?_
    show Steps p.tables e below (T1.setTop (mkF m 20 #[.val (.ref p0), .val (.long p1), .second, .unset, .unset] [(.ref p0)])) _
    refine st2 _ ?_
    show Steps p.tables e below (T2.setTop (mkF m 23 #[.val (.ref p0), .val (.long p1), .second, .unset, .unset] [(.int (2 : Int32))])) _
    refine XS.bipush X2.here hx rfl (hb hby d5_23) ?_
    show Steps p.tables e below (T2.setTop (mkF m 25 #[.val (.ref p0), .val (.long p1), .second, .unset, .unset] [(.int (16 : Int32)), (.int (2 : Int32))])) _
    refine XS.iushr X2.here hx rfl (hb hby d5_25) rfl ?_
    show Steps p.tables e below (T2.setTop (mkF m 26 #[.val (.ref p0), .val (.long p1), .second, .unset, .unset] [(.int (0 : Int32))])) _
    refine XS.istoreN X2.here hx rfl (hb hby d5_26) rfl (l' := #[.val (.ref p0), .val (.long p1), .second, .val (.int (0 : Int32)), .unset]) rfl ?_
    show Steps p.tables e below (T2.setTop (mkF m 27 #[.val (.ref p0), .val (.long p1), .second, .val (.int (0 : Int32)), .unset] [])) _
    refine XS.aloadN X2.here hx rfl (hb hby d5_27) rfl rfl ?_
    show Steps p.tables e below (T2.setTop (mkF m 28 #[.val (.ref p0), .val (.long p1), .second, .val (.int (0 : Int32)), .unset] [(.ref p0)])) _
    refine st3 _ ?_
    show Steps p.tables e below (T3.setTop (mkF m 31 #[.val (.ref p0), .val (.long p1), .second, .val (.int (0 : Int32)), .unset] [(.int (2 : Int32))])) _
    refine X3.ldcInt hx hown (mvT hZ (hw _ (List.mem_of_getElem? (i := 33) rfl))) (g := (mkF m 31 #[.val (.ref p0), .val (.long p1), .second, .val (.int (0 : Int32)), .unset] [(.int (2 : Int32))])) rfl (hb hby d5_31) _ ?_
    show Steps p.tables e below (T3.setTop (mkF m 33 #[.val (.ref p0), .val (.long p1), .second, .val (.int (0 : Int32)), .unset] [(.int (65535 : Int32)), (.int (2 : Int32))])) _
    refine XS.iand X3.here hx rfl (hb hby d5_33) rfl ?_
    show Steps p.tables e below (T3.setTop (mkF m 34 #[.val (.ref p0), .val (.long p1), .second, .val (.int (0 : Int32)), .unset] [(.int (2 : Int32))])) _
    refine XS.istore X3.here hx rfl (hb hby d5_34) rfl (l' := #[.val (.ref p0), .val (.long p1), .second, .val (.int (0 : Int32)), .val (.int (2 : Int32))]) rfl ?_
    show Steps p.tables e below (T3.setTop (mkF m 36 #[.val (.ref p0), .val (.long p1), .second, .val (.int (0 : Int32)), .val (.int (2 : Int32))] [])) _
    refine XS.iloadN X3.here hx rfl (hb hby d5_36) rfl ?_
    show Steps p.tables e below (T3.setTop (mkF m 37 #[.val (.ref p0), .val (.long p1), .second, .val (.int (0 : Int32)), .val (.int (2 : Int32))] [(.int (0 : Int32))])) _
    refine XS.aloadN X3.here hx rfl (hb hby d5_37) rfl rfl ?_
    show Steps p.tables e below (T3.setTop (mkF m 38 #[.val (.ref p0), .val (.long p1), .second, .val (.int (0 : Int32)), .val (.int (2 : Int32))] [(.ref p0), (.int (0 : Int32))])) _
    refine st4 _ ?_
    show Steps p.tables e below (T4.setTop (mkF m 41 #[.val (.ref p0), .val (.long p1), .second, .val (.int (0 : Int32)), .val (.int (2 : Int32))] [(.ref b1), (.int (0 : Int32))])) _
    refine X4.arraylength hx (by rw [e4]; exact Ara5.1) (State.isArrayOf_alike hZ.alike Ara5.2.1) (g := (mkF m 41 #[.val (.ref p0), .val (.long p1), .second, .val (.int (0 : Int32)), .val (.int (2 : Int32))] [(.ref b1), (.int (0 : Int32))])) rfl rfl (hb hby d5_41) _ ?_
    rw [len_of Sa5 Za5]
    show Steps p.tables e below (T4.setTop (mkF m 42 #[.val (.ref p0), .val (.long p1), .second, .val (.int (0 : Int32)), .val (.int (2 : Int32))] [(.int (1 : Int32)), (.int (0 : Int32))])) _
    refine XS.icmpYes X4.here hx rfl (pc0 := 42) (pc' := 62) rfl (hb hby d5_42) rfl (feq (by decide)).2 (by decide) (by decide) ?_
    show Steps p.tables e below (T4.setTop (mkF m 62 #[.val (.ref p0), .val (.long p1), .second, .val (.int (0 : Int32)), .val (.int (2 : Int32))] [])) _
    refine XS.aloadN X4.here hx rfl (hb hby d5_62) rfl rfl ?_
    show Steps p.tables e below (T4.setTop (mkF m 63 #[.val (.ref p0), .val (.long p1), .second, .val (.int (0 : Int32)), .val (.int (2 : Int32))] [(.ref p0)])) _
    refine st6 _ ?_
    show Steps p.tables e below (T6.setTop (mkF m 66 #[.val (.ref p0), .val (.long p1), .second, .val (.int (0 : Int32)), .val (.int (2 : Int32))] [(.ref b1)])) _
    refine XS.iloadN X6.here hx rfl (hb hby d5_66) rfl ?_
    show Steps p.tables e below (T6.setTop (mkF m 67 #[.val (.ref p0), .val (.long p1), .second, .val (.int (0 : Int32)), .val (.int (2 : Int32))] [(.int (0 : Int32)), (.ref b1)])) _
    refine X6.aaload hx (j := (0 : Int32)) (v := (.ref b2)) (by rw [e6]; exact Ara5.1) (State.isArrayOf_alike hZ.alike Ara5.2.1) rfl Ara5.2.2 hin7 hat8 (g := (mkF m 67 #[.val (.ref p0), .val (.long p1), .second, .val (.int (0 : Int32)), .val (.int (2 : Int32))] [(.int (0 : Int32)), (.ref b1)])) rfl rfl (hb hby d5_67) _ ?_
    show Steps p.tables e below (T6.setTop (mkF m 68 #[.val (.ref p0), .val (.long p1), .second, .val (.int (0 : Int32)), .val (.int (2 : Int32))] [(.ref b2)])) _
    refine XS.ifnonnullYes X6.here hx rfl (pc0 := 68) (pc' := 84) rfl (hb hby d5_68) rfl (by decide) (by decide) ?_
    show Steps p.tables e below (T6.setTop (mkF m 84 #[.val (.ref p0), .val (.long p1), .second, .val (.int (0 : Int32)), .val (.int (2 : Int32))] [])) _
    refine XS.iload X6.here hx rfl (hb hby d5_84) rfl ?_
    show Steps p.tables e below (T6.setTop (mkF m 86 #[.val (.ref p0), .val (.long p1), .second, .val (.int (0 : Int32)), .val (.int (2 : Int32))] [(.int (2 : Int32))])) _
    refine XS.aloadN X6.here hx rfl (hb hby d5_86) rfl rfl ?_
    show Steps p.tables e below (T6.setTop (mkF m 87 #[.val (.ref p0), .val (.long p1), .second, .val (.int (0 : Int32)), .val (.int (2 : Int32))] [(.ref p0), (.int (2 : Int32))])) _
    refine st9 _ ?_
    show Steps p.tables e below (T9.setTop (mkF m 90 #[.val (.ref p0), .val (.long p1), .second, .val (.int (0 : Int32)), .val (.int (2 : Int32))] [(.ref b1), (.int (2 : Int32))])) _
    refine XS.iloadN X9.here hx rfl (hb hby d5_90) rfl ?_
    show Steps p.tables e below (T9.setTop (mkF m 91 #[.val (.ref p0), .val (.long p1), .second, .val (.int (0 : Int32)), .val (.int (2 : Int32))] [(.int (0 : Int32)), (.ref b1), (.int (2 : Int32))])) _
    refine X9.aaload hx (j := (0 : Int32)) (v := (.ref b2)) (by rw [e9]; exact Ara5.1) (State.isArrayOf_alike hZ.alike Ara5.2.1) rfl Ara5.2.2 hin10 hat11 (g := (mkF m 91 #[.val (.ref p0), .val (.long p1), .second, .val (.int (0 : Int32)), .val (.int (2 : Int32))] [(.int (0 : Int32)), (.ref b1), (.int (2 : Int32))])) rfl rfl (hb hby d5_91) _ ?_
    show Steps p.tables e below (T9.setTop (mkF m 92 #[.val (.ref p0), .val (.long p1), .second, .val (.int (0 : Int32)), .val (.int (2 : Int32))] [(.ref b2), (.int (2 : Int32))])) _
    refine X9.arraylength hx (by rw [e9]; exact Ara12.1) (State.isArrayOf_alike hZ.alike Ara12.2.1) (g := (mkF m 92 #[.val (.ref p0), .val (.long p1), .second, .val (.int (0 : Int32)), .val (.int (2 : Int32))] [(.ref b2), (.int (2 : Int32))])) rfl rfl (hb hby d5_92) _ ?_
    rw [len_of Sa12 Za12]
    show Steps p.tables e below (T9.setTop (mkF m 93 #[.val (.ref p0), .val (.long p1), .second, .val (.int (0 : Int32)), .val (.int (2 : Int32))] [(.int (8 : Int32)), (.int (2 : Int32))])) _
    refine XS.icmpYes X9.here hx rfl (pc0 := 93) (pc' := 120) rfl (hb hby d5_93) rfl (feq (by decide)).2 (by decide) (by decide) ?_
    show Steps p.tables e below (T9.setTop (mkF m 120 #[.val (.ref p0), .val (.long p1), .second, .val (.int (0 : Int32)), .val (.int (2 : Int32))] [])) _
    refine XS.aloadN X9.here hx rfl (hb hby d5_120) rfl rfl ?_
    show Steps p.tables e below (T9.setTop (mkF m 121 #[.val (.ref p0), .val (.long p1), .second, .val (.int (0 : Int32)), .val (.int (2 : Int32))] [(.ref p0)])) _
    refine st13 _ ?_
    show Steps p.tables e below (T13.setTop (mkF m 124 #[.val (.ref p0), .val (.long p1), .second, .val (.int (0 : Int32)), .val (.int (2 : Int32))] [(.ref b1)])) _
    refine XS.iloadN X13.here hx rfl (hb hby d5_124) rfl ?_
    show Steps p.tables e below (T13.setTop (mkF m 125 #[.val (.ref p0), .val (.long p1), .second, .val (.int (0 : Int32)), .val (.int (2 : Int32))] [(.int (0 : Int32)), (.ref b1)])) _
    refine X13.aaload hx (j := (0 : Int32)) (v := (.ref b2)) (by rw [e13]; exact Ara5.1) (State.isArrayOf_alike hZ.alike Ara5.2.1) rfl Ara5.2.2 hin14 hat15 (g := (mkF m 125 #[.val (.ref p0), .val (.long p1), .second, .val (.int (0 : Int32)), .val (.int (2 : Int32))] [(.int (0 : Int32)), (.ref b1)])) rfl rfl (hb hby d5_125) _ ?_
    show Steps p.tables e below (T13.setTop (mkF m 126 #[.val (.ref p0), .val (.long p1), .second, .val (.int (0 : Int32)), .val (.int (2 : Int32))] [(.ref b2)])) _
    refine XS.iload X13.here hx rfl (hb hby d5_126) rfl ?_
    show Steps p.tables e below (T13.setTop (mkF m 128 #[.val (.ref p0), .val (.long p1), .second, .val (.int (0 : Int32)), .val (.int (2 : Int32))] [(.int (2 : Int32)), (.ref b2)])) _
    refine XS.lloadN X13.here hx rfl (hb hby d5_128) rfl ?_
    show Steps p.tables e below (T13.setTop (mkF m 129 #[.val (.ref p0), .val (.long p1), .second, .val (.int (0 : Int32)), .val (.int (2 : Int32))] [(.long p1), (.int (2 : Int32)), (.ref b2)])) _
    refine st17 _ ?_
    show Steps p.tables e below (T17.setTop (mkF m 130 #[.val (.ref p0), .val (.long p1), .second, .val (.int (0 : Int32)), .val (.int (2 : Int32))] [])) _
    refine XS.aloadN X17.here hx rfl (hb hby d5_130) rfl rfl ?_
    show Steps p.tables e below (T17.setTop (mkF m 131 #[.val (.ref p0), .val (.long p1), .second, .val (.int (0 : Int32)), .val (.int (2 : Int32))] [(.ref p0)])) _
    refine XS.dup X17.here hx rfl (hb hby d5_131) rfl rfl ?_
    show Steps p.tables e below (T17.setTop (mkF m 132 #[.val (.ref p0), .val (.long p1), .second, .val (.int (0 : Int32)), .val (.int (2 : Int32))] [(.ref p0), (.ref p0)])) _
    refine st19 _ ?_
    show Steps p.tables e below (T19.setTop (mkF m 135 #[.val (.ref p0), .val (.long p1), .second, .val (.int (0 : Int32)), .val (.int (2 : Int32))] [(.int (2 : Int32)), (.ref p0)])) _
    refine XS.iconst X19.here hx rfl (hb hby d5_135) ?_
    show Steps p.tables e below (T19.setTop (mkF m 136 #[.val (.ref p0), .val (.long p1), .second, .val (.int (0 : Int32)), .val (.int (2 : Int32))] [(.int (1 : Int32)), (.int (2 : Int32)), (.ref p0)])) _
    refine XS.iadd X19.here hx rfl (hb hby d5_136) rfl ?_
    show Steps p.tables e below (T19.setTop (mkF m 137 #[.val (.ref p0), .val (.long p1), .second, .val (.int (0 : Int32)), .val (.int (2 : Int32))] [(.int (3 : Int32)), (.ref p0)])) _
    refine st21 _ ?_
    exact Steps.refl _
  have c23 : Exa Z h21 p0 "com/example/strikewire/strikewire/engine/LongList" := (c20.wr W21)
  have c24 : Fld Z h21 p0 "com/example/strikewire/strikewire/engine/LongList" "mBlocks" "[[J" (.ref b1) := ((F1_.other W17 (Or.inl F8_)).other W21 (Or.inr (slot_ne (Or.inl (hw _ (List.mem_of_getElem? (i := 14) rfl))) (Or.inl (hw _ (List.mem_of_getElem? (i := 21) rfl))) (by decide) (t := (.array (.array .long))) (t' := .int) (by decide) (by decide))))
  have c25 : Arv Z h21 b1 k1 (.array .long) (1 : Int32) [(.ref b2)] .null := ((F2_.other W17 F9_).other W21 (Ne.symm F7_))
  have c26 : Arv Z h21 b2 k2 .long (8 : Int32) [(.long x0), (.long x1), (.long p1), (.long x3), (.long x4), (.long x5), (.long x6), (.long x7)] (.long (0 : Int64)) := (V17.other W21 (Ne.symm F8_))
  obtain ⟨fs, hr, hrun, hended, hW, hsame⟩ := X21.leave (v := none) (fun _ => rfl)
  refine ⟨_, _, s22.trans ?_, hrun, hended, _, _, rfl, ?_, ⟨_, rfl⟩, hW, hsame.mono (by decide) (by decide)⟩
  · show Steps p.tables e below (T21.setTop (mkF m 140 #[.val (.ref p0), .val (.long p1), .second, .val (.int (0 : Int32)), .val (.int (2 : Int32))] [])) _
    exact X21.returnOut hx Bd.returns (hb hby d5_140) hr
  · show Qa2 Z p0 p1 b1 b2 k1 k2 x0 x1 x2 x3 x4 x5 x6 x7 h0 n0 _ T21.heap _
    rw [e21]
    exact ⟨rfl, N21, K21, c23, c24, c25, Fw21, c26⟩
theorem d7_0 : decode prog_19_method_7_code 0 = .ok (.iload_n 1, 1) := by decide +kernel
theorem d7_1 : decode prog_19_method_7_code 1 = .ok (.ifCond .lt 11, 3) := by decide +kernel
theorem d7_4 : decode prog_19_method_7_code 4 = .ok (.iload_n 1, 1) := by decide +kernel
theorem d7_5 : decode prog_19_method_7_code 5 = .ok (.aload_n 0, 1) := by decide +kernel
theorem d7_6 : decode prog_19_method_7_code 6 = .ok (.getfield 14, 3) := by decide +kernel
theorem d7_9 : decode prog_19_method_7_code 9 = .ok (.if_icmp .lt 21, 3) := by decide +kernel
theorem d7_30 : decode prog_19_method_7_code 30 = .ok (.iload_n 1, 1) := by decide +kernel
theorem d7_31 : decode prog_19_method_7_code 31 = .ok (.bipush 16, 2) := by decide +kernel
theorem d7_33 : decode prog_19_method_7_code 33 = .ok (.iushr, 1) := by decide +kernel
theorem d7_34 : decode prog_19_method_7_code 34 = .ok (.ireturn, 1) := by decide +kernel
theorem ef_rmb0_1 (m : MethodId) (p0 : Addr) : entryFrame m #[(.ref p0), (.int (0 : Int32))] 2 = mkF m 0 #[.val (.ref p0), .val (.int (0 : Int32))] [] := by first | (simp [entryFrame, mkF, argsToLocals, Value.category]; done) | rfl
def Qb0_1 (Z : State) (p0 : Addr) (h0 : Heap) (n0 : Nat) (v : Option Value) (h : Heap) (L : List Loc) : Prop := v = some (.int (0 : Int32)) ∧ Fr n0 L ∧ h = h0
set_option maxRecDepth 65536 in
set_option maxHeartbeats 40000000 in
theorem rmb0_1 (l : Launch) (Z : State) (a0 : Array Value) (hw : ∀ d ∈ tables_1, d.before a0 Z = true) (ws : List Jvm.Cond) (p0 : Addr) (h0 : Heap) (n0 : Nat) (O0 : Old Z n0 h0) (F0_ : Fld Z h0 p0 "com/example/strikewire/strikewire/engine/LongList" "mSize" "I" (.int (1 : Int32))) :
    MetFree l (⟨"com/example/strikewire/strikewire/engine/LongList", "block", "(I)I"⟩ : MethodName) (head1 (Jvm.Cond.code (⟨"com/example/strikewire/strikewire/engine/LongList", "block", "(I)I"⟩ : MethodName) prog_19_method_7_code 2 (some .int) :: ws) ({ frames := 0, cells := 0, slots := 0, locals := 0 } : Room)) (fun a U => a = #[(.ref p0), (.int (0 : Int32))] ∧ Z.Warmed39 U.vm ∧ U.heap = h0) (fun _ _ _ _ _ => True) (fun _ U o U' => ∃ v L, o = .returned v ∧ Qb0_1 Z p0 h0 n0 v U'.heap L ∧ FrameEnd U o U' L ({ frames := 0, cells := 0, slots := 0, locals := 0 } : Room).cells ({ frames := 0, cells := 0, slots := 0, locals := 0 } : Room).slots) := by
  refine MetFree.of_bodySF (plainFor_of_name pn_1) hisR ?_
  intro p e s m args below meth c s₁ Bd hml0 hP hK
  obtain ⟨rfl, hZ, hh⟩ := hP
  have hx := Bd.exec
  have hby := Bd.bytes
  have hml : c.maxLocals = 2 := hml0
  have hown : s.vm.findClass "com/example/strikewire/strikewire/engine/LongList" = some m.cls := findClass_of_methodNamed Bd.named
  have hnm := (name_of_methodNamed Bd.named Bd.method).1
  have X0 : Stand p l e ({ frames := 0, cells := 0, slots := 0, locals := 0 } : Room) s m #[(.ref p0), (.int (0 : Int32))] below meth c s₁ [] 0 0 := Stand.of_body Bd
  have e0 : s₁.heap = h0 := by rw [← hh, Bd.state]; rfl
  have N0 := Fr.nil n0
  have s0 : Steps p.tables e below (s₁.setTop (entryFrame m #[(.ref p0), (.int (0 : Int32))] 2)) (s₁.setTop (mkF m 0 #[.val (.ref p0), .val (.int (0 : Int32))] [])) := castTop (ef_rmb0_1 m p0) (Steps.refl _)
  obtain ⟨T1, X1, e1, st1⟩ := getF X0 hx hZ hown (host := "") (Or.inl (hw _ (List.mem_of_getElem? (i := 20) rfl))) Via.refl e0 F0_ (g := (mkF m 6 #[.val (.ref p0), .val (.int (0 : Int32))] [(.ref p0), (.int (0 : Int32))])) rfl rfl (hb hby d7_6)
  have s2 : Steps p.tables e below (s₁.setTop (entryFrame m #[(.ref p0), (.int (0 : Int32))] 2)) (T1.setTop (mkF m 34 #[.val (.ref p0), .val (.int (0 : Int32))] [(.int (0 : Int32))])) := by
    refine s0.trans ?_
    show Steps p.tables e below (s₁.setTop (mkF m 0 #[.val (.ref p0), .val (.int (0 : Int32))] [])) _
    refine XS.iloadN X0.here hx rfl (hb hby d7_0) rfl ?_
    show Steps p.tables e below (s₁.setTop (mkF m 1 #[.val (.ref p0), .val (.int (0 : Int32))] [(.int (0 : Int32))])) _
    refine XS.ifNo X0.here hx rfl (hb hby d7_1) rfl ((if0 _ _).trans (flt (by decide)).1) ?_
    show Steps p.tables e below (s₁.setTop (mkF m 4 #[.val (.ref p0), .val (.int (0 : Int32))] [])) _
    refine XS.iloadN X0.here hx rfl (hb hby d7_4) rfl ?_
    show Steps p.tables e below (s₁.setTop (mkF m 5 #[.val (.ref p0), .val (.int (0 : Int32))] [(.int (0 : Int32))])) _
    refine XS.aloadN X0.here hx rfl (hb hby d7_5) rfl rfl ?_
    show Steps p.tables e below (s₁.setTop (mkF m 6 #[.val (.ref p0), .val (.int (0 : Int32))] [(.ref p0), (.int (0 : Int32))])) _
    refine st1 _ ?_
    show Steps p.tables e below (T1.setTop (mkF m 9 #[.val (.ref p0), .val (.int (0 : Int32))] [(.int (1 : Int32)), (.int (0 : Int32))])) _
    refine XS.icmpYes X1.here hx rfl (pc0 := 9) (pc' := 30) rfl (hb hby d7_9) rfl (tlt (by decide)).1 (by decide) (by decide) ?_
    show Steps p.tables e below (T1.setTop (mkF m 30 #[.val (.ref p0), .val (.int (0 : Int32))] [])) _
    refine XS.iloadN X1.here hx rfl (hb hby d7_30) rfl ?_
    show Steps p.tables e below (T1.setTop (mkF m 31 #[.val (.ref p0), .val (.int (0 : Int32))] [(.int (0 : Int32))])) _
    refine XS.bipush X1.here hx rfl (hb hby d7_31) ?_
    show Steps p.tables e below (T1.setTop (mkF m 33 #[.val (.ref p0), .val (.int (0 : Int32))] [(.int (16 : Int32)), (.int (0 : Int32))])) _
    refine XS.iushr X1.here hx rfl (hb hby d7_33) rfl ?_
    exact Steps.refl _
  obtain ⟨fs, hr, hrun, hended, hW, hsame⟩ := X1.leave (v := some (.int (0 : Int32))) (fun h => by rw [Bd.returns] at h; cases h)
  refine ⟨_, _, s2.trans ?_, hrun, hended, _, _, rfl, ?_, ⟨_, rfl⟩, hW, hsame.mono (by decide) (by decide)⟩
  · show Steps p.tables e below (T1.setTop (mkF m 34 #[.val (.ref p0), .val (.int (0 : Int32))] [(.int (0 : Int32))])) _
    exact retI X1 hx Bd.returns (hb hby d7_34) hr
  · show Qb0_1 Z p0 h0 n0 _ T1.heap _
    rw [e1]
    exact ⟨rfl, N0, rfl⟩
theorem d6_0 : decode prog_19_method_4_code 0 = .ok (.aload_n 0, 1) := by decide +kernel
theorem d6_1 : decode prog_19_method_4_code 1 = .ok (.getfield 11, 3) := by decide +kernel
theorem d6_4 : decode prog_19_method_4_code 4 = .ok (.aload_n 0, 1) := by decide +kernel
theorem d6_5 : decode prog_19_method_4_code 5 = .ok (.iload_n 1, 1) := by decide +kernel
theorem d6_6 : decode prog_19_method_4_code 6 = .ok (.invokevirtual 45, 3) := by decide +kernel
theorem d6_9 : decode prog_19_method_4_code 9 = .ok (.aaload, 1) := by decide +kernel
theorem d6_10 : decode prog_19_method_4_code 10 = .ok (.iload_n 1, 1) := by decide +kernel
theorem d6_11 : decode prog_19_method_4_code 11 = .ok (.ldc 28, 2) := by decide +kernel
theorem d6_13 : decode prog_19_method_4_code 13 = .ok (.iand, 1) := by decide +kernel
theorem d6_14 : decode prog_19_method_4_code 14 = .ok (.laload, 1) := by decide +kernel
theorem d6_15 : decode prog_19_method_4_code 15 = .ok (.lreturn, 1) := by decide +kernel
theorem pd_rmg0_1_0 : parseMethodDescriptor "(I)I" = some ⟨[.int], some .int⟩ := by decide +kernel
theorem ef_rmg0_1 (m : MethodId) (p0 : Addr) : entryFrame m #[(.ref p0), (.int (0 : Int32))] 2 = mkF m 0 #[.val (.ref p0), .val (.int (0 : Int32))] [] := by first | (simp [entryFrame, mkF, argsToLocals, Value.category]; done) | rfl
def Qg0_1 (Z : State) (p0 : Addr) (b1 : Addr) (b2 : Addr) (k1 : ClassId) (k2 : ClassId) (x0 : Int64) (x1 : Int64) (x2 : Int64) (x3 : Int64) (x4 : Int64) (x5 : Int64) (x6 : Int64) (x7 : Int64) (h0 : Heap) (n0 : Nat) (v : Option Value) (h : Heap) (L : List Loc) : Prop := v = some (.long x0) ∧ Fr n0 L ∧ h = h0
set_option maxRecDepth 65536 in
set_option maxHeartbeats 40000000 in
theorem rmg0_1 (l : Launch) (Z : State) (a0 : Array Value) (hw : ∀ d ∈ tables_1, d.before a0 Z = true) (ws : List Jvm.Cond) (p0 : Addr) (b1 : Addr) (b2 : Addr) (k1 : ClassId) (k2 : ClassId) (x0 : Int64) (x1 : Int64) (x2 : Int64) (x3 : Int64) (x4 : Int64) (x5 : Int64) (x6 : Int64) (x7 : Int64) (h0 : Heap) (n0 : Nat) (O0 : Old Z n0 h0) (F0_ : Exa Z h0 p0 "com/example/strikewire/strikewire/engine/LongList") (F1_ : Fld Z h0 p0 "com/example/strikewire/strikewire/engine/LongList" "mBlocks" "[[J" (.ref b1)) (F2_ : Arv Z h0 b1 k1 (.array .long) (1 : Int32) [(.ref b2)] .null) (F3_ : Fld Z h0 p0 "com/example/strikewire/strikewire/engine/LongList" "mSize" "I" (.int (1 : Int32))) (F4_ : Arv Z h0 b2 k2 .long (8 : Int32) [(.long x0), (.long x1), (.long x2), (.long x3), (.long x4), (.long x5), (.long x6), (.long x7)] (.long (0 : Int64))) :
    MetFree l (⟨"com/example/strikewire/strikewire/engine/LongList", "get", "(I)J"⟩ : MethodName) (head1 (Jvm.Cond.code (⟨"com/example/strikewire/strikewire/engine/LongList", "get", "(I)J"⟩ : MethodName) prog_19_method_4_code 2 (some .long) :: ws) ({ frames := 1, cells := 0, slots := 0, locals := 14 } : Room)) (fun a U => a = #[(.ref p0), (.int (0 : Int32))] ∧ Z.Warmed39 U.vm ∧ U.heap = h0) (fun _ _ _ _ _ => True) (fun _ U o U' => ∃ v L, o = .returned v ∧ Qg0_1 Z p0 b1 b2 k1 k2 x0 x1 x2 x3 x4 x5 x6 x7 h0 n0 v U'.heap L ∧ FrameEnd U o U' L ({ frames := 1, cells := 0, slots := 0, locals := 14 } : Room).cells ({ frames := 1, cells := 0, slots := 0, locals := 14 } : Room).slots) := by
  refine MetFree.of_bodySF (plainFor_of_name pn_1) hisR ?_
  intro p e s m args below meth c s₁ Bd hml0 hP hK
  obtain ⟨rfl, hZ, hh⟩ := hP
  have hx := Bd.exec
  have hby := Bd.bytes
  have hml : c.maxLocals = 2 := hml0
  have hown : s.vm.findClass "com/example/strikewire/strikewire/engine/LongList" = some m.cls := findClass_of_methodNamed Bd.named
  have hnm := (name_of_methodNamed Bd.named Bd.method).1
  have X0 : Stand p l e ({ frames := 1, cells := 0, slots := 0, locals := 14 } : Room) s m #[(.ref p0), (.int (0 : Int32))] below meth c s₁ [] 0 0 := Stand.of_body Bd
  have e0 : s₁.heap = h0 := by rw [← hh, Bd.state]; rfl
  have N0 := Fr.nil n0
  have s0 : Steps p.tables e below (s₁.setTop (entryFrame m #[(.ref p0), (.int (0 : Int32))] 2)) (s₁.setTop (mkF m 0 #[.val (.ref p0), .val (.int (0 : Int32))] [])) := castTop (ef_rmg0_1 m p0) (Steps.refl _)
  obtain ⟨T1, X1, e1, st1⟩ := getF X0 hx hZ hown (host := "") (Or.inl (hw _ (List.mem_of_getElem? (i := 13) rfl))) Via.refl e0 F1_ (g := (mkF m 1 #[.val (.ref p0), .val (.int (0 : Int32))] [(.ref p0)])) rfl rfl (hb hby d6_1)
  obtain ⟨cq2, q2, q2'⟩ := F0_.cell
  obtain ⟨_, _, ⟨T2, L2, k2, n2⟩, -, X2, ⟨Lc2, hQ2, l2, y2, z2⟩, st2⟩ := X1.privateBack hx (y := (⟨"com/example/strikewire/strikewire/engine/LongList", "block", "(I)I"⟩ : MethodName)) hown (mvT hZ (hw _ (List.mem_of_getElem? (i := 39) rfl))) (mvT hZ (hw _ (List.mem_of_getElem? (i := 40) rfl))) (own_selP (z := (⟨"com/example/strikewire/strikewire/engine/LongList", "clear", "()V"⟩ : MethodName)) (mvT hZ (hw _ (List.mem_of_getElem? (i := 18) rfl))) rfl (Cond.privateMethod_at (mvP hZ (hw _ (List.mem_of_getElem? (i := 41) rfl)) (args := #[]))) (mvT hZ (hw _ (List.mem_of_getElem? (i := 40) rfl))) (by decide)) (Cond.privateMethod_at (mvP hZ (hw _ (List.mem_of_getElem? (i := 41) rfl)) (args := #[]))) (mvT hZ (hw _ (List.mem_of_getElem? (i := 42) rfl))) (by decide) (backOf (W := 1) (rmb0_1 l Z a0 hw [] p0 h0 n0 O0 F3_) hZ (hw _ (List.mem_of_getElem? (i := 42) rfl)) (hw _ (List.mem_of_getElem? (i := 3) rfl)) (by decide) (by decide)) (g := (mkF m 6 #[.val (.ref p0), .val (.int (0 : Int32))] [(.int (0 : Int32)), (.ref p0), (.ref b1)])) rfl (by rw [hml]; rfl) (Steps.refl _) (a := p0) (by rw [e1]; exact q2) q2' (argsL := [(.int (0 : Int32))]) (rest := [(.ref b1)]) (lenOf pd_rmg0_1_0 rfl) rfl (by show 2 * 0 + _ ≤ _; exact Nat.le_of_eq rfl) (hb hby d6_6) (fun _ _ => ⟨rfl, e1, (by decide : 0 + 0 ≤ _), (by decide : 0 + 0 ≤ _)⟩)
  dsimp only [Pt.U, Pt.locs, Pt.cells, Pt.slots] at X2 l2 y2 z2 st2 hQ2
  subst l2 y2 z2
  obtain ⟨rfl, Nq2, e2⟩ := hQ2
  have N2 := Fr.app N0 Nq2
  obtain ⟨cla3, Ara3, qa3, Sa3, Za3, Ha3, Ga3⟩ := id F2_
  have hin4 : ¬ ((0 : Int32) < 0 ∨ cla3.slots.size ≤ ((0 : Int32)).toNatClampNeg) := inb_of Sa3 ⟨by decide, by decide⟩
  have hat5 : cla3.slots[((0 : Int32)).toNatClampNeg]? = some (.ref b2) := Has.at Ha3 hin4 rfl
  obtain ⟨cla6, Ara6, qa6, Sa6, Za6, Ha6, Ga6⟩ := id F4_
  have hin7 : ¬ ((0 : Int32) < 0 ∨ cla6.slots.size ≤ ((0 : Int32)).toNatClampNeg) := inb_of Sa6 ⟨by decide, by decide⟩
  have hat8 : cla6.slots[((0 : Int32)).toNatClampNeg]? = some (.long x0) := Has.at Ha6 hin7 rfl
  have s9 : Steps p.tables e below (s₁.setTop (entryFrame m #[(.ref p0), (.int (0 : Int32))] 2)) (T2.setTop (mkF m 15 #[.val (.ref p0), .val (.int (0 : Int32))] [(.long x0)])) := by
    refine s0.trans ?_
    show Steps p.tables e below (s₁.setTop (mkF m 0 #[.val (.ref p0), .val (.int (0 : Int32))] [])) _
    refine XS.aloadN X0.here hx rfl (hb hby d6_0) rfl rfl ?_
    show Steps p.tables e below (s₁.setTop (mkF m 1 #[.val (.ref p0), .val (.int (0 : Int32))] [(.ref p0)])) _
    refine st1 _ ?_
    show Steps p.tables e below (T1.setTop (mkF m 4 #[.val (.ref p0), .val (.int (0 : Int32))] [(.ref b1)])) _
    refine XS.aloadN X1.here hx rfl (hb hby d6_4) rfl rfl ?_
    show Steps p.tables e below (T1.setTop (mkF m 5 #[.val (.ref p0), .val (.int (0 : Int32))] [(.ref p0), (.ref b1)])) _
    refine XS.iloadN X1.here hx rfl (hb hby d6_5) rfl ?_
    show Steps p.tables e below (T1.setTop (mkF m 6 #[.val (.ref p0), .val (.int (0 : Int32))] [(.int (0 : Int32)), (.ref p0), (.ref b1)])) _
    refine st2.trans ?_
    show Steps p.tables e below (T2.setTop (mkF m 9 #[.val (.ref p0), .val (.int (0 : Int32))] [(.int (0 : Int32)), (.ref b1)])) _
    refine X2.aaload hx (j := (0 : Int32)) (v := (.ref b2)) (by rw [e2]; exact Ara3.1) (State.isArrayOf_alike hZ.alike Ara3.2.1) rfl Ara3.2.2 hin4 hat5 (g := (mkF m 9 #[.val (.ref p0), .val (.int (0 : Int32))] [(.int (0 : Int32)), (.ref b1)])) rfl rfl (hb hby d6_9) _ ?_
    show Steps p.tables e below (T2.setTop (mkF m 10 #[.val (.ref p0), .val (.int (0 : Int32))] [(.ref b2)])) _
    refine XS.iloadN X2.here hx rfl (hb hby d6_10) rfl ?_
    show Steps p.tables e below (T2.setTop (mkF m 11 #[.val (.ref p0), .val (.int (0 : Int32))] [(.int (0 : Int32)), (.ref b2)])) _
    refine X2.ldcInt hx hown (mvT hZ (hw _ (List.mem_of_getElem? (i := 33) rfl))) (g := (mkF m 11 #[.val (.ref p0), .val (.int (0 : Int32))] [(.int (0 : Int32)), (.ref b2)])) rfl (hb hby d6_11) _ ?_
    show Steps p.tables e below (T2.setTop (mkF m 13 #[.val (.ref p0), .val (.int (0 : Int32))] [(.int (65535 : Int32)), (.int (0 : Int32)), (.ref b2)])) _
    refine XS.iand X2.here hx rfl (hb hby d6_13) rfl ?_
    show Steps p.tables e below (T2.setTop (mkF m 14 #[.val (.ref p0), .val (.int (0 : Int32))] [(.int (0 : Int32)), (.ref b2)])) _
    refine X2.laload hx (j := (0 : Int32)) (v := (.long x0)) (by rw [e2]; exact Ara6.1) (State.isArrayOf_alike hZ.alike Ara6.2.1) Ara6.2.2 hin7 hat8 (g := (mkF m 14 #[.val (.ref p0), .val (.int (0 : Int32))] [(.int (0 : Int32)), (.ref b2)])) rfl rfl (hb hby d6_14) _ ?_
    exact Steps.refl _
  obtain ⟨fs, hr, hrun, hended, hW, hsame⟩ := X2.leave (v := some (.long x0)) (fun h => by rw [Bd.returns] at h; cases h)
  refine ⟨_, _, s9.trans ?_, hrun, hended, _, _, rfl, ?_, ⟨_, rfl⟩, hW, hsame.mono (by decide) (by decide)⟩
  · show Steps p.tables e below (T2.setTop (mkF m 15 #[.val (.ref p0), .val (.int (0 : Int32))] [(.long x0)])) _
    jvm_step X2.here [X2.here.top, hx, (hb hby d6_15), X2.method', Bd.returns, narrow]
    first | (intro acts; rw [hr _ acts rfl rfl rfl]) | rw [hr _ _ rfl rfl rfl]
    exact Steps.refl _
  · show Qg0_1 Z p0 b1 b2 k1 k2 x0 x1 x2 x3 x4 x5 x6 x7 h0 n0 _ T2.heap _
    rw [e2]
    exact ⟨rfl, N2, rfl⟩
theorem ef_rmb0_2 (m : MethodId) (p0 : Addr) : entryFrame m #[(.ref p0), (.int (0 : Int32))] 2 = mkF m 0 #[.val (.ref p0), .val (.int (0 : Int32))] [] := by first | (simp [entryFrame, mkF, argsToLocals, Value.category]; done) | rfl
def Qb0_2 (Z : State) (p0 : Addr) (h0 : Heap) (n0 : Nat) (v : Option Value) (h : Heap) (L : List Loc) : Prop := v = some (.int (0 : Int32)) ∧ Fr n0 L ∧ h = h0
set_option maxRecDepth 65536 in
set_option maxHeartbeats 40000000 in
theorem rmb0_2 (l : Launch) (Z : State) (a0 : Array Value) (hw : ∀ d ∈ tables_1, d.before a0 Z = true) (ws : List Jvm.Cond) (p0 : Addr) (h0 : Heap) (n0 : Nat) (O0 : Old Z n0 h0) (F0_ : Fld Z h0 p0 "com/example/strikewire/strikewire/engine/LongList" "mSize" "I" (.int (2 : Int32))) :
    MetFree l (⟨"com/example/strikewire/strikewire/engine/LongList", "block", "(I)I"⟩ : MethodName) (head1 (Jvm.Cond.code (⟨"com/example/strikewire/strikewire/engine/LongList", "block", "(I)I"⟩ : MethodName) prog_19_method_7_code 2 (some .int) :: ws) ({ frames := 0, cells := 0, slots := 0, locals := 0 } : Room)) (fun a U => a = #[(.ref p0), (.int (0 : Int32))] ∧ Z.Warmed39 U.vm ∧ U.heap = h0) (fun _ _ _ _ _ => True) (fun _ U o U' => ∃ v L, o = .returned v ∧ Qb0_2 Z p0 h0 n0 v U'.heap L ∧ FrameEnd U o U' L ({ frames := 0, cells := 0, slots := 0, locals := 0 } : Room).cells ({ frames := 0, cells := 0, slots := 0, locals := 0 } : Room).slots) := by
  refine MetFree.of_bodySF (plainFor_of_name pn_1) hisR ?_
  intro p e s m args below meth c s₁ Bd hml0 hP hK
  obtain ⟨rfl, hZ, hh⟩ := hP
  have hx := Bd.exec
  have hby := Bd.bytes
  have hml : c.maxLocals = 2 := hml0
  have hown : s.vm.findClass "com/example/strikewire/strikewire/engine/LongList" = some m.cls := findClass_of_methodNamed Bd.named
  have hnm := (name_of_methodNamed Bd.named Bd.method).1
  have X0 : Stand p l e ({ frames := 0, cells := 0, slots := 0, locals := 0 } : Room) s m #[(.ref p0), (.int (0 : Int32))] below meth c s₁ [] 0 0 := Stand.of_body Bd
  have e0 : s₁.heap = h0 := by rw [← hh, Bd.state]; rfl
  have N0 := Fr.nil n0
  have s0 : Steps p.tables e below (s₁.setTop (entryFrame m #[(.ref p0), (.int (0 : Int32))] 2)) (s₁.setTop (mkF m 0 #[.val (.ref p0), .val (.int (0 : Int32))] [])) := castTop (ef_rmb0_2 m p0) (Steps.refl _)
  obtain ⟨T1, X1, e1, st1⟩ := getF X0 hx hZ hown (host := "") (Or.inl (hw _ (List.mem_of_getElem? (i := 20) rfl))) Via.refl e0 F0_ (g := (mkF m 6 #[.val (.ref p0), .val (.int (0 : Int32))] [(.ref p0), (.int (0 : Int32))])) rfl rfl (hb hby d7_6)
  have s2 : Steps p.tables e below (s₁.setTop (entryFrame m #[(.ref p0), (.int (0 : Int32))] 2)) (T1.setTop (mkF m 34 #[.val (.ref p0), .val (.int (0 : Int32))] [(.int (0 : Int32))])) := by
    refine s0.trans ?_
    show Steps p.tables e below (s₁.setTop (mkF m 0 #[.val (.ref p0), .val (.int (0 : Int32))] [])) _
    refine XS.iloadN X0.here hx rfl (hb hby d7_0) rfl ?_
    show Steps p.tables e below (s₁.setTop (mkF m 1 #[.val (.ref p0), .val (.int (0 : Int32))] [(.int (0 : Int32))])) _
    refine XS.ifNo X0.here hx rfl (hb hby d7_1) rfl ((if0 _ _).trans (flt (by decide)).1) ?_
    show Steps p.tables e below (s₁.setTop (mkF m 4 #[.val (.ref p0), .val (.int (0 : Int32))] [])) _
    refine XS.iloadN X0.here hx rfl (hb hby d7_4) rfl ?_
    show Steps p.tables e below (s₁.setTop (mkF m 5 #[.val (.ref p0), .val (.int (0 : Int32))] [(.int (0 : Int32))])) _
    refine XS.aloadN X0.here hx rfl (hb hby d7_5) rfl rfl ?_
    show Steps p.tables e below (s₁.setTop (mkF m 6 #[.val (.ref p0), .val (.int (0 : Int32))] [(.ref p0), (.int (0 : Int32))])) _
    refine st1 _ ?_
    show Steps p.tables e below (T1.setTop (mkF m 9 #[.val (.ref p0), .val (.int (0 : Int32))] [(.int (2 : Int32)), (.int (0 : Int32))])) _
    refine XS.icmpYes X1.here hx rfl (pc0 := 9) (pc' := 30) rfl (hb hby d7_9) rfl (tlt (by decide)).1 (by decide) (by decide) ?_
    show Steps p.tables e below (T1.setTop (mkF m 30 #[.val (.ref p0), .val (.int (0 : Int32))] [])) _
    refine XS.iloadN X1.here hx rfl (hb hby d7_30) rfl ?_
    show Steps p.tables e below (T1.setTop (mkF m 31 #[.val (.ref p0), .val (.int (0 : Int32))] [(.int (0 : Int32))])) _
    refine XS.bipush X1.here hx rfl (hb hby d7_31) ?_
    show Steps p.tables e below (T1.setTop (mkF m 33 #[.val (.ref p0), .val (.int (0 : Int32))] [(.int (16 : Int32)), (.int (0 : Int32))])) _
    refine XS.iushr X1.here hx rfl (hb hby d7_33) rfl ?_
    exact Steps.refl _
  obtain ⟨fs, hr, hrun, hended, hW, hsame⟩ := X1.leave (v := some (.int (0 : Int32))) (fun h => by rw [Bd.returns] at h; cases h)
  refine ⟨_, _, s2.trans ?_, hrun, hended, _, _, rfl, ?_, ⟨_, rfl⟩, hW, hsame.mono (by decide) (by decide)⟩
  · show Steps p.tables e below (T1.setTop (mkF m 34 #[.val (.ref p0), .val (.int (0 : Int32))] [(.int (0 : Int32))])) _
    exact retI X1 hx Bd.returns (hb hby d7_34) hr
  · show Qb0_2 Z p0 h0 n0 _ T1.heap _
    rw [e1]
    exact ⟨rfl, N0, rfl⟩
theorem pd_rmg0_2_0 : parseMethodDescriptor "(I)I" = some ⟨[.int], some .int⟩ := by decide +kernel
theorem ef_rmg0_2 (m : MethodId) (p0 : Addr) : entryFrame m #[(.ref p0), (.int (0 : Int32))] 2 = mkF m 0 #[.val (.ref p0), .val (.int (0 : Int32))] [] := by first | (simp [entryFrame, mkF, argsToLocals, Value.category]; done) | rfl
def Qg0_2 (Z : State) (p0 : Addr) (b1 : Addr) (b2 : Addr) (k1 : ClassId) (k2 : ClassId) (x0 : Int64) (x1 : Int64) (x2 : Int64) (x3 : Int64) (x4 : Int64) (x5 : Int64) (x6 : Int64) (x7 : Int64) (h0 : Heap) (n0 : Nat) (v : Option Value) (h : Heap) (L : List Loc) : Prop := v = some (.long x0) ∧ Fr n0 L ∧ h = h0
set_option maxRecDepth 65536 in
set_option maxHeartbeats 40000000 in
theorem rmg0_2 (l : Launch) (Z : State) (a0 : Array Value) (hw : ∀ d ∈ tables_1, d.before a0 Z = true) (ws : List Jvm.Cond) (p0 : Addr) (b1 : Addr) (b2 : Addr) (k1 : ClassId) (k2 : ClassId) (x0 : Int64) (x1 : Int64) (x2 : Int64) (x3 : Int64) (x4 : Int64) (x5 : Int64) (x6 : Int64) (x7 : Int64) (h0 : Heap) (n0 : Nat) (O0 : Old Z n0 h0) (F0_ : Exa Z h0 p0 "com/example/strikewire/strikewire/engine/LongList") (F1_ : Fld Z h0 p0 "com/example/strikewire/strikewire/engine/LongList" "mBlocks" "[[J" (.ref b1)) (F2_ : Arv Z h0 b1 k1 (.array .long) (1 : Int32) [(.ref b2)] .null) (F3_ : Fld Z h0 p0 "com/example/strikewire/strikewire/engine/LongList" "mSize" "I" (.int (2 : Int32))) (F4_ : Arv Z h0 b2 k2 .long (8 : Int32) [(.long x0), (.long x1), (.long x2), (.long x3), (.long x4), (.long x5), (.long x6), (.long x7)] (.long (0 : Int64))) :
    MetFree l (⟨"com/example/strikewire/strikewire/engine/LongList", "get", "(I)J"⟩ : MethodName) (head1 (Jvm.Cond.code (⟨"com/example/strikewire/strikewire/engine/LongList", "get", "(I)J"⟩ : MethodName) prog_19_method_4_code 2 (some .long) :: ws) ({ frames := 1, cells := 0, slots := 0, locals := 14 } : Room)) (fun a U => a = #[(.ref p0), (.int (0 : Int32))] ∧ Z.Warmed39 U.vm ∧ U.heap = h0) (fun _ _ _ _ _ => True) (fun _ U o U' => ∃ v L, o = .returned v ∧ Qg0_2 Z p0 b1 b2 k1 k2 x0 x1 x2 x3 x4 x5 x6 x7 h0 n0 v U'.heap L ∧ FrameEnd U o U' L ({ frames := 1, cells := 0, slots := 0, locals := 14 } : Room).cells ({ frames := 1, cells := 0, slots := 0, locals := 14 } : Room).slots) := by
  refine MetFree.of_bodySF (plainFor_of_name pn_1) hisR ?_
  intro p e s m args below meth c s₁ Bd hml0 hP hK
  obtain ⟨rfl, hZ, hh⟩ := hP
  have hx := Bd.exec
  have hby := Bd.bytes
  have hml : c.maxLocals = 2 := hml0
  have hown : s.vm.findClass "com/example/strikewire/strikewire/engine/LongList" = some m.cls := findClass_of_methodNamed Bd.named
  have hnm := (name_of_methodNamed Bd.named Bd.method).1
  have X0 : Stand p l e ({ frames := 1, cells := 0, slots := 0, locals := 14 } : Room) s m #[(.ref p0), (.int (0 : Int32))] below meth c s₁ [] 0 0 := Stand.of_body Bd
  have e0 : s₁.heap = h0 := by rw [← hh, Bd.state]; rfl
  have N0 := Fr.nil n0
  have s0 : Steps p.tables e below (s₁.setTop (entryFrame m #[(.ref p0), (.int (0 : Int32))] 2)) (s₁.setTop (mkF m 0 #[.val (.ref p0), .val (.int (0 : Int32))] [])) := castTop (ef_rmg0_2 m p0) (Steps.refl _)
  obtain ⟨T1, X1, e1, st1⟩ := getF X0 hx hZ hown (host := "") (Or.inl (hw _ (List.mem_of_getElem? (i := 13) rfl))) Via.refl e0 F1_ (g := (mkF m 1 #[.val (.ref p0), .val (.int (0 : Int32))] [(.ref p0)])) rfl rfl (hb hby d6_1)
  obtain ⟨cq2, q2, q2'⟩ := F0_.cell
  obtain ⟨_, _, ⟨T2, L2, k2, n2⟩, -, X2, ⟨Lc2, hQ2, l2, y2, z2⟩, st2⟩ := X1.privateBack hx (y := (⟨"com/example/strikewire/strikewire/engine/LongList", "block", "(I)I"⟩ : MethodName)) hown (mvT hZ (hw _ (List.mem_of_getElem? (i := 39) rfl))) (mvT hZ (hw _ (List.mem_of_getElem? (i := 40) rfl))) (own_selP (z := (⟨"com/example/strikewire/strikewire/engine/LongList", "clear", "()V"⟩ : MethodName)) (mvT hZ (hw _ (List.mem_of_getElem? (i := 18) rfl))) rfl (Cond.privateMethod_at (mvP hZ (hw _ (List.mem_of_getElem? (i := 41) rfl)) (args := #[]))) (mvT hZ (hw _ (List.mem_of_getElem? (i := 40) rfl))) (by decide)) (Cond.privateMethod_at (mvP hZ (hw _ (List.mem_of_getElem? (i := 41) rfl)) (args := #[]))) (mvT hZ (hw _ (List.mem_of_getElem? (i := 42) rfl))) (by decide) (backOf (W := 1) (rmb0_2 l Z a0 hw [] p0 h0 n0 O0 F3_) hZ (hw _ (List.mem_of_getElem? (i := 42) rfl)) (hw _ (List.mem_of_getElem? (i := 3) rfl)) (by decide) (by decide)) (g := (mkF m 6 #[.val (.ref p0), .val (.int (0 : Int32))] [(.int (0 : Int32)), (.ref p0), (.ref b1)])) rfl (by rw [hml]; rfl) (Steps.refl _) (a := p0) (by rw [e1]; exact q2) q2' (argsL := [(.int (0 : Int32))]) (rest := [(.ref b1)]) (lenOf pd_rmg0_2_0 rfl) rfl (by show 2 * 0 + _ ≤ _; exact Nat.le_of_eq rfl) (hb hby d6_6) (fun _ _ => ⟨rfl, e1, (by decide : 0 + 0 ≤ _), (by decide : 0 + 0 ≤ _)⟩)
  dsimp only [Pt.U, Pt.locs, Pt.cells, Pt.slots] at X2 l2 y2 z2 st2 hQ2
  subst l2 y2 z2
  obtain ⟨rfl, Nq2, e2⟩ := hQ2
  have N2 := Fr.app N0 Nq2
  obtain ⟨cla3, Ara3, qa3, Sa3, Za3, Ha3, Ga3⟩ := id F2_
  have hin4 : ¬ ((0 : Int32) < 0 ∨ cla3.slots.size ≤ ((0 : Int32)).toNatClampNeg) := inb_of Sa3 ⟨by decide, by decide⟩
  have hat5 : cla3.slots[((0 : Int32)).toNatClampNeg]? = some (.ref b2) := Has.at Ha3 hin4 rfl
  obtain ⟨cla6, Ara6, qa6, Sa6, Za6, Ha6, Ga6⟩ := id F4_
  have hin7 : ¬ ((0 : Int32) < 0 ∨ cla6.slots.size ≤ ((0 : Int32)).toNatClampNeg) := inb_of Sa6 ⟨by decide, by decide⟩
  have hat8 : cla6.slots[((0 : Int32)).toNatClampNeg]? = some (.long x0) := Has.at Ha6 hin7 rfl
  have s9 : Steps p.tables e below (s₁.setTop (entryFrame m #[(.ref p0), (.int (0 : Int32))] 2)) (T2.setTop (mkF m 15 #[.val (.ref p0), .val (.int (0 : Int32))] [(.long x0)])) := by
    refine s0.trans ?_
    show Steps p.tables e below (s₁.setTop (mkF m 0 #[.val (.ref p0), .val (.int (0 : Int32))] [])) _
    refine XS.aloadN X0.here hx rfl (hb hby d6_0) rfl rfl ?_
    show Steps p.tables e below (s₁.setTop (mkF m 1 #[.val (.ref p0), .val (.int (0 : Int32))] [(.ref p0)])) _
    refine st1 _ ?_
    show Steps p.tables e below (T1.setTop (mkF m 4 #[.val (.ref p0), .val (.int (0 : Int32))] [(.ref b1)])) _
    refine XS.aloadN X1.here hx rfl (hb hby d6_4) rfl rfl ?_
    show Steps p.tables e below (T1.setTop (mkF m 5 #[.val (.ref p0), .val (.int (0 : Int32))] [(.ref p0), (.ref b1)])) _
    refine XS.iloadN X1.here hx rfl (hb hby d6_5) rfl ?_
    show Steps p.tables e below (T1.setTop (mkF m 6 #[.val (.ref p0), .val (.int (0 : Int32))] [(.int (0 : Int32)), (.ref p0), (.ref b1)])) _
    refine st2.trans ?_
    show Steps p.tables e below (T2.setTop (mkF m 9 #[.val (.ref p0), .val (.int (0 : Int32))] [(.int (0 : Int32)), (.ref b1)])) _
    refine X2.aaload hx (j := (0 : Int32)) (v := (.ref b2)) (by rw [e2]; exact Ara3.1) (State.isArrayOf_alike hZ.alike Ara3.2.1) rfl Ara3.2.2 hin4 hat5 (g := (mkF m 9 #[.val (.ref p0), .val (.int (0 : Int32))] [(.int (0 : Int32)), (.ref b1)])) rfl rfl (hb hby d6_9) _ ?_
    show Steps p.tables e below (T2.setTop (mkF m 10 #[.val (.ref p0), .val (.int (0 : Int32))] [(.ref b2)])) _
    refine XS.iloadN X2.here hx rfl (hb hby d6_10) rfl ?_
    show Steps p.tables e below (T2.setTop (mkF m 11 #[.val (.ref p0), .val (.int (0 : Int32))] [(.int (0 : Int32)), (.ref b2)])) _
    refine X2.ldcInt hx hown (mvT hZ (hw _ (List.mem_of_getElem? (i := 33) rfl))) (g := (mkF m 11 #[.val (.ref p0), .val (.int (0 : Int32))] [(.int (0 : Int32)), (.ref b2)])) rfl (hb hby d6_11) _ ?_
    show Steps p.tables e below (T2.setTop (mkF m 13 #[.val (.ref p0), .val (.int (0 : Int32))] [(.int (65535 : Int32)), (.int (0 : Int32)), (.ref b2)])) _
    refine XS.iand X2.here hx rfl (hb hby d6_13) rfl ?_
    show Steps p.tables e below (T2.setTop (mkF m 14 #[.val (.ref p0), .val (.int (0 : Int32))] [(.int (0 : Int32)), (.ref b2)])) _
    refine X2.laload hx (j := (0 : Int32)) (v := (.long x0)) (by rw [e2]; exact Ara6.1) (State.isArrayOf_alike hZ.alike Ara6.2.1) Ara6.2.2 hin7 hat8 (g := (mkF m 14 #[.val (.ref p0), .val (.int (0 : Int32))] [(.int (0 : Int32)), (.ref b2)])) rfl rfl (hb hby d6_14) _ ?_
    exact Steps.refl _
  obtain ⟨fs, hr, hrun, hended, hW, hsame⟩ := X2.leave (v := some (.long x0)) (fun h => by rw [Bd.returns] at h; cases h)
  refine ⟨_, _, s9.trans ?_, hrun, hended, _, _, rfl, ?_, ⟨_, rfl⟩, hW, hsame.mono (by decide) (by decide)⟩
  · show Steps p.tables e below (T2.setTop (mkF m 15 #[.val (.ref p0), .val (.int (0 : Int32))] [(.long x0)])) _
    jvm_step X2.here [X2.here.top, hx, (hb hby d6_15), X2.method', Bd.returns, narrow]
    first | (intro acts; rw [hr _ acts rfl rfl rfl]) | rw [hr _ _ rfl rfl rfl]
    exact Steps.refl _
  · show Qg0_2 Z p0 b1 b2 k1 k2 x0 x1 x2 x3 x4 x5 x6 x7 h0 n0 _ T2.heap _
    rw [e2]
    exact ⟨rfl, N2, rfl⟩
theorem ef_rmb1_2 (m : MethodId) (p0 : Addr) : entryFrame m #[(.ref p0), (.int (1 : Int32))] 2 = mkF m 0 #[.val (.ref p0), .val (.int (1 : Int32))] [] := by first | (simp [entryFrame, mkF, argsToLocals, Value.category]; done) | rfl
def Qb1_2 (Z : State) (p0 : Addr) (h0 : Heap) (n0 : Nat) (v : Option Value) (h : Heap) (L : List Loc) : Prop := v = some (.int (0 : Int32)) ∧ Fr n0 L ∧ h = h0
set_option maxRecDepth 65536 in
set_option maxHeartbeats 40000000 in
theorem rmb1_2 (l : Launch) (Z : State) (a0 : Array Value) (hw : ∀ d ∈ tables_1, d.before a0 Z = true) (ws : List Jvm.Cond) (p0 : Addr) (h0 : Heap) (n0 : Nat) (O0 : Old Z n0 h0) (F0_ : Fld Z h0 p0 "com/example/strikewire/strikewire/engine/LongList" "mSize" "I" (.int (2 : Int32))) :
    MetFree l (⟨"com/example/strikewire/strikewire/engine/LongList", "block", "(I)I"⟩ : MethodName) (head1 (Jvm.Cond.code (⟨"com/example/strikewire/strikewire/engine/LongList", "block", "(I)I"⟩ : MethodName) prog_19_method_7_code 2 (some .int) :: ws) ({ frames := 0, cells := 0, slots := 0, locals := 0 } : Room)) (fun a U => a = #[(.ref p0), (.int (1 : Int32))] ∧ Z.Warmed39 U.vm ∧ U.heap = h0) (fun _ _ _ _ _ => True) (fun _ U o U' => ∃ v L, o = .returned v ∧ Qb1_2 Z p0 h0 n0 v U'.heap L ∧ FrameEnd U o U' L ({ frames := 0, cells := 0, slots := 0, locals := 0 } : Room).cells ({ frames := 0, cells := 0, slots := 0, locals := 0 } : Room).slots) := by
  refine MetFree.of_bodySF (plainFor_of_name pn_1) hisR ?_
  intro p e s m args below meth c s₁ Bd hml0 hP hK
  obtain ⟨rfl, hZ, hh⟩ := hP
  have hx := Bd.exec
  have hby := Bd.bytes
  have hml : c.maxLocals = 2 := hml0
  have hown : s.vm.findClass "com/example/strikewire/strikewire/engine/LongList" = some m.cls := findClass_of_methodNamed Bd.named
  have hnm := (name_of_methodNamed Bd.named Bd.method).1
  have X0 : Stand p l e ({ frames := 0, cells := 0, slots := 0, locals := 0 } : Room) s m #[(.ref p0), (.int (1 : Int32))] below meth c s₁ [] 0 0 := Stand.of_body Bd
  have e0 : s₁.heap = h0 := by rw [← hh, Bd.state]; rfl
  have N0 := Fr.nil n0
  have s0 : Steps p.tables e below (s₁.setTop (entryFrame m #[(.ref p0), (.int (1 : Int32))] 2)) (s₁.setTop (mkF m 0 #[.val (.ref p0), .val (.int (1 : Int32))] [])) := castTop (ef_rmb1_2 m p0) (Steps.refl _)
  obtain ⟨T1, X1, e1, st1⟩ := getF X0 hx hZ hown (host := "") (Or.inl (hw _ (List.mem_of_getElem? (i := 20) rfl))) Via.refl e0 F0_ (g := (mkF m 6 #[.val (.ref p0), .val (.int (1 : Int32))] [(.ref p0), (.int (1 : Int32))])) rfl rfl (hb hby d7_6)
  have s2 : Steps p.tables e below (s₁.setTop (entryFrame m #[(.ref p0), (.int (1 : Int32))] 2)) (T1.setTop (mkF m 34 #[.val (.ref p0), .val (.int (1 : Int32))] [(.int (0 : Int32))])) := by
    refine s0.trans ?_
    show Steps p.tables e below (s₁.setTop (mkF m 0 #[.val (.ref p0), .val (.int (1 : Int32))] [])) _
    refine XS.iloadN X0.here hx rfl (hb hby d7_0) rfl ?_
    show Steps p.tables e below (s₁.setTop (mkF m 1 #[.val (.ref p0), .val (.int (1 : Int32))] [(.int (1 : Int32))])) _
    refine XS.ifNo X0.here hx rfl (hb hby d7_1) rfl ((if0 _ _).trans (flt (by decide)).1) ?_
    show Steps p.tables e below (s₁.setTop (mkF m 4 #[.val (.ref p0), .val (.int (1 : Int32))] [])) _
    refine XS.iloadN X0.here hx rfl (hb hby d7_4) rfl ?_
    show Steps p.tables e below (s₁.setTop (mkF m 5 #[.val (.ref p0), .val (.int (1 : Int32))] [(.int (1 : Int32))])) _
    refine XS.aloadN X0.here hx rfl (hb hby d7_5) rfl rfl ?_
    show Steps p.tables e below (s₁.setTop (mkF m 6 #[.val (.ref p0), .val (.int (1 : Int32))] [(.ref p0), (.int (1 : Int32))])) _
    refine st1 _ ?_
    show Steps p.tables e below (T1.setTop (mkF m 9 #[.val (.ref p0), .val (.int (1 : Int32))] [(.int (2 : Int32)), (.int (1 : Int32))])) _
    refine XS.icmpYes X1.here hx rfl (pc0 := 9) (pc' := 30) rfl (hb hby d7_9) rfl (tlt (by decide)).1 (by decide) (by decide) ?_
    show Steps p.tables e below (T1.setTop (mkF m 30 #[.val (.ref p0), .val (.int (1 : Int32))] [])) _
    refine XS.iloadN X1.here hx rfl (hb hby d7_30) rfl ?_
    show Steps p.tables e below (T1.setTop (mkF m 31 #[.val (.ref p0), .val (.int (1 : Int32))] [(.int (1 : Int32))])) _
    refine XS.bipush X1.here hx rfl (hb hby d7_31) ?_
    show Steps p.tables e below (T1.setTop (mkF m 33 #[.val (.ref p0), .val (.int (1 : Int32))] [(.int (16 : Int32)), (.int (1 : Int32))])) _
    refine XS.iushr X1.here hx rfl (hb hby d7_33) rfl ?_
    exact Steps.refl _
  obtain ⟨fs, hr, hrun, hended, hW, hsame⟩ := X1.leave (v := some (.int (0 : Int32))) (fun h => by rw [Bd.returns] at h; cases h)
  refine ⟨_, _, s2.trans ?_, hrun, hended, _, _, rfl, ?_, ⟨_, rfl⟩, hW, hsame.mono (by decide) (by decide)⟩
  · show Steps p.tables e below (T1.setTop (mkF m 34 #[.val (.ref p0), .val (.int (1 : Int32))] [(.int (0 : Int32))])) _
    exact retI X1 hx Bd.returns (hb hby d7_34) hr
  · show Qb1_2 Z p0 h0 n0 _ T1.heap _
    rw [e1]
    exact ⟨rfl, N0, rfl⟩
theorem pd_rmg1_2_0 : parseMethodDescriptor "(I)I" = some ⟨[.int], some .int⟩ := by decide +kernel
theorem ef_rmg1_2 (m : MethodId) (p0 : Addr) : entryFrame m #[(.ref p0), (.int (1 : Int32))] 2 = mkF m 0 #[.val (.ref p0), .val (.int (1 : Int32))] [] := by first | (simp [entryFrame, mkF, argsToLocals, Value.category]; done) | rfl
def Qg1_2 (Z : State) (p0 : Addr) (b1 : Addr) (b2 : Addr) (k1 : ClassId) (k2 : ClassId) (x0 : Int64) (x1 : Int64) (x2 : Int64) (x3 : Int64) (x4 : Int64) (x5 : Int64) (x6 : Int64) (x7 : Int64) (h0 : Heap) (n0 : Nat) (v : Option Value) (h : Heap) (L : List Loc) : Prop := v = some (.long x1) ∧ Fr n0 L ∧ h = h0
set_option maxRecDepth 65536 in
set_option maxHeartbeats 40000000 in
theorem rmg1_2 (l : Launch) (Z : State) (a0 : Array Value) (hw : ∀ d ∈ tables_1, d.before a0 Z = true) (ws : List Jvm.Cond) (p0 : Addr) (b1 : Addr) (b2 : Addr) (k1 : ClassId) (k2 : ClassId) (x0 : Int64) (x1 : Int64) (x2 : Int64) (x3 : Int64) (x4 : Int64) (x5 : Int64) (x6 : Int64) (x7 : Int64) (h0 : Heap) (n0 : Nat) (O0 : Old Z n0 h0) (F0_ : Exa Z h0 p0 "com/example/strikewire/strikewire/engine/LongList") (F1_ : Fld Z h0 p0 "com/example/strikewire/strikewire/engine/LongList" "mBlocks" "[[J" (.ref b1)) (F2_ : Arv Z h0 b1 k1 (.array .long) (1 : Int32) [(.ref b2)] .null) (F3_ : Fld Z h0 p0 "com/example/strikewire/strikewire/engine/LongList" "mSize" "I" (.int (2 : Int32))) (F4_ : Arv Z h0 b2 k2 .long (8 : Int32) [(.long x0), (.long x1), (.long x2), (.long x3), (.long x4), (.long x5), (.long x6), (.long x7)] (.long (0 : Int64))) :
    MetFree l (⟨"com/example/strikewire/strikewire/engine/LongList", "get", "(I)J"⟩ : MethodName) (head1 (Jvm.Cond.code (⟨"com/example/strikewire/strikewire/engine/LongList", "get", "(I)J"⟩ : MethodName) prog_19_method_4_code 2 (some .long) :: ws) ({ frames := 1, cells := 0, slots := 0, locals := 14 } : Room)) (fun a U => a = #[(.ref p0), (.int (1 : Int32))] ∧ Z.Warmed39 U.vm ∧ U.heap = h0) (fun _ _ _ _ _ => True) (fun _ U o U' => ∃ v L, o = .returned v ∧ Qg1_2 Z p0 b1 b2 k1 k2 x0 x1 x2 x3 x4 x5 x6 x7 h0 n0 v U'.heap L ∧ FrameEnd U o U' L ({ frames := 1, cells := 0, slots := 0, locals := 14 } : Room).cells ({ frames := 1, cells := 0, slots := 0, locals := 14 } : Room).slots) := by
  refine MetFree.of_bodySF (plainFor_of_name pn_1) hisR ?_
  intro p e s m args below meth c s₁ Bd hml0 hP hK
  obtain ⟨rfl, hZ, hh⟩ := hP
  have hx := Bd.exec
  have hby := Bd.bytes
  have hml : c.maxLocals = 2 := hml0
  have hown : s.vm.findClass "com/example/strikewire/strikewire/engine/LongList" = some m.cls := findClass_of_methodNamed Bd.named
  have hnm := (name_of_methodNamed Bd.named Bd.method).1
  have X0 : Stand p l e ({ frames := 1, cells := 0, slots := 0, locals := 14 } : Room) s m #[(.ref p0), (.int (1 : Int32))] below meth c s₁ [] 0 0 := Stand.of_body Bd
  have e0 : s₁.heap = h0 := by rw [← hh, Bd.state]; rfl
  have N0 := Fr.nil n0
  have s0 : Steps p.tables e below (s₁.setTop (entryFrame m #[(.ref p0), (.int (1 : Int32))] 2)) (s₁.setTop (mkF m 0 #[.val (.ref p0), .val (.int (1 : Int32))] [])) := castTop (ef_rmg1_2 m p0) (Steps.refl _)
  obtain ⟨T1, X1, e1, st1⟩ := getF X0 hx hZ hown (host := "") (Or.inl (hw _ (List.mem_of_getElem? (i := 13) rfl))) Via.refl e0 F1_ (g := (mkF m 1 #[.val (.ref p0), .val (.int (1 : Int32))] [(.ref p0)])) rfl rfl (hb hby d6_1)
  obtain ⟨cq2, q2, q2'⟩ := F0_.cell
  obtain ⟨_, _, ⟨T2, L2, k2, n2⟩, -, X2, ⟨Lc2, hQ2, l2, y2, z2⟩, st2⟩ := X1.privateBack hx (y := (⟨"com/example/strikewire/strikewire/engine/LongList", "block", "(I)I"⟩ : MethodName)) hown (mvT hZ (hw _ (List.mem_of_getElem? (i := 39) rfl))) (mvT hZ (hw _ (List.mem_of_getElem? (i := 40) rfl))) (own_selP (z := (⟨"com/example/strikewire/strikewire/engine/LongList", "clear", "()V"⟩ : MethodName)) (mvT hZ (hw _ (List.mem_of_getElem? (i := 18) rfl))) rfl (Cond.privateMethod_at (mvP hZ (hw _ (List.mem_of_getElem? (i := 41) rfl)) (args := #[]))) (mvT hZ (hw _ (List.mem_of_getElem? (i := 40) rfl))) (by decide)) (Cond.privateMethod_at (mvP hZ (hw _ (List.mem_of_getElem? (i := 41) rfl)) (args := #[]))) (mvT hZ (hw _ (List.mem_of_getElem? (i := 42) rfl))) (by decide) (backOf (W := 1) (rmb1_2 l Z a0 hw [] p0 h0 n0 O0 F3_) hZ (hw _ (List.mem_of_getElem? (i := 42) rfl)) (hw _ (List.mem_of_getElem? (i := 3) rfl)) (by decide) (by decide)) (g := (mkF m 6 #[.val (.ref p0), .val (.int (1 : Int32))] [(.int (1 : Int32)), (.ref p0), (.ref b1)])) rfl (by rw [hml]; rfl) (Steps.refl _) (a := p0) (by rw [e1]; exact q2) q2' (argsL := [(.int (1 : Int32))]) (rest := [(.ref b1)]) (lenOf pd_rmg1_2_0 rfl) rfl (by show 2 * 0 + _ ≤ _; exact Nat.le_of_eq rfl) (hb hby d6_6) (fun _ _ => ⟨rfl, e1, (by decide : 0 + 0 ≤ _), (by decide : 0 + 0 ≤ _)⟩)
  dsimp only [Pt.U, Pt.locs, Pt.cells, Pt.slots] at X2 l2 y2 z2 st2 hQ2
  subst l2 y2 z2
  obtain ⟨rfl, Nq2, e2⟩ := hQ2
  have N2 := Fr.app N0 Nq2
  obtain ⟨cla3, Ara3, qa3, Sa3, Za3, Ha3, Ga3⟩ := id F2_
  have hin4 : ¬ ((0 : Int32) < 0 ∨ cla3.slots.size ≤ ((0 : Int32)).toNatClampNeg) := inb_of Sa3 ⟨by decide, by decide⟩
  have hat5 : cla3.slots[((0 : Int32)).toNatClampNeg]? = some (.ref b2) := Has.at Ha3 hin4 rfl
  obtain ⟨cla6, Ara6, qa6, Sa6, Za6, Ha6, Ga6⟩ := id F4_
  have hin7 : ¬ ((1 : Int32) < 0 ∨ cla6.slots.size ≤ ((1 : Int32)).toNatClampNeg) := inb_of Sa6 ⟨by decide, by decide⟩
  have hat8 : cla6.slots[((1 : Int32)).toNatClampNeg]? = some (.long x1) := Has.at Ha6 hin7 rfl
  have s9 : Steps p.tables e below (s₁.setTop (entryFrame m #[(.ref p0), (.int (1 : Int32))] 2)) (T2.setTop (mkF m 15 #[.val (.ref p0), .val (.int (1 : Int32))] [(.long x1)])) := by
    refine s0.trans ?_
    show Steps p.tables e below (s₁.setTop (mkF m 0 #[.val (.ref p0), .val (.int (1 : Int32))] [])) _
    refine XS.aloadN X0.here hx rfl (hb hby d6_0) rfl rfl ?_
    show Steps p.tables e below (s₁.setTop (mkF m 1 #[.val (.ref p0), .val (.int (1 : Int32))] [(.ref p0)])) _
    refine st1 _ ?_
    show Steps p.tables e below (T1.setTop (mkF m 4 #[.val (.ref p0), .val (.int (1 : Int32))] [(.ref b1)])) _
    refine XS.aloadN X1.here hx rfl (hb hby d6_4) rfl rfl ?_
    show Steps p.tables e below (T1.setTop (mkF m 5 #[.val (.ref p0), .val (.int (1 : Int32))] [(.ref p0), (.ref b1)])) _
    refine XS.iloadN X1.here hx rfl (hb hby d6_5) rfl ?_
    show Steps p.tables e below (T1.setTop (mkF m 6 #[.val (.ref p0), .val (.int (1 : Int32))] [(.int (1 : Int32)), (.ref p0), (.ref b1)])) _
    refine st2.trans ?_
    show Steps p.tables e below (T2.setTop (mkF m 9 #[.val (.ref p0), .val (.int (1 : Int32))] [(.int (0 : Int32)), (.ref b1)])) _
    refine X2.aaload hx (j := (0 : Int32)) (v := (.ref b2)) (by rw [e2]; exact Ara3.1) (State.isArrayOf_alike hZ.alike Ara3.2.1) rfl Ara3.2.2 hin4 hat5 (g := (mkF m 9 #[.val (.ref p0), .val (.int (1 : Int32))] [(.int (0 : Int32)), (.ref b1)])) rfl rfl (hb hby d6_9) _ ?_
    show Steps p.tables e below (T2.setTop (mkF m 10 #[.val (.ref p0), .val (.int (1 : Int32))] [(.ref b2)])) _
    refine XS.iloadN X2.here hx rfl (hb hby d6_10) rfl ?_
    show Steps p.tables e below (T2.setTop (mkF m 11 #[.val (.ref p0), .val (.int (1 : Int32))] [(.int (1 : Int32)), (.ref b2)])) _
    refine X2.ldcInt hx hown (mvT hZ (hw _ (List.mem_of_getElem? (i := 33) rfl))) (g := (mkF m 11 #[.val (.ref p0), .val (.int (1 : Int32))] [(.int (1 : Int32)), (.ref b2)])) rfl (hb hby d6_11) _ ?_
    show Steps p.tables e below (T2.setTop (mkF m 13 #[.val (.ref p0), .val (.int (1 : Int32))] [(.int (65535 : Int32)), (.int (1 : Int32)), (.ref b2)])) _
    refine XS.iand X2.here hx rfl (hb hby d6_13) rfl ?_
    show Steps p.tables e below (T2.setTop (mkF m 14 #[.val (.ref p0), .val (.int (1 : Int32))] [(.int (1 : Int32)), (.ref b2)])) _
    refine X2.laload hx (j := (1 : Int32)) (v := (.long x1)) (by rw [e2]; exact Ara6.1) (State.isArrayOf_alike hZ.alike Ara6.2.1) Ara6.2.2 hin7 hat8 (g := (mkF m 14 #[.val (.ref p0), .val (.int (1 : Int32))] [(.int (1 : Int32)), (.ref b2)])) rfl rfl (hb hby d6_14) _ ?_
    exact Steps.refl _
  obtain ⟨fs, hr, hrun, hended, hW, hsame⟩ := X2.leave (v := some (.long x1)) (fun h => by rw [Bd.returns] at h; cases h)
  refine ⟨_, _, s9.trans ?_, hrun, hended, _, _, rfl, ?_, ⟨_, rfl⟩, hW, hsame.mono (by decide) (by decide)⟩
  · show Steps p.tables e below (T2.setTop (mkF m 15 #[.val (.ref p0), .val (.int (1 : Int32))] [(.long x1)])) _
    jvm_step X2.here [X2.here.top, hx, (hb hby d6_15), X2.method', Bd.returns, narrow]
    first | (intro acts; rw [hr _ acts rfl rfl rfl]) | rw [hr _ _ rfl rfl rfl]
    exact Steps.refl _
  · show Qg1_2 Z p0 b1 b2 k1 k2 x0 x1 x2 x3 x4 x5 x6 x7 h0 n0 _ T2.heap _
    rw [e2]
    exact ⟨rfl, N2, rfl⟩
theorem pn_0 : plainName "com/example/strikewire/strikewire/engine/LongListClearPinLaw" = true := by first | (simp [plainName, overriddenIn]; done) | decide +kernel
theorem pd_rm0_0 : parseMethodDescriptor "()V" = some ⟨[], none⟩ := by decide +kernel
theorem pd_rm0_1 : parseMethodDescriptor "()I" = some ⟨[], some .int⟩ := by decide +kernel
theorem pd_rm0_2 : parseMethodDescriptor "(J)V" = some ⟨[.long], none⟩ := by decide +kernel
theorem pd_rm0_3 : parseMethodDescriptor "(I)J" = some ⟨[.int], some .long⟩ := by decide +kernel
theorem ef_rm0 (m : MethodId) (p0 : Int32) (p1 : Int64) (p2 : Int64) (p3 : Int64) (p4 : Int64) (p5 : Int64) : entryFrame m #[(.int p0), (.long p1), (.long p2), (.long p3), (.long p4), (.long p5)] maxLocals = mkF m 0 #[.val (.int p0), .val (.long p1), .second, .val (.long p2), .second, .val (.long p3), .second, .val (.long p4), .second, .val (.long p5), .second, .unset, .unset, .unset, .unset] [] := by first | (simp [entryFrame, mkF, argsToLocals, Value.category, maxLocals]; done) | rfl
def Q0 (Z : State) (p0 : Int32) (p1 : Int64) (p2 : Int64) (p3 : Int64) (p4 : Int64) (p5 : Int64) (h0 : Heap) (n0 : Nat) (v : Option Value) (h : Heap) (L : List Loc) : Prop := v = some (.int (1 : Int32)) ∧ Fr n0 L
set_option maxRecDepth 65536 in
set_option maxHeartbeats 40000000 in
theorem rm0 (l : Launch) (Z : State) (a0 : Array Value) (hw : ∀ d ∈ tables_1, d.before a0 Z = true) (ws : List Jvm.Cond) (p0 : Int32) (p1 : Int64) (p2 : Int64) (p3 : Int64) (p4 : Int64) (p5 : Int64) (h0 : Heap) (n0 : Nat) (O0 : Old Z n0 h0) :
    MetFree l x (head1 (Jvm.Cond.code x code maxLocals ret :: ws) room_1) (fun a U => a = #[(.int p0), (.long p1), (.long p2), (.long p3), (.long p4), (.long p5)] ∧ Z.Warmed39 U.vm ∧ U.heap = h0) (fun _ _ _ _ _ => True) (fun _ U o U' => ∃ v L, o = .returned v ∧ Q0 Z p0 p1 p2 p3 p4 p5 h0 n0 v U'.heap L ∧ FrameEnd U o U' L room_1.cells room_1.slots) := by
  refine MetFree.of_bodySF (plainFor_of_name pn_0) hisR ?_
  intro p e s m args below meth c s₁ Bd hml0 hP hK
  obtain ⟨rfl, hZ, hh⟩ := hP
  have hx := Bd.exec
  have hby := Bd.bytes
  have hml : c.maxLocals = 15 := hml0
  have hown : s.vm.findClass "com/example/strikewire/strikewire/engine/LongListClearPinLaw" = some m.cls := findClass_of_methodNamed Bd.named
  have hnm := (name_of_methodNamed Bd.named Bd.method).1
  have X0 : Stand p l e room_1 s m #[(.int p0), (.long p1), (.long p2), (.long p3), (.long p4), (.long p5)] below meth c s₁ [] 0 0 := Stand.of_body Bd
  have e0 : s₁.heap = h0 := by rw [← hh, Bd.state]; rfl
  have N0 := Fr.nil n0
  have s0 : Steps p.tables e below (s₁.setTop (entryFrame m #[(.int p0), (.long p1), (.long p2), (.long p3), (.long p4), (.long p5)] maxLocals)) (s₁.setTop (mkF m 0 #[.val (.int p0), .val (.long p1), .second, .val (.long p2), .second, .val (.long p3), .second, .val (.long p4), .second, .val (.long p5), .second, .unset, .unset, .unset, .unset] [])) := castTop (ef_rm0 m p0 p1 p2 p3 p4 p5) (Steps.refl _)
  obtain ⟨T1, h1, X1, e1, E1, A1, D1, -, st1⟩ := newO X0 hx hZ hown (hw _ (List.mem_of_getElem? (i := 1) rfl)) (hw _ (List.mem_of_getElem? (i := 2) rfl)) (hw _ (List.mem_of_getElem? (i := 3) rfl)) e0 (g := (mkF m 15 #[.val (.int p0), .val (.long p1), .second, .val (.long p2), .second, .val (.long p3), .second, .val (.long p4), .second, .val (.long p5), .second, .val (.int (p0 &&& (3 : Int32))), .val (.int ((((p0.toUInt32 >>> ((2 : Int32) &&& 31).toUInt32).toInt32) &&& (2147483647 : Int32)) % (3 : Int32))), .unset, .unset] [])) rfl (hb hby at_15) (by decide) (by decide)
  obtain ⟨b1, g1⟩ : ∃ z, z = h0.size := ⟨_, rfl⟩
  rw [← g1] at A1 D1 st1
  have g_b1 : n0 ≤ b1 := Nat.le_trans (Nat.le_of_eq O0.1.symm) (Nat.le_trans O0.2.1 (Nat.le_of_eq g1.symm))
  have O1 := O0.ext E1
  have F1_mBlocks : Fld Z h1 b1 "com/example/strikewire/strikewire/engine/LongList" "mBlocks" "[[J" .null := D1 (Or.inl (hw _ (List.mem_of_getElem? (i := 14) rfl))) (ty := (.array (.array .long))) (by decide)
  have F1_mSize : Fld Z h1 b1 "com/example/strikewire/strikewire/engine/LongList" "mSize" "I" (.int (0 : Int32)) := D1 (Or.inl (hw _ (List.mem_of_getElem? (i := 21) rfl))) (ty := .int) (by decide)
  obtain ⟨_, _, ⟨T2, L2, k2, n2⟩, -, X2, ⟨Lc2, hQ2, l2, y2, z2⟩, st2⟩ := X1.specialBack hx (y := (⟨"com/example/strikewire/strikewire/engine/LongList", "<init>", "()V"⟩ : MethodName)) rfl hown (mvT hZ (hw _ (List.mem_of_getElem? (i := 4) rfl))) (mvT hZ (hw _ (List.mem_of_getElem? (i := 5) rfl))) (mvT hZ (hw _ (List.mem_of_getElem? (i := 6) rfl))) (by decide) (backOf (W := 1) (rm1 l Z a0 hw [] b1 h1 n0 O1 A1 F1_mBlocks F1_mSize g_b1) hZ (hw _ (List.mem_of_getElem? (i := 6) rfl)) (hw _ (List.mem_of_getElem? (i := 3) rfl)) (by decide) (by decide)) (g := (mkF m 19 #[.val (.int p0), .val (.long p1), .second, .val (.long p2), .second, .val (.long p3), .second, .val (.long p4), .second, .val (.long p5), .second, .val (.int (p0 &&& (3 : Int32))), .val (.int ((((p0.toUInt32 >>> ((2 : Int32) &&& 31).toUInt32).toInt32) &&& (2147483647 : Int32)) % (3 : Int32))), .unset, .unset] [(.ref b1), (.ref b1)])) rfl (by rw [hml]; rfl) (Steps.refl _) (a := b1) (argsL := []) (rest := [(.ref b1)]) (lenOf pd_rm0_0 rfl) rfl (by show 2 * 0 + _ ≤ _; exact Nat.le_of_eq rfl) (hb hby at_19) (fun _ _ => ⟨rfl, e1, (by decide : 1 + 2 ≤ _), (by decide : 2 + 9 ≤ _)⟩)
  dsimp only [Pt.U, Pt.locs, Pt.cells, Pt.slots] at X2 l2 y2 z2 st2 hQ2
  subst l2 y2 z2
  obtain ⟨u3, u4, u5, u6, rfl, Nq2, Kc2, f2_0, f2_1, f2_2, f2_3, f2_4, f2_5, f2_6, f2_7⟩ := hQ2
  have N2 := Fr.app N0 Nq2
  have ne_b1_u3 : b1 ≠ u3 := Nat.ne_of_lt (Nat.lt_of_lt_of_le A1.lt f2_5)
  have ne_b1_u4 : b1 ≠ u4 := Nat.ne_of_lt (Nat.lt_of_lt_of_le A1.lt f2_6)
  have g_u3 : n0 ≤ u3 := Nat.le_trans (Nat.le_of_eq O1.1.symm) (Nat.le_trans O1.2.1 f2_5)
  have g_u4 : n0 ≤ u4 := Nat.le_trans (Nat.le_of_eq O1.1.symm) (Nat.le_trans O1.2.1 f2_6)
  have O2 := O1.keep Kc2 (allS g_b1 all0)
  have s7 : Steps p.tables e below (s₁.setTop (entryFrame m #[(.int p0), (.long p1), (.long p2), (.long p3), (.long p4), (.long p5)] maxLocals)) (T2.setTop (mkF m 24 #[.val (.int p0), .val (.long p1), .second, .val (.long p2), .second, .val (.long p3), .second, .val (.long p4), .second, .val (.long p5), .second, .val (.int (p0 &&& (3 : Int32))), .val (.int ((((p0.toUInt32 >>> ((2 : Int32) &&& 31).toUInt32).toInt32) &&& (2147483647 : Int32)) % (3 : Int32))), .val (.ref b1), .unset] [])) := by
    refine s0.trans ?_
    show Steps p.tables e below (s₁.setTop (mkF m 0 #[.val (.int p0), .val (.long p1), .second, .val (.long p2), .second, .val (.long p3), .second, .val (.long p4), .second, .val (.long p5), .second, .unset, .unset, .unset, .unset] [])) _
    refine XS.iloadN X0.here hx rfl (hb hby at_0) rfl ?_
    show Steps p.tables e below (s₁.setTop (mkF m 1 #[.val (.int p0), .val (.long p1), .second, .val (.long p2), .second, .val (.long p3), .second, .val (.long p4), .second, .val (.long p5), .second, .unset, .unset, .unset, .unset] [(.int p0)])) _
    refine XS.iconst X0.here hx rfl (hb hby at_1) ?_
    show Steps p.tables e below (s₁.setTop (mkF m 2 #[.val (.int p0), .val (.long p1), .second, .val (.long p2), .second, .val (.long p3), .second, .val (.long p4), .second, .val (.long p5), .second, .unset, .unset, .unset, .unset] [(.int (3 : Int32)), (.int p0)])) _
    refine XS.iand X0.here hx rfl (hb hby at_2) rfl ?_
    show Steps p.tables e below (s₁.setTop (mkF m 3 #[.val (.int p0), .val (.long p1), .second, .val (.long p2), .second, .val (.long p3), .second, .val (.long p4), .second, .val (.long p5), .second, .unset, .unset, .unset, .unset] [(.int (p0 &&& (3 : Int32)))])) _
    refine XS.istore X0.here hx rfl (hb hby at_3) rfl (l' := #[.val (.int p0), .val (.long p1), .second, .val (.long p2), .second, .val (.long p3), .second, .val (.long p4), .second, .val (.long p5), .second, .val (.int (p0 &&& (3 : Int32))), .unset, .unset, .unset]) rfl ?_
    show Steps p.tables e below (s₁.setTop (mkF m 5 #[.val (.int p0), .val (.long p1), .second, .val (.long p2), .second, .val (.long p3), .second, .val (.long p4), .second, .val (.long p5), .second, .val (.int (p0 &&& (3 : Int32))), .unset, .unset, .unset] [])) _
    refine XS.iloadN X0.here hx rfl (hb hby at_5) rfl ?_
    show Steps p.tables e below (s₁.setTop (mkF m 6 #[.val (.int p0), .val (.long p1), .second, .val (.long p2), .second, .val (.long p3), .second, .val (.long p4), .second, .val (.long p5), .second, .val (.int (p0 &&& (3 : Int32))), .unset, .unset, .unset] [(.int p0)])) _
    refine XS.iconst X0.here hx rfl (hb hby at_6) ?_
    show Steps p.tables e below (s₁.setTop (mkF m 7 #[.val (.int p0), .val (.long p1), .second, .val (.long p2), .second, .val (.long p3), .second, .val (.long p4), .second, .val (.long p5), .second, .val (.int (p0 &&& (3 : Int32))), .unset, .unset, .unset] [(.int (2 : Int32)), (.int p0)])) _
    refine XS.iushr X0.here hx rfl (hb hby at_7) rfl ?_
    show Steps p.tables e below (s₁.setTop (mkF m 8 #[.val (.int p0), .val (.long p1), .second, .val (.long p2), .second, .val (.long p3), .second, .val (.long p4), .second, .val (.long p5), .second, .val (.int (p0 &&& (3 : Int32))), .unset, .unset, .unset] [(.int ((p0.toUInt32 >>> ((2 : Int32) &&& 31).toUInt32).toInt32))])) _
    refine X0.ldcInt hx hown (mvT hZ (hw _ (List.mem_of_getElem? (i := 0) rfl))) (g := (mkF m 8 #[.val (.int p0), .val (.long p1), .second, .val (.long p2), .second, .val (.long p3), .second, .val (.long p4), .second, .val (.long p5), .second, .val (.int (p0 &&& (3 : Int32))), .unset, .unset, .unset] [(.int ((p0.toUInt32 >>> ((2 : Int32) &&& 31).toUInt32).toInt32))])) rfl (hb hby at_8) _ ?_
    show Steps p.tables e below (s₁.setTop (mkF m 10 #[.val (.int p0), .val (.long p1), .second, .val (.long p2), .second, .val (.long p3), .second, .val (.long p4), .second, .val (.long p5), .second, .val (.int (p0 &&& (3 : Int32))), .unset, .unset, .unset] [(.int (2147483647 : Int32)), (.int ((p0.toUInt32 >>> ((2 : Int32) &&& 31).toUInt32).toInt32))])) _
    refine XS.iand X0.here hx rfl (hb hby at_10) rfl ?_
    show Steps p.tables e below (s₁.setTop (mkF m 11 #[.val (.int p0), .val (.long p1), .second, .val (.long p2), .second, .val (.long p3), .second, .val (.long p4), .second, .val (.long p5), .second, .val (.int (p0 &&& (3 : Int32))), .unset, .unset, .unset] [(.int (((p0.toUInt32 >>> ((2 : Int32) &&& 31).toUInt32).toInt32) &&& (2147483647 : Int32)))])) _
    refine XS.iconst X0.here hx rfl (hb hby at_11) ?_
    show Steps p.tables e below (s₁.setTop (mkF m 12 #[.val (.int p0), .val (.long p1), .second, .val (.long p2), .second, .val (.long p3), .second, .val (.long p4), .second, .val (.long p5), .second, .val (.int (p0 &&& (3 : Int32))), .unset, .unset, .unset] [(.int (3 : Int32)), (.int (((p0.toUInt32 >>> ((2 : Int32) &&& 31).toUInt32).toInt32) &&& (2147483647 : Int32)))])) _
    refine Jvm.RoadKit.iremM (g := (mkF m 12 #[.val (.int p0), .val (.long p1), .second, .val (.long p2), .second, .val (.long p3), .second, .val (.long p4), .second, .val (.long p5), .second, .val (.int (p0 &&& (3 : Int32))), .unset, .unset, .unset] [(.int (3 : Int32)), (.int (((p0.toUInt32 >>> ((2 : Int32) &&& 31).toUInt32).toInt32) &&& (2147483647 : Int32)))])) X0 hx rfl (hb hby at_12) rfl (by decide) ?_
    show Steps p.tables e below (s₁.setTop (mkF m 13 #[.val (.int p0), .val (.long p1), .second, .val (.long p2), .second, .val (.long p3), .second, .val (.long p4), .second, .val (.long p5), .second, .val (.int (p0 &&& (3 : Int32))), .unset, .unset, .unset] [(.int ((((p0.toUInt32 >>> ((2 : Int32) &&& 31).toUInt32).toInt32) &&& (2147483647 : Int32)) % (3 : Int32)))])) _
    refine XS.istore X0.here hx rfl (hb hby at_13) rfl (l' := #[.val (.int p0), .val (.long p1), .second, .val (.long p2), .second, .val (.long p3), .second, .val (.long p4), .second, .val (.long p5), .second, .val (.int (p0 &&& (3 : Int32))), .val (.int ((((p0.toUInt32 >>> ((2 : Int32) &&& 31).toUInt32).toInt32) &&& (2147483647 : Int32)) % (3 : Int32))), .unset, .unset]) rfl ?_
    show Steps p.tables e below (s₁.setTop (mkF m 15 #[.val (.int p0), .val (.long p1), .second, .val (.long p2), .second, .val (.long p3), .second, .val (.long p4), .second, .val (.long p5), .second, .val (.int (p0 &&& (3 : Int32))), .val (.int ((((p0.toUInt32 >>> ((2 : Int32) &&& 31).toUInt32).toInt32) &&& (2147483647 : Int32)) % (3 : Int32))), .unset, .unset] [])) _
    refine st1 _ ?_
    show Steps p.tables e below (T1.setTop (mkF m 18 #[.val (.int p0), .val (.long p1), .second, .val (.long p2), .second, .val (.long p3), .second, .val (.long p4), .second, .val (.long p5), .second, .val (.int (p0 &&& (3 : Int32))), .val (.int ((((p0.toUInt32 >>> ((2 : Int32) &&& 31).toUInt32).toInt32) &&& (2147483647 : Int32)) % (3 : Int32))), .unset, .unset] [(.ref b1)])) _
    refine XS.dup X1.here hx rfl (hb hby at_18) rfl rfl ?_
    show Steps p.tables e below (T1.setTop (mkF m 19 #[.val (.int p0), .val (.long p1), .second, .val (.long p2), .second, .val (.long p3), .second, .val (.long p4), .second, .val (.long p5), .second, .val (.int (p0 &&& (3 : Int32))), .val (.int ((((p0.toUInt32 >>> ((2 : Int32) &&& 31).toUInt32).toInt32) &&& (2147483647 : Int32)) % (3 : Int32))), .unset, .unset] [(.ref b1), (.ref b1)])) _
    refine st2.trans ?_
    show Steps p.tables e below (T2.setTop (mkF m 22 #[.val (.int p0), .val (.long p1), .second, .val (.long p2), .second, .val (.long p3), .second, .val (.long p4), .second, .val (.long p5), .second, .val (.int (p0 &&& (3 : Int32))), .val (.int ((((p0.toUInt32 >>> ((2 : Int32) &&& 31).toUInt32).toInt32) &&& (2147483647 : Int32)) % (3 : Int32))), .unset, .unset] [(.ref b1)])) _
    refine XS.astore X2.here hx rfl (hb hby at_22) rfl rfl (l' := #[.val (.int p0), .val (.long p1), .second, .val (.long p2), .second, .val (.long p3), .second, .val (.long p4), .second, .val (.long p5), .second, .val (.int (p0 &&& (3 : Int32))), .val (.int ((((p0.toUInt32 >>> ((2 : Int32) &&& 31).toUInt32).toInt32) &&& (2147483647 : Int32)) % (3 : Int32))), .val (.ref b1), .unset]) rfl ?_
    exact Steps.refl _
  rcases own_and3 p0 with hk8 | hk8 | hk8 | hk8
  · have s9 := s7
    rw [hk8] at s9
    obtain ⟨cq10, kq10, q10a, q10b, q10c⟩ := isOf hZ (rfl : T2.heap = T2.heap) f2_0
    obtain ⟨_, _, ⟨T10, L10, k10, n10⟩, -, X10, ⟨Lc10, hQ10, l10, y10, z10⟩, st10⟩ := X2.virtualBack hx (y := (⟨"com/example/strikewire/strikewire/engine/LongList", "clear", "()V"⟩ : MethodName)) (z := (⟨"com/example/strikewire/strikewire/engine/LongList", "clear", "()V"⟩ : MethodName)) hown (mvT hZ (hw _ (List.mem_of_getElem? (i := 15) rfl))) (mvT hZ (hw _ (List.mem_of_getElem? (i := 16) rfl))) (notFace_of_selects (args := #[]) (mvT hZ (hw _ (List.mem_of_getElem? (i := 18) rfl)))) (mvT hZ (hw _ (List.mem_of_getElem? (i := 18) rfl))) (mvT hZ (hw _ (List.mem_of_getElem? (i := 17) rfl))) (by decide) (backOf (W := 0) (rm3 l Z a0 hw [] b1 u3 (0 : Int32) T2.heap n0 O2 f2_0 f2_1 f2_2 g_b1) hZ (hw _ (List.mem_of_getElem? (i := 19) rfl)) (hw _ (List.mem_of_getElem? (i := 3) rfl)) (by decide) (by decide)) q10a q10c (g := (mkF m 63 #[.val (.int p0), .val (.long p1), .second, .val (.long p2), .second, .val (.long p3), .second, .val (.long p4), .second, .val (.long p5), .second, .val (.int (0 : Int32)), .val (.int ((((p0.toUInt32 >>> ((2 : Int32) &&& 31).toUInt32).toInt32) &&& (2147483647 : Int32)) % (3 : Int32))), .val (.ref b1), .unset] [(.ref b1)])) rfl (by rw [hml]; rfl) (Steps.refl _) (argsL := []) (rest := []) (lenOf pd_rm0_0 rfl) rfl (by show 2 * 0 + _ ≤ _; exact Nat.le_of_eq rfl) (hb hby at_63) (fun _ _ => ⟨rfl, (rfl : T2.heap = T2.heap), (by decide : 3 + 2 ≤ _), (by decide : 11 + 9 ≤ _)⟩)
    dsimp only [Pt.U, Pt.locs, Pt.cells, Pt.slots] at X10 l10 y10 z10 st10 hQ10
    subst l10 y10 z10
    obtain ⟨u11, u12, u13, u14, rfl, Nq10, Kc10, f10_0, f10_1, f10_2, f10_3, f10_4, f10_5, f10_6, f10_7⟩ := hQ10
    have N10 := Fr.app N2 Nq10
    have ne_b1_u11 : b1 ≠ u11 := Nat.ne_of_lt (Nat.lt_of_lt_of_le f2_0.lt f10_5)
    have ne_u3_u11 : u3 ≠ u11 := Nat.ne_of_lt (Nat.lt_of_lt_of_le f2_3.lt f10_5)
    have ne_u4_u11 : u4 ≠ u11 := Nat.ne_of_lt (Nat.lt_of_lt_of_le f2_4.lt f10_5)
    have ne_b1_u12 : b1 ≠ u12 := Nat.ne_of_lt (Nat.lt_of_lt_of_le f2_0.lt f10_6)
    have ne_u3_u12 : u3 ≠ u12 := Nat.ne_of_lt (Nat.lt_of_lt_of_le f2_3.lt f10_6)
    have ne_u4_u12 : u4 ≠ u12 := Nat.ne_of_lt (Nat.lt_of_lt_of_le f2_4.lt f10_6)
    have g_u11 : n0 ≤ u11 := Nat.le_trans (Nat.le_of_eq O2.1.symm) (Nat.le_trans O2.2.1 f10_5)
    have g_u12 : n0 ≤ u12 := Nat.le_trans (Nat.le_of_eq O2.1.symm) (Nat.le_trans O2.2.1 f10_6)
    have O10 := O2.keep Kc10 (allS g_b1 all0)
    obtain ⟨cq15, kq15, q15a, q15b, q15c⟩ := isOf hZ (rfl : T10.heap = T10.heap) f10_0
    obtain ⟨_, _, ⟨T15, L15, k15, n15⟩, -, X15, ⟨Lc15, hQ15, l15, y15, z15⟩, st15⟩ := X10.virtualBack hx (y := (⟨"com/example/strikewire/strikewire/engine/LongList", "size", "()I"⟩ : MethodName)) (z := (⟨"com/example/strikewire/strikewire/engine/LongList", "size", "()I"⟩ : MethodName)) hown (mvT hZ (hw _ (List.mem_of_getElem? (i := 22) rfl))) (mvT hZ (hw _ (List.mem_of_getElem? (i := 23) rfl))) (notFace_of_selects (args := #[]) (mvT hZ (hw _ (List.mem_of_getElem? (i := 25) rfl)))) (mvT hZ (hw _ (List.mem_of_getElem? (i := 25) rfl))) (mvT hZ (hw _ (List.mem_of_getElem? (i := 24) rfl))) (by decide) (backOf (W := 0) (rm4 l Z a0 hw [] b1 (0 : Int32) T10.heap n0 O10 f10_2) hZ (hw _ (List.mem_of_getElem? (i := 26) rfl)) (hw _ (List.mem_of_getElem? (i := 3) rfl)) (by decide) (by decide)) q15a q15c (g := (mkF m 68 #[.val (.int p0), .val (.long p1), .second, .val (.long p2), .second, .val (.long p3), .second, .val (.long p4), .second, .val (.long p5), .second, .val (.int (0 : Int32)), .val (.int ((((p0.toUInt32 >>> ((2 : Int32) &&& 31).toUInt32).toInt32) &&& (2147483647 : Int32)) % (3 : Int32))), .val (.ref b1), .unset] [(.ref b1)])) rfl (by rw [hml]; rfl) (Steps.refl _) (argsL := []) (rest := []) (lenOf pd_rm0_1 rfl) rfl (by show 2 * 0 + _ ≤ _; exact Nat.le_of_eq rfl) (hb hby at_68) (fun _ _ => ⟨rfl, (rfl : T10.heap = T10.heap), (by decide : 5 + 0 ≤ _), (by decide : 20 + 0 ≤ _)⟩)
    dsimp only [Pt.U, Pt.locs, Pt.cells, Pt.slots] at X15 l15 y15 z15 st15 hQ15
    subst l15 y15 z15
    obtain ⟨rfl, Nq15, e15⟩ := hQ15
    have N15 := Fr.app N10 Nq15
    have s16 : Steps p.tables e below (s₁.setTop (entryFrame m #[(.int p0), (.long p1), (.long p2), (.long p3), (.long p4), (.long p5)] maxLocals)) (T15.setTop (mkF m 81 #[.val (.int p0), .val (.long p1), .second, .val (.long p2), .second, .val (.long p3), .second, .val (.long p4), .second, .val (.long p5), .second, .val (.int (0 : Int32)), .val (.int ((((p0.toUInt32 >>> ((2 : Int32) &&& 31).toUInt32).toInt32) &&& (2147483647 : Int32)) % (3 : Int32))), .val (.ref b1), .val (.int (1 : Int32))] [])) := by
      refine s9.trans ?_
      show Steps p.tables e below (T2.setTop (mkF m 24 #[.val (.int p0), .val (.long p1), .second, .val (.long p2), .second, .val (.long p3), .second, .val (.long p4), .second, .val (.long p5), .second, .val (.int (0 : Int32)), .val (.int ((((p0.toUInt32 >>> ((2 : Int32) &&& 31).toUInt32).toInt32) &&& (2147483647 : Int32)) % (3 : Int32))), .val (.ref b1), .unset] [])) _
      refine XS.iload X2.here hx rfl (hb hby at_24) rfl ?_
      show Steps p.tables e below (T2.setTop (mkF m 26 #[.val (.int p0), .val (.long p1), .second, .val (.long p2), .second, .val (.long p3), .second, .val (.long p4), .second, .val (.long p5), .second, .val (.int (0 : Int32)), .val (.int ((((p0.toUInt32 >>> ((2 : Int32) &&& 31).toUInt32).toInt32) &&& (2147483647 : Int32)) % (3 : Int32))), .val (.ref b1), .unset] [(.int (0 : Int32))])) _
      refine XS.iconst X2.here hx rfl (hb hby at_26) ?_
      show Steps p.tables e below (T2.setTop (mkF m 27 #[.val (.int p0), .val (.long p1), .second, .val (.long p2), .second, .val (.long p3), .second, .val (.long p4), .second, .val (.long p5), .second, .val (.int (0 : Int32)), .val (.int ((((p0.toUInt32 >>> ((2 : Int32) &&& 31).toUInt32).toInt32) &&& (2147483647 : Int32)) % (3 : Int32))), .val (.ref b1), .unset] [(.int (1 : Int32)), (.int (0 : Int32))])) _
      refine XS.icmpYes X2.here hx rfl (pc0 := 27) (pc' := 36) rfl (hb hby at_27) rfl (tlt (by decide)).1 (by decide) (by decide) ?_
      show Steps p.tables e below (T2.setTop (mkF m 36 #[.val (.int p0), .val (.long p1), .second, .val (.long p2), .second, .val (.long p3), .second, .val (.long p4), .second, .val (.long p5), .second, .val (.int (0 : Int32)), .val (.int ((((p0.toUInt32 >>> ((2 : Int32) &&& 31).toUInt32).toInt32) &&& (2147483647 : Int32)) % (3 : Int32))), .val (.ref b1), .unset] [])) _
      refine XS.iload X2.here hx rfl (hb hby at_36) rfl ?_
      show Steps p.tables e below (T2.setTop (mkF m 38 #[.val (.int p0), .val (.long p1), .second, .val (.long p2), .second, .val (.long p3), .second, .val (.long p4), .second, .val (.long p5), .second, .val (.int (0 : Int32)), .val (.int ((((p0.toUInt32 >>> ((2 : Int32) &&& 31).toUInt32).toInt32) &&& (2147483647 : Int32)) % (3 : Int32))), .val (.ref b1), .unset] [(.int (0 : Int32))])) _
      refine XS.iconst X2.here hx rfl (hb hby at_38) ?_
      show Steps p.tables e below (T2.setTop (mkF m 39 #[.val (.int p0), .val (.long p1), .second, .val (.long p2), .second, .val (.long p3), .second, .val (.long p4), .second, .val (.long p5), .second, .val (.int (0 : Int32)), .val (.int ((((p0.toUInt32 >>> ((2 : Int32) &&& 31).toUInt32).toInt32) &&& (2147483647 : Int32)) % (3 : Int32))), .val (.ref b1), .unset] [(.int (2 : Int32)), (.int (0 : Int32))])) _
      refine XS.icmpYes X2.here hx rfl (pc0 := 39) (pc' := 48) rfl (hb hby at_39) rfl (tlt (by decide)).1 (by decide) (by decide) ?_
      show Steps p.tables e below (T2.setTop (mkF m 48 #[.val (.int p0), .val (.long p1), .second, .val (.long p2), .second, .val (.long p3), .second, .val (.long p4), .second, .val (.long p5), .second, .val (.int (0 : Int32)), .val (.int ((((p0.toUInt32 >>> ((2 : Int32) &&& 31).toUInt32).toInt32) &&& (2147483647 : Int32)) % (3 : Int32))), .val (.ref b1), .unset] [])) _
      refine XS.iload X2.here hx rfl (hb hby at_48) rfl ?_
      show Steps p.tables e below (T2.setTop (mkF m 50 #[.val (.int p0), .val (.long p1), .second, .val (.long p2), .second, .val (.long p3), .second, .val (.long p4), .second, .val (.long p5), .second, .val (.int (0 : Int32)), .val (.int ((((p0.toUInt32 >>> ((2 : Int32) &&& 31).toUInt32).toInt32) &&& (2147483647 : Int32)) % (3 : Int32))), .val (.ref b1), .unset] [(.int (0 : Int32))])) _
      refine XS.iconst X2.here hx rfl (hb hby at_50) ?_
      show Steps p.tables e below (T2.setTop (mkF m 51 #[.val (.int p0), .val (.long p1), .second, .val (.long p2), .second, .val (.long p3), .second, .val (.long p4), .second, .val (.long p5), .second, .val (.int (0 : Int32)), .val (.int ((((p0.toUInt32 >>> ((2 : Int32) &&& 31).toUInt32).toInt32) &&& (2147483647 : Int32)) % (3 : Int32))), .val (.ref b1), .unset] [(.int (3 : Int32)), (.int (0 : Int32))])) _
      refine XS.icmpYes X2.here hx rfl (pc0 := 51) (pc' := 61) rfl (hb hby at_51) rfl (tlt (by decide)).1 (by decide) (by decide) ?_
      show Steps p.tables e below (T2.setTop (mkF m 61 #[.val (.int p0), .val (.long p1), .second, .val (.long p2), .second, .val (.long p3), .second, .val (.long p4), .second, .val (.long p5), .second, .val (.int (0 : Int32)), .val (.int ((((p0.toUInt32 >>> ((2 : Int32) &&& 31).toUInt32).toInt32) &&& (2147483647 : Int32)) % (3 : Int32))), .val (.ref b1), .unset] [])) _
      refine XS.aload X2.here hx rfl (hb hby at_61) rfl rfl ?_
      show Steps p.tables e below (T2.setTop (mkF m 63 #[.val (.int p0), .val (.long p1), .second, .val (.long p2), .second, .val (.long p3), .second, .val (.long p4), .second, .val (.long p5), .second, .val (.int (0 : Int32)), .val (.int ((((p0.toUInt32 >>> ((2 : Int32) &&& 31).toUInt32).toInt32) &&& (2147483647 : Int32)) % (3 : Int32))), .val (.ref b1), .unset] [(.ref b1)])) _
      refine st10.trans ?_
      show Steps p.tables e below (T10.setTop (mkF m 66 #[.val (.int p0), .val (.long p1), .second, .val (.long p2), .second, .val (.long p3), .second, .val (.long p4), .second, .val (.long p5), .second, .val (.int (0 : Int32)), .val (.int ((((p0.toUInt32 >>> ((2 : Int32) &&& 31).toUInt32).toInt32) &&& (2147483647 : Int32)) % (3 : Int32))), .val (.ref b1), .unset] [])) _
      refine XS.aload X10.here hx rfl (hb hby at_66) rfl rfl ?_
      show Steps p.tables e below (T10.setTop (mkF m 68 #[.val (.int p0), .val (.long p1), .second, .val (.long p2), .second, .val (.long p3), .second, .val (.long p4), .second, .val (.long p5), .second, .val (.int (0 : Int32)), .val (.int ((((p0.toUInt32 >>> ((2 : Int32) &&& 31).toUInt32).toInt32) &&& (2147483647 : Int32)) % (3 : Int32))), .val (.ref b1), .unset] [(.ref b1)])) _
      refine st15.trans ?_
      show Steps p.tables e below (T15.setTop (mkF m 71 #[.val (.int p0), .val (.long p1), .second, .val (.long p2), .second, .val (.long p3), .second, .val (.long p4), .second, .val (.long p5), .second, .val (.int (0 : Int32)), .val (.int ((((p0.toUInt32 >>> ((2 : Int32) &&& 31).toUInt32).toInt32) &&& (2147483647 : Int32)) % (3 : Int32))), .val (.ref b1), .unset] [(.int (0 : Int32))])) _
      refine XS.ifNo X15.here hx rfl (hb hby at_71) rfl ((if0 _ _).trans (teq (by decide)).2) ?_
      show Steps p.tables e below (T15.setTop (mkF m 74 #[.val (.int p0), .val (.long p1), .second, .val (.long p2), .second, .val (.long p3), .second, .val (.long p4), .second, .val (.long p5), .second, .val (.int (0 : Int32)), .val (.int ((((p0.toUInt32 >>> ((2 : Int32) &&& 31).toUInt32).toInt32) &&& (2147483647 : Int32)) % (3 : Int32))), .val (.ref b1), .unset] [])) _
      refine XS.iconst X15.here hx rfl (hb hby at_74) ?_
      show Steps p.tables e below (T15.setTop (mkF m 75 #[.val (.int p0), .val (.long p1), .second, .val (.long p2), .second, .val (.long p3), .second, .val (.long p4), .second, .val (.long p5), .second, .val (.int (0 : Int32)), .val (.int ((((p0.toUInt32 >>> ((2 : Int32) &&& 31).toUInt32).toInt32) &&& (2147483647 : Int32)) % (3 : Int32))), .val (.ref b1), .unset] [(.int (1 : Int32))])) _
      refine XS.goto X15.here hx rfl (pc0 := 75) (pc' := 79) rfl (hb hby at_75) (by decide) (by decide) ?_
      show Steps p.tables e below (T15.setTop (mkF m 79 #[.val (.int p0), .val (.long p1), .second, .val (.long p2), .second, .val (.long p3), .second, .val (.long p4), .second, .val (.long p5), .second, .val (.int (0 : Int32)), .val (.int ((((p0.toUInt32 >>> ((2 : Int32) &&& 31).toUInt32).toInt32) &&& (2147483647 : Int32)) % (3 : Int32))), .val (.ref b1), .unset] [(.int (1 : Int32))])) _
      refine XS.istore X15.here hx rfl (hb hby at_79) rfl (l' := #[.val (.int p0), .val (.long p1), .second, .val (.long p2), .second, .val (.long p3), .second, .val (.long p4), .second, .val (.long p5), .second, .val (.int (0 : Int32)), .val (.int ((((p0.toUInt32 >>> ((2 : Int32) &&& 31).toUInt32).toInt32) &&& (2147483647 : Int32)) % (3 : Int32))), .val (.ref b1), .val (.int (1 : Int32))]) rfl ?_
      exact Steps.refl _
    rcases own_mod3 ((p0.toUInt32 >>> ((2 : Int32) &&& 31).toUInt32).toInt32) with hk17 | hk17 | hk17
    · have s18 := s16
      rw [hk17] at s18
      obtain ⟨cq19, kq19, q19a, q19b, q19c⟩ := isOf hZ e15 f10_0
      obtain ⟨_, _, ⟨T19, L19, k19, n19⟩, -, X19, ⟨Lc19, hQ19, l19, y19, z19⟩, st19⟩ := X15.virtualBack hx (y := (⟨"com/example/strikewire/strikewire/engine/LongList", "size", "()I"⟩ : MethodName)) (z := (⟨"com/example/strikewire/strikewire/engine/LongList", "size", "()I"⟩ : MethodName)) hown (mvT hZ (hw _ (List.mem_of_getElem? (i := 22) rfl))) (mvT hZ (hw _ (List.mem_of_getElem? (i := 23) rfl))) (notFace_of_selects (args := #[]) (mvT hZ (hw _ (List.mem_of_getElem? (i := 25) rfl)))) (mvT hZ (hw _ (List.mem_of_getElem? (i := 25) rfl))) (mvT hZ (hw _ (List.mem_of_getElem? (i := 24) rfl))) (by decide) (backOf (W := 0) (rm4 l Z a0 hw [] b1 (0 : Int32) T10.heap n0 O10 f10_2) hZ (hw _ (List.mem_of_getElem? (i := 26) rfl)) (hw _ (List.mem_of_getElem? (i := 3) rfl)) (by decide) (by decide)) q19a q19c (g := (mkF m 114 #[.val (.int p0), .val (.long p1), .second, .val (.long p2), .second, .val (.long p3), .second, .val (.long p4), .second, .val (.long p5), .second, .val (.int (0 : Int32)), .val (.int (0 : Int32)), .val (.ref b1), .val (.int (1 : Int32))] [(.ref b1)])) rfl (by rw [hml]; rfl) (Steps.refl _) (argsL := []) (rest := []) (lenOf pd_rm0_1 rfl) rfl (by show 2 * 0 + _ ≤ _; exact Nat.le_of_eq rfl) (hb hby at_114) (fun _ _ => ⟨rfl, e15, (by decide : 5 + 0 ≤ _), (by decide : 20 + 0 ≤ _)⟩)
      dsimp only [Pt.U, Pt.locs, Pt.cells, Pt.slots] at X19 l19 y19 z19 st19 hQ19
      subst l19 y19 z19
      obtain ⟨rfl, Nq19, e19⟩ := hQ19
      have N19 := Fr.app N15 Nq19
      have s20 : Steps p.tables e below (s₁.setTop (entryFrame m #[(.int p0), (.long p1), (.long p2), (.long p3), (.long p4), (.long p5)] maxLocals)) (T19.setTop (mkF m 191 #[.val (.int p0), .val (.long p1), .second, .val (.long p2), .second, .val (.long p3), .second, .val (.long p4), .second, .val (.long p5), .second, .val (.int (0 : Int32)), .val (.int (0 : Int32)), .val (.ref b1), .val (.int (1 : Int32))] [(.int (1 : Int32))])) := by
        refine s18.trans ?_
        show Steps p.tables e below (T15.setTop (mkF m 81 #[.val (.int p0), .val (.long p1), .second, .val (.long p2), .second, .val (.long p3), .second, .val (.long p4), .second, .val (.long p5), .second, .val (.int (0 : Int32)), .val (.int (0 : Int32)), .val (.ref b1), .val (.int (1 : Int32))] [])) _
        refine XS.iload X15.here hx rfl (hb hby at_81) rfl ?_
        show Steps p.tables e below (T15.setTop (mkF m 83 #[.val (.int p0), .val (.long p1), .second, .val (.long p2), .second, .val (.long p3), .second, .val (.long p4), .second, .val (.long p5), .second, .val (.int (0 : Int32)), .val (.int (0 : Int32)), .val (.ref b1), .val (.int (1 : Int32))] [(.int (0 : Int32))])) _
        refine XS.iconst X15.here hx rfl (hb hby at_83) ?_
        show Steps p.tables e below (T15.setTop (mkF m 84 #[.val (.int p0), .val (.long p1), .second, .val (.long p2), .second, .val (.long p3), .second, .val (.long p4), .second, .val (.long p5), .second, .val (.int (0 : Int32)), .val (.int (0 : Int32)), .val (.ref b1), .val (.int (1 : Int32))] [(.int (1 : Int32)), (.int (0 : Int32))])) _
        refine XS.icmpYes X15.here hx rfl (pc0 := 84) (pc' := 94) rfl (hb hby at_84) rfl (tlt (by decide)).1 (by decide) (by decide) ?_
        show Steps p.tables e below (T15.setTop (mkF m 94 #[.val (.int p0), .val (.long p1), .second, .val (.long p2), .second, .val (.long p3), .second, .val (.long p4), .second, .val (.long p5), .second, .val (.int (0 : Int32)), .val (.int (0 : Int32)), .val (.ref b1), .val (.int (1 : Int32))] [])) _
        refine XS.iload X15.here hx rfl (hb hby at_94) rfl ?_
        show Steps p.tables e below (T15.setTop (mkF m 96 #[.val (.int p0), .val (.long p1), .second, .val (.long p2), .second, .val (.long p3), .second, .val (.long p4), .second, .val (.long p5), .second, .val (.int (0 : Int32)), .val (.int (0 : Int32)), .val (.ref b1), .val (.int (1 : Int32))] [(.int (0 : Int32))])) _
        refine XS.iconst X15.here hx rfl (hb hby at_96) ?_
        show Steps p.tables e below (T15.setTop (mkF m 97 #[.val (.int p0), .val (.long p1), .second, .val (.long p2), .second, .val (.long p3), .second, .val (.long p4), .second, .val (.long p5), .second, .val (.int (0 : Int32)), .val (.int (0 : Int32)), .val (.ref b1), .val (.int (1 : Int32))] [(.int (2 : Int32)), (.int (0 : Int32))])) _
        refine XS.icmpYes X15.here hx rfl (pc0 := 97) (pc' := 107) rfl (hb hby at_97) rfl (tlt (by decide)).1 (by decide) (by decide) ?_
        show Steps p.tables e below (T15.setTop (mkF m 107 #[.val (.int p0), .val (.long p1), .second, .val (.long p2), .second, .val (.long p3), .second, .val (.long p4), .second, .val (.long p5), .second, .val (.int (0 : Int32)), .val (.int (0 : Int32)), .val (.ref b1), .val (.int (1 : Int32))] [])) _
        refine XS.iload X15.here hx rfl (hb hby at_107) rfl ?_
        show Steps p.tables e below (T15.setTop (mkF m 109 #[.val (.int p0), .val (.long p1), .second, .val (.long p2), .second, .val (.long p3), .second, .val (.long p4), .second, .val (.long p5), .second, .val (.int (0 : Int32)), .val (.int (0 : Int32)), .val (.ref b1), .val (.int (1 : Int32))] [(.int (1 : Int32))])) _
        refine XS.ifNo X15.here hx rfl (hb hby at_109) rfl ((if0 _ _).trans (feq (by decide)).1) ?_
        show Steps p.tables e below (T15.setTop (mkF m 112 #[.val (.int p0), .val (.long p1), .second, .val (.long p2), .second, .val (.long p3), .second, .val (.long p4), .second, .val (.long p5), .second, .val (.int (0 : Int32)), .val (.int (0 : Int32)), .val (.ref b1), .val (.int (1 : Int32))] [])) _
        refine XS.aload X15.here hx rfl (hb hby at_112) rfl rfl ?_
        show Steps p.tables e below (T15.setTop (mkF m 114 #[.val (.int p0), .val (.long p1), .second, .val (.long p2), .second, .val (.long p3), .second, .val (.long p4), .second, .val (.long p5), .second, .val (.int (0 : Int32)), .val (.int (0 : Int32)), .val (.ref b1), .val (.int (1 : Int32))] [(.ref b1)])) _
        refine st19.trans ?_
        show Steps p.tables e below (T19.setTop (mkF m 117 #[.val (.int p0), .val (.long p1), .second, .val (.long p2), .second, .val (.long p3), .second, .val (.long p4), .second, .val (.long p5), .second, .val (.int (0 : Int32)), .val (.int (0 : Int32)), .val (.ref b1), .val (.int (1 : Int32))] [(.int (0 : Int32))])) _
        refine XS.iload X19.here hx rfl (hb hby at_117) rfl ?_
        show Steps p.tables e below (T19.setTop (mkF m 119 #[.val (.int p0), .val (.long p1), .second, .val (.long p2), .second, .val (.long p3), .second, .val (.long p4), .second, .val (.long p5), .second, .val (.int (0 : Int32)), .val (.int (0 : Int32)), .val (.ref b1), .val (.int (1 : Int32))] [(.int (0 : Int32)), (.int (0 : Int32))])) _
        refine XS.icmpNo X19.here hx rfl (hb hby at_119) rfl (teq (by decide)).2 ?_
        show Steps p.tables e below (T19.setTop (mkF m 122 #[.val (.int p0), .val (.long p1), .second, .val (.long p2), .second, .val (.long p3), .second, .val (.long p4), .second, .val (.long p5), .second, .val (.int (0 : Int32)), .val (.int (0 : Int32)), .val (.ref b1), .val (.int (1 : Int32))] [])) _
        refine XS.iconst X19.here hx rfl (hb hby at_122) ?_
        show Steps p.tables e below (T19.setTop (mkF m 123 #[.val (.int p0), .val (.long p1), .second, .val (.long p2), .second, .val (.long p3), .second, .val (.long p4), .second, .val (.long p5), .second, .val (.int (0 : Int32)), .val (.int (0 : Int32)), .val (.ref b1), .val (.int (1 : Int32))] [(.int (1 : Int32))])) _
        refine XS.goto X19.here hx rfl (pc0 := 123) (pc' := 127) rfl (hb hby at_123) (by decide) (by decide) ?_
        show Steps p.tables e below (T19.setTop (mkF m 127 #[.val (.int p0), .val (.long p1), .second, .val (.long p2), .second, .val (.long p3), .second, .val (.long p4), .second, .val (.long p5), .second, .val (.int (0 : Int32)), .val (.int (0 : Int32)), .val (.ref b1), .val (.int (1 : Int32))] [(.int (1 : Int32))])) _
        refine XS.istore X19.here hx rfl (hb hby at_127) rfl (l' := #[.val (.int p0), .val (.long p1), .second, .val (.long p2), .second, .val (.long p3), .second, .val (.long p4), .second, .val (.long p5), .second, .val (.int (0 : Int32)), .val (.int (0 : Int32)), .val (.ref b1), .val (.int (1 : Int32))]) rfl ?_
        show Steps p.tables e below (T19.setTop (mkF m 129 #[.val (.int p0), .val (.long p1), .second, .val (.long p2), .second, .val (.long p3), .second, .val (.long p4), .second, .val (.long p5), .second, .val (.int (0 : Int32)), .val (.int (0 : Int32)), .val (.ref b1), .val (.int (1 : Int32))] [])) _
        refine XS.iload X19.here hx rfl (hb hby at_129) rfl ?_
        show Steps p.tables e below (T19.setTop (mkF m 131 #[.val (.int p0), .val (.long p1), .second, .val (.long p2), .second, .val (.long p3), .second, .val (.long p4), .second, .val (.long p5), .second, .val (.int (0 : Int32)), .val (.int (0 : Int32)), .val (.ref b1), .val (.int (1 : Int32))] [(.int (0 : Int32))])) _
        refine XS.iconst X19.here hx rfl (hb hby at_131) ?_
        show Steps p.tables e below (T19.setTop (mkF m 132 #[.val (.int p0), .val (.long p1), .second, .val (.long p2), .second, .val (.long p3), .second, .val (.long p4), .second, .val (.long p5), .second, .val (.int (0 : Int32)), .val (.int (0 : Int32)), .val (.ref b1), .val (.int (1 : Int32))] [(.int (1 : Int32)), (.int (0 : Int32))])) _
        refine XS.icmpYes X19.here hx rfl (pc0 := 132) (pc' := 159) rfl (hb hby at_132) rfl (tlt (by decide)).1 (by decide) (by decide) ?_
        show Steps p.tables e below (T19.setTop (mkF m 159 #[.val (.int p0), .val (.long p1), .second, .val (.long p2), .second, .val (.long p3), .second, .val (.long p4), .second, .val (.long p5), .second, .val (.int (0 : Int32)), .val (.int (0 : Int32)), .val (.ref b1), .val (.int (1 : Int32))] [])) _
        refine XS.iload X19.here hx rfl (hb hby at_159) rfl ?_
        show Steps p.tables e below (T19.setTop (mkF m 161 #[.val (.int p0), .val (.long p1), .second, .val (.long p2), .second, .val (.long p3), .second, .val (.long p4), .second, .val (.long p5), .second, .val (.int (0 : Int32)), .val (.int (0 : Int32)), .val (.ref b1), .val (.int (1 : Int32))] [(.int (0 : Int32))])) _
        refine XS.iconst X19.here hx rfl (hb hby at_161) ?_
        show Steps p.tables e below (T19.setTop (mkF m 162 #[.val (.int p0), .val (.long p1), .second, .val (.long p2), .second, .val (.long p3), .second, .val (.long p4), .second, .val (.long p5), .second, .val (.int (0 : Int32)), .val (.int (0 : Int32)), .val (.ref b1), .val (.int (1 : Int32))] [(.int (2 : Int32)), (.int (0 : Int32))])) _
        refine XS.icmpYes X19.here hx rfl (pc0 := 162) (pc' := 189) rfl (hb hby at_162) rfl (tlt (by decide)).1 (by decide) (by decide) ?_
        show Steps p.tables e below (T19.setTop (mkF m 189 #[.val (.int p0), .val (.long p1), .second, .val (.long p2), .second, .val (.long p3), .second, .val (.long p4), .second, .val (.long p5), .second, .val (.int (0 : Int32)), .val (.int (0 : Int32)), .val (.ref b1), .val (.int (1 : Int32))] [])) _
        refine XS.iload X19.here hx rfl (hb hby at_189) rfl ?_
        exact Steps.refl _
      obtain ⟨fs, hr, hrun, hended, hW, hsame⟩ := X19.leave (v := some (.int (1 : Int32))) (fun h => by rw [Bd.returns] at h; cases h)
      refine ⟨_, _, s20.trans ?_, hrun, hended, _, _, rfl, ?_, ⟨_, rfl⟩, hW, hsame.mono (by decide) (by decide)⟩
      · show Steps p.tables e below (T19.setTop (mkF m 191 #[.val (.int p0), .val (.long p1), .second, .val (.long p2), .second, .val (.long p3), .second, .val (.long p4), .second, .val (.long p5), .second, .val (.int (0 : Int32)), .val (.int (0 : Int32)), .val (.ref b1), .val (.int (1 : Int32))] [(.int (1 : Int32))])) _
        exact retN X19 hx (t := .boolean) Bd.returns (by simp) (hb hby at_191) hr
      · show Q0 Z p0 p1 p2 p3 p4 p5 h0 n0 _ T19.heap _
        rw [e19]
        exact ⟨rfl, N19⟩
    · have s21 := s16
      rw [hk17] at s21
      obtain ⟨cq22, kq22, q22a, q22b, q22c⟩ := isOf hZ e15 f10_0
      obtain ⟨_, _, ⟨T22, L22, k22, n22⟩, -, X22, ⟨Lc22, hQ22, l22, y22, z22⟩, st22⟩ := X15.virtualBack hx (y := (⟨"com/example/strikewire/strikewire/engine/LongList", "add", "(J)V"⟩ : MethodName)) (z := (⟨"com/example/strikewire/strikewire/engine/LongList", "add", "(J)V"⟩ : MethodName)) hown (mvT hZ (hw _ (List.mem_of_getElem? (i := 27) rfl))) (mvT hZ (hw _ (List.mem_of_getElem? (i := 28) rfl))) (notFace_of_selects (args := #[]) (mvT hZ (hw _ (List.mem_of_getElem? (i := 30) rfl)))) (mvT hZ (hw _ (List.mem_of_getElem? (i := 30) rfl))) (mvT hZ (hw _ (List.mem_of_getElem? (i := 29) rfl))) (by decide) (backOf (W := 0) (rma0 l Z a0 hw [] b1 p4 u11 u12 u13 u14 (0 : Int64) (0 : Int64) (0 : Int64) (0 : Int64) (0 : Int64) (0 : Int64) (0 : Int64) (0 : Int64) T10.heap n0 O10 f10_0 f10_1 f10_3 f10_2 f10_4 g_b1 g_u12 ne_b1_u11 ne_b1_u12 f10_7) hZ (hw _ (List.mem_of_getElem? (i := 31) rfl)) (hw _ (List.mem_of_getElem? (i := 3) rfl)) (by decide) (by decide)) q22a q22c (g := (mkF m 91 #[.val (.int p0), .val (.long p1), .second, .val (.long p2), .second, .val (.long p3), .second, .val (.long p4), .second, .val (.long p5), .second, .val (.int (0 : Int32)), .val (.int (1 : Int32)), .val (.ref b1), .val (.int (1 : Int32))] [(.long p4), (.ref b1)])) rfl (by rw [hml]; rfl) (Steps.refl _) (argsL := [(.long p4)]) (rest := []) (lenOf pd_rm0_2 rfl) rfl (by show 2 * 0 + _ ≤ _; exact Nat.le_of_eq rfl) (hb hby at_91) (fun _ _ => ⟨rfl, e15, (by decide : 5 + 0 ≤ _), (by decide : 20 + 0 ≤ _)⟩)
      dsimp only [Pt.U, Pt.locs, Pt.cells, Pt.slots] at X22 l22 y22 z22 st22 hQ22
      subst l22 y22 z22
      obtain ⟨rfl, Nq22, Kc22, f22_0, f22_1, f22_2, f22_3, f22_4⟩ := hQ22
      have N22 := Fr.app N15 Nq22
      have O22 := O10.keep Kc22 (allS g_b1 (allS g_u12 all0))
      obtain ⟨cq23, kq23, q23a, q23b, q23c⟩ := isOf hZ (rfl : T22.heap = T22.heap) f22_0
      obtain ⟨_, _, ⟨T23, L23, k23, n23⟩, -, X23, ⟨Lc23, hQ23, l23, y23, z23⟩, st23⟩ := X22.virtualBack hx (y := (⟨"com/example/strikewire/strikewire/engine/LongList", "size", "()I"⟩ : MethodName)) (z := (⟨"com/example/strikewire/strikewire/engine/LongList", "size", "()I"⟩ : MethodName)) hown (mvT hZ (hw _ (List.mem_of_getElem? (i := 22) rfl))) (mvT hZ (hw _ (List.mem_of_getElem? (i := 23) rfl))) (notFace_of_selects (args := #[]) (mvT hZ (hw _ (List.mem_of_getElem? (i := 25) rfl)))) (mvT hZ (hw _ (List.mem_of_getElem? (i := 25) rfl))) (mvT hZ (hw _ (List.mem_of_getElem? (i := 24) rfl))) (by decide) (backOf (W := 0) (rm4 l Z a0 hw [] b1 (1 : Int32) T22.heap n0 O22 f22_3) hZ (hw _ (List.mem_of_getElem? (i := 26) rfl)) (hw _ (List.mem_of_getElem? (i := 3) rfl)) (by decide) (by decide)) q23a q23c (g := (mkF m 114 #[.val (.int p0), .val (.long p1), .second, .val (.long p2), .second, .val (.long p3), .second, .val (.long p4), .second, .val (.long p5), .second, .val (.int (0 : Int32)), .val (.int (1 : Int32)), .val (.ref b1), .val (.int (1 : Int32))] [(.ref b1)])) rfl (by rw [hml]; rfl) (Steps.refl _) (argsL := []) (rest := []) (lenOf pd_rm0_1 rfl) rfl (by show 2 * 0 + _ ≤ _; exact Nat.le_of_eq rfl) (hb hby at_114) (fun _ _ => ⟨rfl, (rfl : T22.heap = T22.heap), (by decide : 5 + 0 ≤ _), (by decide : 20 + 0 ≤ _)⟩)
      dsimp only [Pt.U, Pt.locs, Pt.cells, Pt.slots] at X23 l23 y23 z23 st23 hQ23
      subst l23 y23 z23
      obtain ⟨rfl, Nq23, e23⟩ := hQ23
      have N23 := Fr.app N22 Nq23
      obtain ⟨cq24, kq24, q24a, q24b, q24c⟩ := isOf hZ e23 f22_0
      obtain ⟨_, _, ⟨T24, L24, k24, n24⟩, -, X24, ⟨Lc24, hQ24, l24, y24, z24⟩, st24⟩ := X23.virtualBack hx (y := (⟨"com/example/strikewire/strikewire/engine/LongList", "get", "(I)J"⟩ : MethodName)) (z := (⟨"com/example/strikewire/strikewire/engine/LongList", "get", "(I)J"⟩ : MethodName)) hown (mvT hZ (hw _ (List.mem_of_getElem? (i := 34) rfl))) (mvT hZ (hw _ (List.mem_of_getElem? (i := 35) rfl))) (notFace_of_selects (args := #[]) (mvT hZ (hw _ (List.mem_of_getElem? (i := 37) rfl)))) (mvT hZ (hw _ (List.mem_of_getElem? (i := 37) rfl))) (mvT hZ (hw _ (List.mem_of_getElem? (i := 36) rfl))) (by decide) (backOf (W := 0) (rmg0_1 l Z a0 hw [] b1 u11 u12 u13 u14 p4 (0 : Int64) (0 : Int64) (0 : Int64) (0 : Int64) (0 : Int64) (0 : Int64) (0 : Int64) T22.heap n0 O22 f22_0 f22_1 f22_2 f22_3 f22_4) hZ (hw _ (List.mem_of_getElem? (i := 38) rfl)) (hw _ (List.mem_of_getElem? (i := 3) rfl)) (by decide) (by decide)) q24a q24c (g := (mkF m 143 #[.val (.int p0), .val (.long p1), .second, .val (.long p2), .second, .val (.long p3), .second, .val (.long p4), .second, .val (.long p5), .second, .val (.int (0 : Int32)), .val (.int (1 : Int32)), .val (.ref b1), .val (.int (1 : Int32))] [(.int (0 : Int32)), (.ref b1)])) rfl (by rw [hml]; rfl) (Steps.refl _) (argsL := [(.int (0 : Int32))]) (rest := []) (lenOf pd_rm0_3 rfl) rfl (by show 2 * 0 + _ ≤ _; exact Nat.le_of_eq rfl) (hb hby at_143) (fun _ _ => ⟨rfl, e23, (by decide : 5 + 0 ≤ _), (by decide : 20 + 0 ≤ _)⟩)
      dsimp only [Pt.U, Pt.locs, Pt.cells, Pt.slots] at X24 l24 y24 z24 st24 hQ24
      subst l24 y24 z24
      obtain ⟨rfl, Nq24, e24⟩ := hQ24
      have N24 := Fr.app N23 Nq24
      have s25 : Steps p.tables e below (s₁.setTop (entryFrame m #[(.int p0), (.long p1), (.long p2), (.long p3), (.long p4), (.long p5)] maxLocals)) (T24.setTop (mkF m 191 #[.val (.int p0), .val (.long p1), .second, .val (.long p2), .second, .val (.long p3), .second, .val (.long p4), .second, .val (.long p5), .second, .val (.int (0 : Int32)), .val (.int (1 : Int32)), .val (.ref b1), .val (.int (1 : Int32))] [(.int (1 : Int32))])) := by
        refine s21.trans ?_
        show Steps p.tables e below (T15.setTop (mkF m 81 #[.val (.int p0), .val (.long p1), .second, .val (.long p2), .second, .val (.long p3), .second, .val (.long p4), .second, .val (.long p5), .second, .val (.int (0 : Int32)), .val (.int (1 : Int32)), .val (.ref b1), .val (.int (1 : Int32))] [])) _
        refine XS.iload X15.here hx rfl (hb hby at_81) rfl ?_
        show Steps p.tables e below (T15.setTop (mkF m 83 #[.val (.int p0), .val (.long p1), .second, .val (.long p2), .second, .val (.long p3), .second, .val (.long p4), .second, .val (.long p5), .second, .val (.int (0 : Int32)), .val (.int (1 : Int32)), .val (.ref b1), .val (.int (1 : Int32))] [(.int (1 : Int32))])) _
        refine XS.iconst X15.here hx rfl (hb hby at_83) ?_
        show Steps p.tables e below (T15.setTop (mkF m 84 #[.val (.int p0), .val (.long p1), .second, .val (.long p2), .second, .val (.long p3), .second, .val (.long p4), .second, .val (.long p5), .second, .val (.int (0 : Int32)), .val (.int (1 : Int32)), .val (.ref b1), .val (.int (1 : Int32))] [(.int (1 : Int32)), (.int (1 : Int32))])) _
        refine XS.icmpNo X15.here hx rfl (hb hby at_84) rfl (flt (by decide)).1 ?_
        show Steps p.tables e below (T15.setTop (mkF m 87 #[.val (.int p0), .val (.long p1), .second, .val (.long p2), .second, .val (.long p3), .second, .val (.long p4), .second, .val (.long p5), .second, .val (.int (0 : Int32)), .val (.int (1 : Int32)), .val (.ref b1), .val (.int (1 : Int32))] [])) _
        refine XS.aload X15.here hx rfl (hb hby at_87) rfl rfl ?_
        show Steps p.tables e below (T15.setTop (mkF m 89 #[.val (.int p0), .val (.long p1), .second, .val (.long p2), .second, .val (.long p3), .second, .val (.long p4), .second, .val (.long p5), .second, .val (.int (0 : Int32)), .val (.int (1 : Int32)), .val (.ref b1), .val (.int (1 : Int32))] [(.ref b1)])) _
        refine XS.lload X15.here hx rfl (hb hby at_89) rfl ?_
        show Steps p.tables e below (T15.setTop (mkF m 91 #[.val (.int p0), .val (.long p1), .second, .val (.long p2), .second, .val (.long p3), .second, .val (.long p4), .second, .val (.long p5), .second, .val (.int (0 : Int32)), .val (.int (1 : Int32)), .val (.ref b1), .val (.int (1 : Int32))] [(.long p4), (.ref b1)])) _
        refine st22.trans ?_
        show Steps p.tables e below (T22.setTop (mkF m 94 #[.val (.int p0), .val (.long p1), .second, .val (.long p2), .second, .val (.long p3), .second, .val (.long p4), .second, .val (.long p5), .second, .val (.int (0 : Int32)), .val (.int (1 : Int32)), .val (.ref b1), .val (.int (1 : Int32))] [])) _
        refine XS.iload X22.here hx rfl (hb hby at_94) rfl ?_
        show Steps p.tables e below (T22.setTop (mkF m 96 #[.val (.int p0), .val (.long p1), .second, .val (.long p2), .second, .val (.long p3), .second, .val (.long p4), .second, .val (.long p5), .second, .val (.int (0 : Int32)), .val (.int (1 : Int32)), .val (.ref b1), .val (.int (1 : Int32))] [(.int (1 : Int32))])) _
        refine XS.iconst X22.here hx rfl (hb hby at_96) ?_
        show Steps p.tables e below (T22.setTop (mkF m 97 #[.val (.int p0), .val (.long p1), .second, .val (.long p2), .second, .val (.long p3), .second, .val (.long p4), .second, .val (.long p5), .second, .val (.int (0 : Int32)), .val (.int (1 : Int32)), .val (.ref b1), .val (.int (1 : Int32))] [(.int (2 : Int32)), (.int (1 : Int32))])) _
        refine XS.icmpYes X22.here hx rfl (pc0 := 97) (pc' := 107) rfl (hb hby at_97) rfl (tlt (by decide)).1 (by decide) (by decide) ?_
        show Steps p.tables e below (T22.setTop (mkF m 107 #[.val (.int p0), .val (.long p1), .second, .val (.long p2), .second, .val (.long p3), .second, .val (.long p4), .second, .val (.long p5), .second, .val (.int (0 : Int32)), .val (.int (1 : Int32)), .val (.ref b1), .val (.int (1 : Int32))] [])) _
        refine XS.iload X22.here hx rfl (hb hby at_107) rfl ?_
        show Steps p.tables e below (T22.setTop (mkF m 109 #[.val (.int p0), .val (.long p1), .second, .val (.long p2), .second, .val (.long p3), .second, .val (.long p4), .second, .val (.long p5), .second, .val (.int (0 : Int32)), .val (.int (1 : Int32)), .val (.ref b1), .val (.int (1 : Int32))] [(.int (1 : Int32))])) _
        refine XS.ifNo X22.here hx rfl (hb hby at_109) rfl ((if0 _ _).trans (feq (by decide)).1) ?_
        show Steps p.tables e below (T22.setTop (mkF m 112 #[.val (.int p0), .val (.long p1), .second, .val (.long p2), .second, .val (.long p3), .second, .val (.long p4), .second, .val (.long p5), .second, .val (.int (0 : Int32)), .val (.int (1 : Int32)), .val (.ref b1), .val (.int (1 : Int32))] [])) _
        refine XS.aload X22.here hx rfl (hb hby at_112) rfl rfl ?_
        show Steps p.tables e below (T22.setTop (mkF m 114 #[.val (.int p0), .val (.long p1), .second, .val (.long p2), .second, .val (.long p3), .second, .val (.long p4), .second, .val (.long p5), .second, .val (.int (0 : Int32)), .val (.int (1 : Int32)), .val (.ref b1), .val (.int (1 : Int32))] [(.ref b1)])) _
        refine st23.trans ?_
        show Steps p.tables e below (T23.setTop (mkF m 117 #[.val (.int p0), .val (.long p1), .second, .val (.long p2), .second, .val (.long p3), .second, .val (.long p4), .second, .val (.long p5), .second, .val (.int (0 : Int32)), .val (.int (1 : Int32)), .val (.ref b1), .val (.int (1 : Int32))] [(.int (1 : Int32))])) _
        refine XS.iload X23.here hx rfl (hb hby at_117) rfl ?_
        show Steps p.tables e below (T23.setTop (mkF m 119 #[.val (.int p0), .val (.long p1), .second, .val (.long p2), .second, .val (.long p3), .second, .val (.long p4), .second, .val (.long p5), .second, .val (.int (0 : Int32)), .val (.int (1 : Int32)), .val (.ref b1), .val (.int (1 : Int32))] [(.int (1 : Int32)), (.int (1 : Int32))])) _
        refine XS.icmpNo X23.here hx rfl (hb hby at_119) rfl (teq (by decide)).2 ?_
        show Steps p.tables e below (T23.setTop (mkF m 122 #[.val (.int p0), .val (.long p1), .second, .val (.long p2), .second, .val (.long p3), .second, .val (.long p4), .second, .val (.long p5), .second, .val (.int (0 : Int32)), .val (.int (1 : Int32)), .val (.ref b1), .val (.int (1 : Int32))] [])) _
        refine XS.iconst X23.here hx rfl (hb hby at_122) ?_
        show Steps p.tables e below (T23.setTop (mkF m 123 #[.val (.int p0), .val (.long p1), .second, .val (.long p2), .second, .val (.long p3), .second, .val (.long p4), .second, .val (.long p5), .second, .val (.int (0 : Int32)), .val (.int (1 : Int32)), .val (.ref b1), .val (.int (1 : Int32))] [(.int (1 : Int32))])) _
        refine XS.goto X23.here hx rfl (pc0 := 123) (pc' := 127) rfl (hb hby at_123) (by decide) (by decide) ?_
        show Steps p.tables e below (T23.setTop (mkF m 127 #[.val (.int p0), .val (.long p1), .second, .val (.long p2), .second, .val (.long p3), .second, .val (.long p4), .second, .val (.long p5), .second, .val (.int (0 : Int32)), .val (.int (1 : Int32)), .val (.ref b1), .val (.int (1 : Int32))] [(.int (1 : Int32))])) _
        refine XS.istore X23.here hx rfl (hb hby at_127) rfl (l' := #[.val (.int p0), .val (.long p1), .second, .val (.long p2), .second, .val (.long p3), .second, .val (.long p4), .second, .val (.long p5), .second, .val (.int (0 : Int32)), .val (.int (1 : Int32)), .val (.ref b1), .val (.int (1 : Int32))]) rfl ?_
        show Steps p.tables e below (T23.setTop (mkF m 129 #[.val (.int p0), .val (.long p1), .second, .val (.long p2), .second, .val (.long p3), .second, .val (.long p4), .second, .val (.long p5), .second, .val (.int (0 : Int32)), .val (.int (1 : Int32)), .val (.ref b1), .val (.int (1 : Int32))] [])) _
        refine XS.iload X23.here hx rfl (hb hby at_129) rfl ?_
        show Steps p.tables e below (T23.setTop (mkF m 131 #[.val (.int p0), .val (.long p1), .second, .val (.long p2), .second, .val (.long p3), .second, .val (.long p4), .second, .val (.long p5), .second, .val (.int (0 : Int32)), .val (.int (1 : Int32)), .val (.ref b1), .val (.int (1 : Int32))] [(.int (1 : Int32))])) _
        refine XS.iconst X23.here hx rfl (hb hby at_131) ?_
        show Steps p.tables e below (T23.setTop (mkF m 132 #[.val (.int p0), .val (.long p1), .second, .val (.long p2), .second, .val (.long p3), .second, .val (.long p4), .second, .val (.long p5), .second, .val (.int (0 : Int32)), .val (.int (1 : Int32)), .val (.ref b1), .val (.int (1 : Int32))] [(.int (1 : Int32)), (.int (1 : Int32))])) _
        refine XS.icmpNo X23.here hx rfl (hb hby at_132) rfl (flt (by decide)).1 ?_
        show Steps p.tables e below (T23.setTop (mkF m 135 #[.val (.int p0), .val (.long p1), .second, .val (.long p2), .second, .val (.long p3), .second, .val (.long p4), .second, .val (.long p5), .second, .val (.int (0 : Int32)), .val (.int (1 : Int32)), .val (.ref b1), .val (.int (1 : Int32))] [])) _
        refine XS.iload X23.here hx rfl (hb hby at_135) rfl ?_
        show Steps p.tables e below (T23.setTop (mkF m 137 #[.val (.int p0), .val (.long p1), .second, .val (.long p2), .second, .val (.long p3), .second, .val (.long p4), .second, .val (.long p5), .second, .val (.int (0 : Int32)), .val (.int (1 : Int32)), .val (.ref b1), .val (.int (1 : Int32))] [(.int (1 : Int32))])) _
        refine XS.ifNo X23.here hx rfl (hb hby at_137) rfl ((if0 _ _).trans (feq (by decide)).1) ?_
        show Steps p.tables e below (T23.setTop (mkF m 140 #[.val (.int p0), .val (.long p1), .second, .val (.long p2), .second, .val (.long p3), .second, .val (.long p4), .second, .val (.long p5), .second, .val (.int (0 : Int32)), .val (.int (1 : Int32)), .val (.ref b1), .val (.int (1 : Int32))] [])) _
        refine XS.aload X23.here hx rfl (hb hby at_140) rfl rfl ?_
        show Steps p.tables e below (T23.setTop (mkF m 142 #[.val (.int p0), .val (.long p1), .second, .val (.long p2), .second, .val (.long p3), .second, .val (.long p4), .second, .val (.long p5), .second, .val (.int (0 : Int32)), .val (.int (1 : Int32)), .val (.ref b1), .val (.int (1 : Int32))] [(.ref b1)])) _
        refine XS.iconst X23.here hx rfl (hb hby at_142) ?_
        show Steps p.tables e below (T23.setTop (mkF m 143 #[.val (.int p0), .val (.long p1), .second, .val (.long p2), .second, .val (.long p3), .second, .val (.long p4), .second, .val (.long p5), .second, .val (.int (0 : Int32)), .val (.int (1 : Int32)), .val (.ref b1), .val (.int (1 : Int32))] [(.int (0 : Int32)), (.ref b1)])) _
        refine st24.trans ?_
        show Steps p.tables e below (T24.setTop (mkF m 146 #[.val (.int p0), .val (.long p1), .second, .val (.long p2), .second, .val (.long p3), .second, .val (.long p4), .second, .val (.long p5), .second, .val (.int (0 : Int32)), .val (.int (1 : Int32)), .val (.ref b1), .val (.int (1 : Int32))] [(.long p4)])) _
        refine XS.lload X24.here hx rfl (hb hby at_146) rfl ?_
        show Steps p.tables e below (T24.setTop (mkF m 148 #[.val (.int p0), .val (.long p1), .second, .val (.long p2), .second, .val (.long p3), .second, .val (.long p4), .second, .val (.long p5), .second, .val (.int (0 : Int32)), .val (.int (1 : Int32)), .val (.ref b1), .val (.int (1 : Int32))] [(.long p4), (.long p4)])) _
        refine XS.lcmp X24.here hx rfl (hb hby at_148) rfl ?_
        show Steps p.tables e below (T24.setTop (mkF m 149 #[.val (.int p0), .val (.long p1), .second, .val (.long p2), .second, .val (.long p3), .second, .val (.long p4), .second, .val (.long p5), .second, .val (.int (0 : Int32)), .val (.int (1 : Int32)), .val (.ref b1), .val (.int (1 : Int32))] [(.int (lcmpW p4 p4))])) _
        refine XS.ifNo X24.here hx rfl (hb hby at_149) rfl ((if0 _ _).trans (teq ((lw_eq _ _).mpr rfl)).2) ?_
        show Steps p.tables e below (T24.setTop (mkF m 152 #[.val (.int p0), .val (.long p1), .second, .val (.long p2), .second, .val (.long p3), .second, .val (.long p4), .second, .val (.long p5), .second, .val (.int (0 : Int32)), .val (.int (1 : Int32)), .val (.ref b1), .val (.int (1 : Int32))] [])) _
        refine XS.iconst X24.here hx rfl (hb hby at_152) ?_
        show Steps p.tables e below (T24.setTop (mkF m 153 #[.val (.int p0), .val (.long p1), .second, .val (.long p2), .second, .val (.long p3), .second, .val (.long p4), .second, .val (.long p5), .second, .val (.int (0 : Int32)), .val (.int (1 : Int32)), .val (.ref b1), .val (.int (1 : Int32))] [(.int (1 : Int32))])) _
        refine XS.goto X24.here hx rfl (pc0 := 153) (pc' := 157) rfl (hb hby at_153) (by decide) (by decide) ?_
        show Steps p.tables e below (T24.setTop (mkF m 157 #[.val (.int p0), .val (.long p1), .second, .val (.long p2), .second, .val (.long p3), .second, .val (.long p4), .second, .val (.long p5), .second, .val (.int (0 : Int32)), .val (.int (1 : Int32)), .val (.ref b1), .val (.int (1 : Int32))] [(.int (1 : Int32))])) _
        refine XS.istore X24.here hx rfl (hb hby at_157) rfl (l' := #[.val (.int p0), .val (.long p1), .second, .val (.long p2), .second, .val (.long p3), .second, .val (.long p4), .second, .val (.long p5), .second, .val (.int (0 : Int32)), .val (.int (1 : Int32)), .val (.ref b1), .val (.int (1 : Int32))]) rfl ?_
        show Steps p.tables e below (T24.setTop (mkF m 159 #[.val (.int p0), .val (.long p1), .second, .val (.long p2), .second, .val (.long p3), .second, .val (.long p4), .second, .val (.long p5), .second, .val (.int (0 : Int32)), .val (.int (1 : Int32)), .val (.ref b1), .val (.int (1 : Int32))] [])) _
        refine XS.iload X24.here hx rfl (hb hby at_159) rfl ?_
        show Steps p.tables e below (T24.setTop (mkF m 161 #[.val (.int p0), .val (.long p1), .second, .val (.long p2), .second, .val (.long p3), .second, .val (.long p4), .second, .val (.long p5), .second, .val (.int (0 : Int32)), .val (.int (1 : Int32)), .val (.ref b1), .val (.int (1 : Int32))] [(.int (1 : Int32))])) _
        refine XS.iconst X24.here hx rfl (hb hby at_161) ?_
        show Steps p.tables e below (T24.setTop (mkF m 162 #[.val (.int p0), .val (.long p1), .second, .val (.long p2), .second, .val (.long p3), .second, .val (.long p4), .second, .val (.long p5), .second, .val (.int (0 : Int32)), .val (.int (1 : Int32)), .val (.ref b1), .val (.int (1 : Int32))] [(.int (2 : Int32)), (.int (1 : Int32))])) _
        refine XS.icmpYes X24.here hx rfl (pc0 := 162) (pc' := 189) rfl (hb hby at_162) rfl (tlt (by decide)).1 (by decide) (by decide) ?_
        show Steps p.tables e below (T24.setTop (mkF m 189 #[.val (.int p0), .val (.long p1), .second, .val (.long p2), .second, .val (.long p3), .second, .val (.long p4), .second, .val (.long p5), .second, .val (.int (0 : Int32)), .val (.int (1 : Int32)), .val (.ref b1), .val (.int (1 : Int32))] [])) _
        refine XS.iload X24.here hx rfl (hb hby at_189) rfl ?_
        exact Steps.refl _
      obtain ⟨fs, hr, hrun, hended, hW, hsame⟩ := X24.leave (v := some (.int (1 : Int32))) (fun h => by rw [Bd.returns] at h; cases h)
      refine ⟨_, _, s25.trans ?_, hrun, hended, _, _, rfl, ?_, ⟨_, rfl⟩, hW, hsame.mono (by decide) (by decide)⟩
      · show Steps p.tables e below (T24.setTop (mkF m 191 #[.val (.int p0), .val (.long p1), .second, .val (.long p2), .second, .val (.long p3), .second, .val (.long p4), .second, .val (.long p5), .second, .val (.int (0 : Int32)), .val (.int (1 : Int32)), .val (.ref b1), .val (.int (1 : Int32))] [(.int (1 : Int32))])) _
        exact retN X24 hx (t := .boolean) Bd.returns (by simp) (hb hby at_191) hr
      · show Q0 Z p0 p1 p2 p3 p4 p5 h0 n0 _ T24.heap _
        rw [e24]
        exact ⟨rfl, N24⟩
    · have s26 := s16
      rw [hk17] at s26
      obtain ⟨cq27, kq27, q27a, q27b, q27c⟩ := isOf hZ e15 f10_0
      obtain ⟨_, _, ⟨T27, L27, k27, n27⟩, -, X27, ⟨Lc27, hQ27, l27, y27, z27⟩, st27⟩ := X15.virtualBack hx (y := (⟨"com/example/strikewire/strikewire/engine/LongList", "add", "(J)V"⟩ : MethodName)) (z := (⟨"com/example/strikewire/strikewire/engine/LongList", "add", "(J)V"⟩ : MethodName)) hown (mvT hZ (hw _ (List.mem_of_getElem? (i := 27) rfl))) (mvT hZ (hw _ (List.mem_of_getElem? (i := 28) rfl))) (notFace_of_selects (args := #[]) (mvT hZ (hw _ (List.mem_of_getElem? (i := 30) rfl)))) (mvT hZ (hw _ (List.mem_of_getElem? (i := 30) rfl))) (mvT hZ (hw _ (List.mem_of_getElem? (i := 29) rfl))) (by decide) (backOf (W := 0) (rma0 l Z a0 hw [] b1 p4 u11 u12 u13 u14 (0 : Int64) (0 : Int64) (0 : Int64) (0 : Int64) (0 : Int64) (0 : Int64) (0 : Int64) (0 : Int64) T10.heap n0 O10 f10_0 f10_1 f10_3 f10_2 f10_4 g_b1 g_u12 ne_b1_u11 ne_b1_u12 f10_7) hZ (hw _ (List.mem_of_getElem? (i := 31) rfl)) (hw _ (List.mem_of_getElem? (i := 3) rfl)) (by decide) (by decide)) q27a q27c (g := (mkF m 91 #[.val (.int p0), .val (.long p1), .second, .val (.long p2), .second, .val (.long p3), .second, .val (.long p4), .second, .val (.long p5), .second, .val (.int (0 : Int32)), .val (.int (2 : Int32)), .val (.ref b1), .val (.int (1 : Int32))] [(.long p4), (.ref b1)])) rfl (by rw [hml]; rfl) (Steps.refl _) (argsL := [(.long p4)]) (rest := []) (lenOf pd_rm0_2 rfl) rfl (by show 2 * 0 + _ ≤ _; exact Nat.le_of_eq rfl) (hb hby at_91) (fun _ _ => ⟨rfl, e15, (by decide : 5 + 0 ≤ _), (by decide : 20 + 0 ≤ _)⟩)
      dsimp only [Pt.U, Pt.locs, Pt.cells, Pt.slots] at X27 l27 y27 z27 st27 hQ27
      subst l27 y27 z27
      obtain ⟨rfl, Nq27, Kc27, f27_0, f27_1, f27_2, f27_3, f27_4⟩ := hQ27
      have N27 := Fr.app N15 Nq27
      have O27 := O10.keep Kc27 (allS g_b1 (allS g_u12 all0))
      obtain ⟨cq28, kq28, q28a, q28b, q28c⟩ := isOf hZ (rfl : T27.heap = T27.heap) f27_0
      obtain ⟨_, _, ⟨T28, L28, k28, n28⟩, -, X28, ⟨Lc28, hQ28, l28, y28, z28⟩, st28⟩ := X27.virtualBack hx (y := (⟨"com/example/strikewire/strikewire/engine/LongList", "add", "(J)V"⟩ : MethodName)) (z := (⟨"com/example/strikewire/strikewire/engine/LongList", "add", "(J)V"⟩ : MethodName)) hown (mvT hZ (hw _ (List.mem_of_getElem? (i := 27) rfl))) (mvT hZ (hw _ (List.mem_of_getElem? (i := 28) rfl))) (notFace_of_selects (args := #[]) (mvT hZ (hw _ (List.mem_of_getElem? (i := 30) rfl)))) (mvT hZ (hw _ (List.mem_of_getElem? (i := 30) rfl))) (mvT hZ (hw _ (List.mem_of_getElem? (i := 29) rfl))) (by decide) (backOf (W := 0) (rma1 l Z a0 hw [] b1 p5 u11 u12 u13 u14 p4 (0 : Int64) (0 : Int64) (0 : Int64) (0 : Int64) (0 : Int64) (0 : Int64) (0 : Int64) T27.heap n0 O27 f27_0 f27_1 f27_2 f27_3 f27_4 g_b1 g_u12 ne_b1_u11 ne_b1_u12 f10_7) hZ (hw _ (List.mem_of_getElem? (i := 31) rfl)) (hw _ (List.mem_of_getElem? (i := 3) rfl)) (by decide) (by decide)) q28a q28c (g := (mkF m 104 #[.val (.int p0), .val (.long p1), .second, .val (.long p2), .second, .val (.long p3), .second, .val (.long p4), .second, .val (.long p5), .second, .val (.int (0 : Int32)), .val (.int (2 : Int32)), .val (.ref b1), .val (.int (1 : Int32))] [(.long p5), (.ref b1)])) rfl (by rw [hml]; rfl) (Steps.refl _) (argsL := [(.long p5)]) (rest := []) (lenOf pd_rm0_2 rfl) rfl (by show 2 * 0 + _ ≤ _; exact Nat.le_of_eq rfl) (hb hby at_104) (fun _ _ => ⟨rfl, (rfl : T27.heap = T27.heap), (by decide : 5 + 0 ≤ _), (by decide : 20 + 0 ≤ _)⟩)
      dsimp only [Pt.U, Pt.locs, Pt.cells, Pt.slots] at X28 l28 y28 z28 st28 hQ28
      subst l28 y28 z28
      obtain ⟨rfl, Nq28, Kc28, f28_0, f28_1, f28_2, f28_3, f28_4⟩ := hQ28
      have N28 := Fr.app N27 Nq28
      have O28 := O27.keep Kc28 (allS g_b1 (allS g_u12 all0))
      obtain ⟨cq29, kq29, q29a, q29b, q29c⟩ := isOf hZ (rfl : T28.heap = T28.heap) f28_0
      obtain ⟨_, _, ⟨T29, L29, k29, n29⟩, -, X29, ⟨Lc29, hQ29, l29, y29, z29⟩, st29⟩ := X28.virtualBack hx (y := (⟨"com/example/strikewire/strikewire/engine/LongList", "size", "()I"⟩ : MethodName)) (z := (⟨"com/example/strikewire/strikewire/engine/LongList", "size", "()I"⟩ : MethodName)) hown (mvT hZ (hw _ (List.mem_of_getElem? (i := 22) rfl))) (mvT hZ (hw _ (List.mem_of_getElem? (i := 23) rfl))) (notFace_of_selects (args := #[]) (mvT hZ (hw _ (List.mem_of_getElem? (i := 25) rfl)))) (mvT hZ (hw _ (List.mem_of_getElem? (i := 25) rfl))) (mvT hZ (hw _ (List.mem_of_getElem? (i := 24) rfl))) (by decide) (backOf (W := 0) (rm4 l Z a0 hw [] b1 (2 : Int32) T28.heap n0 O28 f28_3) hZ (hw _ (List.mem_of_getElem? (i := 26) rfl)) (hw _ (List.mem_of_getElem? (i := 3) rfl)) (by decide) (by decide)) q29a q29c (g := (mkF m 114 #[.val (.int p0), .val (.long p1), .second, .val (.long p2), .second, .val (.long p3), .second, .val (.long p4), .second, .val (.long p5), .second, .val (.int (0 : Int32)), .val (.int (2 : Int32)), .val (.ref b1), .val (.int (1 : Int32))] [(.ref b1)])) rfl (by rw [hml]; rfl) (Steps.refl _) (argsL := []) (rest := []) (lenOf pd_rm0_1 rfl) rfl (by show 2 * 0 + _ ≤ _; exact Nat.le_of_eq rfl) (hb hby at_114) (fun _ _ => ⟨rfl, (rfl : T28.heap = T28.heap), (by decide : 5 + 0 ≤ _), (by decide : 20 + 0 ≤ _)⟩)
      dsimp only [Pt.U, Pt.locs, Pt.cells, Pt.slots] at X29 l29 y29 z29 st29 hQ29
      subst l29 y29 z29
      obtain ⟨rfl, Nq29, e29⟩ := hQ29
      have N29 := Fr.app N28 Nq29
      obtain ⟨cq30, kq30, q30a, q30b, q30c⟩ := isOf hZ e29 f28_0
      obtain ⟨_, _, ⟨T30, L30, k30, n30⟩, -, X30, ⟨Lc30, hQ30, l30, y30, z30⟩, st30⟩ := X29.virtualBack hx (y := (⟨"com/example/strikewire/strikewire/engine/LongList", "get", "(I)J"⟩ : MethodName)) (z := (⟨"com/example/strikewire/strikewire/engine/LongList", "get", "(I)J"⟩ : MethodName)) hown (mvT hZ (hw _ (List.mem_of_getElem? (i := 34) rfl))) (mvT hZ (hw _ (List.mem_of_getElem? (i := 35) rfl))) (notFace_of_selects (args := #[]) (mvT hZ (hw _ (List.mem_of_getElem? (i := 37) rfl)))) (mvT hZ (hw _ (List.mem_of_getElem? (i := 37) rfl))) (mvT hZ (hw _ (List.mem_of_getElem? (i := 36) rfl))) (by decide) (backOf (W := 0) (rmg0_2 l Z a0 hw [] b1 u11 u12 u13 u14 p4 p5 (0 : Int64) (0 : Int64) (0 : Int64) (0 : Int64) (0 : Int64) (0 : Int64) T28.heap n0 O28 f28_0 f28_1 f28_2 f28_3 f28_4) hZ (hw _ (List.mem_of_getElem? (i := 38) rfl)) (hw _ (List.mem_of_getElem? (i := 3) rfl)) (by decide) (by decide)) q30a q30c (g := (mkF m 143 #[.val (.int p0), .val (.long p1), .second, .val (.long p2), .second, .val (.long p3), .second, .val (.long p4), .second, .val (.long p5), .second, .val (.int (0 : Int32)), .val (.int (2 : Int32)), .val (.ref b1), .val (.int (1 : Int32))] [(.int (0 : Int32)), (.ref b1)])) rfl (by rw [hml]; rfl) (Steps.refl _) (argsL := [(.int (0 : Int32))]) (rest := []) (lenOf pd_rm0_3 rfl) rfl (by show 2 * 0 + _ ≤ _; exact Nat.le_of_eq rfl) (hb hby at_143) (fun _ _ => ⟨rfl, e29, (by decide : 5 + 0 ≤ _), (by decide : 20 + 0 ≤ _)⟩)
      dsimp only [Pt.U, Pt.locs, Pt.cells, Pt.slots] at X30 l30 y30 z30 st30 hQ30
      subst l30 y30 z30
      obtain ⟨rfl, Nq30, e30⟩ := hQ30
      have N30 := Fr.app N29 Nq30
      obtain ⟨cq31, kq31, q31a, q31b, q31c⟩ := isOf hZ e30 f28_0
      obtain ⟨_, _, ⟨T31, L31, k31, n31⟩, -, X31, ⟨Lc31, hQ31, l31, y31, z31⟩, st31⟩ := X30.virtualBack hx (y := (⟨"com/example/strikewire/strikewire/engine/LongList", "get", "(I)J"⟩ : MethodName)) (z := (⟨"com/example/strikewire/strikewire/engine/LongList", "get", "(I)J"⟩ : MethodName)) hown (mvT hZ (hw _ (List.mem_of_getElem? (i := 34) rfl))) (mvT hZ (hw _ (List.mem_of_getElem? (i := 35) rfl))) (notFace_of_selects (args := #[]) (mvT hZ (hw _ (List.mem_of_getElem? (i := 37) rfl)))) (mvT hZ (hw _ (List.mem_of_getElem? (i := 37) rfl))) (mvT hZ (hw _ (List.mem_of_getElem? (i := 36) rfl))) (by decide) (backOf (W := 0) (rmg1_2 l Z a0 hw [] b1 u11 u12 u13 u14 p4 p5 (0 : Int64) (0 : Int64) (0 : Int64) (0 : Int64) (0 : Int64) (0 : Int64) T28.heap n0 O28 f28_0 f28_1 f28_2 f28_3 f28_4) hZ (hw _ (List.mem_of_getElem? (i := 38) rfl)) (hw _ (List.mem_of_getElem? (i := 3) rfl)) (by decide) (by decide)) q31a q31c (g := (mkF m 173 #[.val (.int p0), .val (.long p1), .second, .val (.long p2), .second, .val (.long p3), .second, .val (.long p4), .second, .val (.long p5), .second, .val (.int (0 : Int32)), .val (.int (2 : Int32)), .val (.ref b1), .val (.int (1 : Int32))] [(.int (1 : Int32)), (.ref b1)])) rfl (by rw [hml]; rfl) (Steps.refl _) (argsL := [(.int (1 : Int32))]) (rest := []) (lenOf pd_rm0_3 rfl) rfl (by show 2 * 0 + _ ≤ _; exact Nat.le_of_eq rfl) (hb hby at_173) (fun _ _ => ⟨rfl, e30, (by decide : 5 + 0 ≤ _), (by decide : 20 + 0 ≤ _)⟩)
      dsimp only [Pt.U, Pt.locs, Pt.cells, Pt.slots] at X31 l31 y31 z31 st31 hQ31
      subst l31 y31 z31
      obtain ⟨rfl, Nq31, e31⟩ := hQ31
      have N31 := Fr.app N30 Nq31
      have s32 : Steps p.tables e below (s₁.setTop (entryFrame m #[(.int p0), (.long p1), (.long p2), (.long p3), (.long p4), (.long p5)] maxLocals)) (T31.setTop (mkF m 191 #[.val (.int p0), .val (.long p1), .second, .val (.long p2), .second, .val (.long p3), .second, .val (.long p4), .second, .val (.long p5), .second, .val (.int (0 : Int32)), .val (.int (2 : Int32)), .val (.ref b1), .val (.int (1 : Int32))] [(.int (1 : Int32))])) := by
        refine s26.trans ?_
        show Steps p.tables e below (T15.setTop (mkF m 81 #[.val (.int p0), .val (.long p1), .second, .val (.long p2), .second, .val (.long p3), .second, .val (.long p4), .second, .val (.long p5), .second, .val (.int (0 : Int32)), .val (.int (2 : Int32)), .val (.ref b1), .val (.int (1 : Int32))] [])) _
        refine XS.iload X15.here hx rfl (hb hby at_81) rfl ?_
        show Steps p.tables e below (T15.setTop (mkF m 83 #[.val (.int p0), .val (.long p1), .second, .val (.long p2), .second, .val (.long p3), .second, .val (.long p4), .second, .val (.long p5), .second, .val (.int (0 : Int32)), .val (.int (2 : Int32)), .val (.ref b1), .val (.int (1 : Int32))] [(.int (2 : Int32))])) _
        refine XS.iconst X15.here hx rfl (hb hby at_83) ?_
        show Steps p.tables e below (T15.setTop (mkF m 84 #[.val (.int p0), .val (.long p1), .second, .val (.long p2), .second, .val (.long p3), .second, .val (.long p4), .second, .val (.long p5), .second, .val (.int (0 : Int32)), .val (.int (2 : Int32)), .val (.ref b1), .val (.int (1 : Int32))] [(.int (1 : Int32)), (.int (2 : Int32))])) _
        refine XS.icmpNo X15.here hx rfl (hb hby at_84) rfl (flt (by decide)).1 ?_
        show Steps p.tables e below (T15.setTop (mkF m 87 #[.val (.int p0), .val (.long p1), .second, .val (.long p2), .second, .val (.long p3), .second, .val (.long p4), .second, .val (.long p5), .second, .val (.int (0 : Int32)), .val (.int (2 : Int32)), .val (.ref b1), .val (.int (1 : Int32))] [])) _
        refine XS.aload X15.here hx rfl (hb hby at_87) rfl rfl ?_
        show Steps p.tables e below (T15.setTop (mkF m 89 #[.val (.int p0), .val (.long p1), .second, .val (.long p2), .second, .val (.long p3), .second, .val (.long p4), .second, .val (.long p5), .second, .val (.int (0 : Int32)), .val (.int (2 : Int32)), .val (.ref b1), .val (.int (1 : Int32))] [(.ref b1)])) _
        refine XS.lload X15.here hx rfl (hb hby at_89) rfl ?_
        show Steps p.tables e below (T15.setTop (mkF m 91 #[.val (.int p0), .val (.long p1), .second, .val (.long p2), .second, .val (.long p3), .second, .val (.long p4), .second, .val (.long p5), .second, .val (.int (0 : Int32)), .val (.int (2 : Int32)), .val (.ref b1), .val (.int (1 : Int32))] [(.long p4), (.ref b1)])) _
        refine st27.trans ?_
        show Steps p.tables e below (T27.setTop (mkF m 94 #[.val (.int p0), .val (.long p1), .second, .val (.long p2), .second, .val (.long p3), .second, .val (.long p4), .second, .val (.long p5), .second, .val (.int (0 : Int32)), .val (.int (2 : Int32)), .val (.ref b1), .val (.int (1 : Int32))] [])) _
        refine XS.iload X27.here hx rfl (hb hby at_94) rfl ?_
        show Steps p.tables e below (T27.setTop (mkF m 96 #[.val (.int p0), .val (.long p1), .second, .val (.long p2), .second, .val (.long p3), .second, .val (.long p4), .second, .val (.long p5), .second, .val (.int (0 : Int32)), .val (.int (2 : Int32)), .val (.ref b1), .val (.int (1 : Int32))] [(.int (2 : Int32))])) _
        refine XS.iconst X27.here hx rfl (hb hby at_96) ?_
        show Steps p.tables e below (T27.setTop (mkF m 97 #[.val (.int p0), .val (.long p1), .second, .val (.long p2), .second, .val (.long p3), .second, .val (.long p4), .second, .val (.long p5), .second, .val (.int (0 : Int32)), .val (.int (2 : Int32)), .val (.ref b1), .val (.int (1 : Int32))] [(.int (2 : Int32)), (.int (2 : Int32))])) _
        refine XS.icmpNo X27.here hx rfl (hb hby at_97) rfl (flt (by decide)).1 ?_
        show Steps p.tables e below (T27.setTop (mkF m 100 #[.val (.int p0), .val (.long p1), .second, .val (.long p2), .second, .val (.long p3), .second, .val (.long p4), .second, .val (.long p5), .second, .val (.int (0 : Int32)), .val (.int (2 : Int32)), .val (.ref b1), .val (.int (1 : Int32))] [])) _
        refine XS.aload X27.here hx rfl (hb hby at_100) rfl rfl ?_
        show Steps p.tables e below (T27.setTop (mkF m 102 #[.val (.int p0), .val (.long p1), .second, .val (.long p2), .second, .val (.long p3), .second, .val (.long p4), .second, .val (.long p5), .second, .val (.int (0 : Int32)), .val (.int (2 : Int32)), .val (.ref b1), .val (.int (1 : Int32))] [(.ref b1)])) _
        refine XS.lload X27.here hx rfl (hb hby at_102) rfl ?_
        show Steps p.tables e below (T27.setTop (mkF m 104 #[.val (.int p0), .val (.long p1), .second, .val (.long p2), .second, .val (.long p3), .second, .val (.long p4), .second, .val (.long p5), .second, .val (.int (0 : Int32)), .val (.int (2 : Int32)), .val (.ref b1), .val (.int (1 : Int32))] [(.long p5), (.ref b1)])) _
        refine st28.trans ?_
        show Steps p.tables e below (T28.setTop (mkF m 107 #[.val (.int p0), .val (.long p1), .second, .val (.long p2), .second, .val (.long p3), .second, .val (.long p4), .second, .val (.long p5), .second, .val (.int (0 : Int32)), .val (.int (2 : Int32)), .val (.ref b1), .val (.int (1 : Int32))] [])) _
        refine XS.iload X28.here hx rfl (hb hby at_107) rfl ?_
        show Steps p.tables e below (T28.setTop (mkF m 109 #[.val (.int p0), .val (.long p1), .second, .val (.long p2), .second, .val (.long p3), .second, .val (.long p4), .second, .val (.long p5), .second, .val (.int (0 : Int32)), .val (.int (2 : Int32)), .val (.ref b1), .val (.int (1 : Int32))] [(.int (1 : Int32))])) _
        refine XS.ifNo X28.here hx rfl (hb hby at_109) rfl ((if0 _ _).trans (feq (by decide)).1) ?_
        show Steps p.tables e below (T28.setTop (mkF m 112 #[.val (.int p0), .val (.long p1), .second, .val (.long p2), .second, .val (.long p3), .second, .val (.long p4), .second, .val (.long p5), .second, .val (.int (0 : Int32)), .val (.int (2 : Int32)), .val (.ref b1), .val (.int (1 : Int32))] [])) _
        refine XS.aload X28.here hx rfl (hb hby at_112) rfl rfl ?_
        show Steps p.tables e below (T28.setTop (mkF m 114 #[.val (.int p0), .val (.long p1), .second, .val (.long p2), .second, .val (.long p3), .second, .val (.long p4), .second, .val (.long p5), .second, .val (.int (0 : Int32)), .val (.int (2 : Int32)), .val (.ref b1), .val (.int (1 : Int32))] [(.ref b1)])) _
        refine st29.trans ?_
        show Steps p.tables e below (T29.setTop (mkF m 117 #[.val (.int p0), .val (.long p1), .second, .val (.long p2), .second, .val (.long p3), .second, .val (.long p4), .second, .val (.long p5), .second, .val (.int (0 : Int32)), .val (.int (2 : Int32)), .val (.ref b1), .val (.int (1 : Int32))] [(.int (2 : Int32))])) _
        refine XS.iload X29.here hx rfl (hb hby at_117) rfl ?_
        show Steps p.tables e below (T29.setTop (mkF m 119 #[.val (.int p0), .val (.long p1), .second, .val (.long p2), .second, .val (.long p3), .second, .val (.long p4), .second, .val (.long p5), .second, .val (.int (0 : Int32)), .val (.int (2 : Int32)), .val (.ref b1), .val (.int (1 : Int32))] [(.int (2 : Int32)), (.int (2 : Int32))])) _
        refine XS.icmpNo X29.here hx rfl (hb hby at_119) rfl (teq (by decide)).2 ?_
        show Steps p.tables e below (T29.setTop (mkF m 122 #[.val (.int p0), .val (.long p1), .second, .val (.long p2), .second, .val (.long p3), .second, .val (.long p4), .second, .val (.long p5), .second, .val (.int (0 : Int32)), .val (.int (2 : Int32)), .val (.ref b1), .val (.int (1 : Int32))] [])) _
        refine XS.iconst X29.here hx rfl (hb hby at_122) ?_
        show Steps p.tables e below (T29.setTop (mkF m 123 #[.val (.int p0), .val (.long p1), .second, .val (.long p2), .second, .val (.long p3), .second, .val (.long p4), .second, .val (.long p5), .second, .val (.int (0 : Int32)), .val (.int (2 : Int32)), .val (.ref b1), .val (.int (1 : Int32))] [(.int (1 : Int32))])) _
        refine XS.goto X29.here hx rfl (pc0 := 123) (pc' := 127) rfl (hb hby at_123) (by decide) (by decide) ?_
        show Steps p.tables e below (T29.setTop (mkF m 127 #[.val (.int p0), .val (.long p1), .second, .val (.long p2), .second, .val (.long p3), .second, .val (.long p4), .second, .val (.long p5), .second, .val (.int (0 : Int32)), .val (.int (2 : Int32)), .val (.ref b1), .val (.int (1 : Int32))] [(.int (1 : Int32))])) _
        refine XS.istore X29.here hx rfl (hb hby at_127) rfl (l' := #[.val (.int p0), .val (.long p1), .second, .val (.long p2), .second, .val (.long p3), .second, .val (.long p4), .second, .val (.long p5), .second, .val (.int (0 : Int32)), .val (.int (2 : Int32)), .val (.ref b1), .val (.int (1 : Int32))]) rfl ?_
        show Steps p.tables e below (T29.setTop (mkF m 129 #[.val (.int p0), .val (.long p1), .second, .val (.long p2), .second, .val (.long p3), .second, .val (.long p4), .second, .val (.long p5), .second, .val (.int (0 : Int32)), .val (.int (2 : Int32)), .val (.ref b1), .val (.int (1 : Int32))] [])) _
        refine XS.iload X29.here hx rfl (hb hby at_129) rfl ?_
        show Steps p.tables e below (T29.setTop (mkF m 131 #[.val (.int p0), .val (.long p1), .second, .val (.long p2), .second, .val (.long p3), .second, .val (.long p4), .second, .val (.long p5), .second, .val (.int (0 : Int32)), .val (.int (2 : Int32)), .val (.ref b1), .val (.int (1 : Int32))] [(.int (2 : Int32))])) _
        refine XS.iconst X29.here hx rfl (hb hby at_131) ?_
        show Steps p.tables e below (T29.setTop (mkF m 132 #[.val (.int p0), .val (.long p1), .second, .val (.long p2), .second, .val (.long p3), .second, .val (.long p4), .second, .val (.long p5), .second, .val (.int (0 : Int32)), .val (.int (2 : Int32)), .val (.ref b1), .val (.int (1 : Int32))] [(.int (1 : Int32)), (.int (2 : Int32))])) _
        refine XS.icmpNo X29.here hx rfl (hb hby at_132) rfl (flt (by decide)).1 ?_
        show Steps p.tables e below (T29.setTop (mkF m 135 #[.val (.int p0), .val (.long p1), .second, .val (.long p2), .second, .val (.long p3), .second, .val (.long p4), .second, .val (.long p5), .second, .val (.int (0 : Int32)), .val (.int (2 : Int32)), .val (.ref b1), .val (.int (1 : Int32))] [])) _
        refine XS.iload X29.here hx rfl (hb hby at_135) rfl ?_
        show Steps p.tables e below (T29.setTop (mkF m 137 #[.val (.int p0), .val (.long p1), .second, .val (.long p2), .second, .val (.long p3), .second, .val (.long p4), .second, .val (.long p5), .second, .val (.int (0 : Int32)), .val (.int (2 : Int32)), .val (.ref b1), .val (.int (1 : Int32))] [(.int (1 : Int32))])) _
        refine XS.ifNo X29.here hx rfl (hb hby at_137) rfl ((if0 _ _).trans (feq (by decide)).1) ?_
        show Steps p.tables e below (T29.setTop (mkF m 140 #[.val (.int p0), .val (.long p1), .second, .val (.long p2), .second, .val (.long p3), .second, .val (.long p4), .second, .val (.long p5), .second, .val (.int (0 : Int32)), .val (.int (2 : Int32)), .val (.ref b1), .val (.int (1 : Int32))] [])) _
        refine XS.aload X29.here hx rfl (hb hby at_140) rfl rfl ?_
        show Steps p.tables e below (T29.setTop (mkF m 142 #[.val (.int p0), .val (.long p1), .second, .val (.long p2), .second, .val (.long p3), .second, .val (.long p4), .second, .val (.long p5), .second, .val (.int (0 : Int32)), .val (.int (2 : Int32)), .val (.ref b1), .val (.int (1 : Int32))] [(.ref b1)])) _
        refine XS.iconst X29.here hx rfl (hb hby at_142) ?_
        show Steps p.tables e below (T29.setTop (mkF m 143 #[.val (.int p0), .val (.long p1), .second, .val (.long p2), .second, .val (.long p3), .second, .val (.long p4), .second, .val (.long p5), .second, .val (.int (0 : Int32)), .val (.int (2 : Int32)), .val (.ref b1), .val (.int (1 : Int32))] [(.int (0 : Int32)), (.ref b1)])) _
        refine st30.trans ?_
        show Steps p.tables e below (T30.setTop (mkF m 146 #[.val (.int p0), .val (.long p1), .second, .val (.long p2), .second, .val (.long p3), .second, .val (.long p4), .second, .val (.long p5), .second, .val (.int (0 : Int32)), .val (.int (2 : Int32)), .val (.ref b1), .val (.int (1 : Int32))] [(.long p4)])) _
        refine XS.lload X30.here hx rfl (hb hby at_146) rfl ?_
        show Steps p.tables e below (T30.setTop (mkF m 148 #[.val (.int p0), .val (.long p1), .second, .val (.long p2), .second, .val (.long p3), .second, .val (.long p4), .second, .val (.long p5), .second, .val (.int (0 : Int32)), .val (.int (2 : Int32)), .val (.ref b1), .val (.int (1 : Int32))] [(.long p4), (.long p4)])) _
        refine XS.lcmp X30.here hx rfl (hb hby at_148) rfl ?_
        show Steps p.tables e below (T30.setTop (mkF m 149 #[.val (.int p0), .val (.long p1), .second, .val (.long p2), .second, .val (.long p3), .second, .val (.long p4), .second, .val (.long p5), .second, .val (.int (0 : Int32)), .val (.int (2 : Int32)), .val (.ref b1), .val (.int (1 : Int32))] [(.int (lcmpW p4 p4))])) _
        refine XS.ifNo X30.here hx rfl (hb hby at_149) rfl ((if0 _ _).trans (teq ((lw_eq _ _).mpr rfl)).2) ?_
        show Steps p.tables e below (T30.setTop (mkF m 152 #[.val (.int p0), .val (.long p1), .second, .val (.long p2), .second, .val (.long p3), .second, .val (.long p4), .second, .val (.long p5), .second, .val (.int (0 : Int32)), .val (.int (2 : Int32)), .val (.ref b1), .val (.int (1 : Int32))] [])) _
        refine XS.iconst X30.here hx rfl (hb hby at_152) ?_
        show Steps p.tables e below (T30.setTop (mkF m 153 #[.val (.int p0), .val (.long p1), .second, .val (.long p2), .second, .val (.long p3), .second, .val (.long p4), .second, .val (.long p5), .second, .val (.int (0 : Int32)), .val (.int (2 : Int32)), .val (.ref b1), .val (.int (1 : Int32))] [(.int (1 : Int32))])) _
        refine XS.goto X30.here hx rfl (pc0 := 153) (pc' := 157) rfl (hb hby at_153) (by decide) (by decide) ?_
        show Steps p.tables e below (T30.setTop (mkF m 157 #[.val (.int p0), .val (.long p1), .second, .val (.long p2), .second, .val (.long p3), .second, .val (.long p4), .second, .val (.long p5), .second, .val (.int (0 : Int32)), .val (.int (2 : Int32)), .val (.ref b1), .val (.int (1 : Int32))] [(.int (1 : Int32))])) _
        refine XS.istore X30.here hx rfl (hb hby at_157) rfl (l' := #[.val (.int p0), .val (.long p1), .second, .val (.long p2), .second, .val (.long p3), .second, .val (.long p4), .second, .val (.long p5), .second, .val (.int (0 : Int32)), .val (.int (2 : Int32)), .val (.ref b1), .val (.int (1 : Int32))]) rfl ?_
        show Steps p.tables e below (T30.setTop (mkF m 159 #[.val (.int p0), .val (.long p1), .second, .val (.long p2), .second, .val (.long p3), .second, .val (.long p4), .second, .val (.long p5), .second, .val (.int (0 : Int32)), .val (.int (2 : Int32)), .val (.ref b1), .val (.int (1 : Int32))] [])) _
        refine XS.iload X30.here hx rfl (hb hby at_159) rfl ?_
        show Steps p.tables e below (T30.setTop (mkF m 161 #[.val (.int p0), .val (.long p1), .second, .val (.long p2), .second, .val (.long p3), .second, .val (.long p4), .second, .val (.long p5), .second, .val (.int (0 : Int32)), .val (.int (2 : Int32)), .val (.ref b1), .val (.int (1 : Int32))] [(.int (2 : Int32))])) _
        refine XS.iconst X30.here hx rfl (hb hby at_161) ?_
        show Steps p.tables e below (T30.setTop (mkF m 162 #[.val (.int p0), .val (.long p1), .second, .val (.long p2), .second, .val (.long p3), .second, .val (.long p4), .second, .val (.long p5), .second, .val (.int (0 : Int32)), .val (.int (2 : Int32)), .val (.ref b1), .val (.int (1 : Int32))] [(.int (2 : Int32)), (.int (2 : Int32))])) _
        refine XS.icmpNo X30.here hx rfl (hb hby at_162) rfl (flt (by decide)).1 ?_
        show Steps p.tables e below (T30.setTop (mkF m 165 #[.val (.int p0), .val (.long p1), .second, .val (.long p2), .second, .val (.long p3), .second, .val (.long p4), .second, .val (.long p5), .second, .val (.int (0 : Int32)), .val (.int (2 : Int32)), .val (.ref b1), .val (.int (1 : Int32))] [])) _
        refine XS.iload X30.here hx rfl (hb hby at_165) rfl ?_
        show Steps p.tables e below (T30.setTop (mkF m 167 #[.val (.int p0), .val (.long p1), .second, .val (.long p2), .second, .val (.long p3), .second, .val (.long p4), .second, .val (.long p5), .second, .val (.int (0 : Int32)), .val (.int (2 : Int32)), .val (.ref b1), .val (.int (1 : Int32))] [(.int (1 : Int32))])) _
        refine XS.ifNo X30.here hx rfl (hb hby at_167) rfl ((if0 _ _).trans (feq (by decide)).1) ?_
        show Steps p.tables e below (T30.setTop (mkF m 170 #[.val (.int p0), .val (.long p1), .second, .val (.long p2), .second, .val (.long p3), .second, .val (.long p4), .second, .val (.long p5), .second, .val (.int (0 : Int32)), .val (.int (2 : Int32)), .val (.ref b1), .val (.int (1 : Int32))] [])) _
        refine XS.aload X30.here hx rfl (hb hby at_170) rfl rfl ?_
        show Steps p.tables e below (T30.setTop (mkF m 172 #[.val (.int p0), .val (.long p1), .second, .val (.long p2), .second, .val (.long p3), .second, .val (.long p4), .second, .val (.long p5), .second, .val (.int (0 : Int32)), .val (.int (2 : Int32)), .val (.ref b1), .val (.int (1 : Int32))] [(.ref b1)])) _
        refine XS.iconst X30.here hx rfl (hb hby at_172) ?_
        show Steps p.tables e below (T30.setTop (mkF m 173 #[.val (.int p0), .val (.long p1), .second, .val (.long p2), .second, .val (.long p3), .second, .val (.long p4), .second, .val (.long p5), .second, .val (.int (0 : Int32)), .val (.int (2 : Int32)), .val (.ref b1), .val (.int (1 : Int32))] [(.int (1 : Int32)), (.ref b1)])) _
        refine st31.trans ?_
        show Steps p.tables e below (T31.setTop (mkF m 176 #[.val (.int p0), .val (.long p1), .second, .val (.long p2), .second, .val (.long p3), .second, .val (.long p4), .second, .val (.long p5), .second, .val (.int (0 : Int32)), .val (.int (2 : Int32)), .val (.ref b1), .val (.int (1 : Int32))] [(.long p5)])) _
        refine XS.lload X31.here hx rfl (hb hby at_176) rfl ?_
        show Steps p.tables e below (T31.setTop (mkF m 178 #[.val (.int p0), .val (.long p1), .second, .val (.long p2), .second, .val (.long p3), .second, .val (.long p4), .second, .val (.long p5), .second, .val (.int (0 : Int32)), .val (.int (2 : Int32)), .val (.ref b1), .val (.int (1 : Int32))] [(.long p5), (.long p5)])) _
        refine XS.lcmp X31.here hx rfl (hb hby at_178) rfl ?_
        show Steps p.tables e below (T31.setTop (mkF m 179 #[.val (.int p0), .val (.long p1), .second, .val (.long p2), .second, .val (.long p3), .second, .val (.long p4), .second, .val (.long p5), .second, .val (.int (0 : Int32)), .val (.int (2 : Int32)), .val (.ref b1), .val (.int (1 : Int32))] [(.int (lcmpW p5 p5))])) _
        refine XS.ifNo X31.here hx rfl (hb hby at_179) rfl ((if0 _ _).trans (teq ((lw_eq _ _).mpr rfl)).2) ?_
        show Steps p.tables e below (T31.setTop (mkF m 182 #[.val (.int p0), .val (.long p1), .second, .val (.long p2), .second, .val (.long p3), .second, .val (.long p4), .second, .val (.long p5), .second, .val (.int (0 : Int32)), .val (.int (2 : Int32)), .val (.ref b1), .val (.int (1 : Int32))] [])) _
        refine XS.iconst X31.here hx rfl (hb hby at_182) ?_
        show Steps p.tables e below (T31.setTop (mkF m 183 #[.val (.int p0), .val (.long p1), .second, .val (.long p2), .second, .val (.long p3), .second, .val (.long p4), .second, .val (.long p5), .second, .val (.int (0 : Int32)), .val (.int (2 : Int32)), .val (.ref b1), .val (.int (1 : Int32))] [(.int (1 : Int32))])) _
        refine XS.goto X31.here hx rfl (pc0 := 183) (pc' := 187) rfl (hb hby at_183) (by decide) (by decide) ?_
        show Steps p.tables e below (T31.setTop (mkF m 187 #[.val (.int p0), .val (.long p1), .second, .val (.long p2), .second, .val (.long p3), .second, .val (.long p4), .second, .val (.long p5), .second, .val (.int (0 : Int32)), .val (.int (2 : Int32)), .val (.ref b1), .val (.int (1 : Int32))] [(.int (1 : Int32))])) _
        refine XS.istore X31.here hx rfl (hb hby at_187) rfl (l' := #[.val (.int p0), .val (.long p1), .second, .val (.long p2), .second, .val (.long p3), .second, .val (.long p4), .second, .val (.long p5), .second, .val (.int (0 : Int32)), .val (.int (2 : Int32)), .val (.ref b1), .val (.int (1 : Int32))]) rfl ?_
        show Steps p.tables e below (T31.setTop (mkF m 189 #[.val (.int p0), .val (.long p1), .second, .val (.long p2), .second, .val (.long p3), .second, .val (.long p4), .second, .val (.long p5), .second, .val (.int (0 : Int32)), .val (.int (2 : Int32)), .val (.ref b1), .val (.int (1 : Int32))] [])) _
        refine XS.iload X31.here hx rfl (hb hby at_189) rfl ?_
        exact Steps.refl _
      obtain ⟨fs, hr, hrun, hended, hW, hsame⟩ := X31.leave (v := some (.int (1 : Int32))) (fun h => by rw [Bd.returns] at h; cases h)
      refine ⟨_, _, s32.trans ?_, hrun, hended, _, _, rfl, ?_, ⟨_, rfl⟩, hW, hsame.mono (by decide) (by decide)⟩
      · show Steps p.tables e below (T31.setTop (mkF m 191 #[.val (.int p0), .val (.long p1), .second, .val (.long p2), .second, .val (.long p3), .second, .val (.long p4), .second, .val (.long p5), .second, .val (.int (0 : Int32)), .val (.int (2 : Int32)), .val (.ref b1), .val (.int (1 : Int32))] [(.int (1 : Int32))])) _
        exact retN X31 hx (t := .boolean) Bd.returns (by simp) (hb hby at_191) hr
      · show Q0 Z p0 p1 p2 p3 p4 p5 h0 n0 _ T31.heap _
        rw [e31]
        exact ⟨rfl, N31⟩
  · have s33 := s7
    rw [hk8] at s33
    obtain ⟨cq34, kq34, q34a, q34b, q34c⟩ := isOf hZ (rfl : T2.heap = T2.heap) f2_0
    obtain ⟨_, _, ⟨T34, L34, k34, n34⟩, -, X34, ⟨Lc34, hQ34, l34, y34, z34⟩, st34⟩ := X2.virtualBack hx (y := (⟨"com/example/strikewire/strikewire/engine/LongList", "add", "(J)V"⟩ : MethodName)) (z := (⟨"com/example/strikewire/strikewire/engine/LongList", "add", "(J)V"⟩ : MethodName)) hown (mvT hZ (hw _ (List.mem_of_getElem? (i := 27) rfl))) (mvT hZ (hw _ (List.mem_of_getElem? (i := 28) rfl))) (notFace_of_selects (args := #[]) (mvT hZ (hw _ (List.mem_of_getElem? (i := 30) rfl)))) (mvT hZ (hw _ (List.mem_of_getElem? (i := 30) rfl))) (mvT hZ (hw _ (List.mem_of_getElem? (i := 29) rfl))) (by decide) (backOf (W := 0) (rma0 l Z a0 hw [] b1 p1 u3 u4 u5 u6 (0 : Int64) (0 : Int64) (0 : Int64) (0 : Int64) (0 : Int64) (0 : Int64) (0 : Int64) (0 : Int64) T2.heap n0 O2 f2_0 f2_1 f2_3 f2_2 f2_4 g_b1 g_u4 ne_b1_u3 ne_b1_u4 f2_7) hZ (hw _ (List.mem_of_getElem? (i := 31) rfl)) (hw _ (List.mem_of_getElem? (i := 3) rfl)) (by decide) (by decide)) q34a q34c (g := (mkF m 33 #[.val (.int p0), .val (.long p1), .second, .val (.long p2), .second, .val (.long p3), .second, .val (.long p4), .second, .val (.long p5), .second, .val (.int (1 : Int32)), .val (.int ((((p0.toUInt32 >>> ((2 : Int32) &&& 31).toUInt32).toInt32) &&& (2147483647 : Int32)) % (3 : Int32))), .val (.ref b1), .unset] [(.long p1), (.ref b1)])) rfl (by rw [hml]; rfl) (Steps.refl _) (argsL := [(.long p1)]) (rest := []) (lenOf pd_rm0_2 rfl) rfl (by show 2 * 0 + _ ≤ _; exact Nat.le_of_eq rfl) (hb hby at_33) (fun _ _ => ⟨rfl, (rfl : T2.heap = T2.heap), (by decide : 3 + 0 ≤ _), (by decide : 11 + 0 ≤ _)⟩)
    dsimp only [Pt.U, Pt.locs, Pt.cells, Pt.slots] at X34 l34 y34 z34 st34 hQ34
    subst l34 y34 z34
    obtain ⟨rfl, Nq34, Kc34, f34_0, f34_1, f34_2, f34_3, f34_4⟩ := hQ34
    have N34 := Fr.app N2 Nq34
    have O34 := O2.keep Kc34 (allS g_b1 (allS g_u4 all0))
    obtain ⟨cq35, kq35, q35a, q35b, q35c⟩ := isOf hZ (rfl : T34.heap = T34.heap) f34_0
    obtain ⟨_, _, ⟨T35, L35, k35, n35⟩, -, X35, ⟨Lc35, hQ35, l35, y35, z35⟩, st35⟩ := X34.virtualBack hx (y := (⟨"com/example/strikewire/strikewire/engine/LongList", "clear", "()V"⟩ : MethodName)) (z := (⟨"com/example/strikewire/strikewire/engine/LongList", "clear", "()V"⟩ : MethodName)) hown (mvT hZ (hw _ (List.mem_of_getElem? (i := 15) rfl))) (mvT hZ (hw _ (List.mem_of_getElem? (i := 16) rfl))) (notFace_of_selects (args := #[]) (mvT hZ (hw _ (List.mem_of_getElem? (i := 18) rfl)))) (mvT hZ (hw _ (List.mem_of_getElem? (i := 18) rfl))) (mvT hZ (hw _ (List.mem_of_getElem? (i := 17) rfl))) (by decide) (backOf (W := 0) (rm3 l Z a0 hw [] b1 u3 (1 : Int32) T34.heap n0 O34 f34_0 f34_1 f34_3 g_b1) hZ (hw _ (List.mem_of_getElem? (i := 19) rfl)) (hw _ (List.mem_of_getElem? (i := 3) rfl)) (by decide) (by decide)) q35a q35c (g := (mkF m 63 #[.val (.int p0), .val (.long p1), .second, .val (.long p2), .second, .val (.long p3), .second, .val (.long p4), .second, .val (.long p5), .second, .val (.int (1 : Int32)), .val (.int ((((p0.toUInt32 >>> ((2 : Int32) &&& 31).toUInt32).toInt32) &&& (2147483647 : Int32)) % (3 : Int32))), .val (.ref b1), .unset] [(.ref b1)])) rfl (by rw [hml]; rfl) (Steps.refl _) (argsL := []) (rest := []) (lenOf pd_rm0_0 rfl) rfl (by show 2 * 0 + _ ≤ _; exact Nat.le_of_eq rfl) (hb hby at_63) (fun _ _ => ⟨rfl, (rfl : T34.heap = T34.heap), (by decide : 3 + 2 ≤ _), (by decide : 11 + 9 ≤ _)⟩)
    dsimp only [Pt.U, Pt.locs, Pt.cells, Pt.slots] at X35 l35 y35 z35 st35 hQ35
    subst l35 y35 z35
    obtain ⟨u36, u37, u38, u39, rfl, Nq35, Kc35, f35_0, f35_1, f35_2, f35_3, f35_4, f35_5, f35_6, f35_7⟩ := hQ35
    have N35 := Fr.app N34 Nq35
    have ne_b1_u36 : b1 ≠ u36 := Nat.ne_of_lt (Nat.lt_of_lt_of_le f34_0.lt f35_5)
    have ne_u3_u36 : u3 ≠ u36 := Nat.ne_of_lt (Nat.lt_of_lt_of_le f34_2.lt f35_5)
    have ne_u4_u36 : u4 ≠ u36 := Nat.ne_of_lt (Nat.lt_of_lt_of_le f34_4.lt f35_5)
    have ne_b1_u37 : b1 ≠ u37 := Nat.ne_of_lt (Nat.lt_of_lt_of_le f34_0.lt f35_6)
    have ne_u3_u37 : u3 ≠ u37 := Nat.ne_of_lt (Nat.lt_of_lt_of_le f34_2.lt f35_6)
    have ne_u4_u37 : u4 ≠ u37 := Nat.ne_of_lt (Nat.lt_of_lt_of_le f34_4.lt f35_6)
    have g_u36 : n0 ≤ u36 := Nat.le_trans (Nat.le_of_eq O34.1.symm) (Nat.le_trans O34.2.1 f35_5)
    have g_u37 : n0 ≤ u37 := Nat.le_trans (Nat.le_of_eq O34.1.symm) (Nat.le_trans O34.2.1 f35_6)
    have O35 := O34.keep Kc35 (allS g_b1 all0)
    obtain ⟨cq40, kq40, q40a, q40b, q40c⟩ := isOf hZ (rfl : T35.heap = T35.heap) f35_0
    obtain ⟨_, _, ⟨T40, L40, k40, n40⟩, -, X40, ⟨Lc40, hQ40, l40, y40, z40⟩, st40⟩ := X35.virtualBack hx (y := (⟨"com/example/strikewire/strikewire/engine/LongList", "size", "()I"⟩ : MethodName)) (z := (⟨"com/example/strikewire/strikewire/engine/LongList", "size", "()I"⟩ : MethodName)) hown (mvT hZ (hw _ (List.mem_of_getElem? (i := 22) rfl))) (mvT hZ (hw _ (List.mem_of_getElem? (i := 23) rfl))) (notFace_of_selects (args := #[]) (mvT hZ (hw _ (List.mem_of_getElem? (i := 25) rfl)))) (mvT hZ (hw _ (List.mem_of_getElem? (i := 25) rfl))) (mvT hZ (hw _ (List.mem_of_getElem? (i := 24) rfl))) (by decide) (backOf (W := 0) (rm4 l Z a0 hw [] b1 (0 : Int32) T35.heap n0 O35 f35_2) hZ (hw _ (List.mem_of_getElem? (i := 26) rfl)) (hw _ (List.mem_of_getElem? (i := 3) rfl)) (by decide) (by decide)) q40a q40c (g := (mkF m 68 #[.val (.int p0), .val (.long p1), .second, .val (.long p2), .second, .val (.long p3), .second, .val (.long p4), .second, .val (.long p5), .second, .val (.int (1 : Int32)), .val (.int ((((p0.toUInt32 >>> ((2 : Int32) &&& 31).toUInt32).toInt32) &&& (2147483647 : Int32)) % (3 : Int32))), .val (.ref b1), .unset] [(.ref b1)])) rfl (by rw [hml]; rfl) (Steps.refl _) (argsL := []) (rest := []) (lenOf pd_rm0_1 rfl) rfl (by show 2 * 0 + _ ≤ _; exact Nat.le_of_eq rfl) (hb hby at_68) (fun _ _ => ⟨rfl, (rfl : T35.heap = T35.heap), (by decide : 5 + 0 ≤ _), (by decide : 20 + 0 ≤ _)⟩)
    dsimp only [Pt.U, Pt.locs, Pt.cells, Pt.slots] at X40 l40 y40 z40 st40 hQ40
    subst l40 y40 z40
    obtain ⟨rfl, Nq40, e40⟩ := hQ40
    have N40 := Fr.app N35 Nq40
    have s41 : Steps p.tables e below (s₁.setTop (entryFrame m #[(.int p0), (.long p1), (.long p2), (.long p3), (.long p4), (.long p5)] maxLocals)) (T40.setTop (mkF m 81 #[.val (.int p0), .val (.long p1), .second, .val (.long p2), .second, .val (.long p3), .second, .val (.long p4), .second, .val (.long p5), .second, .val (.int (1 : Int32)), .val (.int ((((p0.toUInt32 >>> ((2 : Int32) &&& 31).toUInt32).toInt32) &&& (2147483647 : Int32)) % (3 : Int32))), .val (.ref b1), .val (.int (1 : Int32))] [])) := by
      refine s33.trans ?_
      show Steps p.tables e below (T2.setTop (mkF m 24 #[.val (.int p0), .val (.long p1), .second, .val (.long p2), .second, .val (.long p3), .second, .val (.long p4), .second, .val (.long p5), .second, .val (.int (1 : Int32)), .val (.int ((((p0.toUInt32 >>> ((2 : Int32) &&& 31).toUInt32).toInt32) &&& (2147483647 : Int32)) % (3 : Int32))), .val (.ref b1), .unset] [])) _
      refine XS.iload X2.here hx rfl (hb hby at_24) rfl ?_
      show Steps p.tables e below (T2.setTop (mkF m 26 #[.val (.int p0), .val (.long p1), .second, .val (.long p2), .second, .val (.long p3), .second, .val (.long p4), .second, .val (.long p5), .second, .val (.int (1 : Int32)), .val (.int ((((p0.toUInt32 >>> ((2 : Int32) &&& 31).toUInt32).toInt32) &&& (2147483647 : Int32)) % (3 : Int32))), .val (.ref b1), .unset] [(.int (1 : Int32))])) _
      refine XS.iconst X2.here hx rfl (hb hby at_26) ?_
      show Steps p.tables e below (T2.setTop (mkF m 27 #[.val (.int p0), .val (.long p1), .second, .val (.long p2), .second, .val (.long p3), .second, .val (.long p4), .second, .val (.long p5), .second, .val (.int (1 : Int32)), .val (.int ((((p0.toUInt32 >>> ((2 : Int32) &&& 31).toUInt32).toInt32) &&& (2147483647 : Int32)) % (3 : Int32))), .val (.ref b1), .unset] [(.int (1 : Int32)), (.int (1 : Int32))])) _
      refine XS.icmpNo X2.here hx rfl (hb hby at_27) rfl (flt (by decide)).1 ?_
      show Steps p.tables e below (T2.setTop (mkF m 30 #[.val (.int p0), .val (.long p1), .second, .val (.long p2), .second, .val (.long p3), .second, .val (.long p4), .second, .val (.long p5), .second, .val (.int (1 : Int32)), .val (.int ((((p0.toUInt32 >>> ((2 : Int32) &&& 31).toUInt32).toInt32) &&& (2147483647 : Int32)) % (3 : Int32))), .val (.ref b1), .unset] [])) _
      refine XS.aload X2.here hx rfl (hb hby at_30) rfl rfl ?_
      show Steps p.tables e below (T2.setTop (mkF m 32 #[.val (.int p0), .val (.long p1), .second, .val (.long p2), .second, .val (.long p3), .second, .val (.long p4), .second, .val (.long p5), .second, .val (.int (1 : Int32)), .val (.int ((((p0.toUInt32 >>> ((2 : Int32) &&& 31).toUInt32).toInt32) &&& (2147483647 : Int32)) % (3 : Int32))), .val (.ref b1), .unset] [(.ref b1)])) _
      refine XS.lloadN X2.here hx rfl (hb hby at_32) rfl ?_
      show Steps p.tables e below (T2.setTop (mkF m 33 #[.val (.int p0), .val (.long p1), .second, .val (.long p2), .second, .val (.long p3), .second, .val (.long p4), .second, .val (.long p5), .second, .val (.int (1 : Int32)), .val (.int ((((p0.toUInt32 >>> ((2 : Int32) &&& 31).toUInt32).toInt32) &&& (2147483647 : Int32)) % (3 : Int32))), .val (.ref b1), .unset] [(.long p1), (.ref b1)])) _
      refine st34.trans ?_
      show Steps p.tables e below (T34.setTop (mkF m 36 #[.val (.int p0), .val (.long p1), .second, .val (.long p2), .second, .val (.long p3), .second, .val (.long p4), .second, .val (.long p5), .second, .val (.int (1 : Int32)), .val (.int ((((p0.toUInt32 >>> ((2 : Int32) &&& 31).toUInt32).toInt32) &&& (2147483647 : Int32)) % (3 : Int32))), .val (.ref b1), .unset] [])) _
      refine XS.iload X34.here hx rfl (hb hby at_36) rfl ?_
      show Steps p.tables e below (T34.setTop (mkF m 38 #[.val (.int p0), .val (.long p1), .second, .val (.long p2), .second, .val (.long p3), .second, .val (.long p4), .second, .val (.long p5), .second, .val (.int (1 : Int32)), .val (.int ((((p0.toUInt32 >>> ((2 : Int32) &&& 31).toUInt32).toInt32) &&& (2147483647 : Int32)) % (3 : Int32))), .val (.ref b1), .unset] [(.int (1 : Int32))])) _
      refine XS.iconst X34.here hx rfl (hb hby at_38) ?_
      show Steps p.tables e below (T34.setTop (mkF m 39 #[.val (.int p0), .val (.long p1), .second, .val (.long p2), .second, .val (.long p3), .second, .val (.long p4), .second, .val (.long p5), .second, .val (.int (1 : Int32)), .val (.int ((((p0.toUInt32 >>> ((2 : Int32) &&& 31).toUInt32).toInt32) &&& (2147483647 : Int32)) % (3 : Int32))), .val (.ref b1), .unset] [(.int (2 : Int32)), (.int (1 : Int32))])) _
      refine XS.icmpYes X34.here hx rfl (pc0 := 39) (pc' := 48) rfl (hb hby at_39) rfl (tlt (by decide)).1 (by decide) (by decide) ?_
      show Steps p.tables e below (T34.setTop (mkF m 48 #[.val (.int p0), .val (.long p1), .second, .val (.long p2), .second, .val (.long p3), .second, .val (.long p4), .second, .val (.long p5), .second, .val (.int (1 : Int32)), .val (.int ((((p0.toUInt32 >>> ((2 : Int32) &&& 31).toUInt32).toInt32) &&& (2147483647 : Int32)) % (3 : Int32))), .val (.ref b1), .unset] [])) _
      refine XS.iload X34.here hx rfl (hb hby at_48) rfl ?_
      show Steps p.tables e below (T34.setTop (mkF m 50 #[.val (.int p0), .val (.long p1), .second, .val (.long p2), .second, .val (.long p3), .second, .val (.long p4), .second, .val (.long p5), .second, .val (.int (1 : Int32)), .val (.int ((((p0.toUInt32 >>> ((2 : Int32) &&& 31).toUInt32).toInt32) &&& (2147483647 : Int32)) % (3 : Int32))), .val (.ref b1), .unset] [(.int (1 : Int32))])) _
      refine XS.iconst X34.here hx rfl (hb hby at_50) ?_
      show Steps p.tables e below (T34.setTop (mkF m 51 #[.val (.int p0), .val (.long p1), .second, .val (.long p2), .second, .val (.long p3), .second, .val (.long p4), .second, .val (.long p5), .second, .val (.int (1 : Int32)), .val (.int ((((p0.toUInt32 >>> ((2 : Int32) &&& 31).toUInt32).toInt32) &&& (2147483647 : Int32)) % (3 : Int32))), .val (.ref b1), .unset] [(.int (3 : Int32)), (.int (1 : Int32))])) _
      refine XS.icmpYes X34.here hx rfl (pc0 := 51) (pc' := 61) rfl (hb hby at_51) rfl (tlt (by decide)).1 (by decide) (by decide) ?_
      show Steps p.tables e below (T34.setTop (mkF m 61 #[.val (.int p0), .val (.long p1), .second, .val (.long p2), .second, .val (.long p3), .second, .val (.long p4), .second, .val (.long p5), .second, .val (.int (1 : Int32)), .val (.int ((((p0.toUInt32 >>> ((2 : Int32) &&& 31).toUInt32).toInt32) &&& (2147483647 : Int32)) % (3 : Int32))), .val (.ref b1), .unset] [])) _
      refine XS.aload X34.here hx rfl (hb hby at_61) rfl rfl ?_
      show Steps p.tables e below (T34.setTop (mkF m 63 #[.val (.int p0), .val (.long p1), .second, .val (.long p2), .second, .val (.long p3), .second, .val (.long p4), .second, .val (.long p5), .second, .val (.int (1 : Int32)), .val (.int ((((p0.toUInt32 >>> ((2 : Int32) &&& 31).toUInt32).toInt32) &&& (2147483647 : Int32)) % (3 : Int32))), .val (.ref b1), .unset] [(.ref b1)])) _
      refine st35.trans ?_
      show Steps p.tables e below (T35.setTop (mkF m 66 #[.val (.int p0), .val (.long p1), .second, .val (.long p2), .second, .val (.long p3), .second, .val (.long p4), .second, .val (.long p5), .second, .val (.int (1 : Int32)), .val (.int ((((p0.toUInt32 >>> ((2 : Int32) &&& 31).toUInt32).toInt32) &&& (2147483647 : Int32)) % (3 : Int32))), .val (.ref b1), .unset] [])) _
      refine XS.aload X35.here hx rfl (hb hby at_66) rfl rfl ?_
      show Steps p.tables e below (T35.setTop (mkF m 68 #[.val (.int p0), .val (.long p1), .second, .val (.long p2), .second, .val (.long p3), .second, .val (.long p4), .second, .val (.long p5), .second, .val (.int (1 : Int32)), .val (.int ((((p0.toUInt32 >>> ((2 : Int32) &&& 31).toUInt32).toInt32) &&& (2147483647 : Int32)) % (3 : Int32))), .val (.ref b1), .unset] [(.ref b1)])) _
      refine st40.trans ?_
      show Steps p.tables e below (T40.setTop (mkF m 71 #[.val (.int p0), .val (.long p1), .second, .val (.long p2), .second, .val (.long p3), .second, .val (.long p4), .second, .val (.long p5), .second, .val (.int (1 : Int32)), .val (.int ((((p0.toUInt32 >>> ((2 : Int32) &&& 31).toUInt32).toInt32) &&& (2147483647 : Int32)) % (3 : Int32))), .val (.ref b1), .unset] [(.int (0 : Int32))])) _
      refine XS.ifNo X40.here hx rfl (hb hby at_71) rfl ((if0 _ _).trans (teq (by decide)).2) ?_
      show Steps p.tables e below (T40.setTop (mkF m 74 #[.val (.int p0), .val (.long p1), .second, .val (.long p2), .second, .val (.long p3), .second, .val (.long p4), .second, .val (.long p5), .second, .val (.int (1 : Int32)), .val (.int ((((p0.toUInt32 >>> ((2 : Int32) &&& 31).toUInt32).toInt32) &&& (2147483647 : Int32)) % (3 : Int32))), .val (.ref b1), .unset] [])) _
      refine XS.iconst X40.here hx rfl (hb hby at_74) ?_
      show Steps p.tables e below (T40.setTop (mkF m 75 #[.val (.int p0), .val (.long p1), .second, .val (.long p2), .second, .val (.long p3), .second, .val (.long p4), .second, .val (.long p5), .second, .val (.int (1 : Int32)), .val (.int ((((p0.toUInt32 >>> ((2 : Int32) &&& 31).toUInt32).toInt32) &&& (2147483647 : Int32)) % (3 : Int32))), .val (.ref b1), .unset] [(.int (1 : Int32))])) _
      refine XS.goto X40.here hx rfl (pc0 := 75) (pc' := 79) rfl (hb hby at_75) (by decide) (by decide) ?_
      show Steps p.tables e below (T40.setTop (mkF m 79 #[.val (.int p0), .val (.long p1), .second, .val (.long p2), .second, .val (.long p3), .second, .val (.long p4), .second, .val (.long p5), .second, .val (.int (1 : Int32)), .val (.int ((((p0.toUInt32 >>> ((2 : Int32) &&& 31).toUInt32).toInt32) &&& (2147483647 : Int32)) % (3 : Int32))), .val (.ref b1), .unset] [(.int (1 : Int32))])) _
      refine XS.istore X40.here hx rfl (hb hby at_79) rfl (l' := #[.val (.int p0), .val (.long p1), .second, .val (.long p2), .second, .val (.long p3), .second, .val (.long p4), .second, .val (.long p5), .second, .val (.int (1 : Int32)), .val (.int ((((p0.toUInt32 >>> ((2 : Int32) &&& 31).toUInt32).toInt32) &&& (2147483647 : Int32)) % (3 : Int32))), .val (.ref b1), .val (.int (1 : Int32))]) rfl ?_
      exact Steps.refl _
    rcases own_mod3 ((p0.toUInt32 >>> ((2 : Int32) &&& 31).toUInt32).toInt32) with hk42 | hk42 | hk42
    · have s43 := s41
      rw [hk42] at s43
      obtain ⟨cq44, kq44, q44a, q44b, q44c⟩ := isOf hZ e40 f35_0
      obtain ⟨_, _, ⟨T44, L44, k44, n44⟩, -, X44, ⟨Lc44, hQ44, l44, y44, z44⟩, st44⟩ := X40.virtualBack hx (y := (⟨"com/example/strikewire/strikewire/engine/LongList", "size", "()I"⟩ : MethodName)) (z := (⟨"com/example/strikewire/strikewire/engine/LongList", "size", "()I"⟩ : MethodName)) hown (mvT hZ (hw _ (List.mem_of_getElem? (i := 22) rfl))) (mvT hZ (hw _ (List.mem_of_getElem? (i := 23) rfl))) (notFace_of_selects (args := #[]) (mvT hZ (hw _ (List.mem_of_getElem? (i := 25) rfl)))) (mvT hZ (hw _ (List.mem_of_getElem? (i := 25) rfl))) (mvT hZ (hw _ (List.mem_of_getElem? (i := 24) rfl))) (by decide) (backOf (W := 0) (rm4 l Z a0 hw [] b1 (0 : Int32) T35.heap n0 O35 f35_2) hZ (hw _ (List.mem_of_getElem? (i := 26) rfl)) (hw _ (List.mem_of_getElem? (i := 3) rfl)) (by decide) (by decide)) q44a q44c (g := (mkF m 114 #[.val (.int p0), .val (.long p1), .second, .val (.long p2), .second, .val (.long p3), .second, .val (.long p4), .second, .val (.long p5), .second, .val (.int (1 : Int32)), .val (.int (0 : Int32)), .val (.ref b1), .val (.int (1 : Int32))] [(.ref b1)])) rfl (by rw [hml]; rfl) (Steps.refl _) (argsL := []) (rest := []) (lenOf pd_rm0_1 rfl) rfl (by show 2 * 0 + _ ≤ _; exact Nat.le_of_eq rfl) (hb hby at_114) (fun _ _ => ⟨rfl, e40, (by decide : 5 + 0 ≤ _), (by decide : 20 + 0 ≤ _)⟩)
      dsimp only [Pt.U, Pt.locs, Pt.cells, Pt.slots] at X44 l44 y44 z44 st44 hQ44
      subst l44 y44 z44
      obtain ⟨rfl, Nq44, e44⟩ := hQ44
      have N44 := Fr.app N40 Nq44
      have s45 : Steps p.tables e below (s₁.setTop (entryFrame m #[(.int p0), (.long p1), (.long p2), (.long p3), (.long p4), (.long p5)] maxLocals)) (T44.setTop (mkF m 191 #[.val (.int p0), .val (.long p1), .second, .val (.long p2), .second, .val (.long p3), .second, .val (.long p4), .second, .val (.long p5), .second, .val (.int (1 : Int32)), .val (.int (0 : Int32)), .val (.ref b1), .val (.int (1 : Int32))] [(.int (1 : Int32))])) := by
        refine s43.trans ?_
        show Steps p.tables e below (T40.setTop (mkF m 81 #[.val (.int p0), .val (.long p1), .second, .val (.long p2), .second, .val (.long p3), .second, .val (.long p4), .second, .val (.long p5), .second, .val (.int (1 : Int32)), .val (.int (0 : Int32)), .val (.ref b1), .val (.int (1 : Int32))] [])) _
        refine XS.iload X40.here hx rfl (hb hby at_81) rfl ?_
        show Steps p.tables e below (T40.setTop (mkF m 83 #[.val (.int p0), .val (.long p1), .second, .val (.long p2), .second, .val (.long p3), .second, .val (.long p4), .second, .val (.long p5), .second, .val (.int (1 : Int32)), .val (.int (0 : Int32)), .val (.ref b1), .val (.int (1 : Int32))] [(.int (0 : Int32))])) _
        refine XS.iconst X40.here hx rfl (hb hby at_83) ?_
        show Steps p.tables e below (T40.setTop (mkF m 84 #[.val (.int p0), .val (.long p1), .second, .val (.long p2), .second, .val (.long p3), .second, .val (.long p4), .second, .val (.long p5), .second, .val (.int (1 : Int32)), .val (.int (0 : Int32)), .val (.ref b1), .val (.int (1 : Int32))] [(.int (1 : Int32)), (.int (0 : Int32))])) _
        refine XS.icmpYes X40.here hx rfl (pc0 := 84) (pc' := 94) rfl (hb hby at_84) rfl (tlt (by decide)).1 (by decide) (by decide) ?_
        show Steps p.tables e below (T40.setTop (mkF m 94 #[.val (.int p0), .val (.long p1), .second, .val (.long p2), .second, .val (.long p3), .second, .val (.long p4), .second, .val (.long p5), .second, .val (.int (1 : Int32)), .val (.int (0 : Int32)), .val (.ref b1), .val (.int (1 : Int32))] [])) _
        refine XS.iload X40.here hx rfl (hb hby at_94) rfl ?_
        show Steps p.tables e below (T40.setTop (mkF m 96 #[.val (.int p0), .val (.long p1), .second, .val (.long p2), .second, .val (.long p3), .second, .val (.long p4), .second, .val (.long p5), .second, .val (.int (1 : Int32)), .val (.int (0 : Int32)), .val (.ref b1), .val (.int (1 : Int32))] [(.int (0 : Int32))])) _
        refine XS.iconst X40.here hx rfl (hb hby at_96) ?_
        show Steps p.tables e below (T40.setTop (mkF m 97 #[.val (.int p0), .val (.long p1), .second, .val (.long p2), .second, .val (.long p3), .second, .val (.long p4), .second, .val (.long p5), .second, .val (.int (1 : Int32)), .val (.int (0 : Int32)), .val (.ref b1), .val (.int (1 : Int32))] [(.int (2 : Int32)), (.int (0 : Int32))])) _
        refine XS.icmpYes X40.here hx rfl (pc0 := 97) (pc' := 107) rfl (hb hby at_97) rfl (tlt (by decide)).1 (by decide) (by decide) ?_
        show Steps p.tables e below (T40.setTop (mkF m 107 #[.val (.int p0), .val (.long p1), .second, .val (.long p2), .second, .val (.long p3), .second, .val (.long p4), .second, .val (.long p5), .second, .val (.int (1 : Int32)), .val (.int (0 : Int32)), .val (.ref b1), .val (.int (1 : Int32))] [])) _
        refine XS.iload X40.here hx rfl (hb hby at_107) rfl ?_
        show Steps p.tables e below (T40.setTop (mkF m 109 #[.val (.int p0), .val (.long p1), .second, .val (.long p2), .second, .val (.long p3), .second, .val (.long p4), .second, .val (.long p5), .second, .val (.int (1 : Int32)), .val (.int (0 : Int32)), .val (.ref b1), .val (.int (1 : Int32))] [(.int (1 : Int32))])) _
        refine XS.ifNo X40.here hx rfl (hb hby at_109) rfl ((if0 _ _).trans (feq (by decide)).1) ?_
        show Steps p.tables e below (T40.setTop (mkF m 112 #[.val (.int p0), .val (.long p1), .second, .val (.long p2), .second, .val (.long p3), .second, .val (.long p4), .second, .val (.long p5), .second, .val (.int (1 : Int32)), .val (.int (0 : Int32)), .val (.ref b1), .val (.int (1 : Int32))] [])) _
        refine XS.aload X40.here hx rfl (hb hby at_112) rfl rfl ?_
        show Steps p.tables e below (T40.setTop (mkF m 114 #[.val (.int p0), .val (.long p1), .second, .val (.long p2), .second, .val (.long p3), .second, .val (.long p4), .second, .val (.long p5), .second, .val (.int (1 : Int32)), .val (.int (0 : Int32)), .val (.ref b1), .val (.int (1 : Int32))] [(.ref b1)])) _
        refine st44.trans ?_
        show Steps p.tables e below (T44.setTop (mkF m 117 #[.val (.int p0), .val (.long p1), .second, .val (.long p2), .second, .val (.long p3), .second, .val (.long p4), .second, .val (.long p5), .second, .val (.int (1 : Int32)), .val (.int (0 : Int32)), .val (.ref b1), .val (.int (1 : Int32))] [(.int (0 : Int32))])) _
        refine XS.iload X44.here hx rfl (hb hby at_117) rfl ?_
        show Steps p.tables e below (T44.setTop (mkF m 119 #[.val (.int p0), .val (.long p1), .second, .val (.long p2), .second, .val (.long p3), .second, .val (.long p4), .second, .val (.long p5), .second, .val (.int (1 : Int32)), .val (.int (0 : Int32)), .val (.ref b1), .val (.int (1 : Int32))] [(.int (0 : Int32)), (.int (0 : Int32))])) _
        refine XS.icmpNo X44.here hx rfl (hb hby at_119) rfl (teq (by decide)).2 ?_
        show Steps p.tables e below (T44.setTop (mkF m 122 #[.val (.int p0), .val (.long p1), .second, .val (.long p2), .second, .val (.long p3), .second, .val (.long p4), .second, .val (.long p5), .second, .val (.int (1 : Int32)), .val (.int (0 : Int32)), .val (.ref b1), .val (.int (1 : Int32))] [])) _
        refine XS.iconst X44.here hx rfl (hb hby at_122) ?_
        show Steps p.tables e below (T44.setTop (mkF m 123 #[.val (.int p0), .val (.long p1), .second, .val (.long p2), .second, .val (.long p3), .second, .val (.long p4), .second, .val (.long p5), .second, .val (.int (1 : Int32)), .val (.int (0 : Int32)), .val (.ref b1), .val (.int (1 : Int32))] [(.int (1 : Int32))])) _
        refine XS.goto X44.here hx rfl (pc0 := 123) (pc' := 127) rfl (hb hby at_123) (by decide) (by decide) ?_
        show Steps p.tables e below (T44.setTop (mkF m 127 #[.val (.int p0), .val (.long p1), .second, .val (.long p2), .second, .val (.long p3), .second, .val (.long p4), .second, .val (.long p5), .second, .val (.int (1 : Int32)), .val (.int (0 : Int32)), .val (.ref b1), .val (.int (1 : Int32))] [(.int (1 : Int32))])) _
        refine XS.istore X44.here hx rfl (hb hby at_127) rfl (l' := #[.val (.int p0), .val (.long p1), .second, .val (.long p2), .second, .val (.long p3), .second, .val (.long p4), .second, .val (.long p5), .second, .val (.int (1 : Int32)), .val (.int (0 : Int32)), .val (.ref b1), .val (.int (1 : Int32))]) rfl ?_
        show Steps p.tables e below (T44.setTop (mkF m 129 #[.val (.int p0), .val (.long p1), .second, .val (.long p2), .second, .val (.long p3), .second, .val (.long p4), .second, .val (.long p5), .second, .val (.int (1 : Int32)), .val (.int (0 : Int32)), .val (.ref b1), .val (.int (1 : Int32))] [])) _
        refine XS.iload X44.here hx rfl (hb hby at_129) rfl ?_
        show Steps p.tables e below (T44.setTop (mkF m 131 #[.val (.int p0), .val (.long p1), .second, .val (.long p2), .second, .val (.long p3), .second, .val (.long p4), .second, .val (.long p5), .second, .val (.int (1 : Int32)), .val (.int (0 : Int32)), .val (.ref b1), .val (.int (1 : Int32))] [(.int (0 : Int32))])) _
        refine XS.iconst X44.here hx rfl (hb hby at_131) ?_
        show Steps p.tables e below (T44.setTop (mkF m 132 #[.val (.int p0), .val (.long p1), .second, .val (.long p2), .second, .val (.long p3), .second, .val (.long p4), .second, .val (.long p5), .second, .val (.int (1 : Int32)), .val (.int (0 : Int32)), .val (.ref b1), .val (.int (1 : Int32))] [(.int (1 : Int32)), (.int (0 : Int32))])) _
        refine XS.icmpYes X44.here hx rfl (pc0 := 132) (pc' := 159) rfl (hb hby at_132) rfl (tlt (by decide)).1 (by decide) (by decide) ?_
        show Steps p.tables e below (T44.setTop (mkF m 159 #[.val (.int p0), .val (.long p1), .second, .val (.long p2), .second, .val (.long p3), .second, .val (.long p4), .second, .val (.long p5), .second, .val (.int (1 : Int32)), .val (.int (0 : Int32)), .val (.ref b1), .val (.int (1 : Int32))] [])) _
        refine XS.iload X44.here hx rfl (hb hby at_159) rfl ?_
        show Steps p.tables e below (T44.setTop (mkF m 161 #[.val (.int p0), .val (.long p1), .second, .val (.long p2), .second, .val (.long p3), .second, .val (.long p4), .second, .val (.long p5), .second, .val (.int (1 : Int32)), .val (.int (0 : Int32)), .val (.ref b1), .val (.int (1 : Int32))] [(.int (0 : Int32))])) _
        refine XS.iconst X44.here hx rfl (hb hby at_161) ?_
        show Steps p.tables e below (T44.setTop (mkF m 162 #[.val (.int p0), .val (.long p1), .second, .val (.long p2), .second, .val (.long p3), .second, .val (.long p4), .second, .val (.long p5), .second, .val (.int (1 : Int32)), .val (.int (0 : Int32)), .val (.ref b1), .val (.int (1 : Int32))] [(.int (2 : Int32)), (.int (0 : Int32))])) _
        refine XS.icmpYes X44.here hx rfl (pc0 := 162) (pc' := 189) rfl (hb hby at_162) rfl (tlt (by decide)).1 (by decide) (by decide) ?_
        show Steps p.tables e below (T44.setTop (mkF m 189 #[.val (.int p0), .val (.long p1), .second, .val (.long p2), .second, .val (.long p3), .second, .val (.long p4), .second, .val (.long p5), .second, .val (.int (1 : Int32)), .val (.int (0 : Int32)), .val (.ref b1), .val (.int (1 : Int32))] [])) _
        refine XS.iload X44.here hx rfl (hb hby at_189) rfl ?_
        exact Steps.refl _
      obtain ⟨fs, hr, hrun, hended, hW, hsame⟩ := X44.leave (v := some (.int (1 : Int32))) (fun h => by rw [Bd.returns] at h; cases h)
      refine ⟨_, _, s45.trans ?_, hrun, hended, _, _, rfl, ?_, ⟨_, rfl⟩, hW, hsame.mono (by decide) (by decide)⟩
      · show Steps p.tables e below (T44.setTop (mkF m 191 #[.val (.int p0), .val (.long p1), .second, .val (.long p2), .second, .val (.long p3), .second, .val (.long p4), .second, .val (.long p5), .second, .val (.int (1 : Int32)), .val (.int (0 : Int32)), .val (.ref b1), .val (.int (1 : Int32))] [(.int (1 : Int32))])) _
        exact retN X44 hx (t := .boolean) Bd.returns (by simp) (hb hby at_191) hr
      · show Q0 Z p0 p1 p2 p3 p4 p5 h0 n0 _ T44.heap _
        rw [e44]
        exact ⟨rfl, N44⟩
    · have s46 := s41
      rw [hk42] at s46
      obtain ⟨cq47, kq47, q47a, q47b, q47c⟩ := isOf hZ e40 f35_0
      obtain ⟨_, _, ⟨T47, L47, k47, n47⟩, -, X47, ⟨Lc47, hQ47, l47, y47, z47⟩, st47⟩ := X40.virtualBack hx (y := (⟨"com/example/strikewire/strikewire/engine/LongList", "add", "(J)V"⟩ : MethodName)) (z := (⟨"com/example/strikewire/strikewire/engine/LongList", "add", "(J)V"⟩ : MethodName)) hown (mvT hZ (hw _ (List.mem_of_getElem? (i := 27) rfl))) (mvT hZ (hw _ (List.mem_of_getElem? (i := 28) rfl))) (notFace_of_selects (args := #[]) (mvT hZ (hw _ (List.mem_of_getElem? (i := 30) rfl)))) (mvT hZ (hw _ (List.mem_of_getElem? (i := 30) rfl))) (mvT hZ (hw _ (List.mem_of_getElem? (i := 29) rfl))) (by decide) (backOf (W := 0) (rma0 l Z a0 hw [] b1 p4 u36 u37 u38 u39 (0 : Int64) (0 : Int64) (0 : Int64) (0 : Int64) (0 : Int64) (0 : Int64) (0 : Int64) (0 : Int64) T35.heap n0 O35 f35_0 f35_1 f35_3 f35_2 f35_4 g_b1 g_u37 ne_b1_u36 ne_b1_u37 f35_7) hZ (hw _ (List.mem_of_getElem? (i := 31) rfl)) (hw _ (List.mem_of_getElem? (i := 3) rfl)) (by decide) (by decide)) q47a q47c (g := (mkF m 91 #[.val (.int p0), .val (.long p1), .second, .val (.long p2), .second, .val (.long p3), .second, .val (.long p4), .second, .val (.long p5), .second, .val (.int (1 : Int32)), .val (.int (1 : Int32)), .val (.ref b1), .val (.int (1 : Int32))] [(.long p4), (.ref b1)])) rfl (by rw [hml]; rfl) (Steps.refl _) (argsL := [(.long p4)]) (rest := []) (lenOf pd_rm0_2 rfl) rfl (by show 2 * 0 + _ ≤ _; exact Nat.le_of_eq rfl) (hb hby at_91) (fun _ _ => ⟨rfl, e40, (by decide : 5 + 0 ≤ _), (by decide : 20 + 0 ≤ _)⟩)
      dsimp only [Pt.U, Pt.locs, Pt.cells, Pt.slots] at X47 l47 y47 z47 st47 hQ47
      subst l47 y47 z47
      obtain ⟨rfl, Nq47, Kc47, f47_0, f47_1, f47_2, f47_3, f47_4⟩ := hQ47
      have N47 := Fr.app N40 Nq47
      have O47 := O35.keep Kc47 (allS g_b1 (allS g_u37 all0))
      obtain ⟨cq48, kq48, q48a, q48b, q48c⟩ := isOf hZ (rfl : T47.heap = T47.heap) f47_0
      obtain ⟨_, _, ⟨T48, L48, k48, n48⟩, -, X48, ⟨Lc48, hQ48, l48, y48, z48⟩, st48⟩ := X47.virtualBack hx (y := (⟨"com/example/strikewire/strikewire/engine/LongList", "size", "()I"⟩ : MethodName)) (z := (⟨"com/example/strikewire/strikewire/engine/LongList", "size", "()I"⟩ : MethodName)) hown (mvT hZ (hw _ (List.mem_of_getElem? (i := 22) rfl))) (mvT hZ (hw _ (List.mem_of_getElem? (i := 23) rfl))) (notFace_of_selects (args := #[]) (mvT hZ (hw _ (List.mem_of_getElem? (i := 25) rfl)))) (mvT hZ (hw _ (List.mem_of_getElem? (i := 25) rfl))) (mvT hZ (hw _ (List.mem_of_getElem? (i := 24) rfl))) (by decide) (backOf (W := 0) (rm4 l Z a0 hw [] b1 (1 : Int32) T47.heap n0 O47 f47_3) hZ (hw _ (List.mem_of_getElem? (i := 26) rfl)) (hw _ (List.mem_of_getElem? (i := 3) rfl)) (by decide) (by decide)) q48a q48c (g := (mkF m 114 #[.val (.int p0), .val (.long p1), .second, .val (.long p2), .second, .val (.long p3), .second, .val (.long p4), .second, .val (.long p5), .second, .val (.int (1 : Int32)), .val (.int (1 : Int32)), .val (.ref b1), .val (.int (1 : Int32))] [(.ref b1)])) rfl (by rw [hml]; rfl) (Steps.refl _) (argsL := []) (rest := []) (lenOf pd_rm0_1 rfl) rfl (by show 2 * 0 + _ ≤ _; exact Nat.le_of_eq rfl) (hb hby at_114) (fun _ _ => ⟨rfl, (rfl : T47.heap = T47.heap), (by decide : 5 + 0 ≤ _), (by decide : 20 + 0 ≤ _)⟩)
      dsimp only [Pt.U, Pt.locs, Pt.cells, Pt.slots] at X48 l48 y48 z48 st48 hQ48
      subst l48 y48 z48
      obtain ⟨rfl, Nq48, e48⟩ := hQ48
      have N48 := Fr.app N47 Nq48
      obtain ⟨cq49, kq49, q49a, q49b, q49c⟩ := isOf hZ e48 f47_0
      obtain ⟨_, _, ⟨T49, L49, k49, n49⟩, -, X49, ⟨Lc49, hQ49, l49, y49, z49⟩, st49⟩ := X48.virtualBack hx (y := (⟨"com/example/strikewire/strikewire/engine/LongList", "get", "(I)J"⟩ : MethodName)) (z := (⟨"com/example/strikewire/strikewire/engine/LongList", "get", "(I)J"⟩ : MethodName)) hown (mvT hZ (hw _ (List.mem_of_getElem? (i := 34) rfl))) (mvT hZ (hw _ (List.mem_of_getElem? (i := 35) rfl))) (notFace_of_selects (args := #[]) (mvT hZ (hw _ (List.mem_of_getElem? (i := 37) rfl)))) (mvT hZ (hw _ (List.mem_of_getElem? (i := 37) rfl))) (mvT hZ (hw _ (List.mem_of_getElem? (i := 36) rfl))) (by decide) (backOf (W := 0) (rmg0_1 l Z a0 hw [] b1 u36 u37 u38 u39 p4 (0 : Int64) (0 : Int64) (0 : Int64) (0 : Int64) (0 : Int64) (0 : Int64) (0 : Int64) T47.heap n0 O47 f47_0 f47_1 f47_2 f47_3 f47_4) hZ (hw _ (List.mem_of_getElem? (i := 38) rfl)) (hw _ (List.mem_of_getElem? (i := 3) rfl)) (by decide) (by decide)) q49a q49c (g := (mkF m 143 #[.val (.int p0), .val (.long p1), .second, .val (.long p2), .second, .val (.long p3), .second, .val (.long p4), .second, .val (.long p5), .second, .val (.int (1 : Int32)), .val (.int (1 : Int32)), .val (.ref b1), .val (.int (1 : Int32))] [(.int (0 : Int32)), (.ref b1)])) rfl (by rw [hml]; rfl) (Steps.refl _) (argsL := [(.int (0 : Int32))]) (rest := []) (lenOf pd_rm0_3 rfl) rfl (by show 2 * 0 + _ ≤ _; exact Nat.le_of_eq rfl) (hb hby at_143) (fun _ _ => ⟨rfl, e48, (by decide : 5 + 0 ≤ _), (by decide : 20 + 0 ≤ _)⟩)
      dsimp only [Pt.U, Pt.locs, Pt.cells, Pt.slots] at X49 l49 y49 z49 st49 hQ49
      subst l49 y49 z49
      obtain ⟨rfl, Nq49, e49⟩ := hQ49
      have N49 := Fr.app N48 Nq49
      have s50 : Steps p.tables e below (s₁.setTop (entryFrame m #[(.int p0), (.long p1), (.long p2), (.long p3), (.long p4), (.long p5)] maxLocals)) (T49.setTop (mkF m 191 #[.val (.int p0), .val (.long p1), .second, .val (.long p2), .second, .val (.long p3), .second, .val (.long p4), .second, .val (.long p5), .second, .val (.int (1 : Int32)), .val (.int (1 : Int32)), .val (.ref b1), .val (.int (1 : Int32))] [(.int (1 : Int32))])) := by
        refine s46.trans ?_
        show Steps p.tables e below (T40.setTop (mkF m 81 #[.val (.int p0), .val (.long p1), .second, .val (.long p2), .second, .val (.long p3), .second, .val (.long p4), .second, .val (.long p5), .second, .val (.int (1 : Int32)), .val (.int (1 : Int32)), .val (.ref b1), .val (.int (1 : Int32))] [])) _
        refine XS.iload X40.here hx rfl (hb hby at_81) rfl ?_
        show Steps p.tables e below (T40.setTop (mkF m 83 #[.val (.int p0), .val (.long p1), .second, .val (.long p2), .second, .val (.long p3), .second, .val (.long p4), .second, .val (.long p5), .second, .val (.int (1 : Int32)), .val (.int (1 : Int32)), .val (.ref b1), .val (.int (1 : Int32))] [(.int (1 : Int32))])) _
        refine XS.iconst X40.here hx rfl (hb hby at_83) ?_
        show Steps p.tables e below (T40.setTop (mkF m 84 #[.val (.int p0), .val (.long p1), .second, .val (.long p2), .second, .val (.long p3), .second, .val (.long p4), .second, .val (.long p5), .second, .val (.int (1 : Int32)), .val (.int (1 : Int32)), .val (.ref b1), .val (.int (1 : Int32))] [(.int (1 : Int32)), (.int (1 : Int32))])) _
        refine XS.icmpNo X40.here hx rfl (hb hby at_84) rfl (flt (by decide)).1 ?_
        show Steps p.tables e below (T40.setTop (mkF m 87 #[.val (.int p0), .val (.long p1), .second, .val (.long p2), .second, .val (.long p3), .second, .val (.long p4), .second, .val (.long p5), .second, .val (.int (1 : Int32)), .val (.int (1 : Int32)), .val (.ref b1), .val (.int (1 : Int32))] [])) _
        refine XS.aload X40.here hx rfl (hb hby at_87) rfl rfl ?_
        show Steps p.tables e below (T40.setTop (mkF m 89 #[.val (.int p0), .val (.long p1), .second, .val (.long p2), .second, .val (.long p3), .second, .val (.long p4), .second, .val (.long p5), .second, .val (.int (1 : Int32)), .val (.int (1 : Int32)), .val (.ref b1), .val (.int (1 : Int32))] [(.ref b1)])) _
        refine XS.lload X40.here hx rfl (hb hby at_89) rfl ?_
        show Steps p.tables e below (T40.setTop (mkF m 91 #[.val (.int p0), .val (.long p1), .second, .val (.long p2), .second, .val (.long p3), .second, .val (.long p4), .second, .val (.long p5), .second, .val (.int (1 : Int32)), .val (.int (1 : Int32)), .val (.ref b1), .val (.int (1 : Int32))] [(.long p4), (.ref b1)])) _
        refine st47.trans ?_
        show Steps p.tables e below (T47.setTop (mkF m 94 #[.val (.int p0), .val (.long p1), .second, .val (.long p2), .second, .val (.long p3), .second, .val (.long p4), .second, .val (.long p5), .second, .val (.int (1 : Int32)), .val (.int (1 : Int32)), .val (.ref b1), .val (.int (1 : Int32))] [])) _
        refine XS.iload X47.here hx rfl (hb hby at_94) rfl ?_
        show Steps p.tables e below (T47.setTop (mkF m 96 #[.val (.int p0), .val (.long p1), .second, .val (.long p2), .second, .val (.long p3), .second, .val (.long p4), .second, .val (.long p5), .second, .val (.int (1 : Int32)), .val (.int (1 : Int32)), .val (.ref b1), .val (.int (1 : Int32))] [(.int (1 : Int32))])) _
        refine XS.iconst X47.here hx rfl (hb hby at_96) ?_
        show Steps p.tables e below (T47.setTop (mkF m 97 #[.val (.int p0), .val (.long p1), .second, .val (.long p2), .second, .val (.long p3), .second, .val (.long p4), .second, .val (.long p5), .second, .val (.int (1 : Int32)), .val (.int (1 : Int32)), .val (.ref b1), .val (.int (1 : Int32))] [(.int (2 : Int32)), (.int (1 : Int32))])) _
        refine XS.icmpYes X47.here hx rfl (pc0 := 97) (pc' := 107) rfl (hb hby at_97) rfl (tlt (by decide)).1 (by decide) (by decide) ?_
        show Steps p.tables e below (T47.setTop (mkF m 107 #[.val (.int p0), .val (.long p1), .second, .val (.long p2), .second, .val (.long p3), .second, .val (.long p4), .second, .val (.long p5), .second, .val (.int (1 : Int32)), .val (.int (1 : Int32)), .val (.ref b1), .val (.int (1 : Int32))] [])) _
        refine XS.iload X47.here hx rfl (hb hby at_107) rfl ?_
        show Steps p.tables e below (T47.setTop (mkF m 109 #[.val (.int p0), .val (.long p1), .second, .val (.long p2), .second, .val (.long p3), .second, .val (.long p4), .second, .val (.long p5), .second, .val (.int (1 : Int32)), .val (.int (1 : Int32)), .val (.ref b1), .val (.int (1 : Int32))] [(.int (1 : Int32))])) _
        refine XS.ifNo X47.here hx rfl (hb hby at_109) rfl ((if0 _ _).trans (feq (by decide)).1) ?_
        show Steps p.tables e below (T47.setTop (mkF m 112 #[.val (.int p0), .val (.long p1), .second, .val (.long p2), .second, .val (.long p3), .second, .val (.long p4), .second, .val (.long p5), .second, .val (.int (1 : Int32)), .val (.int (1 : Int32)), .val (.ref b1), .val (.int (1 : Int32))] [])) _
        refine XS.aload X47.here hx rfl (hb hby at_112) rfl rfl ?_
        show Steps p.tables e below (T47.setTop (mkF m 114 #[.val (.int p0), .val (.long p1), .second, .val (.long p2), .second, .val (.long p3), .second, .val (.long p4), .second, .val (.long p5), .second, .val (.int (1 : Int32)), .val (.int (1 : Int32)), .val (.ref b1), .val (.int (1 : Int32))] [(.ref b1)])) _
        refine st48.trans ?_
        show Steps p.tables e below (T48.setTop (mkF m 117 #[.val (.int p0), .val (.long p1), .second, .val (.long p2), .second, .val (.long p3), .second, .val (.long p4), .second, .val (.long p5), .second, .val (.int (1 : Int32)), .val (.int (1 : Int32)), .val (.ref b1), .val (.int (1 : Int32))] [(.int (1 : Int32))])) _
        refine XS.iload X48.here hx rfl (hb hby at_117) rfl ?_
        show Steps p.tables e below (T48.setTop (mkF m 119 #[.val (.int p0), .val (.long p1), .second, .val (.long p2), .second, .val (.long p3), .second, .val (.long p4), .second, .val (.long p5), .second, .val (.int (1 : Int32)), .val (.int (1 : Int32)), .val (.ref b1), .val (.int (1 : Int32))] [(.int (1 : Int32)), (.int (1 : Int32))])) _
        refine XS.icmpNo X48.here hx rfl (hb hby at_119) rfl (teq (by decide)).2 ?_
        show Steps p.tables e below (T48.setTop (mkF m 122 #[.val (.int p0), .val (.long p1), .second, .val (.long p2), .second, .val (.long p3), .second, .val (.long p4), .second, .val (.long p5), .second, .val (.int (1 : Int32)), .val (.int (1 : Int32)), .val (.ref b1), .val (.int (1 : Int32))] [])) _
        refine XS.iconst X48.here hx rfl (hb hby at_122) ?_
        show Steps p.tables e below (T48.setTop (mkF m 123 #[.val (.int p0), .val (.long p1), .second, .val (.long p2), .second, .val (.long p3), .second, .val (.long p4), .second, .val (.long p5), .second, .val (.int (1 : Int32)), .val (.int (1 : Int32)), .val (.ref b1), .val (.int (1 : Int32))] [(.int (1 : Int32))])) _
        refine XS.goto X48.here hx rfl (pc0 := 123) (pc' := 127) rfl (hb hby at_123) (by decide) (by decide) ?_
        show Steps p.tables e below (T48.setTop (mkF m 127 #[.val (.int p0), .val (.long p1), .second, .val (.long p2), .second, .val (.long p3), .second, .val (.long p4), .second, .val (.long p5), .second, .val (.int (1 : Int32)), .val (.int (1 : Int32)), .val (.ref b1), .val (.int (1 : Int32))] [(.int (1 : Int32))])) _
        refine XS.istore X48.here hx rfl (hb hby at_127) rfl (l' := #[.val (.int p0), .val (.long p1), .second, .val (.long p2), .second, .val (.long p3), .second, .val (.long p4), .second, .val (.long p5), .second, .val (.int (1 : Int32)), .val (.int (1 : Int32)), .val (.ref b1), .val (.int (1 : Int32))]) rfl ?_
        show Steps p.tables e below (T48.setTop (mkF m 129 #[.val (.int p0), .val (.long p1), .second, .val (.long p2), .second, .val (.long p3), .second, .val (.long p4), .second, .val (.long p5), .second, .val (.int (1 : Int32)), .val (.int (1 : Int32)), .val (.ref b1), .val (.int (1 : Int32))] [])) _
        refine XS.iload X48.here hx rfl (hb hby at_129) rfl ?_
        show Steps p.tables e below (T48.setTop (mkF m 131 #[.val (.int p0), .val (.long p1), .second, .val (.long p2), .second, .val (.long p3), .second, .val (.long p4), .second, .val (.long p5), .second, .val (.int (1 : Int32)), .val (.int (1 : Int32)), .val (.ref b1), .val (.int (1 : Int32))] [(.int (1 : Int32))])) _
        refine XS.iconst X48.here hx rfl (hb hby at_131) ?_
        show Steps p.tables e below (T48.setTop (mkF m 132 #[.val (.int p0), .val (.long p1), .second, .val (.long p2), .second, .val (.long p3), .second, .val (.long p4), .second, .val (.long p5), .second, .val (.int (1 : Int32)), .val (.int (1 : Int32)), .val (.ref b1), .val (.int (1 : Int32))] [(.int (1 : Int32)), (.int (1 : Int32))])) _
        refine XS.icmpNo X48.here hx rfl (hb hby at_132) rfl (flt (by decide)).1 ?_
        show Steps p.tables e below (T48.setTop (mkF m 135 #[.val (.int p0), .val (.long p1), .second, .val (.long p2), .second, .val (.long p3), .second, .val (.long p4), .second, .val (.long p5), .second, .val (.int (1 : Int32)), .val (.int (1 : Int32)), .val (.ref b1), .val (.int (1 : Int32))] [])) _
        refine XS.iload X48.here hx rfl (hb hby at_135) rfl ?_
        show Steps p.tables e below (T48.setTop (mkF m 137 #[.val (.int p0), .val (.long p1), .second, .val (.long p2), .second, .val (.long p3), .second, .val (.long p4), .second, .val (.long p5), .second, .val (.int (1 : Int32)), .val (.int (1 : Int32)), .val (.ref b1), .val (.int (1 : Int32))] [(.int (1 : Int32))])) _
        refine XS.ifNo X48.here hx rfl (hb hby at_137) rfl ((if0 _ _).trans (feq (by decide)).1) ?_
        show Steps p.tables e below (T48.setTop (mkF m 140 #[.val (.int p0), .val (.long p1), .second, .val (.long p2), .second, .val (.long p3), .second, .val (.long p4), .second, .val (.long p5), .second, .val (.int (1 : Int32)), .val (.int (1 : Int32)), .val (.ref b1), .val (.int (1 : Int32))] [])) _
        refine XS.aload X48.here hx rfl (hb hby at_140) rfl rfl ?_
        show Steps p.tables e below (T48.setTop (mkF m 142 #[.val (.int p0), .val (.long p1), .second, .val (.long p2), .second, .val (.long p3), .second, .val (.long p4), .second, .val (.long p5), .second, .val (.int (1 : Int32)), .val (.int (1 : Int32)), .val (.ref b1), .val (.int (1 : Int32))] [(.ref b1)])) _
        refine XS.iconst X48.here hx rfl (hb hby at_142) ?_
        show Steps p.tables e below (T48.setTop (mkF m 143 #[.val (.int p0), .val (.long p1), .second, .val (.long p2), .second, .val (.long p3), .second, .val (.long p4), .second, .val (.long p5), .second, .val (.int (1 : Int32)), .val (.int (1 : Int32)), .val (.ref b1), .val (.int (1 : Int32))] [(.int (0 : Int32)), (.ref b1)])) _
        refine st49.trans ?_
        show Steps p.tables e below (T49.setTop (mkF m 146 #[.val (.int p0), .val (.long p1), .second, .val (.long p2), .second, .val (.long p3), .second, .val (.long p4), .second, .val (.long p5), .second, .val (.int (1 : Int32)), .val (.int (1 : Int32)), .val (.ref b1), .val (.int (1 : Int32))] [(.long p4)])) _
        refine XS.lload X49.here hx rfl (hb hby at_146) rfl ?_
        show Steps p.tables e below (T49.setTop (mkF m 148 #[.val (.int p0), .val (.long p1), .second, .val (.long p2), .second, .val (.long p3), .second, .val (.long p4), .second, .val (.long p5), .second, .val (.int (1 : Int32)), .val (.int (1 : Int32)), .val (.ref b1), .val (.int (1 : Int32))] [(.long p4), (.long p4)])) _
        refine XS.lcmp X49.here hx rfl (hb hby at_148) rfl ?_
        show Steps p.tables e below (T49.setTop (mkF m 149 #[.val (.int p0), .val (.long p1), .second, .val (.long p2), .second, .val (.long p3), .second, .val (.long p4), .second, .val (.long p5), .second, .val (.int (1 : Int32)), .val (.int (1 : Int32)), .val (.ref b1), .val (.int (1 : Int32))] [(.int (lcmpW p4 p4))])) _
        refine XS.ifNo X49.here hx rfl (hb hby at_149) rfl ((if0 _ _).trans (teq ((lw_eq _ _).mpr rfl)).2) ?_
        show Steps p.tables e below (T49.setTop (mkF m 152 #[.val (.int p0), .val (.long p1), .second, .val (.long p2), .second, .val (.long p3), .second, .val (.long p4), .second, .val (.long p5), .second, .val (.int (1 : Int32)), .val (.int (1 : Int32)), .val (.ref b1), .val (.int (1 : Int32))] [])) _
        refine XS.iconst X49.here hx rfl (hb hby at_152) ?_
        show Steps p.tables e below (T49.setTop (mkF m 153 #[.val (.int p0), .val (.long p1), .second, .val (.long p2), .second, .val (.long p3), .second, .val (.long p4), .second, .val (.long p5), .second, .val (.int (1 : Int32)), .val (.int (1 : Int32)), .val (.ref b1), .val (.int (1 : Int32))] [(.int (1 : Int32))])) _
        refine XS.goto X49.here hx rfl (pc0 := 153) (pc' := 157) rfl (hb hby at_153) (by decide) (by decide) ?_
        show Steps p.tables e below (T49.setTop (mkF m 157 #[.val (.int p0), .val (.long p1), .second, .val (.long p2), .second, .val (.long p3), .second, .val (.long p4), .second, .val (.long p5), .second, .val (.int (1 : Int32)), .val (.int (1 : Int32)), .val (.ref b1), .val (.int (1 : Int32))] [(.int (1 : Int32))])) _
        refine XS.istore X49.here hx rfl (hb hby at_157) rfl (l' := #[.val (.int p0), .val (.long p1), .second, .val (.long p2), .second, .val (.long p3), .second, .val (.long p4), .second, .val (.long p5), .second, .val (.int (1 : Int32)), .val (.int (1 : Int32)), .val (.ref b1), .val (.int (1 : Int32))]) rfl ?_
        show Steps p.tables e below (T49.setTop (mkF m 159 #[.val (.int p0), .val (.long p1), .second, .val (.long p2), .second, .val (.long p3), .second, .val (.long p4), .second, .val (.long p5), .second, .val (.int (1 : Int32)), .val (.int (1 : Int32)), .val (.ref b1), .val (.int (1 : Int32))] [])) _
        refine XS.iload X49.here hx rfl (hb hby at_159) rfl ?_
        show Steps p.tables e below (T49.setTop (mkF m 161 #[.val (.int p0), .val (.long p1), .second, .val (.long p2), .second, .val (.long p3), .second, .val (.long p4), .second, .val (.long p5), .second, .val (.int (1 : Int32)), .val (.int (1 : Int32)), .val (.ref b1), .val (.int (1 : Int32))] [(.int (1 : Int32))])) _
        refine XS.iconst X49.here hx rfl (hb hby at_161) ?_
        show Steps p.tables e below (T49.setTop (mkF m 162 #[.val (.int p0), .val (.long p1), .second, .val (.long p2), .second, .val (.long p3), .second, .val (.long p4), .second, .val (.long p5), .second, .val (.int (1 : Int32)), .val (.int (1 : Int32)), .val (.ref b1), .val (.int (1 : Int32))] [(.int (2 : Int32)), (.int (1 : Int32))])) _
        refine XS.icmpYes X49.here hx rfl (pc0 := 162) (pc' := 189) rfl (hb hby at_162) rfl (tlt (by decide)).1 (by decide) (by decide) ?_
        show Steps p.tables e below (T49.setTop (mkF m 189 #[.val (.int p0), .val (.long p1), .second, .val (.long p2), .second, .val (.long p3), .second, .val (.long p4), .second, .val (.long p5), .second, .val (.int (1 : Int32)), .val (.int (1 : Int32)), .val (.ref b1), .val (.int (1 : Int32))] [])) _
        refine XS.iload X49.here hx rfl (hb hby at_189) rfl ?_
        exact Steps.refl _
      obtain ⟨fs, hr, hrun, hended, hW, hsame⟩ := X49.leave (v := some (.int (1 : Int32))) (fun h => by rw [Bd.returns] at h; cases h)
      refine ⟨_, _, s50.trans ?_, hrun, hended, _, _, rfl, ?_, ⟨_, rfl⟩, hW, hsame.mono (by decide) (by decide)⟩
      · show Steps p.tables e below (T49.setTop (mkF m 191 #[.val (.int p0), .val (.long p1), .second, .val (.long p2), .second, .val (.long p3), .second, .val (.long p4), .second, .val (.long p5), .second, .val (.int (1 : Int32)), .val (.int (1 : Int32)), .val (.ref b1), .val (.int (1 : Int32))] [(.int (1 : Int32))])) _
        exact retN X49 hx (t := .boolean) Bd.returns (by simp) (hb hby at_191) hr
      · show Q0 Z p0 p1 p2 p3 p4 p5 h0 n0 _ T49.heap _
        rw [e49]
        exact ⟨rfl, N49⟩
    · have s51 := s41
      rw [hk42] at s51
      obtain ⟨cq52, kq52, q52a, q52b, q52c⟩ := isOf hZ e40 f35_0
      obtain ⟨_, _, ⟨T52, L52, k52, n52⟩, -, X52, ⟨Lc52, hQ52, l52, y52, z52⟩, st52⟩ := X40.virtualBack hx (y := (⟨"com/example/strikewire/strikewire/engine/LongList", "add", "(J)V"⟩ : MethodName)) (z := (⟨"com/example/strikewire/strikewire/engine/LongList", "add", "(J)V"⟩ : MethodName)) hown (mvT hZ (hw _ (List.mem_of_getElem? (i := 27) rfl))) (mvT hZ (hw _ (List.mem_of_getElem? (i := 28) rfl))) (notFace_of_selects (args := #[]) (mvT hZ (hw _ (List.mem_of_getElem? (i := 30) rfl)))) (mvT hZ (hw _ (List.mem_of_getElem? (i := 30) rfl))) (mvT hZ (hw _ (List.mem_of_getElem? (i := 29) rfl))) (by decide) (backOf (W := 0) (rma0 l Z a0 hw [] b1 p4 u36 u37 u38 u39 (0 : Int64) (0 : Int64) (0 : Int64) (0 : Int64) (0 : Int64) (0 : Int64) (0 : Int64) (0 : Int64) T35.heap n0 O35 f35_0 f35_1 f35_3 f35_2 f35_4 g_b1 g_u37 ne_b1_u36 ne_b1_u37 f35_7) hZ (hw _ (List.mem_of_getElem? (i := 31) rfl)) (hw _ (List.mem_of_getElem? (i := 3) rfl)) (by decide) (by decide)) q52a q52c (g := (mkF m 91 #[.val (.int p0), .val (.long p1), .second, .val (.long p2), .second, .val (.long p3), .second, .val (.long p4), .second, .val (.long p5), .second, .val (.int (1 : Int32)), .val (.int (2 : Int32)), .val (.ref b1), .val (.int (1 : Int32))] [(.long p4), (.ref b1)])) rfl (by rw [hml]; rfl) (Steps.refl _) (argsL := [(.long p4)]) (rest := []) (lenOf pd_rm0_2 rfl) rfl (by show 2 * 0 + _ ≤ _; exact Nat.le_of_eq rfl) (hb hby at_91) (fun _ _ => ⟨rfl, e40, (by decide : 5 + 0 ≤ _), (by decide : 20 + 0 ≤ _)⟩)
      dsimp only [Pt.U, Pt.locs, Pt.cells, Pt.slots] at X52 l52 y52 z52 st52 hQ52
      subst l52 y52 z52
      obtain ⟨rfl, Nq52, Kc52, f52_0, f52_1, f52_2, f52_3, f52_4⟩ := hQ52
      have N52 := Fr.app N40 Nq52
      have O52 := O35.keep Kc52 (allS g_b1 (allS g_u37 all0))
      obtain ⟨cq53, kq53, q53a, q53b, q53c⟩ := isOf hZ (rfl : T52.heap = T52.heap) f52_0
      obtain ⟨_, _, ⟨T53, L53, k53, n53⟩, -, X53, ⟨Lc53, hQ53, l53, y53, z53⟩, st53⟩ := X52.virtualBack hx (y := (⟨"com/example/strikewire/strikewire/engine/LongList", "add", "(J)V"⟩ : MethodName)) (z := (⟨"com/example/strikewire/strikewire/engine/LongList", "add", "(J)V"⟩ : MethodName)) hown (mvT hZ (hw _ (List.mem_of_getElem? (i := 27) rfl))) (mvT hZ (hw _ (List.mem_of_getElem? (i := 28) rfl))) (notFace_of_selects (args := #[]) (mvT hZ (hw _ (List.mem_of_getElem? (i := 30) rfl)))) (mvT hZ (hw _ (List.mem_of_getElem? (i := 30) rfl))) (mvT hZ (hw _ (List.mem_of_getElem? (i := 29) rfl))) (by decide) (backOf (W := 0) (rma1 l Z a0 hw [] b1 p5 u36 u37 u38 u39 p4 (0 : Int64) (0 : Int64) (0 : Int64) (0 : Int64) (0 : Int64) (0 : Int64) (0 : Int64) T52.heap n0 O52 f52_0 f52_1 f52_2 f52_3 f52_4 g_b1 g_u37 ne_b1_u36 ne_b1_u37 f35_7) hZ (hw _ (List.mem_of_getElem? (i := 31) rfl)) (hw _ (List.mem_of_getElem? (i := 3) rfl)) (by decide) (by decide)) q53a q53c (g := (mkF m 104 #[.val (.int p0), .val (.long p1), .second, .val (.long p2), .second, .val (.long p3), .second, .val (.long p4), .second, .val (.long p5), .second, .val (.int (1 : Int32)), .val (.int (2 : Int32)), .val (.ref b1), .val (.int (1 : Int32))] [(.long p5), (.ref b1)])) rfl (by rw [hml]; rfl) (Steps.refl _) (argsL := [(.long p5)]) (rest := []) (lenOf pd_rm0_2 rfl) rfl (by show 2 * 0 + _ ≤ _; exact Nat.le_of_eq rfl) (hb hby at_104) (fun _ _ => ⟨rfl, (rfl : T52.heap = T52.heap), (by decide : 5 + 0 ≤ _), (by decide : 20 + 0 ≤ _)⟩)
      dsimp only [Pt.U, Pt.locs, Pt.cells, Pt.slots] at X53 l53 y53 z53 st53 hQ53
      subst l53 y53 z53
      obtain ⟨rfl, Nq53, Kc53, f53_0, f53_1, f53_2, f53_3, f53_4⟩ := hQ53
      have N53 := Fr.app N52 Nq53
      have O53 := O52.keep Kc53 (allS g_b1 (allS g_u37 all0))
      obtain ⟨cq54, kq54, q54a, q54b, q54c⟩ := isOf hZ (rfl : T53.heap = T53.heap) f53_0
      obtain ⟨_, _, ⟨T54, L54, k54, n54⟩, -, X54, ⟨Lc54, hQ54, l54, y54, z54⟩, st54⟩ := X53.virtualBack hx (y := (⟨"com/example/strikewire/strikewire/engine/LongList", "size", "()I"⟩ : MethodName)) (z := (⟨"com/example/strikewire/strikewire/engine/LongList", "size", "()I"⟩ : MethodName)) hown (mvT hZ (hw _ (List.mem_of_getElem? (i := 22) rfl))) (mvT hZ (hw _ (List.mem_of_getElem? (i := 23) rfl))) (notFace_of_selects (args := #[]) (mvT hZ (hw _ (List.mem_of_getElem? (i := 25) rfl)))) (mvT hZ (hw _ (List.mem_of_getElem? (i := 25) rfl))) (mvT hZ (hw _ (List.mem_of_getElem? (i := 24) rfl))) (by decide) (backOf (W := 0) (rm4 l Z a0 hw [] b1 (2 : Int32) T53.heap n0 O53 f53_3) hZ (hw _ (List.mem_of_getElem? (i := 26) rfl)) (hw _ (List.mem_of_getElem? (i := 3) rfl)) (by decide) (by decide)) q54a q54c (g := (mkF m 114 #[.val (.int p0), .val (.long p1), .second, .val (.long p2), .second, .val (.long p3), .second, .val (.long p4), .second, .val (.long p5), .second, .val (.int (1 : Int32)), .val (.int (2 : Int32)), .val (.ref b1), .val (.int (1 : Int32))] [(.ref b1)])) rfl (by rw [hml]; rfl) (Steps.refl _) (argsL := []) (rest := []) (lenOf pd_rm0_1 rfl) rfl (by show 2 * 0 + _ ≤ _; exact Nat.le_of_eq rfl) (hb hby at_114) (fun _ _ => ⟨rfl, (rfl : T53.heap = T53.heap), (by decide : 5 + 0 ≤ _), (by decide : 20 + 0 ≤ _)⟩)
      dsimp only [Pt.U, Pt.locs, Pt.cells, Pt.slots] at X54 l54 y54 z54 st54 hQ54
      subst l54 y54 z54
      obtain ⟨rfl, Nq54, e54⟩ := hQ54
      have N54 := Fr.app N53 Nq54
      obtain ⟨cq55, kq55, q55a, q55b, q55c⟩ := isOf hZ e54 f53_0
      obtain ⟨_, _, ⟨T55, L55, k55, n55⟩, -, X55, ⟨Lc55, hQ55, l55, y55, z55⟩, st55⟩ := X54.virtualBack hx (y := (⟨"com/example/strikewire/strikewire/engine/LongList", "get", "(I)J"⟩ : MethodName)) (z := (⟨"com/example/strikewire/strikewire/engine/LongList", "get", "(I)J"⟩ : MethodName)) hown (mvT hZ (hw _ (List.mem_of_getElem? (i := 34) rfl))) (mvT hZ (hw _ (List.mem_of_getElem? (i := 35) rfl))) (notFace_of_selects (args := #[]) (mvT hZ (hw _ (List.mem_of_getElem? (i := 37) rfl)))) (mvT hZ (hw _ (List.mem_of_getElem? (i := 37) rfl))) (mvT hZ (hw _ (List.mem_of_getElem? (i := 36) rfl))) (by decide) (backOf (W := 0) (rmg0_2 l Z a0 hw [] b1 u36 u37 u38 u39 p4 p5 (0 : Int64) (0 : Int64) (0 : Int64) (0 : Int64) (0 : Int64) (0 : Int64) T53.heap n0 O53 f53_0 f53_1 f53_2 f53_3 f53_4) hZ (hw _ (List.mem_of_getElem? (i := 38) rfl)) (hw _ (List.mem_of_getElem? (i := 3) rfl)) (by decide) (by decide)) q55a q55c (g := (mkF m 143 #[.val (.int p0), .val (.long p1), .second, .val (.long p2), .second, .val (.long p3), .second, .val (.long p4), .second, .val (.long p5), .second, .val (.int (1 : Int32)), .val (.int (2 : Int32)), .val (.ref b1), .val (.int (1 : Int32))] [(.int (0 : Int32)), (.ref b1)])) rfl (by rw [hml]; rfl) (Steps.refl _) (argsL := [(.int (0 : Int32))]) (rest := []) (lenOf pd_rm0_3 rfl) rfl (by show 2 * 0 + _ ≤ _; exact Nat.le_of_eq rfl) (hb hby at_143) (fun _ _ => ⟨rfl, e54, (by decide : 5 + 0 ≤ _), (by decide : 20 + 0 ≤ _)⟩)
      dsimp only [Pt.U, Pt.locs, Pt.cells, Pt.slots] at X55 l55 y55 z55 st55 hQ55
      subst l55 y55 z55
      obtain ⟨rfl, Nq55, e55⟩ := hQ55
      have N55 := Fr.app N54 Nq55
      obtain ⟨cq56, kq56, q56a, q56b, q56c⟩ := isOf hZ e55 f53_0
      obtain ⟨_, _, ⟨T56, L56, k56, n56⟩, -, X56, ⟨Lc56, hQ56, l56, y56, z56⟩, st56⟩ := X55.virtualBack hx (y := (⟨"com/example/strikewire/strikewire/engine/LongList", "get", "(I)J"⟩ : MethodName)) (z := (⟨"com/example/strikewire/strikewire/engine/LongList", "get", "(I)J"⟩ : MethodName)) hown (mvT hZ (hw _ (List.mem_of_getElem? (i := 34) rfl))) (mvT hZ (hw _ (List.mem_of_getElem? (i := 35) rfl))) (notFace_of_selects (args := #[]) (mvT hZ (hw _ (List.mem_of_getElem? (i := 37) rfl)))) (mvT hZ (hw _ (List.mem_of_getElem? (i := 37) rfl))) (mvT hZ (hw _ (List.mem_of_getElem? (i := 36) rfl))) (by decide) (backOf (W := 0) (rmg1_2 l Z a0 hw [] b1 u36 u37 u38 u39 p4 p5 (0 : Int64) (0 : Int64) (0 : Int64) (0 : Int64) (0 : Int64) (0 : Int64) T53.heap n0 O53 f53_0 f53_1 f53_2 f53_3 f53_4) hZ (hw _ (List.mem_of_getElem? (i := 38) rfl)) (hw _ (List.mem_of_getElem? (i := 3) rfl)) (by decide) (by decide)) q56a q56c (g := (mkF m 173 #[.val (.int p0), .val (.long p1), .second, .val (.long p2), .second, .val (.long p3), .second, .val (.long p4), .second, .val (.long p5), .second, .val (.int (1 : Int32)), .val (.int (2 : Int32)), .val (.ref b1), .val (.int (1 : Int32))] [(.int (1 : Int32)), (.ref b1)])) rfl (by rw [hml]; rfl) (Steps.refl _) (argsL := [(.int (1 : Int32))]) (rest := []) (lenOf pd_rm0_3 rfl) rfl (by show 2 * 0 + _ ≤ _; exact Nat.le_of_eq rfl) (hb hby at_173) (fun _ _ => ⟨rfl, e55, (by decide : 5 + 0 ≤ _), (by decide : 20 + 0 ≤ _)⟩)
      dsimp only [Pt.U, Pt.locs, Pt.cells, Pt.slots] at X56 l56 y56 z56 st56 hQ56
      subst l56 y56 z56
      obtain ⟨rfl, Nq56, e56⟩ := hQ56
      have N56 := Fr.app N55 Nq56
      have s57 : Steps p.tables e below (s₁.setTop (entryFrame m #[(.int p0), (.long p1), (.long p2), (.long p3), (.long p4), (.long p5)] maxLocals)) (T56.setTop (mkF m 191 #[.val (.int p0), .val (.long p1), .second, .val (.long p2), .second, .val (.long p3), .second, .val (.long p4), .second, .val (.long p5), .second, .val (.int (1 : Int32)), .val (.int (2 : Int32)), .val (.ref b1), .val (.int (1 : Int32))] [(.int (1 : Int32))])) := by
        refine s51.trans ?_
        show Steps p.tables e below (T40.setTop (mkF m 81 #[.val (.int p0), .val (.long p1), .second, .val (.long p2), .second, .val (.long p3), .second, .val (.long p4), .second, .val (.long p5), .second, .val (.int (1 : Int32)), .val (.int (2 : Int32)), .val (.ref b1), .val (.int (1 : Int32))] [])) _
        refine XS.iload X40.here hx rfl (hb hby at_81) rfl ?_
        show Steps p.tables e below (T40.setTop (mkF m 83 #[.val (.int p0), .val (.long p1), .second, .val (.long p2), .second, .val (.long p3), .second, .val (.long p4), .second, .val (.long p5), .second, .val (.int (1 : Int32)), .val (.int (2 : Int32)), .val (.ref b1), .val (.int (1 : Int32))] [(.int (2 : Int32))])) _
        refine XS.iconst X40.here hx rfl (hb hby at_83) ?_
        show Steps p.tables e below (T40.setTop (mkF m 84 #[.val (.int p0), .val (.long p1), .second, .val (.long p2), .second, .val (.long p3), .second, .val (.long p4), .second, .val (.long p5), .second, .val (.int (1 : Int32)), .val (.int (2 : Int32)), .val (.ref b1), .val (.int (1 : Int32))] [(.int (1 : Int32)), (.int (2 : Int32))])) _
        refine XS.icmpNo X40.here hx rfl (hb hby at_84) rfl (flt (by decide)).1 ?_
        show Steps p.tables e below (T40.setTop (mkF m 87 #[.val (.int p0), .val (.long p1), .second, .val (.long p2), .second, .val (.long p3), .second, .val (.long p4), .second, .val (.long p5), .second, .val (.int (1 : Int32)), .val (.int (2 : Int32)), .val (.ref b1), .val (.int (1 : Int32))] [])) _
        refine XS.aload X40.here hx rfl (hb hby at_87) rfl rfl ?_
        show Steps p.tables e below (T40.setTop (mkF m 89 #[.val (.int p0), .val (.long p1), .second, .val (.long p2), .second, .val (.long p3), .second, .val (.long p4), .second, .val (.long p5), .second, .val (.int (1 : Int32)), .val (.int (2 : Int32)), .val (.ref b1), .val (.int (1 : Int32))] [(.ref b1)])) _
        refine XS.lload X40.here hx rfl (hb hby at_89) rfl ?_
        show Steps p.tables e below (T40.setTop (mkF m 91 #[.val (.int p0), .val (.long p1), .second, .val (.long p2), .second, .val (.long p3), .second, .val (.long p4), .second, .val (.long p5), .second, .val (.int (1 : Int32)), .val (.int (2 : Int32)), .val (.ref b1), .val (.int (1 : Int32))] [(.long p4), (.ref b1)])) _
        refine st52.trans ?_
        show Steps p.tables e below (T52.setTop (mkF m 94 #[.val (.int p0), .val (.long p1), .second, .val (.long p2), .second, .val (.long p3), .second, .val (.long p4), .second, .val (.long p5), .second, .val (.int (1 : Int32)), .val (.int (2 : Int32)), .val (.ref b1), .val (.int (1 : Int32))] [])) _
        refine XS.iload X52.here hx rfl (hb hby at_94) rfl ?_
        show Steps p.tables e below (T52.setTop (mkF m 96 #[.val (.int p0), .val (.long p1), .second, .val (.long p2), .second, .val (.long p3), .second, .val (.long p4), .second, .val (.long p5), .second, .val (.int (1 : Int32)), .val (.int (2 : Int32)), .val (.ref b1), .val (.int (1 : Int32))] [(.int (2 : Int32))])) _
        refine XS.iconst X52.here hx rfl (hb hby at_96) ?_
        show Steps p.tables e below (T52.setTop (mkF m 97 #[.val (.int p0), .val (.long p1), .second, .val (.long p2), .second, .val (.long p3), .second, .val (.long p4), .second, .val (.long p5), .second, .val (.int (1 : Int32)), .val (.int (2 : Int32)), .val (.ref b1), .val (.int (1 : Int32))] [(.int (2 : Int32)), (.int (2 : Int32))])) _
        refine XS.icmpNo X52.here hx rfl (hb hby at_97) rfl (flt (by decide)).1 ?_
        show Steps p.tables e below (T52.setTop (mkF m 100 #[.val (.int p0), .val (.long p1), .second, .val (.long p2), .second, .val (.long p3), .second, .val (.long p4), .second, .val (.long p5), .second, .val (.int (1 : Int32)), .val (.int (2 : Int32)), .val (.ref b1), .val (.int (1 : Int32))] [])) _
        refine XS.aload X52.here hx rfl (hb hby at_100) rfl rfl ?_
        show Steps p.tables e below (T52.setTop (mkF m 102 #[.val (.int p0), .val (.long p1), .second, .val (.long p2), .second, .val (.long p3), .second, .val (.long p4), .second, .val (.long p5), .second, .val (.int (1 : Int32)), .val (.int (2 : Int32)), .val (.ref b1), .val (.int (1 : Int32))] [(.ref b1)])) _
        refine XS.lload X52.here hx rfl (hb hby at_102) rfl ?_
        show Steps p.tables e below (T52.setTop (mkF m 104 #[.val (.int p0), .val (.long p1), .second, .val (.long p2), .second, .val (.long p3), .second, .val (.long p4), .second, .val (.long p5), .second, .val (.int (1 : Int32)), .val (.int (2 : Int32)), .val (.ref b1), .val (.int (1 : Int32))] [(.long p5), (.ref b1)])) _
        refine st53.trans ?_
        show Steps p.tables e below (T53.setTop (mkF m 107 #[.val (.int p0), .val (.long p1), .second, .val (.long p2), .second, .val (.long p3), .second, .val (.long p4), .second, .val (.long p5), .second, .val (.int (1 : Int32)), .val (.int (2 : Int32)), .val (.ref b1), .val (.int (1 : Int32))] [])) _
        refine XS.iload X53.here hx rfl (hb hby at_107) rfl ?_
        show Steps p.tables e below (T53.setTop (mkF m 109 #[.val (.int p0), .val (.long p1), .second, .val (.long p2), .second, .val (.long p3), .second, .val (.long p4), .second, .val (.long p5), .second, .val (.int (1 : Int32)), .val (.int (2 : Int32)), .val (.ref b1), .val (.int (1 : Int32))] [(.int (1 : Int32))])) _
        refine XS.ifNo X53.here hx rfl (hb hby at_109) rfl ((if0 _ _).trans (feq (by decide)).1) ?_
        show Steps p.tables e below (T53.setTop (mkF m 112 #[.val (.int p0), .val (.long p1), .second, .val (.long p2), .second, .val (.long p3), .second, .val (.long p4), .second, .val (.long p5), .second, .val (.int (1 : Int32)), .val (.int (2 : Int32)), .val (.ref b1), .val (.int (1 : Int32))] [])) _
        refine XS.aload X53.here hx rfl (hb hby at_112) rfl rfl ?_
        show Steps p.tables e below (T53.setTop (mkF m 114 #[.val (.int p0), .val (.long p1), .second, .val (.long p2), .second, .val (.long p3), .second, .val (.long p4), .second, .val (.long p5), .second, .val (.int (1 : Int32)), .val (.int (2 : Int32)), .val (.ref b1), .val (.int (1 : Int32))] [(.ref b1)])) _
        refine st54.trans ?_
        show Steps p.tables e below (T54.setTop (mkF m 117 #[.val (.int p0), .val (.long p1), .second, .val (.long p2), .second, .val (.long p3), .second, .val (.long p4), .second, .val (.long p5), .second, .val (.int (1 : Int32)), .val (.int (2 : Int32)), .val (.ref b1), .val (.int (1 : Int32))] [(.int (2 : Int32))])) _
        refine XS.iload X54.here hx rfl (hb hby at_117) rfl ?_
        show Steps p.tables e below (T54.setTop (mkF m 119 #[.val (.int p0), .val (.long p1), .second, .val (.long p2), .second, .val (.long p3), .second, .val (.long p4), .second, .val (.long p5), .second, .val (.int (1 : Int32)), .val (.int (2 : Int32)), .val (.ref b1), .val (.int (1 : Int32))] [(.int (2 : Int32)), (.int (2 : Int32))])) _
        refine XS.icmpNo X54.here hx rfl (hb hby at_119) rfl (teq (by decide)).2 ?_
        show Steps p.tables e below (T54.setTop (mkF m 122 #[.val (.int p0), .val (.long p1), .second, .val (.long p2), .second, .val (.long p3), .second, .val (.long p4), .second, .val (.long p5), .second, .val (.int (1 : Int32)), .val (.int (2 : Int32)), .val (.ref b1), .val (.int (1 : Int32))] [])) _
        refine XS.iconst X54.here hx rfl (hb hby at_122) ?_
        show Steps p.tables e below (T54.setTop (mkF m 123 #[.val (.int p0), .val (.long p1), .second, .val (.long p2), .second, .val (.long p3), .second, .val (.long p4), .second, .val (.long p5), .second, .val (.int (1 : Int32)), .val (.int (2 : Int32)), .val (.ref b1), .val (.int (1 : Int32))] [(.int (1 : Int32))])) _
        refine XS.goto X54.here hx rfl (pc0 := 123) (pc' := 127) rfl (hb hby at_123) (by decide) (by decide) ?_
        show Steps p.tables e below (T54.setTop (mkF m 127 #[.val (.int p0), .val (.long p1), .second, .val (.long p2), .second, .val (.long p3), .second, .val (.long p4), .second, .val (.long p5), .second, .val (.int (1 : Int32)), .val (.int (2 : Int32)), .val (.ref b1), .val (.int (1 : Int32))] [(.int (1 : Int32))])) _
        refine XS.istore X54.here hx rfl (hb hby at_127) rfl (l' := #[.val (.int p0), .val (.long p1), .second, .val (.long p2), .second, .val (.long p3), .second, .val (.long p4), .second, .val (.long p5), .second, .val (.int (1 : Int32)), .val (.int (2 : Int32)), .val (.ref b1), .val (.int (1 : Int32))]) rfl ?_
        show Steps p.tables e below (T54.setTop (mkF m 129 #[.val (.int p0), .val (.long p1), .second, .val (.long p2), .second, .val (.long p3), .second, .val (.long p4), .second, .val (.long p5), .second, .val (.int (1 : Int32)), .val (.int (2 : Int32)), .val (.ref b1), .val (.int (1 : Int32))] [])) _
        refine XS.iload X54.here hx rfl (hb hby at_129) rfl ?_
        show Steps p.tables e below (T54.setTop (mkF m 131 #[.val (.int p0), .val (.long p1), .second, .val (.long p2), .second, .val (.long p3), .second, .val (.long p4), .second, .val (.long p5), .second, .val (.int (1 : Int32)), .val (.int (2 : Int32)), .val (.ref b1), .val (.int (1 : Int32))] [(.int (2 : Int32))])) _
        refine XS.iconst X54.here hx rfl (hb hby at_131) ?_
        show Steps p.tables e below (T54.setTop (mkF m 132 #[.val (.int p0), .val (.long p1), .second, .val (.long p2), .second, .val (.long p3), .second, .val (.long p4), .second, .val (.long p5), .second, .val (.int (1 : Int32)), .val (.int (2 : Int32)), .val (.ref b1), .val (.int (1 : Int32))] [(.int (1 : Int32)), (.int (2 : Int32))])) _
        refine XS.icmpNo X54.here hx rfl (hb hby at_132) rfl (flt (by decide)).1 ?_
        show Steps p.tables e below (T54.setTop (mkF m 135 #[.val (.int p0), .val (.long p1), .second, .val (.long p2), .second, .val (.long p3), .second, .val (.long p4), .second, .val (.long p5), .second, .val (.int (1 : Int32)), .val (.int (2 : Int32)), .val (.ref b1), .val (.int (1 : Int32))] [])) _
        refine XS.iload X54.here hx rfl (hb hby at_135) rfl ?_
        show Steps p.tables e below (T54.setTop (mkF m 137 #[.val (.int p0), .val (.long p1), .second, .val (.long p2), .second, .val (.long p3), .second, .val (.long p4), .second, .val (.long p5), .second, .val (.int (1 : Int32)), .val (.int (2 : Int32)), .val (.ref b1), .val (.int (1 : Int32))] [(.int (1 : Int32))])) _
        refine XS.ifNo X54.here hx rfl (hb hby at_137) rfl ((if0 _ _).trans (feq (by decide)).1) ?_
        show Steps p.tables e below (T54.setTop (mkF m 140 #[.val (.int p0), .val (.long p1), .second, .val (.long p2), .second, .val (.long p3), .second, .val (.long p4), .second, .val (.long p5), .second, .val (.int (1 : Int32)), .val (.int (2 : Int32)), .val (.ref b1), .val (.int (1 : Int32))] [])) _
        refine XS.aload X54.here hx rfl (hb hby at_140) rfl rfl ?_
        show Steps p.tables e below (T54.setTop (mkF m 142 #[.val (.int p0), .val (.long p1), .second, .val (.long p2), .second, .val (.long p3), .second, .val (.long p4), .second, .val (.long p5), .second, .val (.int (1 : Int32)), .val (.int (2 : Int32)), .val (.ref b1), .val (.int (1 : Int32))] [(.ref b1)])) _
        refine XS.iconst X54.here hx rfl (hb hby at_142) ?_
        show Steps p.tables e below (T54.setTop (mkF m 143 #[.val (.int p0), .val (.long p1), .second, .val (.long p2), .second, .val (.long p3), .second, .val (.long p4), .second, .val (.long p5), .second, .val (.int (1 : Int32)), .val (.int (2 : Int32)), .val (.ref b1), .val (.int (1 : Int32))] [(.int (0 : Int32)), (.ref b1)])) _
        refine st55.trans ?_
        show Steps p.tables e below (T55.setTop (mkF m 146 #[.val (.int p0), .val (.long p1), .second, .val (.long p2), .second, .val (.long p3), .second, .val (.long p4), .second, .val (.long p5), .second, .val (.int (1 : Int32)), .val (.int (2 : Int32)), .val (.ref b1), .val (.int (1 : Int32))] [(.long p4)])) _
        refine XS.lload X55.here hx rfl (hb hby at_146) rfl ?_
        show Steps p.tables e below (T55.setTop (mkF m 148 #[.val (.int p0), .val (.long p1), .second, .val (.long p2), .second, .val (.long p3), .second, .val (.long p4), .second, .val (.long p5), .second, .val (.int (1 : Int32)), .val (.int (2 : Int32)), .val (.ref b1), .val (.int (1 : Int32))] [(.long p4), (.long p4)])) _
        refine XS.lcmp X55.here hx rfl (hb hby at_148) rfl ?_
        show Steps p.tables e below (T55.setTop (mkF m 149 #[.val (.int p0), .val (.long p1), .second, .val (.long p2), .second, .val (.long p3), .second, .val (.long p4), .second, .val (.long p5), .second, .val (.int (1 : Int32)), .val (.int (2 : Int32)), .val (.ref b1), .val (.int (1 : Int32))] [(.int (lcmpW p4 p4))])) _
        refine XS.ifNo X55.here hx rfl (hb hby at_149) rfl ((if0 _ _).trans (teq ((lw_eq _ _).mpr rfl)).2) ?_
        show Steps p.tables e below (T55.setTop (mkF m 152 #[.val (.int p0), .val (.long p1), .second, .val (.long p2), .second, .val (.long p3), .second, .val (.long p4), .second, .val (.long p5), .second, .val (.int (1 : Int32)), .val (.int (2 : Int32)), .val (.ref b1), .val (.int (1 : Int32))] [])) _
        refine XS.iconst X55.here hx rfl (hb hby at_152) ?_
        show Steps p.tables e below (T55.setTop (mkF m 153 #[.val (.int p0), .val (.long p1), .second, .val (.long p2), .second, .val (.long p3), .second, .val (.long p4), .second, .val (.long p5), .second, .val (.int (1 : Int32)), .val (.int (2 : Int32)), .val (.ref b1), .val (.int (1 : Int32))] [(.int (1 : Int32))])) _
        refine XS.goto X55.here hx rfl (pc0 := 153) (pc' := 157) rfl (hb hby at_153) (by decide) (by decide) ?_
        show Steps p.tables e below (T55.setTop (mkF m 157 #[.val (.int p0), .val (.long p1), .second, .val (.long p2), .second, .val (.long p3), .second, .val (.long p4), .second, .val (.long p5), .second, .val (.int (1 : Int32)), .val (.int (2 : Int32)), .val (.ref b1), .val (.int (1 : Int32))] [(.int (1 : Int32))])) _
        refine XS.istore X55.here hx rfl (hb hby at_157) rfl (l' := #[.val (.int p0), .val (.long p1), .second, .val (.long p2), .second, .val (.long p3), .second, .val (.long p4), .second, .val (.long p5), .second, .val (.int (1 : Int32)), .val (.int (2 : Int32)), .val (.ref b1), .val (.int (1 : Int32))]) rfl ?_
        show Steps p.tables e below (T55.setTop (mkF m 159 #[.val (.int p0), .val (.long p1), .second, .val (.long p2), .second, .val (.long p3), .second, .val (.long p4), .second, .val (.long p5), .second, .val (.int (1 : Int32)), .val (.int (2 : Int32)), .val (.ref b1), .val (.int (1 : Int32))] [])) _
        refine XS.iload X55.here hx rfl (hb hby at_159) rfl ?_
        show Steps p.tables e below (T55.setTop (mkF m 161 #[.val (.int p0), .val (.long p1), .second, .val (.long p2), .second, .val (.long p3), .second, .val (.long p4), .second, .val (.long p5), .second, .val (.int (1 : Int32)), .val (.int (2 : Int32)), .val (.ref b1), .val (.int (1 : Int32))] [(.int (2 : Int32))])) _
        refine XS.iconst X55.here hx rfl (hb hby at_161) ?_
        show Steps p.tables e below (T55.setTop (mkF m 162 #[.val (.int p0), .val (.long p1), .second, .val (.long p2), .second, .val (.long p3), .second, .val (.long p4), .second, .val (.long p5), .second, .val (.int (1 : Int32)), .val (.int (2 : Int32)), .val (.ref b1), .val (.int (1 : Int32))] [(.int (2 : Int32)), (.int (2 : Int32))])) _
        refine XS.icmpNo X55.here hx rfl (hb hby at_162) rfl (flt (by decide)).1 ?_
        show Steps p.tables e below (T55.setTop (mkF m 165 #[.val (.int p0), .val (.long p1), .second, .val (.long p2), .second, .val (.long p3), .second, .val (.long p4), .second, .val (.long p5), .second, .val (.int (1 : Int32)), .val (.int (2 : Int32)), .val (.ref b1), .val (.int (1 : Int32))] [])) _
        refine XS.iload X55.here hx rfl (hb hby at_165) rfl ?_
        show Steps p.tables e below (T55.setTop (mkF m 167 #[.val (.int p0), .val (.long p1), .second, .val (.long p2), .second, .val (.long p3), .second, .val (.long p4), .second, .val (.long p5), .second, .val (.int (1 : Int32)), .val (.int (2 : Int32)), .val (.ref b1), .val (.int (1 : Int32))] [(.int (1 : Int32))])) _
        refine XS.ifNo X55.here hx rfl (hb hby at_167) rfl ((if0 _ _).trans (feq (by decide)).1) ?_
        show Steps p.tables e below (T55.setTop (mkF m 170 #[.val (.int p0), .val (.long p1), .second, .val (.long p2), .second, .val (.long p3), .second, .val (.long p4), .second, .val (.long p5), .second, .val (.int (1 : Int32)), .val (.int (2 : Int32)), .val (.ref b1), .val (.int (1 : Int32))] [])) _
        refine XS.aload X55.here hx rfl (hb hby at_170) rfl rfl ?_
        show Steps p.tables e below (T55.setTop (mkF m 172 #[.val (.int p0), .val (.long p1), .second, .val (.long p2), .second, .val (.long p3), .second, .val (.long p4), .second, .val (.long p5), .second, .val (.int (1 : Int32)), .val (.int (2 : Int32)), .val (.ref b1), .val (.int (1 : Int32))] [(.ref b1)])) _
        refine XS.iconst X55.here hx rfl (hb hby at_172) ?_
        show Steps p.tables e below (T55.setTop (mkF m 173 #[.val (.int p0), .val (.long p1), .second, .val (.long p2), .second, .val (.long p3), .second, .val (.long p4), .second, .val (.long p5), .second, .val (.int (1 : Int32)), .val (.int (2 : Int32)), .val (.ref b1), .val (.int (1 : Int32))] [(.int (1 : Int32)), (.ref b1)])) _
        refine st56.trans ?_
        show Steps p.tables e below (T56.setTop (mkF m 176 #[.val (.int p0), .val (.long p1), .second, .val (.long p2), .second, .val (.long p3), .second, .val (.long p4), .second, .val (.long p5), .second, .val (.int (1 : Int32)), .val (.int (2 : Int32)), .val (.ref b1), .val (.int (1 : Int32))] [(.long p5)])) _
        refine XS.lload X56.here hx rfl (hb hby at_176) rfl ?_
        show Steps p.tables e below (T56.setTop (mkF m 178 #[.val (.int p0), .val (.long p1), .second, .val (.long p2), .second, .val (.long p3), .second, .val (.long p4), .second, .val (.long p5), .second, .val (.int (1 : Int32)), .val (.int (2 : Int32)), .val (.ref b1), .val (.int (1 : Int32))] [(.long p5), (.long p5)])) _
        refine XS.lcmp X56.here hx rfl (hb hby at_178) rfl ?_
        show Steps p.tables e below (T56.setTop (mkF m 179 #[.val (.int p0), .val (.long p1), .second, .val (.long p2), .second, .val (.long p3), .second, .val (.long p4), .second, .val (.long p5), .second, .val (.int (1 : Int32)), .val (.int (2 : Int32)), .val (.ref b1), .val (.int (1 : Int32))] [(.int (lcmpW p5 p5))])) _
        refine XS.ifNo X56.here hx rfl (hb hby at_179) rfl ((if0 _ _).trans (teq ((lw_eq _ _).mpr rfl)).2) ?_
        show Steps p.tables e below (T56.setTop (mkF m 182 #[.val (.int p0), .val (.long p1), .second, .val (.long p2), .second, .val (.long p3), .second, .val (.long p4), .second, .val (.long p5), .second, .val (.int (1 : Int32)), .val (.int (2 : Int32)), .val (.ref b1), .val (.int (1 : Int32))] [])) _
        refine XS.iconst X56.here hx rfl (hb hby at_182) ?_
        show Steps p.tables e below (T56.setTop (mkF m 183 #[.val (.int p0), .val (.long p1), .second, .val (.long p2), .second, .val (.long p3), .second, .val (.long p4), .second, .val (.long p5), .second, .val (.int (1 : Int32)), .val (.int (2 : Int32)), .val (.ref b1), .val (.int (1 : Int32))] [(.int (1 : Int32))])) _
        refine XS.goto X56.here hx rfl (pc0 := 183) (pc' := 187) rfl (hb hby at_183) (by decide) (by decide) ?_
        show Steps p.tables e below (T56.setTop (mkF m 187 #[.val (.int p0), .val (.long p1), .second, .val (.long p2), .second, .val (.long p3), .second, .val (.long p4), .second, .val (.long p5), .second, .val (.int (1 : Int32)), .val (.int (2 : Int32)), .val (.ref b1), .val (.int (1 : Int32))] [(.int (1 : Int32))])) _
        refine XS.istore X56.here hx rfl (hb hby at_187) rfl (l' := #[.val (.int p0), .val (.long p1), .second, .val (.long p2), .second, .val (.long p3), .second, .val (.long p4), .second, .val (.long p5), .second, .val (.int (1 : Int32)), .val (.int (2 : Int32)), .val (.ref b1), .val (.int (1 : Int32))]) rfl ?_
        show Steps p.tables e below (T56.setTop (mkF m 189 #[.val (.int p0), .val (.long p1), .second, .val (.long p2), .second, .val (.long p3), .second, .val (.long p4), .second, .val (.long p5), .second, .val (.int (1 : Int32)), .val (.int (2 : Int32)), .val (.ref b1), .val (.int (1 : Int32))] [])) _
        refine XS.iload X56.here hx rfl (hb hby at_189) rfl ?_
        exact Steps.refl _
      obtain ⟨fs, hr, hrun, hended, hW, hsame⟩ := X56.leave (v := some (.int (1 : Int32))) (fun h => by rw [Bd.returns] at h; cases h)
      refine ⟨_, _, s57.trans ?_, hrun, hended, _, _, rfl, ?_, ⟨_, rfl⟩, hW, hsame.mono (by decide) (by decide)⟩
      · show Steps p.tables e below (T56.setTop (mkF m 191 #[.val (.int p0), .val (.long p1), .second, .val (.long p2), .second, .val (.long p3), .second, .val (.long p4), .second, .val (.long p5), .second, .val (.int (1 : Int32)), .val (.int (2 : Int32)), .val (.ref b1), .val (.int (1 : Int32))] [(.int (1 : Int32))])) _
        exact retN X56 hx (t := .boolean) Bd.returns (by simp) (hb hby at_191) hr
      · show Q0 Z p0 p1 p2 p3 p4 p5 h0 n0 _ T56.heap _
        rw [e56]
        exact ⟨rfl, N56⟩
  · have s58 := s7
    rw [hk8] at s58
    obtain ⟨cq59, kq59, q59a, q59b, q59c⟩ := isOf hZ (rfl : T2.heap = T2.heap) f2_0
    obtain ⟨_, _, ⟨T59, L59, k59, n59⟩, -, X59, ⟨Lc59, hQ59, l59, y59, z59⟩, st59⟩ := X2.virtualBack hx (y := (⟨"com/example/strikewire/strikewire/engine/LongList", "add", "(J)V"⟩ : MethodName)) (z := (⟨"com/example/strikewire/strikewire/engine/LongList", "add", "(J)V"⟩ : MethodName)) hown (mvT hZ (hw _ (List.mem_of_getElem? (i := 27) rfl))) (mvT hZ (hw _ (List.mem_of_getElem? (i := 28) rfl))) (notFace_of_selects (args := #[]) (mvT hZ (hw _ (List.mem_of_getElem? (i := 30) rfl)))) (mvT hZ (hw _ (List.mem_of_getElem? (i := 30) rfl))) (mvT hZ (hw _ (List.mem_of_getElem? (i := 29) rfl))) (by decide) (backOf (W := 0) (rma0 l Z a0 hw [] b1 p1 u3 u4 u5 u6 (0 : Int64) (0 : Int64) (0 : Int64) (0 : Int64) (0 : Int64) (0 : Int64) (0 : Int64) (0 : Int64) T2.heap n0 O2 f2_0 f2_1 f2_3 f2_2 f2_4 g_b1 g_u4 ne_b1_u3 ne_b1_u4 f2_7) hZ (hw _ (List.mem_of_getElem? (i := 31) rfl)) (hw _ (List.mem_of_getElem? (i := 3) rfl)) (by decide) (by decide)) q59a q59c (g := (mkF m 33 #[.val (.int p0), .val (.long p1), .second, .val (.long p2), .second, .val (.long p3), .second, .val (.long p4), .second, .val (.long p5), .second, .val (.int (2 : Int32)), .val (.int ((((p0.toUInt32 >>> ((2 : Int32) &&& 31).toUInt32).toInt32) &&& (2147483647 : Int32)) % (3 : Int32))), .val (.ref b1), .unset] [(.long p1), (.ref b1)])) rfl (by rw [hml]; rfl) (Steps.refl _) (argsL := [(.long p1)]) (rest := []) (lenOf pd_rm0_2 rfl) rfl (by show 2 * 0 + _ ≤ _; exact Nat.le_of_eq rfl) (hb hby at_33) (fun _ _ => ⟨rfl, (rfl : T2.heap = T2.heap), (by decide : 3 + 0 ≤ _), (by decide : 11 + 0 ≤ _)⟩)
    dsimp only [Pt.U, Pt.locs, Pt.cells, Pt.slots] at X59 l59 y59 z59 st59 hQ59
    subst l59 y59 z59
    obtain ⟨rfl, Nq59, Kc59, f59_0, f59_1, f59_2, f59_3, f59_4⟩ := hQ59
    have N59 := Fr.app N2 Nq59
    have O59 := O2.keep Kc59 (allS g_b1 (allS g_u4 all0))
    obtain ⟨cq60, kq60, q60a, q60b, q60c⟩ := isOf hZ (rfl : T59.heap = T59.heap) f59_0
    obtain ⟨_, _, ⟨T60, L60, k60, n60⟩, -, X60, ⟨Lc60, hQ60, l60, y60, z60⟩, st60⟩ := X59.virtualBack hx (y := (⟨"com/example/strikewire/strikewire/engine/LongList", "add", "(J)V"⟩ : MethodName)) (z := (⟨"com/example/strikewire/strikewire/engine/LongList", "add", "(J)V"⟩ : MethodName)) hown (mvT hZ (hw _ (List.mem_of_getElem? (i := 27) rfl))) (mvT hZ (hw _ (List.mem_of_getElem? (i := 28) rfl))) (notFace_of_selects (args := #[]) (mvT hZ (hw _ (List.mem_of_getElem? (i := 30) rfl)))) (mvT hZ (hw _ (List.mem_of_getElem? (i := 30) rfl))) (mvT hZ (hw _ (List.mem_of_getElem? (i := 29) rfl))) (by decide) (backOf (W := 0) (rma1 l Z a0 hw [] b1 p2 u3 u4 u5 u6 p1 (0 : Int64) (0 : Int64) (0 : Int64) (0 : Int64) (0 : Int64) (0 : Int64) (0 : Int64) T59.heap n0 O59 f59_0 f59_1 f59_2 f59_3 f59_4 g_b1 g_u4 ne_b1_u3 ne_b1_u4 f2_7) hZ (hw _ (List.mem_of_getElem? (i := 31) rfl)) (hw _ (List.mem_of_getElem? (i := 3) rfl)) (by decide) (by decide)) q60a q60c (g := (mkF m 45 #[.val (.int p0), .val (.long p1), .second, .val (.long p2), .second, .val (.long p3), .second, .val (.long p4), .second, .val (.long p5), .second, .val (.int (2 : Int32)), .val (.int ((((p0.toUInt32 >>> ((2 : Int32) &&& 31).toUInt32).toInt32) &&& (2147483647 : Int32)) % (3 : Int32))), .val (.ref b1), .unset] [(.long p2), (.ref b1)])) rfl (by rw [hml]; rfl) (Steps.refl _) (argsL := [(.long p2)]) (rest := []) (lenOf pd_rm0_2 rfl) rfl (by show 2 * 0 + _ ≤ _; exact Nat.le_of_eq rfl) (hb hby at_45) (fun _ _ => ⟨rfl, (rfl : T59.heap = T59.heap), (by decide : 3 + 0 ≤ _), (by decide : 11 + 0 ≤ _)⟩)
    dsimp only [Pt.U, Pt.locs, Pt.cells, Pt.slots] at X60 l60 y60 z60 st60 hQ60
    subst l60 y60 z60
    obtain ⟨rfl, Nq60, Kc60, f60_0, f60_1, f60_2, f60_3, f60_4⟩ := hQ60
    have N60 := Fr.app N59 Nq60
    have O60 := O59.keep Kc60 (allS g_b1 (allS g_u4 all0))
    obtain ⟨cq61, kq61, q61a, q61b, q61c⟩ := isOf hZ (rfl : T60.heap = T60.heap) f60_0
    obtain ⟨_, _, ⟨T61, L61, k61, n61⟩, -, X61, ⟨Lc61, hQ61, l61, y61, z61⟩, st61⟩ := X60.virtualBack hx (y := (⟨"com/example/strikewire/strikewire/engine/LongList", "clear", "()V"⟩ : MethodName)) (z := (⟨"com/example/strikewire/strikewire/engine/LongList", "clear", "()V"⟩ : MethodName)) hown (mvT hZ (hw _ (List.mem_of_getElem? (i := 15) rfl))) (mvT hZ (hw _ (List.mem_of_getElem? (i := 16) rfl))) (notFace_of_selects (args := #[]) (mvT hZ (hw _ (List.mem_of_getElem? (i := 18) rfl)))) (mvT hZ (hw _ (List.mem_of_getElem? (i := 18) rfl))) (mvT hZ (hw _ (List.mem_of_getElem? (i := 17) rfl))) (by decide) (backOf (W := 0) (rm3 l Z a0 hw [] b1 u3 (2 : Int32) T60.heap n0 O60 f60_0 f60_1 f60_3 g_b1) hZ (hw _ (List.mem_of_getElem? (i := 19) rfl)) (hw _ (List.mem_of_getElem? (i := 3) rfl)) (by decide) (by decide)) q61a q61c (g := (mkF m 63 #[.val (.int p0), .val (.long p1), .second, .val (.long p2), .second, .val (.long p3), .second, .val (.long p4), .second, .val (.long p5), .second, .val (.int (2 : Int32)), .val (.int ((((p0.toUInt32 >>> ((2 : Int32) &&& 31).toUInt32).toInt32) &&& (2147483647 : Int32)) % (3 : Int32))), .val (.ref b1), .unset] [(.ref b1)])) rfl (by rw [hml]; rfl) (Steps.refl _) (argsL := []) (rest := []) (lenOf pd_rm0_0 rfl) rfl (by show 2 * 0 + _ ≤ _; exact Nat.le_of_eq rfl) (hb hby at_63) (fun _ _ => ⟨rfl, (rfl : T60.heap = T60.heap), (by decide : 3 + 2 ≤ _), (by decide : 11 + 9 ≤ _)⟩)
    dsimp only [Pt.U, Pt.locs, Pt.cells, Pt.slots] at X61 l61 y61 z61 st61 hQ61
    subst l61 y61 z61
    obtain ⟨u62, u63, u64, u65, rfl, Nq61, Kc61, f61_0, f61_1, f61_2, f61_3, f61_4, f61_5, f61_6, f61_7⟩ := hQ61
    have N61 := Fr.app N60 Nq61
    have ne_b1_u62 : b1 ≠ u62 := Nat.ne_of_lt (Nat.lt_of_lt_of_le f60_0.lt f61_5)
    have ne_u3_u62 : u3 ≠ u62 := Nat.ne_of_lt (Nat.lt_of_lt_of_le f60_2.lt f61_5)
    have ne_u4_u62 : u4 ≠ u62 := Nat.ne_of_lt (Nat.lt_of_lt_of_le f60_4.lt f61_5)
    have ne_b1_u63 : b1 ≠ u63 := Nat.ne_of_lt (Nat.lt_of_lt_of_le f60_0.lt f61_6)
    have ne_u3_u63 : u3 ≠ u63 := Nat.ne_of_lt (Nat.lt_of_lt_of_le f60_2.lt f61_6)
    have ne_u4_u63 : u4 ≠ u63 := Nat.ne_of_lt (Nat.lt_of_lt_of_le f60_4.lt f61_6)
    have g_u62 : n0 ≤ u62 := Nat.le_trans (Nat.le_of_eq O60.1.symm) (Nat.le_trans O60.2.1 f61_5)
    have g_u63 : n0 ≤ u63 := Nat.le_trans (Nat.le_of_eq O60.1.symm) (Nat.le_trans O60.2.1 f61_6)
    have O61 := O60.keep Kc61 (allS g_b1 all0)
    obtain ⟨cq66, kq66, q66a, q66b, q66c⟩ := isOf hZ (rfl : T61.heap = T61.heap) f61_0
    obtain ⟨_, _, ⟨T66, L66, k66, n66⟩, -, X66, ⟨Lc66, hQ66, l66, y66, z66⟩, st66⟩ := X61.virtualBack hx (y := (⟨"com/example/strikewire/strikewire/engine/LongList", "size", "()I"⟩ : MethodName)) (z := (⟨"com/example/strikewire/strikewire/engine/LongList", "size", "()I"⟩ : MethodName)) hown (mvT hZ (hw _ (List.mem_of_getElem? (i := 22) rfl))) (mvT hZ (hw _ (List.mem_of_getElem? (i := 23) rfl))) (notFace_of_selects (args := #[]) (mvT hZ (hw _ (List.mem_of_getElem? (i := 25) rfl)))) (mvT hZ (hw _ (List.mem_of_getElem? (i := 25) rfl))) (mvT hZ (hw _ (List.mem_of_getElem? (i := 24) rfl))) (by decide) (backOf (W := 0) (rm4 l Z a0 hw [] b1 (0 : Int32) T61.heap n0 O61 f61_2) hZ (hw _ (List.mem_of_getElem? (i := 26) rfl)) (hw _ (List.mem_of_getElem? (i := 3) rfl)) (by decide) (by decide)) q66a q66c (g := (mkF m 68 #[.val (.int p0), .val (.long p1), .second, .val (.long p2), .second, .val (.long p3), .second, .val (.long p4), .second, .val (.long p5), .second, .val (.int (2 : Int32)), .val (.int ((((p0.toUInt32 >>> ((2 : Int32) &&& 31).toUInt32).toInt32) &&& (2147483647 : Int32)) % (3 : Int32))), .val (.ref b1), .unset] [(.ref b1)])) rfl (by rw [hml]; rfl) (Steps.refl _) (argsL := []) (rest := []) (lenOf pd_rm0_1 rfl) rfl (by show 2 * 0 + _ ≤ _; exact Nat.le_of_eq rfl) (hb hby at_68) (fun _ _ => ⟨rfl, (rfl : T61.heap = T61.heap), (by decide : 5 + 0 ≤ _), (by decide : 20 + 0 ≤ _)⟩)
    dsimp only [Pt.U, Pt.locs, Pt.cells, Pt.slots] at X66 l66 y66 z66 st66 hQ66
    subst l66 y66 z66
    obtain ⟨rfl, Nq66, e66⟩ := hQ66
    have N66 := Fr.app N61 Nq66
    have s67 : Steps p.tables e below (s₁.setTop (entryFrame m #[(.int p0), (.long p1), (.long p2), (.long p3), (.long p4), (.long p5)] maxLocals)) (T66.setTop (mkF m 81 #[.val (.int p0), .val (.long p1), .second, .val (.long p2), .second, .val (.long p3), .second, .val (.long p4), .second, .val (.long p5), .second, .val (.int (2 : Int32)), .val (.int ((((p0.toUInt32 >>> ((2 : Int32) &&& 31).toUInt32).toInt32) &&& (2147483647 : Int32)) % (3 : Int32))), .val (.ref b1), .val (.int (1 : Int32))] [])) := by
      refine s58.trans ?_
      show Steps p.tables e below (T2.setTop (mkF m 24 #[.val (.int p0), .val (.long p1), .second, .val (.long p2), .second, .val (.long p3), .second, .val (.long p4), .second, .val (.long p5), .second, .val (.int (2 : Int32)), .val (.int ((((p0.toUInt32 >>> ((2 : Int32) &&& 31).toUInt32).toInt32) &&& (2147483647 : Int32)) % (3 : Int32))), .val (.ref b1), .unset] [])) _
      refine XS.iload X2.here hx rfl (hb hby at_24) rfl ?_
      show Steps p.tables e below (T2.setTop (mkF m 26 #[.val (.int p0), .val (.long p1), .second, .val (.long p2), .second, .val (.long p3), .second, .val (.long p4), .second, .val (.long p5), .second, .val (.int (2 : Int32)), .val (.int ((((p0.toUInt32 >>> ((2 : Int32) &&& 31).toUInt32).toInt32) &&& (2147483647 : Int32)) % (3 : Int32))), .val (.ref b1), .unset] [(.int (2 : Int32))])) _
      refine XS.iconst X2.here hx rfl (hb hby at_26) ?_
      show Steps p.tables e below (T2.setTop (mkF m 27 #[.val (.int p0), .val (.long p1), .second, .val (.long p2), .second, .val (.long p3), .second, .val (.long p4), .second, .val (.long p5), .second, .val (.int (2 : Int32)), .val (.int ((((p0.toUInt32 >>> ((2 : Int32) &&& 31).toUInt32).toInt32) &&& (2147483647 : Int32)) % (3 : Int32))), .val (.ref b1), .unset] [(.int (1 : Int32)), (.int (2 : Int32))])) _
      refine XS.icmpNo X2.here hx rfl (hb hby at_27) rfl (flt (by decide)).1 ?_
      show Steps p.tables e below (T2.setTop (mkF m 30 #[.val (.int p0), .val (.long p1), .second, .val (.long p2), .second, .val (.long p3), .second, .val (.long p4), .second, .val (.long p5), .second, .val (.int (2 : Int32)), .val (.int ((((p0.toUInt32 >>> ((2 : Int32) &&& 31).toUInt32).toInt32) &&& (2147483647 : Int32)) % (3 : Int32))), .val (.ref b1), .unset] [])) _
      refine XS.aload X2.here hx rfl (hb hby at_30) rfl rfl ?_
      show Steps p.tables e below (T2.setTop (mkF m 32 #[.val (.int p0), .val (.long p1), .second, .val (.long p2), .second, .val (.long p3), .second, .val (.long p4), .second, .val (.long p5), .second, .val (.int (2 : Int32)), .val (.int ((((p0.toUInt32 >>> ((2 : Int32) &&& 31).toUInt32).toInt32) &&& (2147483647 : Int32)) % (3 : Int32))), .val (.ref b1), .unset] [(.ref b1)])) _
      refine XS.lloadN X2.here hx rfl (hb hby at_32) rfl ?_
      show Steps p.tables e below (T2.setTop (mkF m 33 #[.val (.int p0), .val (.long p1), .second, .val (.long p2), .second, .val (.long p3), .second, .val (.long p4), .second, .val (.long p5), .second, .val (.int (2 : Int32)), .val (.int ((((p0.toUInt32 >>> ((2 : Int32) &&& 31).toUInt32).toInt32) &&& (2147483647 : Int32)) % (3 : Int32))), .val (.ref b1), .unset] [(.long p1), (.ref b1)])) _
      refine st59.trans ?_
      show Steps p.tables e below (T59.setTop (mkF m 36 #[.val (.int p0), .val (.long p1), .second, .val (.long p2), .second, .val (.long p3), .second, .val (.long p4), .second, .val (.long p5), .second, .val (.int (2 : Int32)), .val (.int ((((p0.toUInt32 >>> ((2 : Int32) &&& 31).toUInt32).toInt32) &&& (2147483647 : Int32)) % (3 : Int32))), .val (.ref b1), .unset] [])) _
      refine XS.iload X59.here hx rfl (hb hby at_36) rfl ?_
      show Steps p.tables e below (T59.setTop (mkF m 38 #[.val (.int p0), .val (.long p1), .second, .val (.long p2), .second, .val (.long p3), .second, .val (.long p4), .second, .val (.long p5), .second, .val (.int (2 : Int32)), .val (.int ((((p0.toUInt32 >>> ((2 : Int32) &&& 31).toUInt32).toInt32) &&& (2147483647 : Int32)) % (3 : Int32))), .val (.ref b1), .unset] [(.int (2 : Int32))])) _
      refine XS.iconst X59.here hx rfl (hb hby at_38) ?_
      show Steps p.tables e below (T59.setTop (mkF m 39 #[.val (.int p0), .val (.long p1), .second, .val (.long p2), .second, .val (.long p3), .second, .val (.long p4), .second, .val (.long p5), .second, .val (.int (2 : Int32)), .val (.int ((((p0.toUInt32 >>> ((2 : Int32) &&& 31).toUInt32).toInt32) &&& (2147483647 : Int32)) % (3 : Int32))), .val (.ref b1), .unset] [(.int (2 : Int32)), (.int (2 : Int32))])) _
      refine XS.icmpNo X59.here hx rfl (hb hby at_39) rfl (flt (by decide)).1 ?_
      show Steps p.tables e below (T59.setTop (mkF m 42 #[.val (.int p0), .val (.long p1), .second, .val (.long p2), .second, .val (.long p3), .second, .val (.long p4), .second, .val (.long p5), .second, .val (.int (2 : Int32)), .val (.int ((((p0.toUInt32 >>> ((2 : Int32) &&& 31).toUInt32).toInt32) &&& (2147483647 : Int32)) % (3 : Int32))), .val (.ref b1), .unset] [])) _
      refine XS.aload X59.here hx rfl (hb hby at_42) rfl rfl ?_
      show Steps p.tables e below (T59.setTop (mkF m 44 #[.val (.int p0), .val (.long p1), .second, .val (.long p2), .second, .val (.long p3), .second, .val (.long p4), .second, .val (.long p5), .second, .val (.int (2 : Int32)), .val (.int ((((p0.toUInt32 >>> ((2 : Int32) &&& 31).toUInt32).toInt32) &&& (2147483647 : Int32)) % (3 : Int32))), .val (.ref b1), .unset] [(.ref b1)])) _
      refine XS.lloadN X59.here hx rfl (hb hby at_44) rfl ?_
      show Steps p.tables e below (T59.setTop (mkF m 45 #[.val (.int p0), .val (.long p1), .second, .val (.long p2), .second, .val (.long p3), .second, .val (.long p4), .second, .val (.long p5), .second, .val (.int (2 : Int32)), .val (.int ((((p0.toUInt32 >>> ((2 : Int32) &&& 31).toUInt32).toInt32) &&& (2147483647 : Int32)) % (3 : Int32))), .val (.ref b1), .unset] [(.long p2), (.ref b1)])) _
      refine st60.trans ?_
      show Steps p.tables e below (T60.setTop (mkF m 48 #[.val (.int p0), .val (.long p1), .second, .val (.long p2), .second, .val (.long p3), .second, .val (.long p4), .second, .val (.long p5), .second, .val (.int (2 : Int32)), .val (.int ((((p0.toUInt32 >>> ((2 : Int32) &&& 31).toUInt32).toInt32) &&& (2147483647 : Int32)) % (3 : Int32))), .val (.ref b1), .unset] [])) _
      refine XS.iload X60.here hx rfl (hb hby at_48) rfl ?_
      show Steps p.tables e below (T60.setTop (mkF m 50 #[.val (.int p0), .val (.long p1), .second, .val (.long p2), .second, .val (.long p3), .second, .val (.long p4), .second, .val (.long p5), .second, .val (.int (2 : Int32)), .val (.int ((((p0.toUInt32 >>> ((2 : Int32) &&& 31).toUInt32).toInt32) &&& (2147483647 : Int32)) % (3 : Int32))), .val (.ref b1), .unset] [(.int (2 : Int32))])) _
      refine XS.iconst X60.here hx rfl (hb hby at_50) ?_
      show Steps p.tables e below (T60.setTop (mkF m 51 #[.val (.int p0), .val (.long p1), .second, .val (.long p2), .second, .val (.long p3), .second, .val (.long p4), .second, .val (.long p5), .second, .val (.int (2 : Int32)), .val (.int ((((p0.toUInt32 >>> ((2 : Int32) &&& 31).toUInt32).toInt32) &&& (2147483647 : Int32)) % (3 : Int32))), .val (.ref b1), .unset] [(.int (3 : Int32)), (.int (2 : Int32))])) _
      refine XS.icmpYes X60.here hx rfl (pc0 := 51) (pc' := 61) rfl (hb hby at_51) rfl (tlt (by decide)).1 (by decide) (by decide) ?_
      show Steps p.tables e below (T60.setTop (mkF m 61 #[.val (.int p0), .val (.long p1), .second, .val (.long p2), .second, .val (.long p3), .second, .val (.long p4), .second, .val (.long p5), .second, .val (.int (2 : Int32)), .val (.int ((((p0.toUInt32 >>> ((2 : Int32) &&& 31).toUInt32).toInt32) &&& (2147483647 : Int32)) % (3 : Int32))), .val (.ref b1), .unset] [])) _
      refine XS.aload X60.here hx rfl (hb hby at_61) rfl rfl ?_
      show Steps p.tables e below (T60.setTop (mkF m 63 #[.val (.int p0), .val (.long p1), .second, .val (.long p2), .second, .val (.long p3), .second, .val (.long p4), .second, .val (.long p5), .second, .val (.int (2 : Int32)), .val (.int ((((p0.toUInt32 >>> ((2 : Int32) &&& 31).toUInt32).toInt32) &&& (2147483647 : Int32)) % (3 : Int32))), .val (.ref b1), .unset] [(.ref b1)])) _
      refine st61.trans ?_
      show Steps p.tables e below (T61.setTop (mkF m 66 #[.val (.int p0), .val (.long p1), .second, .val (.long p2), .second, .val (.long p3), .second, .val (.long p4), .second, .val (.long p5), .second, .val (.int (2 : Int32)), .val (.int ((((p0.toUInt32 >>> ((2 : Int32) &&& 31).toUInt32).toInt32) &&& (2147483647 : Int32)) % (3 : Int32))), .val (.ref b1), .unset] [])) _
      refine XS.aload X61.here hx rfl (hb hby at_66) rfl rfl ?_
      show Steps p.tables e below (T61.setTop (mkF m 68 #[.val (.int p0), .val (.long p1), .second, .val (.long p2), .second, .val (.long p3), .second, .val (.long p4), .second, .val (.long p5), .second, .val (.int (2 : Int32)), .val (.int ((((p0.toUInt32 >>> ((2 : Int32) &&& 31).toUInt32).toInt32) &&& (2147483647 : Int32)) % (3 : Int32))), .val (.ref b1), .unset] [(.ref b1)])) _
      refine st66.trans ?_
      show Steps p.tables e below (T66.setTop (mkF m 71 #[.val (.int p0), .val (.long p1), .second, .val (.long p2), .second, .val (.long p3), .second, .val (.long p4), .second, .val (.long p5), .second, .val (.int (2 : Int32)), .val (.int ((((p0.toUInt32 >>> ((2 : Int32) &&& 31).toUInt32).toInt32) &&& (2147483647 : Int32)) % (3 : Int32))), .val (.ref b1), .unset] [(.int (0 : Int32))])) _
      refine XS.ifNo X66.here hx rfl (hb hby at_71) rfl ((if0 _ _).trans (teq (by decide)).2) ?_
      show Steps p.tables e below (T66.setTop (mkF m 74 #[.val (.int p0), .val (.long p1), .second, .val (.long p2), .second, .val (.long p3), .second, .val (.long p4), .second, .val (.long p5), .second, .val (.int (2 : Int32)), .val (.int ((((p0.toUInt32 >>> ((2 : Int32) &&& 31).toUInt32).toInt32) &&& (2147483647 : Int32)) % (3 : Int32))), .val (.ref b1), .unset] [])) _
      refine XS.iconst X66.here hx rfl (hb hby at_74) ?_
      show Steps p.tables e below (T66.setTop (mkF m 75 #[.val (.int p0), .val (.long p1), .second, .val (.long p2), .second, .val (.long p3), .second, .val (.long p4), .second, .val (.long p5), .second, .val (.int (2 : Int32)), .val (.int ((((p0.toUInt32 >>> ((2 : Int32) &&& 31).toUInt32).toInt32) &&& (2147483647 : Int32)) % (3 : Int32))), .val (.ref b1), .unset] [(.int (1 : Int32))])) _
      refine XS.goto X66.here hx rfl (pc0 := 75) (pc' := 79) rfl (hb hby at_75) (by decide) (by decide) ?_
      show Steps p.tables e below (T66.setTop (mkF m 79 #[.val (.int p0), .val (.long p1), .second, .val (.long p2), .second, .val (.long p3), .second, .val (.long p4), .second, .val (.long p5), .second, .val (.int (2 : Int32)), .val (.int ((((p0.toUInt32 >>> ((2 : Int32) &&& 31).toUInt32).toInt32) &&& (2147483647 : Int32)) % (3 : Int32))), .val (.ref b1), .unset] [(.int (1 : Int32))])) _
      refine XS.istore X66.here hx rfl (hb hby at_79) rfl (l' := #[.val (.int p0), .val (.long p1), .second, .val (.long p2), .second, .val (.long p3), .second, .val (.long p4), .second, .val (.long p5), .second, .val (.int (2 : Int32)), .val (.int ((((p0.toUInt32 >>> ((2 : Int32) &&& 31).toUInt32).toInt32) &&& (2147483647 : Int32)) % (3 : Int32))), .val (.ref b1), .val (.int (1 : Int32))]) rfl ?_
      exact Steps.refl _
    rcases own_mod3 ((p0.toUInt32 >>> ((2 : Int32) &&& 31).toUInt32).toInt32) with hk68 | hk68 | hk68
    · have s69 := s67
      rw [hk68] at s69
      obtain ⟨cq70, kq70, q70a, q70b, q70c⟩ := isOf hZ e66 f61_0
      obtain ⟨_, _, ⟨T70, L70, k70, n70⟩, -, X70, ⟨Lc70, hQ70, l70, y70, z70⟩, st70⟩ := X66.virtualBack hx (y := (⟨"com/example/strikewire/strikewire/engine/LongList", "size", "()I"⟩ : MethodName)) (z := (⟨"com/example/strikewire/strikewire/engine/LongList", "size", "()I"⟩ : MethodName)) hown (mvT hZ (hw _ (List.mem_of_getElem? (i := 22) rfl))) (mvT hZ (hw _ (List.mem_of_getElem? (i := 23) rfl))) (notFace_of_selects (args := #[]) (mvT hZ (hw _ (List.mem_of_getElem? (i := 25) rfl)))) (mvT hZ (hw _ (List.mem_of_getElem? (i := 25) rfl))) (mvT hZ (hw _ (List.mem_of_getElem? (i := 24) rfl))) (by decide) (backOf (W := 0) (rm4 l Z a0 hw [] b1 (0 : Int32) T61.heap n0 O61 f61_2) hZ (hw _ (List.mem_of_getElem? (i := 26) rfl)) (hw _ (List.mem_of_getElem? (i := 3) rfl)) (by decide) (by decide)) q70a q70c (g := (mkF m 114 #[.val (.int p0), .val (.long p1), .second, .val (.long p2), .second, .val (.long p3), .second, .val (.long p4), .second, .val (.long p5), .second, .val (.int (2 : Int32)), .val (.int (0 : Int32)), .val (.ref b1), .val (.int (1 : Int32))] [(.ref b1)])) rfl (by rw [hml]; rfl) (Steps.refl _) (argsL := []) (rest := []) (lenOf pd_rm0_1 rfl) rfl (by show 2 * 0 + _ ≤ _; exact Nat.le_of_eq rfl) (hb hby at_114) (fun _ _ => ⟨rfl, e66, (by decide : 5 + 0 ≤ _), (by decide : 20 + 0 ≤ _)⟩)
      dsimp only [Pt.U, Pt.locs, Pt.cells, Pt.slots] at X70 l70 y70 z70 st70 hQ70
      subst l70 y70 z70
      obtain ⟨rfl, Nq70, e70⟩ := hQ70
      have N70 := Fr.app N66 Nq70
      have s71 : Steps p.tables e below (s₁.setTop (entryFrame m #[(.int p0), (.long p1), (.long p2), (.long p3), (.long p4), (.long p5)] maxLocals)) (T70.setTop (mkF m 191 #[.val (.int p0), .val (.long p1), .second, .val (.long p2), .second, .val (.long p3), .second, .val (.long p4), .second, .val (.long p5), .second, .val (.int (2 : Int32)), .val (.int (0 : Int32)), .val (.ref b1), .val (.int (1 : Int32))] [(.int (1 : Int32))])) := by
        refine s69.trans ?_
        show Steps p.tables e below (T66.setTop (mkF m 81 #[.val (.int p0), .val (.long p1), .second, .val (.long p2), .second, .val (.long p3), .second, .val (.long p4), .second, .val (.long p5), .second, .val (.int (2 : Int32)), .val (.int (0 : Int32)), .val (.ref b1), .val (.int (1 : Int32))] [])) _
        refine XS.iload X66.here hx rfl (hb hby at_81) rfl ?_
        show Steps p.tables e below (T66.setTop (mkF m 83 #[.val (.int p0), .val (.long p1), .second, .val (.long p2), .second, .val (.long p3), .second, .val (.long p4), .second, .val (.long p5), .second, .val (.int (2 : Int32)), .val (.int (0 : Int32)), .val (.ref b1), .val (.int (1 : Int32))] [(.int (0 : Int32))])) _
        refine XS.iconst X66.here hx rfl (hb hby at_83) ?_
        show Steps p.tables e below (T66.setTop (mkF m 84 #[.val (.int p0), .val (.long p1), .second, .val (.long p2), .second, .val (.long p3), .second, .val (.long p4), .second, .val (.long p5), .second, .val (.int (2 : Int32)), .val (.int (0 : Int32)), .val (.ref b1), .val (.int (1 : Int32))] [(.int (1 : Int32)), (.int (0 : Int32))])) _
        refine XS.icmpYes X66.here hx rfl (pc0 := 84) (pc' := 94) rfl (hb hby at_84) rfl (tlt (by decide)).1 (by decide) (by decide) ?_
        show Steps p.tables e below (T66.setTop (mkF m 94 #[.val (.int p0), .val (.long p1), .second, .val (.long p2), .second, .val (.long p3), .second, .val (.long p4), .second, .val (.long p5), .second, .val (.int (2 : Int32)), .val (.int (0 : Int32)), .val (.ref b1), .val (.int (1 : Int32))] [])) _
        refine XS.iload X66.here hx rfl (hb hby at_94) rfl ?_
        show Steps p.tables e below (T66.setTop (mkF m 96 #[.val (.int p0), .val (.long p1), .second, .val (.long p2), .second, .val (.long p3), .second, .val (.long p4), .second, .val (.long p5), .second, .val (.int (2 : Int32)), .val (.int (0 : Int32)), .val (.ref b1), .val (.int (1 : Int32))] [(.int (0 : Int32))])) _
        refine XS.iconst X66.here hx rfl (hb hby at_96) ?_
        show Steps p.tables e below (T66.setTop (mkF m 97 #[.val (.int p0), .val (.long p1), .second, .val (.long p2), .second, .val (.long p3), .second, .val (.long p4), .second, .val (.long p5), .second, .val (.int (2 : Int32)), .val (.int (0 : Int32)), .val (.ref b1), .val (.int (1 : Int32))] [(.int (2 : Int32)), (.int (0 : Int32))])) _
        refine XS.icmpYes X66.here hx rfl (pc0 := 97) (pc' := 107) rfl (hb hby at_97) rfl (tlt (by decide)).1 (by decide) (by decide) ?_
        show Steps p.tables e below (T66.setTop (mkF m 107 #[.val (.int p0), .val (.long p1), .second, .val (.long p2), .second, .val (.long p3), .second, .val (.long p4), .second, .val (.long p5), .second, .val (.int (2 : Int32)), .val (.int (0 : Int32)), .val (.ref b1), .val (.int (1 : Int32))] [])) _
        refine XS.iload X66.here hx rfl (hb hby at_107) rfl ?_
        show Steps p.tables e below (T66.setTop (mkF m 109 #[.val (.int p0), .val (.long p1), .second, .val (.long p2), .second, .val (.long p3), .second, .val (.long p4), .second, .val (.long p5), .second, .val (.int (2 : Int32)), .val (.int (0 : Int32)), .val (.ref b1), .val (.int (1 : Int32))] [(.int (1 : Int32))])) _
        refine XS.ifNo X66.here hx rfl (hb hby at_109) rfl ((if0 _ _).trans (feq (by decide)).1) ?_
        show Steps p.tables e below (T66.setTop (mkF m 112 #[.val (.int p0), .val (.long p1), .second, .val (.long p2), .second, .val (.long p3), .second, .val (.long p4), .second, .val (.long p5), .second, .val (.int (2 : Int32)), .val (.int (0 : Int32)), .val (.ref b1), .val (.int (1 : Int32))] [])) _
        refine XS.aload X66.here hx rfl (hb hby at_112) rfl rfl ?_
        show Steps p.tables e below (T66.setTop (mkF m 114 #[.val (.int p0), .val (.long p1), .second, .val (.long p2), .second, .val (.long p3), .second, .val (.long p4), .second, .val (.long p5), .second, .val (.int (2 : Int32)), .val (.int (0 : Int32)), .val (.ref b1), .val (.int (1 : Int32))] [(.ref b1)])) _
        refine st70.trans ?_
        show Steps p.tables e below (T70.setTop (mkF m 117 #[.val (.int p0), .val (.long p1), .second, .val (.long p2), .second, .val (.long p3), .second, .val (.long p4), .second, .val (.long p5), .second, .val (.int (2 : Int32)), .val (.int (0 : Int32)), .val (.ref b1), .val (.int (1 : Int32))] [(.int (0 : Int32))])) _
        refine XS.iload X70.here hx rfl (hb hby at_117) rfl ?_
        show Steps p.tables e below (T70.setTop (mkF m 119 #[.val (.int p0), .val (.long p1), .second, .val (.long p2), .second, .val (.long p3), .second, .val (.long p4), .second, .val (.long p5), .second, .val (.int (2 : Int32)), .val (.int (0 : Int32)), .val (.ref b1), .val (.int (1 : Int32))] [(.int (0 : Int32)), (.int (0 : Int32))])) _
        refine XS.icmpNo X70.here hx rfl (hb hby at_119) rfl (teq (by decide)).2 ?_
        show Steps p.tables e below (T70.setTop (mkF m 122 #[.val (.int p0), .val (.long p1), .second, .val (.long p2), .second, .val (.long p3), .second, .val (.long p4), .second, .val (.long p5), .second, .val (.int (2 : Int32)), .val (.int (0 : Int32)), .val (.ref b1), .val (.int (1 : Int32))] [])) _
        refine XS.iconst X70.here hx rfl (hb hby at_122) ?_
        show Steps p.tables e below (T70.setTop (mkF m 123 #[.val (.int p0), .val (.long p1), .second, .val (.long p2), .second, .val (.long p3), .second, .val (.long p4), .second, .val (.long p5), .second, .val (.int (2 : Int32)), .val (.int (0 : Int32)), .val (.ref b1), .val (.int (1 : Int32))] [(.int (1 : Int32))])) _
        refine XS.goto X70.here hx rfl (pc0 := 123) (pc' := 127) rfl (hb hby at_123) (by decide) (by decide) ?_
        show Steps p.tables e below (T70.setTop (mkF m 127 #[.val (.int p0), .val (.long p1), .second, .val (.long p2), .second, .val (.long p3), .second, .val (.long p4), .second, .val (.long p5), .second, .val (.int (2 : Int32)), .val (.int (0 : Int32)), .val (.ref b1), .val (.int (1 : Int32))] [(.int (1 : Int32))])) _
        refine XS.istore X70.here hx rfl (hb hby at_127) rfl (l' := #[.val (.int p0), .val (.long p1), .second, .val (.long p2), .second, .val (.long p3), .second, .val (.long p4), .second, .val (.long p5), .second, .val (.int (2 : Int32)), .val (.int (0 : Int32)), .val (.ref b1), .val (.int (1 : Int32))]) rfl ?_
        show Steps p.tables e below (T70.setTop (mkF m 129 #[.val (.int p0), .val (.long p1), .second, .val (.long p2), .second, .val (.long p3), .second, .val (.long p4), .second, .val (.long p5), .second, .val (.int (2 : Int32)), .val (.int (0 : Int32)), .val (.ref b1), .val (.int (1 : Int32))] [])) _
        refine XS.iload X70.here hx rfl (hb hby at_129) rfl ?_
        show Steps p.tables e below (T70.setTop (mkF m 131 #[.val (.int p0), .val (.long p1), .second, .val (.long p2), .second, .val (.long p3), .second, .val (.long p4), .second, .val (.long p5), .second, .val (.int (2 : Int32)), .val (.int (0 : Int32)), .val (.ref b1), .val (.int (1 : Int32))] [(.int (0 : Int32))])) _
        refine XS.iconst X70.here hx rfl (hb hby at_131) ?_
        show Steps p.tables e below (T70.setTop (mkF m 132 #[.val (.int p0), .val (.long p1), .second, .val (.long p2), .second, .val (.long p3), .second, .val (.long p4), .second, .val (.long p5), .second, .val (.int (2 : Int32)), .val (.int (0 : Int32)), .val (.ref b1), .val (.int (1 : Int32))] [(.int (1 : Int32)), (.int (0 : Int32))])) _
        refine XS.icmpYes X70.here hx rfl (pc0 := 132) (pc' := 159) rfl (hb hby at_132) rfl (tlt (by decide)).1 (by decide) (by decide) ?_
        show Steps p.tables e below (T70.setTop (mkF m 159 #[.val (.int p0), .val (.long p1), .second, .val (.long p2), .second, .val (.long p3), .second, .val (.long p4), .second, .val (.long p5), .second, .val (.int (2 : Int32)), .val (.int (0 : Int32)), .val (.ref b1), .val (.int (1 : Int32))] [])) _
        refine XS.iload X70.here hx rfl (hb hby at_159) rfl ?_
        show Steps p.tables e below (T70.setTop (mkF m 161 #[.val (.int p0), .val (.long p1), .second, .val (.long p2), .second, .val (.long p3), .second, .val (.long p4), .second, .val (.long p5), .second, .val (.int (2 : Int32)), .val (.int (0 : Int32)), .val (.ref b1), .val (.int (1 : Int32))] [(.int (0 : Int32))])) _
        refine XS.iconst X70.here hx rfl (hb hby at_161) ?_
        show Steps p.tables e below (T70.setTop (mkF m 162 #[.val (.int p0), .val (.long p1), .second, .val (.long p2), .second, .val (.long p3), .second, .val (.long p4), .second, .val (.long p5), .second, .val (.int (2 : Int32)), .val (.int (0 : Int32)), .val (.ref b1), .val (.int (1 : Int32))] [(.int (2 : Int32)), (.int (0 : Int32))])) _
        refine XS.icmpYes X70.here hx rfl (pc0 := 162) (pc' := 189) rfl (hb hby at_162) rfl (tlt (by decide)).1 (by decide) (by decide) ?_
        show Steps p.tables e below (T70.setTop (mkF m 189 #[.val (.int p0), .val (.long p1), .second, .val (.long p2), .second, .val (.long p3), .second, .val (.long p4), .second, .val (.long p5), .second, .val (.int (2 : Int32)), .val (.int (0 : Int32)), .val (.ref b1), .val (.int (1 : Int32))] [])) _
        refine XS.iload X70.here hx rfl (hb hby at_189) rfl ?_
        exact Steps.refl _
      obtain ⟨fs, hr, hrun, hended, hW, hsame⟩ := X70.leave (v := some (.int (1 : Int32))) (fun h => by rw [Bd.returns] at h; cases h)
      refine ⟨_, _, s71.trans ?_, hrun, hended, _, _, rfl, ?_, ⟨_, rfl⟩, hW, hsame.mono (by decide) (by decide)⟩
      · show Steps p.tables e below (T70.setTop (mkF m 191 #[.val (.int p0), .val (.long p1), .second, .val (.long p2), .second, .val (.long p3), .second, .val (.long p4), .second, .val (.long p5), .second, .val (.int (2 : Int32)), .val (.int (0 : Int32)), .val (.ref b1), .val (.int (1 : Int32))] [(.int (1 : Int32))])) _
        exact retN X70 hx (t := .boolean) Bd.returns (by simp) (hb hby at_191) hr
      · show Q0 Z p0 p1 p2 p3 p4 p5 h0 n0 _ T70.heap _
        rw [e70]
        exact ⟨rfl, N70⟩
    · have s72 := s67
      rw [hk68] at s72
      obtain ⟨cq73, kq73, q73a, q73b, q73c⟩ := isOf hZ e66 f61_0
      obtain ⟨_, _, ⟨T73, L73, k73, n73⟩, -, X73, ⟨Lc73, hQ73, l73, y73, z73⟩, st73⟩ := X66.virtualBack hx (y := (⟨"com/example/strikewire/strikewire/engine/LongList", "add", "(J)V"⟩ : MethodName)) (z := (⟨"com/example/strikewire/strikewire/engine/LongList", "add", "(J)V"⟩ : MethodName)) hown (mvT hZ (hw _ (List.mem_of_getElem? (i := 27) rfl))) (mvT hZ (hw _ (List.mem_of_getElem? (i := 28) rfl))) (notFace_of_selects (args := #[]) (mvT hZ (hw _ (List.mem_of_getElem? (i := 30) rfl)))) (mvT hZ (hw _ (List.mem_of_getElem? (i := 30) rfl))) (mvT hZ (hw _ (List.mem_of_getElem? (i := 29) rfl))) (by decide) (backOf (W := 0) (rma0 l Z a0 hw [] b1 p4 u62 u63 u64 u65 (0 : Int64) (0 : Int64) (0 : Int64) (0 : Int64) (0 : Int64) (0 : Int64) (0 : Int64) (0 : Int64) T61.heap n0 O61 f61_0 f61_1 f61_3 f61_2 f61_4 g_b1 g_u63 ne_b1_u62 ne_b1_u63 f61_7) hZ (hw _ (List.mem_of_getElem? (i := 31) rfl)) (hw _ (List.mem_of_getElem? (i := 3) rfl)) (by decide) (by decide)) q73a q73c (g := (mkF m 91 #[.val (.int p0), .val (.long p1), .second, .val (.long p2), .second, .val (.long p3), .second, .val (.long p4), .second, .val (.long p5), .second, .val (.int (2 : Int32)), .val (.int (1 : Int32)), .val (.ref b1), .val (.int (1 : Int32))] [(.long p4), (.ref b1)])) rfl (by rw [hml]; rfl) (Steps.refl _) (argsL := [(.long p4)]) (rest := []) (lenOf pd_rm0_2 rfl) rfl (by show 2 * 0 + _ ≤ _; exact Nat.le_of_eq rfl) (hb hby at_91) (fun _ _ => ⟨rfl, e66, (by decide : 5 + 0 ≤ _), (by decide : 20 + 0 ≤ _)⟩)
      dsimp only [Pt.U, Pt.locs, Pt.cells, Pt.slots] at X73 l73 y73 z73 st73 hQ73
      subst l73 y73 z73
      obtain ⟨rfl, Nq73, Kc73, f73_0, f73_1, f73_2, f73_3, f73_4⟩ := hQ73
      have N73 := Fr.app N66 Nq73
      have O73 := O61.keep Kc73 (allS g_b1 (allS g_u63 all0))
      obtain ⟨cq74, kq74, q74a, q74b, q74c⟩ := isOf hZ (rfl : T73.heap = T73.heap) f73_0
      obtain ⟨_, _, ⟨T74, L74, k74, n74⟩, -, X74, ⟨Lc74, hQ74, l74, y74, z74⟩, st74⟩ := X73.virtualBack hx (y := (⟨"com/example/strikewire/strikewire/engine/LongList", "size", "()I"⟩ : MethodName)) (z := (⟨"com/example/strikewire/strikewire/engine/LongList", "size", "()I"⟩ : MethodName)) hown (mvT hZ (hw _ (List.mem_of_getElem? (i := 22) rfl))) (mvT hZ (hw _ (List.mem_of_getElem? (i := 23) rfl))) (notFace_of_selects (args := #[]) (mvT hZ (hw _ (List.mem_of_getElem? (i := 25) rfl)))) (mvT hZ (hw _ (List.mem_of_getElem? (i := 25) rfl))) (mvT hZ (hw _ (List.mem_of_getElem? (i := 24) rfl))) (by decide) (backOf (W := 0) (rm4 l Z a0 hw [] b1 (1 : Int32) T73.heap n0 O73 f73_3) hZ (hw _ (List.mem_of_getElem? (i := 26) rfl)) (hw _ (List.mem_of_getElem? (i := 3) rfl)) (by decide) (by decide)) q74a q74c (g := (mkF m 114 #[.val (.int p0), .val (.long p1), .second, .val (.long p2), .second, .val (.long p3), .second, .val (.long p4), .second, .val (.long p5), .second, .val (.int (2 : Int32)), .val (.int (1 : Int32)), .val (.ref b1), .val (.int (1 : Int32))] [(.ref b1)])) rfl (by rw [hml]; rfl) (Steps.refl _) (argsL := []) (rest := []) (lenOf pd_rm0_1 rfl) rfl (by show 2 * 0 + _ ≤ _; exact Nat.le_of_eq rfl) (hb hby at_114) (fun _ _ => ⟨rfl, (rfl : T73.heap = T73.heap), (by decide : 5 + 0 ≤ _), (by decide : 20 + 0 ≤ _)⟩)
      dsimp only [Pt.U, Pt.locs, Pt.cells, Pt.slots] at X74 l74 y74 z74 st74 hQ74
      subst l74 y74 z74
      obtain ⟨rfl, Nq74, e74⟩ := hQ74
      have N74 := Fr.app N73 Nq74
      obtain ⟨cq75, kq75, q75a, q75b, q75c⟩ := isOf hZ e74 f73_0
      obtain ⟨_, _, ⟨T75, L75, k75, n75⟩, -, X75, ⟨Lc75, hQ75, l75, y75, z75⟩, st75⟩ := X74.virtualBack hx (y := (⟨"com/example/strikewire/strikewire/engine/LongList", "get", "(I)J"⟩ : MethodName)) (z := (⟨"com/example/strikewire/strikewire/engine/LongList", "get", "(I)J"⟩ : MethodName)) hown (mvT hZ (hw _ (List.mem_of_getElem? (i := 34) rfl))) (mvT hZ (hw _ (List.mem_of_getElem? (i := 35) rfl))) (notFace_of_selects (args := #[]) (mvT hZ (hw _ (List.mem_of_getElem? (i := 37) rfl)))) (mvT hZ (hw _ (List.mem_of_getElem? (i := 37) rfl))) (mvT hZ (hw _ (List.mem_of_getElem? (i := 36) rfl))) (by decide) (backOf (W := 0) (rmg0_1 l Z a0 hw [] b1 u62 u63 u64 u65 p4 (0 : Int64) (0 : Int64) (0 : Int64) (0 : Int64) (0 : Int64) (0 : Int64) (0 : Int64) T73.heap n0 O73 f73_0 f73_1 f73_2 f73_3 f73_4) hZ (hw _ (List.mem_of_getElem? (i := 38) rfl)) (hw _ (List.mem_of_getElem? (i := 3) rfl)) (by decide) (by decide)) q75a q75c (g := (mkF m 143 #[.val (.int p0), .val (.long p1), .second, .val (.long p2), .second, .val (.long p3), .second, .val (.long p4), .second, .val (.long p5), .second, .val (.int (2 : Int32)), .val (.int (1 : Int32)), .val (.ref b1), .val (.int (1 : Int32))] [(.int (0 : Int32)), (.ref b1)])) rfl (by rw [hml]; rfl) (Steps.refl _) (argsL := [(.int (0 : Int32))]) (rest := []) (lenOf pd_rm0_3 rfl) rfl (by show 2 * 0 + _ ≤ _; exact Nat.le_of_eq rfl) (hb hby at_143) (fun _ _ => ⟨rfl, e74, (by decide : 5 + 0 ≤ _), (by decide : 20 + 0 ≤ _)⟩)
      dsimp only [Pt.U, Pt.locs, Pt.cells, Pt.slots] at X75 l75 y75 z75 st75 hQ75
      subst l75 y75 z75
      obtain ⟨rfl, Nq75, e75⟩ := hQ75
      have N75 := Fr.app N74 Nq75
      have s76 : Steps p.tables e below (s₁.setTop (entryFrame m #[(.int p0), (.long p1), (.long p2), (.long p3), (.long p4), (.long p5)] maxLocals)) (T75.setTop (mkF m 191 #[.val (.int p0), .val (.long p1), .second, .val (.long p2), .second, .val (.long p3), .second, .val (.long p4), .second, .val (.long p5), .second, .val (.int (2 : Int32)), .val (.int (1 : Int32)), .val (.ref b1), .val (.int (1 : Int32))] [(.int (1 : Int32))])) := by
        refine s72.trans ?_
        show Steps p.tables e below (T66.setTop (mkF m 81 #[.val (.int p0), .val (.long p1), .second, .val (.long p2), .second, .val (.long p3), .second, .val (.long p4), .second, .val (.long p5), .second, .val (.int (2 : Int32)), .val (.int (1 : Int32)), .val (.ref b1), .val (.int (1 : Int32))] [])) _
        refine XS.iload X66.here hx rfl (hb hby at_81) rfl ?_
        show Steps p.tables e below (T66.setTop (mkF m 83 #[.val (.int p0), .val (.long p1), .second, .val (.long p2), .second, .val (.long p3), .second, .val (.long p4), .second, .val (.long p5), .second, .val (.int (2 : Int32)), .val (.int (1 : Int32)), .val (.ref b1), .val (.int (1 : Int32))] [(.int (1 : Int32))])) _
        refine XS.iconst X66.here hx rfl (hb hby at_83) ?_
        show Steps p.tables e below (T66.setTop (mkF m 84 #[.val (.int p0), .val (.long p1), .second, .val (.long p2), .second, .val (.long p3), .second, .val (.long p4), .second, .val (.long p5), .second, .val (.int (2 : Int32)), .val (.int (1 : Int32)), .val (.ref b1), .val (.int (1 : Int32))] [(.int (1 : Int32)), (.int (1 : Int32))])) _
        refine XS.icmpNo X66.here hx rfl (hb hby at_84) rfl (flt (by decide)).1 ?_
        show Steps p.tables e below (T66.setTop (mkF m 87 #[.val (.int p0), .val (.long p1), .second, .val (.long p2), .second, .val (.long p3), .second, .val (.long p4), .second, .val (.long p5), .second, .val (.int (2 : Int32)), .val (.int (1 : Int32)), .val (.ref b1), .val (.int (1 : Int32))] [])) _
        refine XS.aload X66.here hx rfl (hb hby at_87) rfl rfl ?_
        show Steps p.tables e below (T66.setTop (mkF m 89 #[.val (.int p0), .val (.long p1), .second, .val (.long p2), .second, .val (.long p3), .second, .val (.long p4), .second, .val (.long p5), .second, .val (.int (2 : Int32)), .val (.int (1 : Int32)), .val (.ref b1), .val (.int (1 : Int32))] [(.ref b1)])) _
        refine XS.lload X66.here hx rfl (hb hby at_89) rfl ?_
        show Steps p.tables e below (T66.setTop (mkF m 91 #[.val (.int p0), .val (.long p1), .second, .val (.long p2), .second, .val (.long p3), .second, .val (.long p4), .second, .val (.long p5), .second, .val (.int (2 : Int32)), .val (.int (1 : Int32)), .val (.ref b1), .val (.int (1 : Int32))] [(.long p4), (.ref b1)])) _
        refine st73.trans ?_
        show Steps p.tables e below (T73.setTop (mkF m 94 #[.val (.int p0), .val (.long p1), .second, .val (.long p2), .second, .val (.long p3), .second, .val (.long p4), .second, .val (.long p5), .second, .val (.int (2 : Int32)), .val (.int (1 : Int32)), .val (.ref b1), .val (.int (1 : Int32))] [])) _
        refine XS.iload X73.here hx rfl (hb hby at_94) rfl ?_
        show Steps p.tables e below (T73.setTop (mkF m 96 #[.val (.int p0), .val (.long p1), .second, .val (.long p2), .second, .val (.long p3), .second, .val (.long p4), .second, .val (.long p5), .second, .val (.int (2 : Int32)), .val (.int (1 : Int32)), .val (.ref b1), .val (.int (1 : Int32))] [(.int (1 : Int32))])) _
        refine XS.iconst X73.here hx rfl (hb hby at_96) ?_
        show Steps p.tables e below (T73.setTop (mkF m 97 #[.val (.int p0), .val (.long p1), .second, .val (.long p2), .second, .val (.long p3), .second, .val (.long p4), .second, .val (.long p5), .second, .val (.int (2 : Int32)), .val (.int (1 : Int32)), .val (.ref b1), .val (.int (1 : Int32))] [(.int (2 : Int32)), (.int (1 : Int32))])) _
        refine XS.icmpYes X73.here hx rfl (pc0 := 97) (pc' := 107) rfl (hb hby at_97) rfl (tlt (by decide)).1 (by decide) (by decide) ?_
        show Steps p.tables e below (T73.setTop (mkF m 107 #[.val (.int p0), .val (.long p1), .second, .val (.long p2), .second, .val (.long p3), .second, .val (.long p4), .second, .val (.long p5), .second, .val (.int (2 : Int32)), .val (.int (1 : Int32)), .val (.ref b1), .val (.int (1 : Int32))] [])) _
        refine XS.iload X73.here hx rfl (hb hby at_107) rfl ?_
        show Steps p.tables e below (T73.setTop (mkF m 109 #[.val (.int p0), .val (.long p1), .second, .val (.long p2), .second, .val (.long p3), .second, .val (.long p4), .second, .val (.long p5), .second, .val (.int (2 : Int32)), .val (.int (1 : Int32)), .val (.ref b1), .val (.int (1 : Int32))] [(.int (1 : Int32))])) _
        refine XS.ifNo X73.here hx rfl (hb hby at_109) rfl ((if0 _ _).trans (feq (by decide)).1) ?_
        show Steps p.tables e below (T73.setTop (mkF m 112 #[.val (.int p0), .val (.long p1), .second, .val (.long p2), .second, .val (.long p3), .second, .val (.long p4), .second, .val (.long p5), .second, .val (.int (2 : Int32)), .val (.int (1 : Int32)), .val (.ref b1), .val (.int (1 : Int32))] [])) _
        refine XS.aload X73.here hx rfl (hb hby at_112) rfl rfl ?_
        show Steps p.tables e below (T73.setTop (mkF m 114 #[.val (.int p0), .val (.long p1), .second, .val (.long p2), .second, .val (.long p3), .second, .val (.long p4), .second, .val (.long p5), .second, .val (.int (2 : Int32)), .val (.int (1 : Int32)), .val (.ref b1), .val (.int (1 : Int32))] [(.ref b1)])) _
        refine st74.trans ?_
        show Steps p.tables e below (T74.setTop (mkF m 117 #[.val (.int p0), .val (.long p1), .second, .val (.long p2), .second, .val (.long p3), .second, .val (.long p4), .second, .val (.long p5), .second, .val (.int (2 : Int32)), .val (.int (1 : Int32)), .val (.ref b1), .val (.int (1 : Int32))] [(.int (1 : Int32))])) _
        refine XS.iload X74.here hx rfl (hb hby at_117) rfl ?_
        show Steps p.tables e below (T74.setTop (mkF m 119 #[.val (.int p0), .val (.long p1), .second, .val (.long p2), .second, .val (.long p3), .second, .val (.long p4), .second, .val (.long p5), .second, .val (.int (2 : Int32)), .val (.int (1 : Int32)), .val (.ref b1), .val (.int (1 : Int32))] [(.int (1 : Int32)), (.int (1 : Int32))])) _
        refine XS.icmpNo X74.here hx rfl (hb hby at_119) rfl (teq (by decide)).2 ?_
        show Steps p.tables e below (T74.setTop (mkF m 122 #[.val (.int p0), .val (.long p1), .second, .val (.long p2), .second, .val (.long p3), .second, .val (.long p4), .second, .val (.long p5), .second, .val (.int (2 : Int32)), .val (.int (1 : Int32)), .val (.ref b1), .val (.int (1 : Int32))] [])) _
        refine XS.iconst X74.here hx rfl (hb hby at_122) ?_
        show Steps p.tables e below (T74.setTop (mkF m 123 #[.val (.int p0), .val (.long p1), .second, .val (.long p2), .second, .val (.long p3), .second, .val (.long p4), .second, .val (.long p5), .second, .val (.int (2 : Int32)), .val (.int (1 : Int32)), .val (.ref b1), .val (.int (1 : Int32))] [(.int (1 : Int32))])) _
        refine XS.goto X74.here hx rfl (pc0 := 123) (pc' := 127) rfl (hb hby at_123) (by decide) (by decide) ?_
        show Steps p.tables e below (T74.setTop (mkF m 127 #[.val (.int p0), .val (.long p1), .second, .val (.long p2), .second, .val (.long p3), .second, .val (.long p4), .second, .val (.long p5), .second, .val (.int (2 : Int32)), .val (.int (1 : Int32)), .val (.ref b1), .val (.int (1 : Int32))] [(.int (1 : Int32))])) _
        refine XS.istore X74.here hx rfl (hb hby at_127) rfl (l' := #[.val (.int p0), .val (.long p1), .second, .val (.long p2), .second, .val (.long p3), .second, .val (.long p4), .second, .val (.long p5), .second, .val (.int (2 : Int32)), .val (.int (1 : Int32)), .val (.ref b1), .val (.int (1 : Int32))]) rfl ?_
        show Steps p.tables e below (T74.setTop (mkF m 129 #[.val (.int p0), .val (.long p1), .second, .val (.long p2), .second, .val (.long p3), .second, .val (.long p4), .second, .val (.long p5), .second, .val (.int (2 : Int32)), .val (.int (1 : Int32)), .val (.ref b1), .val (.int (1 : Int32))] [])) _
        refine XS.iload X74.here hx rfl (hb hby at_129) rfl ?_
        show Steps p.tables e below (T74.setTop (mkF m 131 #[.val (.int p0), .val (.long p1), .second, .val (.long p2), .second, .val (.long p3), .second, .val (.long p4), .second, .val (.long p5), .second, .val (.int (2 : Int32)), .val (.int (1 : Int32)), .val (.ref b1), .val (.int (1 : Int32))] [(.int (1 : Int32))])) _
        refine XS.iconst X74.here hx rfl (hb hby at_131) ?_
        show Steps p.tables e below (T74.setTop (mkF m 132 #[.val (.int p0), .val (.long p1), .second, .val (.long p2), .second, .val (.long p3), .second, .val (.long p4), .second, .val (.long p5), .second, .val (.int (2 : Int32)), .val (.int (1 : Int32)), .val (.ref b1), .val (.int (1 : Int32))] [(.int (1 : Int32)), (.int (1 : Int32))])) _
        refine XS.icmpNo X74.here hx rfl (hb hby at_132) rfl (flt (by decide)).1 ?_
        show Steps p.tables e below (T74.setTop (mkF m 135 #[.val (.int p0), .val (.long p1), .second, .val (.long p2), .second, .val (.long p3), .second, .val (.long p4), .second, .val (.long p5), .second, .val (.int (2 : Int32)), .val (.int (1 : Int32)), .val (.ref b1), .val (.int (1 : Int32))] [])) _
        refine XS.iload X74.here hx rfl (hb hby at_135) rfl ?_
        show Steps p.tables e below (T74.setTop (mkF m 137 #[.val (.int p0), .val (.long p1), .second, .val (.long p2), .second, .val (.long p3), .second, .val (.long p4), .second, .val (.long p5), .second, .val (.int (2 : Int32)), .val (.int (1 : Int32)), .val (.ref b1), .val (.int (1 : Int32))] [(.int (1 : Int32))])) _
        refine XS.ifNo X74.here hx rfl (hb hby at_137) rfl ((if0 _ _).trans (feq (by decide)).1) ?_
        show Steps p.tables e below (T74.setTop (mkF m 140 #[.val (.int p0), .val (.long p1), .second, .val (.long p2), .second, .val (.long p3), .second, .val (.long p4), .second, .val (.long p5), .second, .val (.int (2 : Int32)), .val (.int (1 : Int32)), .val (.ref b1), .val (.int (1 : Int32))] [])) _
        refine XS.aload X74.here hx rfl (hb hby at_140) rfl rfl ?_
        show Steps p.tables e below (T74.setTop (mkF m 142 #[.val (.int p0), .val (.long p1), .second, .val (.long p2), .second, .val (.long p3), .second, .val (.long p4), .second, .val (.long p5), .second, .val (.int (2 : Int32)), .val (.int (1 : Int32)), .val (.ref b1), .val (.int (1 : Int32))] [(.ref b1)])) _
        refine XS.iconst X74.here hx rfl (hb hby at_142) ?_
        show Steps p.tables e below (T74.setTop (mkF m 143 #[.val (.int p0), .val (.long p1), .second, .val (.long p2), .second, .val (.long p3), .second, .val (.long p4), .second, .val (.long p5), .second, .val (.int (2 : Int32)), .val (.int (1 : Int32)), .val (.ref b1), .val (.int (1 : Int32))] [(.int (0 : Int32)), (.ref b1)])) _
        refine st75.trans ?_
        show Steps p.tables e below (T75.setTop (mkF m 146 #[.val (.int p0), .val (.long p1), .second, .val (.long p2), .second, .val (.long p3), .second, .val (.long p4), .second, .val (.long p5), .second, .val (.int (2 : Int32)), .val (.int (1 : Int32)), .val (.ref b1), .val (.int (1 : Int32))] [(.long p4)])) _
        refine XS.lload X75.here hx rfl (hb hby at_146) rfl ?_
        show Steps p.tables e below (T75.setTop (mkF m 148 #[.val (.int p0), .val (.long p1), .second, .val (.long p2), .second, .val (.long p3), .second, .val (.long p4), .second, .val (.long p5), .second, .val (.int (2 : Int32)), .val (.int (1 : Int32)), .val (.ref b1), .val (.int (1 : Int32))] [(.long p4), (.long p4)])) _
        refine XS.lcmp X75.here hx rfl (hb hby at_148) rfl ?_
        show Steps p.tables e below (T75.setTop (mkF m 149 #[.val (.int p0), .val (.long p1), .second, .val (.long p2), .second, .val (.long p3), .second, .val (.long p4), .second, .val (.long p5), .second, .val (.int (2 : Int32)), .val (.int (1 : Int32)), .val (.ref b1), .val (.int (1 : Int32))] [(.int (lcmpW p4 p4))])) _
        refine XS.ifNo X75.here hx rfl (hb hby at_149) rfl ((if0 _ _).trans (teq ((lw_eq _ _).mpr rfl)).2) ?_
        show Steps p.tables e below (T75.setTop (mkF m 152 #[.val (.int p0), .val (.long p1), .second, .val (.long p2), .second, .val (.long p3), .second, .val (.long p4), .second, .val (.long p5), .second, .val (.int (2 : Int32)), .val (.int (1 : Int32)), .val (.ref b1), .val (.int (1 : Int32))] [])) _
        refine XS.iconst X75.here hx rfl (hb hby at_152) ?_
        show Steps p.tables e below (T75.setTop (mkF m 153 #[.val (.int p0), .val (.long p1), .second, .val (.long p2), .second, .val (.long p3), .second, .val (.long p4), .second, .val (.long p5), .second, .val (.int (2 : Int32)), .val (.int (1 : Int32)), .val (.ref b1), .val (.int (1 : Int32))] [(.int (1 : Int32))])) _
        refine XS.goto X75.here hx rfl (pc0 := 153) (pc' := 157) rfl (hb hby at_153) (by decide) (by decide) ?_
        show Steps p.tables e below (T75.setTop (mkF m 157 #[.val (.int p0), .val (.long p1), .second, .val (.long p2), .second, .val (.long p3), .second, .val (.long p4), .second, .val (.long p5), .second, .val (.int (2 : Int32)), .val (.int (1 : Int32)), .val (.ref b1), .val (.int (1 : Int32))] [(.int (1 : Int32))])) _
        refine XS.istore X75.here hx rfl (hb hby at_157) rfl (l' := #[.val (.int p0), .val (.long p1), .second, .val (.long p2), .second, .val (.long p3), .second, .val (.long p4), .second, .val (.long p5), .second, .val (.int (2 : Int32)), .val (.int (1 : Int32)), .val (.ref b1), .val (.int (1 : Int32))]) rfl ?_
        show Steps p.tables e below (T75.setTop (mkF m 159 #[.val (.int p0), .val (.long p1), .second, .val (.long p2), .second, .val (.long p3), .second, .val (.long p4), .second, .val (.long p5), .second, .val (.int (2 : Int32)), .val (.int (1 : Int32)), .val (.ref b1), .val (.int (1 : Int32))] [])) _
        refine XS.iload X75.here hx rfl (hb hby at_159) rfl ?_
        show Steps p.tables e below (T75.setTop (mkF m 161 #[.val (.int p0), .val (.long p1), .second, .val (.long p2), .second, .val (.long p3), .second, .val (.long p4), .second, .val (.long p5), .second, .val (.int (2 : Int32)), .val (.int (1 : Int32)), .val (.ref b1), .val (.int (1 : Int32))] [(.int (1 : Int32))])) _
        refine XS.iconst X75.here hx rfl (hb hby at_161) ?_
        show Steps p.tables e below (T75.setTop (mkF m 162 #[.val (.int p0), .val (.long p1), .second, .val (.long p2), .second, .val (.long p3), .second, .val (.long p4), .second, .val (.long p5), .second, .val (.int (2 : Int32)), .val (.int (1 : Int32)), .val (.ref b1), .val (.int (1 : Int32))] [(.int (2 : Int32)), (.int (1 : Int32))])) _
        refine XS.icmpYes X75.here hx rfl (pc0 := 162) (pc' := 189) rfl (hb hby at_162) rfl (tlt (by decide)).1 (by decide) (by decide) ?_
        show Steps p.tables e below (T75.setTop (mkF m 189 #[.val (.int p0), .val (.long p1), .second, .val (.long p2), .second, .val (.long p3), .second, .val (.long p4), .second, .val (.long p5), .second, .val (.int (2 : Int32)), .val (.int (1 : Int32)), .val (.ref b1), .val (.int (1 : Int32))] [])) _
        refine XS.iload X75.here hx rfl (hb hby at_189) rfl ?_
        exact Steps.refl _
      obtain ⟨fs, hr, hrun, hended, hW, hsame⟩ := X75.leave (v := some (.int (1 : Int32))) (fun h => by rw [Bd.returns] at h; cases h)
      refine ⟨_, _, s76.trans ?_, hrun, hended, _, _, rfl, ?_, ⟨_, rfl⟩, hW, hsame.mono (by decide) (by decide)⟩
      · show Steps p.tables e below (T75.setTop (mkF m 191 #[.val (.int p0), .val (.long p1), .second, .val (.long p2), .second, .val (.long p3), .second, .val (.long p4), .second, .val (.long p5), .second, .val (.int (2 : Int32)), .val (.int (1 : Int32)), .val (.ref b1), .val (.int (1 : Int32))] [(.int (1 : Int32))])) _
        exact retN X75 hx (t := .boolean) Bd.returns (by simp) (hb hby at_191) hr
      · show Q0 Z p0 p1 p2 p3 p4 p5 h0 n0 _ T75.heap _
        rw [e75]
        exact ⟨rfl, N75⟩
    · have s77 := s67
      rw [hk68] at s77
      obtain ⟨cq78, kq78, q78a, q78b, q78c⟩ := isOf hZ e66 f61_0
      obtain ⟨_, _, ⟨T78, L78, k78, n78⟩, -, X78, ⟨Lc78, hQ78, l78, y78, z78⟩, st78⟩ := X66.virtualBack hx (y := (⟨"com/example/strikewire/strikewire/engine/LongList", "add", "(J)V"⟩ : MethodName)) (z := (⟨"com/example/strikewire/strikewire/engine/LongList", "add", "(J)V"⟩ : MethodName)) hown (mvT hZ (hw _ (List.mem_of_getElem? (i := 27) rfl))) (mvT hZ (hw _ (List.mem_of_getElem? (i := 28) rfl))) (notFace_of_selects (args := #[]) (mvT hZ (hw _ (List.mem_of_getElem? (i := 30) rfl)))) (mvT hZ (hw _ (List.mem_of_getElem? (i := 30) rfl))) (mvT hZ (hw _ (List.mem_of_getElem? (i := 29) rfl))) (by decide) (backOf (W := 0) (rma0 l Z a0 hw [] b1 p4 u62 u63 u64 u65 (0 : Int64) (0 : Int64) (0 : Int64) (0 : Int64) (0 : Int64) (0 : Int64) (0 : Int64) (0 : Int64) T61.heap n0 O61 f61_0 f61_1 f61_3 f61_2 f61_4 g_b1 g_u63 ne_b1_u62 ne_b1_u63 f61_7) hZ (hw _ (List.mem_of_getElem? (i := 31) rfl)) (hw _ (List.mem_of_getElem? (i := 3) rfl)) (by decide) (by decide)) q78a q78c (g := (mkF m 91 #[.val (.int p0), .val (.long p1), .second, .val (.long p2), .second, .val (.long p3), .second, .val (.long p4), .second, .val (.long p5), .second, .val (.int (2 : Int32)), .val (.int (2 : Int32)), .val (.ref b1), .val (.int (1 : Int32))] [(.long p4), (.ref b1)])) rfl (by rw [hml]; rfl) (Steps.refl _) (argsL := [(.long p4)]) (rest := []) (lenOf pd_rm0_2 rfl) rfl (by show 2 * 0 + _ ≤ _; exact Nat.le_of_eq rfl) (hb hby at_91) (fun _ _ => ⟨rfl, e66, (by decide : 5 + 0 ≤ _), (by decide : 20 + 0 ≤ _)⟩)
      dsimp only [Pt.U, Pt.locs, Pt.cells, Pt.slots] at X78 l78 y78 z78 st78 hQ78
      subst l78 y78 z78
      obtain ⟨rfl, Nq78, Kc78, f78_0, f78_1, f78_2, f78_3, f78_4⟩ := hQ78
      have N78 := Fr.app N66 Nq78
      have O78 := O61.keep Kc78 (allS g_b1 (allS g_u63 all0))
      obtain ⟨cq79, kq79, q79a, q79b, q79c⟩ := isOf hZ (rfl : T78.heap = T78.heap) f78_0
      obtain ⟨_, _, ⟨T79, L79, k79, n79⟩, -, X79, ⟨Lc79, hQ79, l79, y79, z79⟩, st79⟩ := X78.virtualBack hx (y := (⟨"com/example/strikewire/strikewire/engine/LongList", "add", "(J)V"⟩ : MethodName)) (z := (⟨"com/example/strikewire/strikewire/engine/LongList", "add", "(J)V"⟩ : MethodName)) hown (mvT hZ (hw _ (List.mem_of_getElem? (i := 27) rfl))) (mvT hZ (hw _ (List.mem_of_getElem? (i := 28) rfl))) (notFace_of_selects (args := #[]) (mvT hZ (hw _ (List.mem_of_getElem? (i := 30) rfl)))) (mvT hZ (hw _ (List.mem_of_getElem? (i := 30) rfl))) (mvT hZ (hw _ (List.mem_of_getElem? (i := 29) rfl))) (by decide) (backOf (W := 0) (rma1 l Z a0 hw [] b1 p5 u62 u63 u64 u65 p4 (0 : Int64) (0 : Int64) (0 : Int64) (0 : Int64) (0 : Int64) (0 : Int64) (0 : Int64) T78.heap n0 O78 f78_0 f78_1 f78_2 f78_3 f78_4 g_b1 g_u63 ne_b1_u62 ne_b1_u63 f61_7) hZ (hw _ (List.mem_of_getElem? (i := 31) rfl)) (hw _ (List.mem_of_getElem? (i := 3) rfl)) (by decide) (by decide)) q79a q79c (g := (mkF m 104 #[.val (.int p0), .val (.long p1), .second, .val (.long p2), .second, .val (.long p3), .second, .val (.long p4), .second, .val (.long p5), .second, .val (.int (2 : Int32)), .val (.int (2 : Int32)), .val (.ref b1), .val (.int (1 : Int32))] [(.long p5), (.ref b1)])) rfl (by rw [hml]; rfl) (Steps.refl _) (argsL := [(.long p5)]) (rest := []) (lenOf pd_rm0_2 rfl) rfl (by show 2 * 0 + _ ≤ _; exact Nat.le_of_eq rfl) (hb hby at_104) (fun _ _ => ⟨rfl, (rfl : T78.heap = T78.heap), (by decide : 5 + 0 ≤ _), (by decide : 20 + 0 ≤ _)⟩)
      dsimp only [Pt.U, Pt.locs, Pt.cells, Pt.slots] at X79 l79 y79 z79 st79 hQ79
      subst l79 y79 z79
      obtain ⟨rfl, Nq79, Kc79, f79_0, f79_1, f79_2, f79_3, f79_4⟩ := hQ79
      have N79 := Fr.app N78 Nq79
      have O79 := O78.keep Kc79 (allS g_b1 (allS g_u63 all0))
      obtain ⟨cq80, kq80, q80a, q80b, q80c⟩ := isOf hZ (rfl : T79.heap = T79.heap) f79_0
      obtain ⟨_, _, ⟨T80, L80, k80, n80⟩, -, X80, ⟨Lc80, hQ80, l80, y80, z80⟩, st80⟩ := X79.virtualBack hx (y := (⟨"com/example/strikewire/strikewire/engine/LongList", "size", "()I"⟩ : MethodName)) (z := (⟨"com/example/strikewire/strikewire/engine/LongList", "size", "()I"⟩ : MethodName)) hown (mvT hZ (hw _ (List.mem_of_getElem? (i := 22) rfl))) (mvT hZ (hw _ (List.mem_of_getElem? (i := 23) rfl))) (notFace_of_selects (args := #[]) (mvT hZ (hw _ (List.mem_of_getElem? (i := 25) rfl)))) (mvT hZ (hw _ (List.mem_of_getElem? (i := 25) rfl))) (mvT hZ (hw _ (List.mem_of_getElem? (i := 24) rfl))) (by decide) (backOf (W := 0) (rm4 l Z a0 hw [] b1 (2 : Int32) T79.heap n0 O79 f79_3) hZ (hw _ (List.mem_of_getElem? (i := 26) rfl)) (hw _ (List.mem_of_getElem? (i := 3) rfl)) (by decide) (by decide)) q80a q80c (g := (mkF m 114 #[.val (.int p0), .val (.long p1), .second, .val (.long p2), .second, .val (.long p3), .second, .val (.long p4), .second, .val (.long p5), .second, .val (.int (2 : Int32)), .val (.int (2 : Int32)), .val (.ref b1), .val (.int (1 : Int32))] [(.ref b1)])) rfl (by rw [hml]; rfl) (Steps.refl _) (argsL := []) (rest := []) (lenOf pd_rm0_1 rfl) rfl (by show 2 * 0 + _ ≤ _; exact Nat.le_of_eq rfl) (hb hby at_114) (fun _ _ => ⟨rfl, (rfl : T79.heap = T79.heap), (by decide : 5 + 0 ≤ _), (by decide : 20 + 0 ≤ _)⟩)
      dsimp only [Pt.U, Pt.locs, Pt.cells, Pt.slots] at X80 l80 y80 z80 st80 hQ80
      subst l80 y80 z80
      obtain ⟨rfl, Nq80, e80⟩ := hQ80
      have N80 := Fr.app N79 Nq80
      obtain ⟨cq81, kq81, q81a, q81b, q81c⟩ := isOf hZ e80 f79_0
      obtain ⟨_, _, ⟨T81, L81, k81, n81⟩, -, X81, ⟨Lc81, hQ81, l81, y81, z81⟩, st81⟩ := X80.virtualBack hx (y := (⟨"com/example/strikewire/strikewire/engine/LongList", "get", "(I)J"⟩ : MethodName)) (z := (⟨"com/example/strikewire/strikewire/engine/LongList", "get", "(I)J"⟩ : MethodName)) hown (mvT hZ (hw _ (List.mem_of_getElem? (i := 34) rfl))) (mvT hZ (hw _ (List.mem_of_getElem? (i := 35) rfl))) (notFace_of_selects (args := #[]) (mvT hZ (hw _ (List.mem_of_getElem? (i := 37) rfl)))) (mvT hZ (hw _ (List.mem_of_getElem? (i := 37) rfl))) (mvT hZ (hw _ (List.mem_of_getElem? (i := 36) rfl))) (by decide) (backOf (W := 0) (rmg0_2 l Z a0 hw [] b1 u62 u63 u64 u65 p4 p5 (0 : Int64) (0 : Int64) (0 : Int64) (0 : Int64) (0 : Int64) (0 : Int64) T79.heap n0 O79 f79_0 f79_1 f79_2 f79_3 f79_4) hZ (hw _ (List.mem_of_getElem? (i := 38) rfl)) (hw _ (List.mem_of_getElem? (i := 3) rfl)) (by decide) (by decide)) q81a q81c (g := (mkF m 143 #[.val (.int p0), .val (.long p1), .second, .val (.long p2), .second, .val (.long p3), .second, .val (.long p4), .second, .val (.long p5), .second, .val (.int (2 : Int32)), .val (.int (2 : Int32)), .val (.ref b1), .val (.int (1 : Int32))] [(.int (0 : Int32)), (.ref b1)])) rfl (by rw [hml]; rfl) (Steps.refl _) (argsL := [(.int (0 : Int32))]) (rest := []) (lenOf pd_rm0_3 rfl) rfl (by show 2 * 0 + _ ≤ _; exact Nat.le_of_eq rfl) (hb hby at_143) (fun _ _ => ⟨rfl, e80, (by decide : 5 + 0 ≤ _), (by decide : 20 + 0 ≤ _)⟩)
      dsimp only [Pt.U, Pt.locs, Pt.cells, Pt.slots] at X81 l81 y81 z81 st81 hQ81
      subst l81 y81 z81
      obtain ⟨rfl, Nq81, e81⟩ := hQ81
      have N81 := Fr.app N80 Nq81
      obtain ⟨cq82, kq82, q82a, q82b, q82c⟩ := isOf hZ e81 f79_0
      obtain ⟨_, _, ⟨T82, L82, k82, n82⟩, -, X82, ⟨Lc82, hQ82, l82, y82, z82⟩, st82⟩ := X81.virtualBack hx (y := (⟨"com/example/strikewire/strikewire/engine/LongList", "get", "(I)J"⟩ : MethodName)) (z := (⟨"com/example/strikewire/strikewire/engine/LongList", "get", "(I)J"⟩ : MethodName)) hown (mvT hZ (hw _ (List.mem_of_getElem? (i := 34) rfl))) (mvT hZ (hw _ (List.mem_of_getElem? (i := 35) rfl))) (notFace_of_selects (args := #[]) (mvT hZ (hw _ (List.mem_of_getElem? (i := 37) rfl)))) (mvT hZ (hw _ (List.mem_of_getElem? (i := 37) rfl))) (mvT hZ (hw _ (List.mem_of_getElem? (i := 36) rfl))) (by decide) (backOf (W := 0) (rmg1_2 l Z a0 hw [] b1 u62 u63 u64 u65 p4 p5 (0 : Int64) (0 : Int64) (0 : Int64) (0 : Int64) (0 : Int64) (0 : Int64) T79.heap n0 O79 f79_0 f79_1 f79_2 f79_3 f79_4) hZ (hw _ (List.mem_of_getElem? (i := 38) rfl)) (hw _ (List.mem_of_getElem? (i := 3) rfl)) (by decide) (by decide)) q82a q82c (g := (mkF m 173 #[.val (.int p0), .val (.long p1), .second, .val (.long p2), .second, .val (.long p3), .second, .val (.long p4), .second, .val (.long p5), .second, .val (.int (2 : Int32)), .val (.int (2 : Int32)), .val (.ref b1), .val (.int (1 : Int32))] [(.int (1 : Int32)), (.ref b1)])) rfl (by rw [hml]; rfl) (Steps.refl _) (argsL := [(.int (1 : Int32))]) (rest := []) (lenOf pd_rm0_3 rfl) rfl (by show 2 * 0 + _ ≤ _; exact Nat.le_of_eq rfl) (hb hby at_173) (fun _ _ => ⟨rfl, e81, (by decide : 5 + 0 ≤ _), (by decide : 20 + 0 ≤ _)⟩)
      dsimp only [Pt.U, Pt.locs, Pt.cells, Pt.slots] at X82 l82 y82 z82 st82 hQ82
      subst l82 y82 z82
      obtain ⟨rfl, Nq82, e82⟩ := hQ82
      have N82 := Fr.app N81 Nq82
      have s83 : Steps p.tables e below (s₁.setTop (entryFrame m #[(.int p0), (.long p1), (.long p2), (.long p3), (.long p4), (.long p5)] maxLocals)) (T82.setTop (mkF m 191 #[.val (.int p0), .val (.long p1), .second, .val (.long p2), .second, .val (.long p3), .second, .val (.long p4), .second, .val (.long p5), .second, .val (.int (2 : Int32)), .val (.int (2 : Int32)), .val (.ref b1), .val (.int (1 : Int32))] [(.int (1 : Int32))])) := by
        refine s77.trans ?_
        show Steps p.tables e below (T66.setTop (mkF m 81 #[.val (.int p0), .val (.long p1), .second, .val (.long p2), .second, .val (.long p3), .second, .val (.long p4), .second, .val (.long p5), .second, .val (.int (2 : Int32)), .val (.int (2 : Int32)), .val (.ref b1), .val (.int (1 : Int32))] [])) _
        refine XS.iload X66.here hx rfl (hb hby at_81) rfl ?_
        show Steps p.tables e below (T66.setTop (mkF m 83 #[.val (.int p0), .val (.long p1), .second, .val (.long p2), .second, .val (.long p3), .second, .val (.long p4), .second, .val (.long p5), .second, .val (.int (2 : Int32)), .val (.int (2 : Int32)), .val (.ref b1), .val (.int (1 : Int32))] [(.int (2 : Int32))])) _
        refine XS.iconst X66.here hx rfl (hb hby at_83) ?_
        show Steps p.tables e below (T66.setTop (mkF m 84 #[.val (.int p0), .val (.long p1), .second, .val (.long p2), .second, .val (.long p3), .second, .val (.long p4), .second, .val (.long p5), .second, .val (.int (2 : Int32)), .val (.int (2 : Int32)), .val (.ref b1), .val (.int (1 : Int32))] [(.int (1 : Int32)), (.int (2 : Int32))])) _
        refine XS.icmpNo X66.here hx rfl (hb hby at_84) rfl (flt (by decide)).1 ?_
        show Steps p.tables e below (T66.setTop (mkF m 87 #[.val (.int p0), .val (.long p1), .second, .val (.long p2), .second, .val (.long p3), .second, .val (.long p4), .second, .val (.long p5), .second, .val (.int (2 : Int32)), .val (.int (2 : Int32)), .val (.ref b1), .val (.int (1 : Int32))] [])) _
        refine XS.aload X66.here hx rfl (hb hby at_87) rfl rfl ?_
        show Steps p.tables e below (T66.setTop (mkF m 89 #[.val (.int p0), .val (.long p1), .second, .val (.long p2), .second, .val (.long p3), .second, .val (.long p4), .second, .val (.long p5), .second, .val (.int (2 : Int32)), .val (.int (2 : Int32)), .val (.ref b1), .val (.int (1 : Int32))] [(.ref b1)])) _
        refine XS.lload X66.here hx rfl (hb hby at_89) rfl ?_
        show Steps p.tables e below (T66.setTop (mkF m 91 #[.val (.int p0), .val (.long p1), .second, .val (.long p2), .second, .val (.long p3), .second, .val (.long p4), .second, .val (.long p5), .second, .val (.int (2 : Int32)), .val (.int (2 : Int32)), .val (.ref b1), .val (.int (1 : Int32))] [(.long p4), (.ref b1)])) _
        refine st78.trans ?_
        show Steps p.tables e below (T78.setTop (mkF m 94 #[.val (.int p0), .val (.long p1), .second, .val (.long p2), .second, .val (.long p3), .second, .val (.long p4), .second, .val (.long p5), .second, .val (.int (2 : Int32)), .val (.int (2 : Int32)), .val (.ref b1), .val (.int (1 : Int32))] [])) _
        refine XS.iload X78.here hx rfl (hb hby at_94) rfl ?_
        show Steps p.tables e below (T78.setTop (mkF m 96 #[.val (.int p0), .val (.long p1), .second, .val (.long p2), .second, .val (.long p3), .second, .val (.long p4), .second, .val (.long p5), .second, .val (.int (2 : Int32)), .val (.int (2 : Int32)), .val (.ref b1), .val (.int (1 : Int32))] [(.int (2 : Int32))])) _
        refine XS.iconst X78.here hx rfl (hb hby at_96) ?_
        show Steps p.tables e below (T78.setTop (mkF m 97 #[.val (.int p0), .val (.long p1), .second, .val (.long p2), .second, .val (.long p3), .second, .val (.long p4), .second, .val (.long p5), .second, .val (.int (2 : Int32)), .val (.int (2 : Int32)), .val (.ref b1), .val (.int (1 : Int32))] [(.int (2 : Int32)), (.int (2 : Int32))])) _
        refine XS.icmpNo X78.here hx rfl (hb hby at_97) rfl (flt (by decide)).1 ?_
        show Steps p.tables e below (T78.setTop (mkF m 100 #[.val (.int p0), .val (.long p1), .second, .val (.long p2), .second, .val (.long p3), .second, .val (.long p4), .second, .val (.long p5), .second, .val (.int (2 : Int32)), .val (.int (2 : Int32)), .val (.ref b1), .val (.int (1 : Int32))] [])) _
        refine XS.aload X78.here hx rfl (hb hby at_100) rfl rfl ?_
        show Steps p.tables e below (T78.setTop (mkF m 102 #[.val (.int p0), .val (.long p1), .second, .val (.long p2), .second, .val (.long p3), .second, .val (.long p4), .second, .val (.long p5), .second, .val (.int (2 : Int32)), .val (.int (2 : Int32)), .val (.ref b1), .val (.int (1 : Int32))] [(.ref b1)])) _
        refine XS.lload X78.here hx rfl (hb hby at_102) rfl ?_
        show Steps p.tables e below (T78.setTop (mkF m 104 #[.val (.int p0), .val (.long p1), .second, .val (.long p2), .second, .val (.long p3), .second, .val (.long p4), .second, .val (.long p5), .second, .val (.int (2 : Int32)), .val (.int (2 : Int32)), .val (.ref b1), .val (.int (1 : Int32))] [(.long p5), (.ref b1)])) _
        refine st79.trans ?_
        show Steps p.tables e below (T79.setTop (mkF m 107 #[.val (.int p0), .val (.long p1), .second, .val (.long p2), .second, .val (.long p3), .second, .val (.long p4), .second, .val (.long p5), .second, .val (.int (2 : Int32)), .val (.int (2 : Int32)), .val (.ref b1), .val (.int (1 : Int32))] [])) _
        refine XS.iload X79.here hx rfl (hb hby at_107) rfl ?_
        show Steps p.tables e below (T79.setTop (mkF m 109 #[.val (.int p0), .val (.long p1), .second, .val (.long p2), .second, .val (.long p3), .second, .val (.long p4), .second, .val (.long p5), .second, .val (.int (2 : Int32)), .val (.int (2 : Int32)), .val (.ref b1), .val (.int (1 : Int32))] [(.int (1 : Int32))])) _
        refine XS.ifNo X79.here hx rfl (hb hby at_109) rfl ((if0 _ _).trans (feq (by decide)).1) ?_
        show Steps p.tables e below (T79.setTop (mkF m 112 #[.val (.int p0), .val (.long p1), .second, .val (.long p2), .second, .val (.long p3), .second, .val (.long p4), .second, .val (.long p5), .second, .val (.int (2 : Int32)), .val (.int (2 : Int32)), .val (.ref b1), .val (.int (1 : Int32))] [])) _
        refine XS.aload X79.here hx rfl (hb hby at_112) rfl rfl ?_
        show Steps p.tables e below (T79.setTop (mkF m 114 #[.val (.int p0), .val (.long p1), .second, .val (.long p2), .second, .val (.long p3), .second, .val (.long p4), .second, .val (.long p5), .second, .val (.int (2 : Int32)), .val (.int (2 : Int32)), .val (.ref b1), .val (.int (1 : Int32))] [(.ref b1)])) _
        refine st80.trans ?_
        show Steps p.tables e below (T80.setTop (mkF m 117 #[.val (.int p0), .val (.long p1), .second, .val (.long p2), .second, .val (.long p3), .second, .val (.long p4), .second, .val (.long p5), .second, .val (.int (2 : Int32)), .val (.int (2 : Int32)), .val (.ref b1), .val (.int (1 : Int32))] [(.int (2 : Int32))])) _
        refine XS.iload X80.here hx rfl (hb hby at_117) rfl ?_
        show Steps p.tables e below (T80.setTop (mkF m 119 #[.val (.int p0), .val (.long p1), .second, .val (.long p2), .second, .val (.long p3), .second, .val (.long p4), .second, .val (.long p5), .second, .val (.int (2 : Int32)), .val (.int (2 : Int32)), .val (.ref b1), .val (.int (1 : Int32))] [(.int (2 : Int32)), (.int (2 : Int32))])) _
        refine XS.icmpNo X80.here hx rfl (hb hby at_119) rfl (teq (by decide)).2 ?_
        show Steps p.tables e below (T80.setTop (mkF m 122 #[.val (.int p0), .val (.long p1), .second, .val (.long p2), .second, .val (.long p3), .second, .val (.long p4), .second, .val (.long p5), .second, .val (.int (2 : Int32)), .val (.int (2 : Int32)), .val (.ref b1), .val (.int (1 : Int32))] [])) _
        refine XS.iconst X80.here hx rfl (hb hby at_122) ?_
        show Steps p.tables e below (T80.setTop (mkF m 123 #[.val (.int p0), .val (.long p1), .second, .val (.long p2), .second, .val (.long p3), .second, .val (.long p4), .second, .val (.long p5), .second, .val (.int (2 : Int32)), .val (.int (2 : Int32)), .val (.ref b1), .val (.int (1 : Int32))] [(.int (1 : Int32))])) _
        refine XS.goto X80.here hx rfl (pc0 := 123) (pc' := 127) rfl (hb hby at_123) (by decide) (by decide) ?_
        show Steps p.tables e below (T80.setTop (mkF m 127 #[.val (.int p0), .val (.long p1), .second, .val (.long p2), .second, .val (.long p3), .second, .val (.long p4), .second, .val (.long p5), .second, .val (.int (2 : Int32)), .val (.int (2 : Int32)), .val (.ref b1), .val (.int (1 : Int32))] [(.int (1 : Int32))])) _
        refine XS.istore X80.here hx rfl (hb hby at_127) rfl (l' := #[.val (.int p0), .val (.long p1), .second, .val (.long p2), .second, .val (.long p3), .second, .val (.long p4), .second, .val (.long p5), .second, .val (.int (2 : Int32)), .val (.int (2 : Int32)), .val (.ref b1), .val (.int (1 : Int32))]) rfl ?_
        show Steps p.tables e below (T80.setTop (mkF m 129 #[.val (.int p0), .val (.long p1), .second, .val (.long p2), .second, .val (.long p3), .second, .val (.long p4), .second, .val (.long p5), .second, .val (.int (2 : Int32)), .val (.int (2 : Int32)), .val (.ref b1), .val (.int (1 : Int32))] [])) _
        refine XS.iload X80.here hx rfl (hb hby at_129) rfl ?_
        show Steps p.tables e below (T80.setTop (mkF m 131 #[.val (.int p0), .val (.long p1), .second, .val (.long p2), .second, .val (.long p3), .second, .val (.long p4), .second, .val (.long p5), .second, .val (.int (2 : Int32)), .val (.int (2 : Int32)), .val (.ref b1), .val (.int (1 : Int32))] [(.int (2 : Int32))])) _
        refine XS.iconst X80.here hx rfl (hb hby at_131) ?_
        show Steps p.tables e below (T80.setTop (mkF m 132 #[.val (.int p0), .val (.long p1), .second, .val (.long p2), .second, .val (.long p3), .second, .val (.long p4), .second, .val (.long p5), .second, .val (.int (2 : Int32)), .val (.int (2 : Int32)), .val (.ref b1), .val (.int (1 : Int32))] [(.int (1 : Int32)), (.int (2 : Int32))])) _
        refine XS.icmpNo X80.here hx rfl (hb hby at_132) rfl (flt (by decide)).1 ?_
        show Steps p.tables e below (T80.setTop (mkF m 135 #[.val (.int p0), .val (.long p1), .second, .val (.long p2), .second, .val (.long p3), .second, .val (.long p4), .second, .val (.long p5), .second, .val (.int (2 : Int32)), .val (.int (2 : Int32)), .val (.ref b1), .val (.int (1 : Int32))] [])) _
        refine XS.iload X80.here hx rfl (hb hby at_135) rfl ?_
        show Steps p.tables e below (T80.setTop (mkF m 137 #[.val (.int p0), .val (.long p1), .second, .val (.long p2), .second, .val (.long p3), .second, .val (.long p4), .second, .val (.long p5), .second, .val (.int (2 : Int32)), .val (.int (2 : Int32)), .val (.ref b1), .val (.int (1 : Int32))] [(.int (1 : Int32))])) _
        refine XS.ifNo X80.here hx rfl (hb hby at_137) rfl ((if0 _ _).trans (feq (by decide)).1) ?_
        show Steps p.tables e below (T80.setTop (mkF m 140 #[.val (.int p0), .val (.long p1), .second, .val (.long p2), .second, .val (.long p3), .second, .val (.long p4), .second, .val (.long p5), .second, .val (.int (2 : Int32)), .val (.int (2 : Int32)), .val (.ref b1), .val (.int (1 : Int32))] [])) _
        refine XS.aload X80.here hx rfl (hb hby at_140) rfl rfl ?_
        show Steps p.tables e below (T80.setTop (mkF m 142 #[.val (.int p0), .val (.long p1), .second, .val (.long p2), .second, .val (.long p3), .second, .val (.long p4), .second, .val (.long p5), .second, .val (.int (2 : Int32)), .val (.int (2 : Int32)), .val (.ref b1), .val (.int (1 : Int32))] [(.ref b1)])) _
        refine XS.iconst X80.here hx rfl (hb hby at_142) ?_
        show Steps p.tables e below (T80.setTop (mkF m 143 #[.val (.int p0), .val (.long p1), .second, .val (.long p2), .second, .val (.long p3), .second, .val (.long p4), .second, .val (.long p5), .second, .val (.int (2 : Int32)), .val (.int (2 : Int32)), .val (.ref b1), .val (.int (1 : Int32))] [(.int (0 : Int32)), (.ref b1)])) _
        refine st81.trans ?_
        show Steps p.tables e below (T81.setTop (mkF m 146 #[.val (.int p0), .val (.long p1), .second, .val (.long p2), .second, .val (.long p3), .second, .val (.long p4), .second, .val (.long p5), .second, .val (.int (2 : Int32)), .val (.int (2 : Int32)), .val (.ref b1), .val (.int (1 : Int32))] [(.long p4)])) _
        refine XS.lload X81.here hx rfl (hb hby at_146) rfl ?_
        show Steps p.tables e below (T81.setTop (mkF m 148 #[.val (.int p0), .val (.long p1), .second, .val (.long p2), .second, .val (.long p3), .second, .val (.long p4), .second, .val (.long p5), .second, .val (.int (2 : Int32)), .val (.int (2 : Int32)), .val (.ref b1), .val (.int (1 : Int32))] [(.long p4), (.long p4)])) _
        refine XS.lcmp X81.here hx rfl (hb hby at_148) rfl ?_
        show Steps p.tables e below (T81.setTop (mkF m 149 #[.val (.int p0), .val (.long p1), .second, .val (.long p2), .second, .val (.long p3), .second, .val (.long p4), .second, .val (.long p5), .second, .val (.int (2 : Int32)), .val (.int (2 : Int32)), .val (.ref b1), .val (.int (1 : Int32))] [(.int (lcmpW p4 p4))])) _
        refine XS.ifNo X81.here hx rfl (hb hby at_149) rfl ((if0 _ _).trans (teq ((lw_eq _ _).mpr rfl)).2) ?_
        show Steps p.tables e below (T81.setTop (mkF m 152 #[.val (.int p0), .val (.long p1), .second, .val (.long p2), .second, .val (.long p3), .second, .val (.long p4), .second, .val (.long p5), .second, .val (.int (2 : Int32)), .val (.int (2 : Int32)), .val (.ref b1), .val (.int (1 : Int32))] [])) _
        refine XS.iconst X81.here hx rfl (hb hby at_152) ?_
        show Steps p.tables e below (T81.setTop (mkF m 153 #[.val (.int p0), .val (.long p1), .second, .val (.long p2), .second, .val (.long p3), .second, .val (.long p4), .second, .val (.long p5), .second, .val (.int (2 : Int32)), .val (.int (2 : Int32)), .val (.ref b1), .val (.int (1 : Int32))] [(.int (1 : Int32))])) _
        refine XS.goto X81.here hx rfl (pc0 := 153) (pc' := 157) rfl (hb hby at_153) (by decide) (by decide) ?_
        show Steps p.tables e below (T81.setTop (mkF m 157 #[.val (.int p0), .val (.long p1), .second, .val (.long p2), .second, .val (.long p3), .second, .val (.long p4), .second, .val (.long p5), .second, .val (.int (2 : Int32)), .val (.int (2 : Int32)), .val (.ref b1), .val (.int (1 : Int32))] [(.int (1 : Int32))])) _
        refine XS.istore X81.here hx rfl (hb hby at_157) rfl (l' := #[.val (.int p0), .val (.long p1), .second, .val (.long p2), .second, .val (.long p3), .second, .val (.long p4), .second, .val (.long p5), .second, .val (.int (2 : Int32)), .val (.int (2 : Int32)), .val (.ref b1), .val (.int (1 : Int32))]) rfl ?_
        show Steps p.tables e below (T81.setTop (mkF m 159 #[.val (.int p0), .val (.long p1), .second, .val (.long p2), .second, .val (.long p3), .second, .val (.long p4), .second, .val (.long p5), .second, .val (.int (2 : Int32)), .val (.int (2 : Int32)), .val (.ref b1), .val (.int (1 : Int32))] [])) _
        refine XS.iload X81.here hx rfl (hb hby at_159) rfl ?_
        show Steps p.tables e below (T81.setTop (mkF m 161 #[.val (.int p0), .val (.long p1), .second, .val (.long p2), .second, .val (.long p3), .second, .val (.long p4), .second, .val (.long p5), .second, .val (.int (2 : Int32)), .val (.int (2 : Int32)), .val (.ref b1), .val (.int (1 : Int32))] [(.int (2 : Int32))])) _
        refine XS.iconst X81.here hx rfl (hb hby at_161) ?_
        show Steps p.tables e below (T81.setTop (mkF m 162 #[.val (.int p0), .val (.long p1), .second, .val (.long p2), .second, .val (.long p3), .second, .val (.long p4), .second, .val (.long p5), .second, .val (.int (2 : Int32)), .val (.int (2 : Int32)), .val (.ref b1), .val (.int (1 : Int32))] [(.int (2 : Int32)), (.int (2 : Int32))])) _
        refine XS.icmpNo X81.here hx rfl (hb hby at_162) rfl (flt (by decide)).1 ?_
        show Steps p.tables e below (T81.setTop (mkF m 165 #[.val (.int p0), .val (.long p1), .second, .val (.long p2), .second, .val (.long p3), .second, .val (.long p4), .second, .val (.long p5), .second, .val (.int (2 : Int32)), .val (.int (2 : Int32)), .val (.ref b1), .val (.int (1 : Int32))] [])) _
        refine XS.iload X81.here hx rfl (hb hby at_165) rfl ?_
        show Steps p.tables e below (T81.setTop (mkF m 167 #[.val (.int p0), .val (.long p1), .second, .val (.long p2), .second, .val (.long p3), .second, .val (.long p4), .second, .val (.long p5), .second, .val (.int (2 : Int32)), .val (.int (2 : Int32)), .val (.ref b1), .val (.int (1 : Int32))] [(.int (1 : Int32))])) _
        refine XS.ifNo X81.here hx rfl (hb hby at_167) rfl ((if0 _ _).trans (feq (by decide)).1) ?_
        show Steps p.tables e below (T81.setTop (mkF m 170 #[.val (.int p0), .val (.long p1), .second, .val (.long p2), .second, .val (.long p3), .second, .val (.long p4), .second, .val (.long p5), .second, .val (.int (2 : Int32)), .val (.int (2 : Int32)), .val (.ref b1), .val (.int (1 : Int32))] [])) _
        refine XS.aload X81.here hx rfl (hb hby at_170) rfl rfl ?_
        show Steps p.tables e below (T81.setTop (mkF m 172 #[.val (.int p0), .val (.long p1), .second, .val (.long p2), .second, .val (.long p3), .second, .val (.long p4), .second, .val (.long p5), .second, .val (.int (2 : Int32)), .val (.int (2 : Int32)), .val (.ref b1), .val (.int (1 : Int32))] [(.ref b1)])) _
        refine XS.iconst X81.here hx rfl (hb hby at_172) ?_
        show Steps p.tables e below (T81.setTop (mkF m 173 #[.val (.int p0), .val (.long p1), .second, .val (.long p2), .second, .val (.long p3), .second, .val (.long p4), .second, .val (.long p5), .second, .val (.int (2 : Int32)), .val (.int (2 : Int32)), .val (.ref b1), .val (.int (1 : Int32))] [(.int (1 : Int32)), (.ref b1)])) _
        refine st82.trans ?_
        show Steps p.tables e below (T82.setTop (mkF m 176 #[.val (.int p0), .val (.long p1), .second, .val (.long p2), .second, .val (.long p3), .second, .val (.long p4), .second, .val (.long p5), .second, .val (.int (2 : Int32)), .val (.int (2 : Int32)), .val (.ref b1), .val (.int (1 : Int32))] [(.long p5)])) _
        refine XS.lload X82.here hx rfl (hb hby at_176) rfl ?_
        show Steps p.tables e below (T82.setTop (mkF m 178 #[.val (.int p0), .val (.long p1), .second, .val (.long p2), .second, .val (.long p3), .second, .val (.long p4), .second, .val (.long p5), .second, .val (.int (2 : Int32)), .val (.int (2 : Int32)), .val (.ref b1), .val (.int (1 : Int32))] [(.long p5), (.long p5)])) _
        refine XS.lcmp X82.here hx rfl (hb hby at_178) rfl ?_
        show Steps p.tables e below (T82.setTop (mkF m 179 #[.val (.int p0), .val (.long p1), .second, .val (.long p2), .second, .val (.long p3), .second, .val (.long p4), .second, .val (.long p5), .second, .val (.int (2 : Int32)), .val (.int (2 : Int32)), .val (.ref b1), .val (.int (1 : Int32))] [(.int (lcmpW p5 p5))])) _
        refine XS.ifNo X82.here hx rfl (hb hby at_179) rfl ((if0 _ _).trans (teq ((lw_eq _ _).mpr rfl)).2) ?_
        show Steps p.tables e below (T82.setTop (mkF m 182 #[.val (.int p0), .val (.long p1), .second, .val (.long p2), .second, .val (.long p3), .second, .val (.long p4), .second, .val (.long p5), .second, .val (.int (2 : Int32)), .val (.int (2 : Int32)), .val (.ref b1), .val (.int (1 : Int32))] [])) _
        refine XS.iconst X82.here hx rfl (hb hby at_182) ?_
        show Steps p.tables e below (T82.setTop (mkF m 183 #[.val (.int p0), .val (.long p1), .second, .val (.long p2), .second, .val (.long p3), .second, .val (.long p4), .second, .val (.long p5), .second, .val (.int (2 : Int32)), .val (.int (2 : Int32)), .val (.ref b1), .val (.int (1 : Int32))] [(.int (1 : Int32))])) _
        refine XS.goto X82.here hx rfl (pc0 := 183) (pc' := 187) rfl (hb hby at_183) (by decide) (by decide) ?_
        show Steps p.tables e below (T82.setTop (mkF m 187 #[.val (.int p0), .val (.long p1), .second, .val (.long p2), .second, .val (.long p3), .second, .val (.long p4), .second, .val (.long p5), .second, .val (.int (2 : Int32)), .val (.int (2 : Int32)), .val (.ref b1), .val (.int (1 : Int32))] [(.int (1 : Int32))])) _
        refine XS.istore X82.here hx rfl (hb hby at_187) rfl (l' := #[.val (.int p0), .val (.long p1), .second, .val (.long p2), .second, .val (.long p3), .second, .val (.long p4), .second, .val (.long p5), .second, .val (.int (2 : Int32)), .val (.int (2 : Int32)), .val (.ref b1), .val (.int (1 : Int32))]) rfl ?_
        show Steps p.tables e below (T82.setTop (mkF m 189 #[.val (.int p0), .val (.long p1), .second, .val (.long p2), .second, .val (.long p3), .second, .val (.long p4), .second, .val (.long p5), .second, .val (.int (2 : Int32)), .val (.int (2 : Int32)), .val (.ref b1), .val (.int (1 : Int32))] [])) _
        refine XS.iload X82.here hx rfl (hb hby at_189) rfl ?_
        exact Steps.refl _
      obtain ⟨fs, hr, hrun, hended, hW, hsame⟩ := X82.leave (v := some (.int (1 : Int32))) (fun h => by rw [Bd.returns] at h; cases h)
      refine ⟨_, _, s83.trans ?_, hrun, hended, _, _, rfl, ?_, ⟨_, rfl⟩, hW, hsame.mono (by decide) (by decide)⟩
      · show Steps p.tables e below (T82.setTop (mkF m 191 #[.val (.int p0), .val (.long p1), .second, .val (.long p2), .second, .val (.long p3), .second, .val (.long p4), .second, .val (.long p5), .second, .val (.int (2 : Int32)), .val (.int (2 : Int32)), .val (.ref b1), .val (.int (1 : Int32))] [(.int (1 : Int32))])) _
        exact retN X82 hx (t := .boolean) Bd.returns (by simp) (hb hby at_191) hr
      · show Q0 Z p0 p1 p2 p3 p4 p5 h0 n0 _ T82.heap _
        rw [e82]
        exact ⟨rfl, N82⟩
  · have s84 := s7
    rw [hk8] at s84
    obtain ⟨cq85, kq85, q85a, q85b, q85c⟩ := isOf hZ (rfl : T2.heap = T2.heap) f2_0
    obtain ⟨_, _, ⟨T85, L85, k85, n85⟩, -, X85, ⟨Lc85, hQ85, l85, y85, z85⟩, st85⟩ := X2.virtualBack hx (y := (⟨"com/example/strikewire/strikewire/engine/LongList", "add", "(J)V"⟩ : MethodName)) (z := (⟨"com/example/strikewire/strikewire/engine/LongList", "add", "(J)V"⟩ : MethodName)) hown (mvT hZ (hw _ (List.mem_of_getElem? (i := 27) rfl))) (mvT hZ (hw _ (List.mem_of_getElem? (i := 28) rfl))) (notFace_of_selects (args := #[]) (mvT hZ (hw _ (List.mem_of_getElem? (i := 30) rfl)))) (mvT hZ (hw _ (List.mem_of_getElem? (i := 30) rfl))) (mvT hZ (hw _ (List.mem_of_getElem? (i := 29) rfl))) (by decide) (backOf (W := 0) (rma0 l Z a0 hw [] b1 p1 u3 u4 u5 u6 (0 : Int64) (0 : Int64) (0 : Int64) (0 : Int64) (0 : Int64) (0 : Int64) (0 : Int64) (0 : Int64) T2.heap n0 O2 f2_0 f2_1 f2_3 f2_2 f2_4 g_b1 g_u4 ne_b1_u3 ne_b1_u4 f2_7) hZ (hw _ (List.mem_of_getElem? (i := 31) rfl)) (hw _ (List.mem_of_getElem? (i := 3) rfl)) (by decide) (by decide)) q85a q85c (g := (mkF m 33 #[.val (.int p0), .val (.long p1), .second, .val (.long p2), .second, .val (.long p3), .second, .val (.long p4), .second, .val (.long p5), .second, .val (.int (3 : Int32)), .val (.int ((((p0.toUInt32 >>> ((2 : Int32) &&& 31).toUInt32).toInt32) &&& (2147483647 : Int32)) % (3 : Int32))), .val (.ref b1), .unset] [(.long p1), (.ref b1)])) rfl (by rw [hml]; rfl) (Steps.refl _) (argsL := [(.long p1)]) (rest := []) (lenOf pd_rm0_2 rfl) rfl (by show 2 * 0 + _ ≤ _; exact Nat.le_of_eq rfl) (hb hby at_33) (fun _ _ => ⟨rfl, (rfl : T2.heap = T2.heap), (by decide : 3 + 0 ≤ _), (by decide : 11 + 0 ≤ _)⟩)
    dsimp only [Pt.U, Pt.locs, Pt.cells, Pt.slots] at X85 l85 y85 z85 st85 hQ85
    subst l85 y85 z85
    obtain ⟨rfl, Nq85, Kc85, f85_0, f85_1, f85_2, f85_3, f85_4⟩ := hQ85
    have N85 := Fr.app N2 Nq85
    have O85 := O2.keep Kc85 (allS g_b1 (allS g_u4 all0))
    obtain ⟨cq86, kq86, q86a, q86b, q86c⟩ := isOf hZ (rfl : T85.heap = T85.heap) f85_0
    obtain ⟨_, _, ⟨T86, L86, k86, n86⟩, -, X86, ⟨Lc86, hQ86, l86, y86, z86⟩, st86⟩ := X85.virtualBack hx (y := (⟨"com/example/strikewire/strikewire/engine/LongList", "add", "(J)V"⟩ : MethodName)) (z := (⟨"com/example/strikewire/strikewire/engine/LongList", "add", "(J)V"⟩ : MethodName)) hown (mvT hZ (hw _ (List.mem_of_getElem? (i := 27) rfl))) (mvT hZ (hw _ (List.mem_of_getElem? (i := 28) rfl))) (notFace_of_selects (args := #[]) (mvT hZ (hw _ (List.mem_of_getElem? (i := 30) rfl)))) (mvT hZ (hw _ (List.mem_of_getElem? (i := 30) rfl))) (mvT hZ (hw _ (List.mem_of_getElem? (i := 29) rfl))) (by decide) (backOf (W := 0) (rma1 l Z a0 hw [] b1 p2 u3 u4 u5 u6 p1 (0 : Int64) (0 : Int64) (0 : Int64) (0 : Int64) (0 : Int64) (0 : Int64) (0 : Int64) T85.heap n0 O85 f85_0 f85_1 f85_2 f85_3 f85_4 g_b1 g_u4 ne_b1_u3 ne_b1_u4 f2_7) hZ (hw _ (List.mem_of_getElem? (i := 31) rfl)) (hw _ (List.mem_of_getElem? (i := 3) rfl)) (by decide) (by decide)) q86a q86c (g := (mkF m 45 #[.val (.int p0), .val (.long p1), .second, .val (.long p2), .second, .val (.long p3), .second, .val (.long p4), .second, .val (.long p5), .second, .val (.int (3 : Int32)), .val (.int ((((p0.toUInt32 >>> ((2 : Int32) &&& 31).toUInt32).toInt32) &&& (2147483647 : Int32)) % (3 : Int32))), .val (.ref b1), .unset] [(.long p2), (.ref b1)])) rfl (by rw [hml]; rfl) (Steps.refl _) (argsL := [(.long p2)]) (rest := []) (lenOf pd_rm0_2 rfl) rfl (by show 2 * 0 + _ ≤ _; exact Nat.le_of_eq rfl) (hb hby at_45) (fun _ _ => ⟨rfl, (rfl : T85.heap = T85.heap), (by decide : 3 + 0 ≤ _), (by decide : 11 + 0 ≤ _)⟩)
    dsimp only [Pt.U, Pt.locs, Pt.cells, Pt.slots] at X86 l86 y86 z86 st86 hQ86
    subst l86 y86 z86
    obtain ⟨rfl, Nq86, Kc86, f86_0, f86_1, f86_2, f86_3, f86_4⟩ := hQ86
    have N86 := Fr.app N85 Nq86
    have O86 := O85.keep Kc86 (allS g_b1 (allS g_u4 all0))
    obtain ⟨cq87, kq87, q87a, q87b, q87c⟩ := isOf hZ (rfl : T86.heap = T86.heap) f86_0
    obtain ⟨_, _, ⟨T87, L87, k87, n87⟩, -, X87, ⟨Lc87, hQ87, l87, y87, z87⟩, st87⟩ := X86.virtualBack hx (y := (⟨"com/example/strikewire/strikewire/engine/LongList", "add", "(J)V"⟩ : MethodName)) (z := (⟨"com/example/strikewire/strikewire/engine/LongList", "add", "(J)V"⟩ : MethodName)) hown (mvT hZ (hw _ (List.mem_of_getElem? (i := 27) rfl))) (mvT hZ (hw _ (List.mem_of_getElem? (i := 28) rfl))) (notFace_of_selects (args := #[]) (mvT hZ (hw _ (List.mem_of_getElem? (i := 30) rfl)))) (mvT hZ (hw _ (List.mem_of_getElem? (i := 30) rfl))) (mvT hZ (hw _ (List.mem_of_getElem? (i := 29) rfl))) (by decide) (backOf (W := 0) (rma2 l Z a0 hw [] b1 p3 u3 u4 u5 u6 p1 p2 (0 : Int64) (0 : Int64) (0 : Int64) (0 : Int64) (0 : Int64) (0 : Int64) T86.heap n0 O86 f86_0 f86_1 f86_2 f86_3 f86_4 g_b1 g_u4 ne_b1_u3 ne_b1_u4 f2_7) hZ (hw _ (List.mem_of_getElem? (i := 31) rfl)) (hw _ (List.mem_of_getElem? (i := 3) rfl)) (by decide) (by decide)) q87a q87c (g := (mkF m 58 #[.val (.int p0), .val (.long p1), .second, .val (.long p2), .second, .val (.long p3), .second, .val (.long p4), .second, .val (.long p5), .second, .val (.int (3 : Int32)), .val (.int ((((p0.toUInt32 >>> ((2 : Int32) &&& 31).toUInt32).toInt32) &&& (2147483647 : Int32)) % (3 : Int32))), .val (.ref b1), .unset] [(.long p3), (.ref b1)])) rfl (by rw [hml]; rfl) (Steps.refl _) (argsL := [(.long p3)]) (rest := []) (lenOf pd_rm0_2 rfl) rfl (by show 2 * 0 + _ ≤ _; exact Nat.le_of_eq rfl) (hb hby at_58) (fun _ _ => ⟨rfl, (rfl : T86.heap = T86.heap), (by decide : 3 + 0 ≤ _), (by decide : 11 + 0 ≤ _)⟩)
    dsimp only [Pt.U, Pt.locs, Pt.cells, Pt.slots] at X87 l87 y87 z87 st87 hQ87
    subst l87 y87 z87
    obtain ⟨rfl, Nq87, Kc87, f87_0, f87_1, f87_2, f87_3, f87_4⟩ := hQ87
    have N87 := Fr.app N86 Nq87
    have O87 := O86.keep Kc87 (allS g_b1 (allS g_u4 all0))
    obtain ⟨cq88, kq88, q88a, q88b, q88c⟩ := isOf hZ (rfl : T87.heap = T87.heap) f87_0
    obtain ⟨_, _, ⟨T88, L88, k88, n88⟩, -, X88, ⟨Lc88, hQ88, l88, y88, z88⟩, st88⟩ := X87.virtualBack hx (y := (⟨"com/example/strikewire/strikewire/engine/LongList", "clear", "()V"⟩ : MethodName)) (z := (⟨"com/example/strikewire/strikewire/engine/LongList", "clear", "()V"⟩ : MethodName)) hown (mvT hZ (hw _ (List.mem_of_getElem? (i := 15) rfl))) (mvT hZ (hw _ (List.mem_of_getElem? (i := 16) rfl))) (notFace_of_selects (args := #[]) (mvT hZ (hw _ (List.mem_of_getElem? (i := 18) rfl)))) (mvT hZ (hw _ (List.mem_of_getElem? (i := 18) rfl))) (mvT hZ (hw _ (List.mem_of_getElem? (i := 17) rfl))) (by decide) (backOf (W := 0) (rm3 l Z a0 hw [] b1 u3 (3 : Int32) T87.heap n0 O87 f87_0 f87_1 f87_3 g_b1) hZ (hw _ (List.mem_of_getElem? (i := 19) rfl)) (hw _ (List.mem_of_getElem? (i := 3) rfl)) (by decide) (by decide)) q88a q88c (g := (mkF m 63 #[.val (.int p0), .val (.long p1), .second, .val (.long p2), .second, .val (.long p3), .second, .val (.long p4), .second, .val (.long p5), .second, .val (.int (3 : Int32)), .val (.int ((((p0.toUInt32 >>> ((2 : Int32) &&& 31).toUInt32).toInt32) &&& (2147483647 : Int32)) % (3 : Int32))), .val (.ref b1), .unset] [(.ref b1)])) rfl (by rw [hml]; rfl) (Steps.refl _) (argsL := []) (rest := []) (lenOf pd_rm0_0 rfl) rfl (by show 2 * 0 + _ ≤ _; exact Nat.le_of_eq rfl) (hb hby at_63) (fun _ _ => ⟨rfl, (rfl : T87.heap = T87.heap), (by decide : 3 + 2 ≤ _), (by decide : 11 + 9 ≤ _)⟩)
    dsimp only [Pt.U, Pt.locs, Pt.cells, Pt.slots] at X88 l88 y88 z88 st88 hQ88
    subst l88 y88 z88
    obtain ⟨u89, u90, u91, u92, rfl, Nq88, Kc88, f88_0, f88_1, f88_2, f88_3, f88_4, f88_5, f88_6, f88_7⟩ := hQ88
    have N88 := Fr.app N87 Nq88
    have ne_b1_u89 : b1 ≠ u89 := Nat.ne_of_lt (Nat.lt_of_lt_of_le f87_0.lt f88_5)
    have ne_u3_u89 : u3 ≠ u89 := Nat.ne_of_lt (Nat.lt_of_lt_of_le f87_2.lt f88_5)
    have ne_u4_u89 : u4 ≠ u89 := Nat.ne_of_lt (Nat.lt_of_lt_of_le f87_4.lt f88_5)
    have ne_b1_u90 : b1 ≠ u90 := Nat.ne_of_lt (Nat.lt_of_lt_of_le f87_0.lt f88_6)
    have ne_u3_u90 : u3 ≠ u90 := Nat.ne_of_lt (Nat.lt_of_lt_of_le f87_2.lt f88_6)
    have ne_u4_u90 : u4 ≠ u90 := Nat.ne_of_lt (Nat.lt_of_lt_of_le f87_4.lt f88_6)
    have g_u89 : n0 ≤ u89 := Nat.le_trans (Nat.le_of_eq O87.1.symm) (Nat.le_trans O87.2.1 f88_5)
    have g_u90 : n0 ≤ u90 := Nat.le_trans (Nat.le_of_eq O87.1.symm) (Nat.le_trans O87.2.1 f88_6)
    have O88 := O87.keep Kc88 (allS g_b1 all0)
    obtain ⟨cq93, kq93, q93a, q93b, q93c⟩ := isOf hZ (rfl : T88.heap = T88.heap) f88_0
    obtain ⟨_, _, ⟨T93, L93, k93, n93⟩, -, X93, ⟨Lc93, hQ93, l93, y93, z93⟩, st93⟩ := X88.virtualBack hx (y := (⟨"com/example/strikewire/strikewire/engine/LongList", "size", "()I"⟩ : MethodName)) (z := (⟨"com/example/strikewire/strikewire/engine/LongList", "size", "()I"⟩ : MethodName)) hown (mvT hZ (hw _ (List.mem_of_getElem? (i := 22) rfl))) (mvT hZ (hw _ (List.mem_of_getElem? (i := 23) rfl))) (notFace_of_selects (args := #[]) (mvT hZ (hw _ (List.mem_of_getElem? (i := 25) rfl)))) (mvT hZ (hw _ (List.mem_of_getElem? (i := 25) rfl))) (mvT hZ (hw _ (List.mem_of_getElem? (i := 24) rfl))) (by decide) (backOf (W := 0) (rm4 l Z a0 hw [] b1 (0 : Int32) T88.heap n0 O88 f88_2) hZ (hw _ (List.mem_of_getElem? (i := 26) rfl)) (hw _ (List.mem_of_getElem? (i := 3) rfl)) (by decide) (by decide)) q93a q93c (g := (mkF m 68 #[.val (.int p0), .val (.long p1), .second, .val (.long p2), .second, .val (.long p3), .second, .val (.long p4), .second, .val (.long p5), .second, .val (.int (3 : Int32)), .val (.int ((((p0.toUInt32 >>> ((2 : Int32) &&& 31).toUInt32).toInt32) &&& (2147483647 : Int32)) % (3 : Int32))), .val (.ref b1), .unset] [(.ref b1)])) rfl (by rw [hml]; rfl) (Steps.refl _) (argsL := []) (rest := []) (lenOf pd_rm0_1 rfl) rfl (by show 2 * 0 + _ ≤ _; exact Nat.le_of_eq rfl) (hb hby at_68) (fun _ _ => ⟨rfl, (rfl : T88.heap = T88.heap), (by decide : 5 + 0 ≤ _), (by decide : 20 + 0 ≤ _)⟩)
    dsimp only [Pt.U, Pt.locs, Pt.cells, Pt.slots] at X93 l93 y93 z93 st93 hQ93
    subst l93 y93 z93
    obtain ⟨rfl, Nq93, e93⟩ := hQ93
    have N93 := Fr.app N88 Nq93
    have s94 : Steps p.tables e below (s₁.setTop (entryFrame m #[(.int p0), (.long p1), (.long p2), (.long p3), (.long p4), (.long p5)] maxLocals)) (T93.setTop (mkF m 81 #[.val (.int p0), .val (.long p1), .second, .val (.long p2), .second, .val (.long p3), .second, .val (.long p4), .second, .val (.long p5), .second, .val (.int (3 : Int32)), .val (.int ((((p0.toUInt32 >>> ((2 : Int32) &&& 31).toUInt32).toInt32) &&& (2147483647 : Int32)) % (3 : Int32))), .val (.ref b1), .val (.int (1 : Int32))] [])) := by
      refine s84.trans ?_
      show Steps p.tables e below (T2.setTop (mkF m 24 #[.val (.int p0), .val (.long p1), .second, .val (.long p2), .second, .val (.long p3), .second, .val (.long p4), .second, .val (.long p5), .second, .val (.int (3 : Int32)), .val (.int ((((p0.toUInt32 >>> ((2 : Int32) &&& 31).toUInt32).toInt32) &&& (2147483647 : Int32)) % (3 : Int32))), .val (.ref b1), .unset] [])) _
      refine XS.iload X2.here hx rfl (hb hby at_24) rfl ?_
      show Steps p.tables e below (T2.setTop (mkF m 26 #[.val (.int p0), .val (.long p1), .second, .val (.long p2), .second, .val (.long p3), .second, .val (.long p4), .second, .val (.long p5), .second, .val (.int (3 : Int32)), .val (.int ((((p0.toUInt32 >>> ((2 : Int32) &&& 31).toUInt32).toInt32) &&& (2147483647 : Int32)) % (3 : Int32))), .val (.ref b1), .unset] [(.int (3 : Int32))])) _
      refine XS.iconst X2.here hx rfl (hb hby at_26) ?_
      show Steps p.tables e below (T2.setTop (mkF m 27 #[.val (.int p0), .val (.long p1), .second, .val (.long p2), .second, .val (.long p3), .second, .val (.long p4), .second, .val (.long p5), .second, .val (.int (3 : Int32)), .val (.int ((((p0.toUInt32 >>> ((2 : Int32) &&& 31).toUInt32).toInt32) &&& (2147483647 : Int32)) % (3 : Int32))), .val (.ref b1), .unset] [(.int (1 : Int32)), (.int (3 : Int32))])) _
      refine XS.icmpNo X2.here hx rfl (hb hby at_27) rfl (flt (by decide)).1 ?_
      show Steps p.tables e below (T2.setTop (mkF m 30 #[.val (.int p0), .val (.long p1), .second, .val (.long p2), .second, .val (.long p3), .second, .val (.long p4), .second, .val (.long p5), .second, .val (.int (3 : Int32)), .val (.int ((((p0.toUInt32 >>> ((2 : Int32) &&& 31).toUInt32).toInt32) &&& (2147483647 : Int32)) % (3 : Int32))), .val (.ref b1), .unset] [])) _
      refine XS.aload X2.here hx rfl (hb hby at_30) rfl rfl ?_
      show Steps p.tables e below (T2.setTop (mkF m 32 #[.val (.int p0), .val (.long p1), .second, .val (.long p2), .second, .val (.long p3), .second, .val (.long p4), .second, .val (.long p5), .second, .val (.int (3 : Int32)), .val (.int ((((p0.toUInt32 >>> ((2 : Int32) &&& 31).toUInt32).toInt32) &&& (2147483647 : Int32)) % (3 : Int32))), .val (.ref b1), .unset] [(.ref b1)])) _
      refine XS.lloadN X2.here hx rfl (hb hby at_32) rfl ?_
      show Steps p.tables e below (T2.setTop (mkF m 33 #[.val (.int p0), .val (.long p1), .second, .val (.long p2), .second, .val (.long p3), .second, .val (.long p4), .second, .val (.long p5), .second, .val (.int (3 : Int32)), .val (.int ((((p0.toUInt32 >>> ((2 : Int32) &&& 31).toUInt32).toInt32) &&& (2147483647 : Int32)) % (3 : Int32))), .val (.ref b1), .unset] [(.long p1), (.ref b1)])) _
      refine st85.trans ?_
      show Steps p.tables e below (T85.setTop (mkF m 36 #[.val (.int p0), .val (.long p1), .second, .val (.long p2), .second, .val (.long p3), .second, .val (.long p4), .second, .val (.long p5), .second, .val (.int (3 : Int32)), .val (.int ((((p0.toUInt32 >>> ((2 : Int32) &&& 31).toUInt32).toInt32) &&& (2147483647 : Int32)) % (3 : Int32))), .val (.ref b1), .unset] [])) _
      refine XS.iload X85.here hx rfl (hb hby at_36) rfl ?_
      show Steps p.tables e below (T85.setTop (mkF m 38 #[.val (.int p0), .val (.long p1), .second, .val (.long p2), .second, .val (.long p3), .second, .val (.long p4), .second, .val (.long p5), .second, .val (.int (3 : Int32)), .val (.int ((((p0.toUInt32 >>> ((2 : Int32) &&& 31).toUInt32).toInt32) &&& (2147483647 : Int32)) % (3 : Int32))), .val (.ref b1), .unset] [(.int (3 : Int32))])) _
      refine XS.iconst X85.here hx rfl (hb hby at_38) ?_
      show Steps p.tables e below (T85.setTop (mkF m 39 #[.val (.int p0), .val (.long p1), .second, .val (.long p2), .second, .val (.long p3), .second, .val (.long p4), .second, .val (.long p5), .second, .val (.int (3 : Int32)), .val (.int ((((p0.toUInt32 >>> ((2 : Int32) &&& 31).toUInt32).toInt32) &&& (2147483647 : Int32)) % (3 : Int32))), .val (.ref b1), .unset] [(.int (2 : Int32)), (.int (3 : Int32))])) _
      refine XS.icmpNo X85.here hx rfl (hb hby at_39) rfl (flt (by decide)).1 ?_
      show Steps p.tables e below (T85.setTop (mkF m 42 #[.val (.int p0), .val (.long p1), .second, .val (.long p2), .second, .val (.long p3), .second, .val (.long p4), .second, .val (.long p5), .second, .val (.int (3 : Int32)), .val (.int ((((p0.toUInt32 >>> ((2 : Int32) &&& 31).toUInt32).toInt32) &&& (2147483647 : Int32)) % (3 : Int32))), .val (.ref b1), .unset] [])) _
      refine XS.aload X85.here hx rfl (hb hby at_42) rfl rfl ?_
      show Steps p.tables e below (T85.setTop (mkF m 44 #[.val (.int p0), .val (.long p1), .second, .val (.long p2), .second, .val (.long p3), .second, .val (.long p4), .second, .val (.long p5), .second, .val (.int (3 : Int32)), .val (.int ((((p0.toUInt32 >>> ((2 : Int32) &&& 31).toUInt32).toInt32) &&& (2147483647 : Int32)) % (3 : Int32))), .val (.ref b1), .unset] [(.ref b1)])) _
      refine XS.lloadN X85.here hx rfl (hb hby at_44) rfl ?_
      show Steps p.tables e below (T85.setTop (mkF m 45 #[.val (.int p0), .val (.long p1), .second, .val (.long p2), .second, .val (.long p3), .second, .val (.long p4), .second, .val (.long p5), .second, .val (.int (3 : Int32)), .val (.int ((((p0.toUInt32 >>> ((2 : Int32) &&& 31).toUInt32).toInt32) &&& (2147483647 : Int32)) % (3 : Int32))), .val (.ref b1), .unset] [(.long p2), (.ref b1)])) _
      refine st86.trans ?_
      show Steps p.tables e below (T86.setTop (mkF m 48 #[.val (.int p0), .val (.long p1), .second, .val (.long p2), .second, .val (.long p3), .second, .val (.long p4), .second, .val (.long p5), .second, .val (.int (3 : Int32)), .val (.int ((((p0.toUInt32 >>> ((2 : Int32) &&& 31).toUInt32).toInt32) &&& (2147483647 : Int32)) % (3 : Int32))), .val (.ref b1), .unset] [])) _
      refine XS.iload X86.here hx rfl (hb hby at_48) rfl ?_
      show Steps p.tables e below (T86.setTop (mkF m 50 #[.val (.int p0), .val (.long p1), .second, .val (.long p2), .second, .val (.long p3), .second, .val (.long p4), .second, .val (.long p5), .second, .val (.int (3 : Int32)), .val (.int ((((p0.toUInt32 >>> ((2 : Int32) &&& 31).toUInt32).toInt32) &&& (2147483647 : Int32)) % (3 : Int32))), .val (.ref b1), .unset] [(.int (3 : Int32))])) _
      refine XS.iconst X86.here hx rfl (hb hby at_50) ?_
      show Steps p.tables e below (T86.setTop (mkF m 51 #[.val (.int p0), .val (.long p1), .second, .val (.long p2), .second, .val (.long p3), .second, .val (.long p4), .second, .val (.long p5), .second, .val (.int (3 : Int32)), .val (.int ((((p0.toUInt32 >>> ((2 : Int32) &&& 31).toUInt32).toInt32) &&& (2147483647 : Int32)) % (3 : Int32))), .val (.ref b1), .unset] [(.int (3 : Int32)), (.int (3 : Int32))])) _
      refine XS.icmpNo X86.here hx rfl (hb hby at_51) rfl (flt (by decide)).1 ?_
      show Steps p.tables e below (T86.setTop (mkF m 54 #[.val (.int p0), .val (.long p1), .second, .val (.long p2), .second, .val (.long p3), .second, .val (.long p4), .second, .val (.long p5), .second, .val (.int (3 : Int32)), .val (.int ((((p0.toUInt32 >>> ((2 : Int32) &&& 31).toUInt32).toInt32) &&& (2147483647 : Int32)) % (3 : Int32))), .val (.ref b1), .unset] [])) _
      refine XS.aload X86.here hx rfl (hb hby at_54) rfl rfl ?_
      show Steps p.tables e below (T86.setTop (mkF m 56 #[.val (.int p0), .val (.long p1), .second, .val (.long p2), .second, .val (.long p3), .second, .val (.long p4), .second, .val (.long p5), .second, .val (.int (3 : Int32)), .val (.int ((((p0.toUInt32 >>> ((2 : Int32) &&& 31).toUInt32).toInt32) &&& (2147483647 : Int32)) % (3 : Int32))), .val (.ref b1), .unset] [(.ref b1)])) _
      refine XS.lload X86.here hx rfl (hb hby at_56) rfl ?_
      show Steps p.tables e below (T86.setTop (mkF m 58 #[.val (.int p0), .val (.long p1), .second, .val (.long p2), .second, .val (.long p3), .second, .val (.long p4), .second, .val (.long p5), .second, .val (.int (3 : Int32)), .val (.int ((((p0.toUInt32 >>> ((2 : Int32) &&& 31).toUInt32).toInt32) &&& (2147483647 : Int32)) % (3 : Int32))), .val (.ref b1), .unset] [(.long p3), (.ref b1)])) _
      refine st87.trans ?_
      show Steps p.tables e below (T87.setTop (mkF m 61 #[.val (.int p0), .val (.long p1), .second, .val (.long p2), .second, .val (.long p3), .second, .val (.long p4), .second, .val (.long p5), .second, .val (.int (3 : Int32)), .val (.int ((((p0.toUInt32 >>> ((2 : Int32) &&& 31).toUInt32).toInt32) &&& (2147483647 : Int32)) % (3 : Int32))), .val (.ref b1), .unset] [])) _
      refine XS.aload X87.here hx rfl (hb hby at_61) rfl rfl ?_
      show Steps p.tables e below (T87.setTop (mkF m 63 #[.val (.int p0), .val (.long p1), .second, .val (.long p2), .second, .val (.long p3), .second, .val (.long p4), .second, .val (.long p5), .second, .val (.int (3 : Int32)), .val (.int ((((p0.toUInt32 >>> ((2 : Int32) &&& 31).toUInt32).toInt32) &&& (2147483647 : Int32)) % (3 : Int32))), .val (.ref b1), .unset] [(.ref b1)])) _
      refine st88.trans ?_
      show Steps p.tables e below (T88.setTop (mkF m 66 #[.val (.int p0), .val (.long p1), .second, .val (.long p2), .second, .val (.long p3), .second, .val (.long p4), .second, .val (.long p5), .second, .val (.int (3 : Int32)), .val (.int ((((p0.toUInt32 >>> ((2 : Int32) &&& 31).toUInt32).toInt32) &&& (2147483647 : Int32)) % (3 : Int32))), .val (.ref b1), .unset] [])) _
      refine XS.aload X88.here hx rfl (hb hby at_66) rfl rfl ?_
      show Steps p.tables e below (T88.setTop (mkF m 68 #[.val (.int p0), .val (.long p1), .second, .val (.long p2), .second, .val (.long p3), .second, .val (.long p4), .second, .val (.long p5), .second, .val (.int (3 : Int32)), .val (.int ((((p0.toUInt32 >>> ((2 : Int32) &&& 31).toUInt32).toInt32) &&& (2147483647 : Int32)) % (3 : Int32))), .val (.ref b1), .unset] [(.ref b1)])) _
      refine st93.trans ?_
      show Steps p.tables e below (T93.setTop (mkF m 71 #[.val (.int p0), .val (.long p1), .second, .val (.long p2), .second, .val (.long p3), .second, .val (.long p4), .second, .val (.long p5), .second, .val (.int (3 : Int32)), .val (.int ((((p0.toUInt32 >>> ((2 : Int32) &&& 31).toUInt32).toInt32) &&& (2147483647 : Int32)) % (3 : Int32))), .val (.ref b1), .unset] [(.int (0 : Int32))])) _
      refine XS.ifNo X93.here hx rfl (hb hby at_71) rfl ((if0 _ _).trans (teq (by decide)).2) ?_
      show Steps p.tables e below (T93.setTop (mkF m 74 #[.val (.int p0), .val (.long p1), .second, .val (.long p2), .second, .val (.long p3), .second, .val (.long p4), .second, .val (.long p5), .second, .val (.int (3 : Int32)), .val (.int ((((p0.toUInt32 >>> ((2 : Int32) &&& 31).toUInt32).toInt32) &&& (2147483647 : Int32)) % (3 : Int32))), .val (.ref b1), .unset] [])) _
      refine XS.iconst X93.here hx rfl (hb hby at_74) ?_
      show Steps p.tables e below (T93.setTop (mkF m 75 #[.val (.int p0), .val (.long p1), .second, .val (.long p2), .second, .val (.long p3), .second, .val (.long p4), .second, .val (.long p5), .second, .val (.int (3 : Int32)), .val (.int ((((p0.toUInt32 >>> ((2 : Int32) &&& 31).toUInt32).toInt32) &&& (2147483647 : Int32)) % (3 : Int32))), .val (.ref b1), .unset] [(.int (1 : Int32))])) _
      refine XS.goto X93.here hx rfl (pc0 := 75) (pc' := 79) rfl (hb hby at_75) (by decide) (by decide) ?_
      show Steps p.tables e below (T93.setTop (mkF m 79 #[.val (.int p0), .val (.long p1), .second, .val (.long p2), .second, .val (.long p3), .second, .val (.long p4), .second, .val (.long p5), .second, .val (.int (3 : Int32)), .val (.int ((((p0.toUInt32 >>> ((2 : Int32) &&& 31).toUInt32).toInt32) &&& (2147483647 : Int32)) % (3 : Int32))), .val (.ref b1), .unset] [(.int (1 : Int32))])) _
      refine XS.istore X93.here hx rfl (hb hby at_79) rfl (l' := #[.val (.int p0), .val (.long p1), .second, .val (.long p2), .second, .val (.long p3), .second, .val (.long p4), .second, .val (.long p5), .second, .val (.int (3 : Int32)), .val (.int ((((p0.toUInt32 >>> ((2 : Int32) &&& 31).toUInt32).toInt32) &&& (2147483647 : Int32)) % (3 : Int32))), .val (.ref b1), .val (.int (1 : Int32))]) rfl ?_
      exact Steps.refl _
    rcases own_mod3 ((p0.toUInt32 >>> ((2 : Int32) &&& 31).toUInt32).toInt32) with hk95 | hk95 | hk95
    · have s96 := s94
      rw [hk95] at s96
      obtain ⟨cq97, kq97, q97a, q97b, q97c⟩ := isOf hZ e93 f88_0
      obtain ⟨_, _, ⟨T97, L97, k97, n97⟩, -, X97, ⟨Lc97, hQ97, l97, y97, z97⟩, st97⟩ := X93.virtualBack hx (y := (⟨"com/example/strikewire/strikewire/engine/LongList", "size", "()I"⟩ : MethodName)) (z := (⟨"com/example/strikewire/strikewire/engine/LongList", "size", "()I"⟩ : MethodName)) hown (mvT hZ (hw _ (List.mem_of_getElem? (i := 22) rfl))) (mvT hZ (hw _ (List.mem_of_getElem? (i := 23) rfl))) (notFace_of_selects (args := #[]) (mvT hZ (hw _ (List.mem_of_getElem? (i := 25) rfl)))) (mvT hZ (hw _ (List.mem_of_getElem? (i := 25) rfl))) (mvT hZ (hw _ (List.mem_of_getElem? (i := 24) rfl))) (by decide) (backOf (W := 0) (rm4 l Z a0 hw [] b1 (0 : Int32) T88.heap n0 O88 f88_2) hZ (hw _ (List.mem_of_getElem? (i := 26) rfl)) (hw _ (List.mem_of_getElem? (i := 3) rfl)) (by decide) (by decide)) q97a q97c (g := (mkF m 114 #[.val (.int p0), .val (.long p1), .second, .val (.long p2), .second, .val (.long p3), .second, .val (.long p4), .second, .val (.long p5), .second, .val (.int (3 : Int32)), .val (.int (0 : Int32)), .val (.ref b1), .val (.int (1 : Int32))] [(.ref b1)])) rfl (by rw [hml]; rfl) (Steps.refl _) (argsL := []) (rest := []) (lenOf pd_rm0_1 rfl) rfl (by show 2 * 0 + _ ≤ _; exact Nat.le_of_eq rfl) (hb hby at_114) (fun _ _ => ⟨rfl, e93, (by decide : 5 + 0 ≤ _), (by decide : 20 + 0 ≤ _)⟩)
      dsimp only [Pt.U, Pt.locs, Pt.cells, Pt.slots] at X97 l97 y97 z97 st97 hQ97
      subst l97 y97 z97
      obtain ⟨rfl, Nq97, e97⟩ := hQ97
      have N97 := Fr.app N93 Nq97
      have s98 : Steps p.tables e below (s₁.setTop (entryFrame m #[(.int p0), (.long p1), (.long p2), (.long p3), (.long p4), (.long p5)] maxLocals)) (T97.setTop (mkF m 191 #[.val (.int p0), .val (.long p1), .second, .val (.long p2), .second, .val (.long p3), .second, .val (.long p4), .second, .val (.long p5), .second, .val (.int (3 : Int32)), .val (.int (0 : Int32)), .val (.ref b1), .val (.int (1 : Int32))] [(.int (1 : Int32))])) := by
        refine s96.trans ?_
        show Steps p.tables e below (T93.setTop (mkF m 81 #[.val (.int p0), .val (.long p1), .second, .val (.long p2), .second, .val (.long p3), .second, .val (.long p4), .second, .val (.long p5), .second, .val (.int (3 : Int32)), .val (.int (0 : Int32)), .val (.ref b1), .val (.int (1 : Int32))] [])) _
        refine XS.iload X93.here hx rfl (hb hby at_81) rfl ?_
        show Steps p.tables e below (T93.setTop (mkF m 83 #[.val (.int p0), .val (.long p1), .second, .val (.long p2), .second, .val (.long p3), .second, .val (.long p4), .second, .val (.long p5), .second, .val (.int (3 : Int32)), .val (.int (0 : Int32)), .val (.ref b1), .val (.int (1 : Int32))] [(.int (0 : Int32))])) _
        refine XS.iconst X93.here hx rfl (hb hby at_83) ?_
        show Steps p.tables e below (T93.setTop (mkF m 84 #[.val (.int p0), .val (.long p1), .second, .val (.long p2), .second, .val (.long p3), .second, .val (.long p4), .second, .val (.long p5), .second, .val (.int (3 : Int32)), .val (.int (0 : Int32)), .val (.ref b1), .val (.int (1 : Int32))] [(.int (1 : Int32)), (.int (0 : Int32))])) _
        refine XS.icmpYes X93.here hx rfl (pc0 := 84) (pc' := 94) rfl (hb hby at_84) rfl (tlt (by decide)).1 (by decide) (by decide) ?_
        show Steps p.tables e below (T93.setTop (mkF m 94 #[.val (.int p0), .val (.long p1), .second, .val (.long p2), .second, .val (.long p3), .second, .val (.long p4), .second, .val (.long p5), .second, .val (.int (3 : Int32)), .val (.int (0 : Int32)), .val (.ref b1), .val (.int (1 : Int32))] [])) _
        refine XS.iload X93.here hx rfl (hb hby at_94) rfl ?_
        show Steps p.tables e below (T93.setTop (mkF m 96 #[.val (.int p0), .val (.long p1), .second, .val (.long p2), .second, .val (.long p3), .second, .val (.long p4), .second, .val (.long p5), .second, .val (.int (3 : Int32)), .val (.int (0 : Int32)), .val (.ref b1), .val (.int (1 : Int32))] [(.int (0 : Int32))])) _
        refine XS.iconst X93.here hx rfl (hb hby at_96) ?_
        show Steps p.tables e below (T93.setTop (mkF m 97 #[.val (.int p0), .val (.long p1), .second, .val (.long p2), .second, .val (.long p3), .second, .val (.long p4), .second, .val (.long p5), .second, .val (.int (3 : Int32)), .val (.int (0 : Int32)), .val (.ref b1), .val (.int (1 : Int32))] [(.int (2 : Int32)), (.int (0 : Int32))])) _
        refine XS.icmpYes X93.here hx rfl (pc0 := 97) (pc' := 107) rfl (hb hby at_97) rfl (tlt (by decide)).1 (by decide) (by decide) ?_
        show Steps p.tables e below (T93.setTop (mkF m 107 #[.val (.int p0), .val (.long p1), .second, .val (.long p2), .second, .val (.long p3), .second, .val (.long p4), .second, .val (.long p5), .second, .val (.int (3 : Int32)), .val (.int (0 : Int32)), .val (.ref b1), .val (.int (1 : Int32))] [])) _
        refine XS.iload X93.here hx rfl (hb hby at_107) rfl ?_
        show Steps p.tables e below (T93.setTop (mkF m 109 #[.val (.int p0), .val (.long p1), .second, .val (.long p2), .second, .val (.long p3), .second, .val (.long p4), .second, .val (.long p5), .second, .val (.int (3 : Int32)), .val (.int (0 : Int32)), .val (.ref b1), .val (.int (1 : Int32))] [(.int (1 : Int32))])) _
        refine XS.ifNo X93.here hx rfl (hb hby at_109) rfl ((if0 _ _).trans (feq (by decide)).1) ?_
        show Steps p.tables e below (T93.setTop (mkF m 112 #[.val (.int p0), .val (.long p1), .second, .val (.long p2), .second, .val (.long p3), .second, .val (.long p4), .second, .val (.long p5), .second, .val (.int (3 : Int32)), .val (.int (0 : Int32)), .val (.ref b1), .val (.int (1 : Int32))] [])) _
        refine XS.aload X93.here hx rfl (hb hby at_112) rfl rfl ?_
        show Steps p.tables e below (T93.setTop (mkF m 114 #[.val (.int p0), .val (.long p1), .second, .val (.long p2), .second, .val (.long p3), .second, .val (.long p4), .second, .val (.long p5), .second, .val (.int (3 : Int32)), .val (.int (0 : Int32)), .val (.ref b1), .val (.int (1 : Int32))] [(.ref b1)])) _
        refine st97.trans ?_
        show Steps p.tables e below (T97.setTop (mkF m 117 #[.val (.int p0), .val (.long p1), .second, .val (.long p2), .second, .val (.long p3), .second, .val (.long p4), .second, .val (.long p5), .second, .val (.int (3 : Int32)), .val (.int (0 : Int32)), .val (.ref b1), .val (.int (1 : Int32))] [(.int (0 : Int32))])) _
        refine XS.iload X97.here hx rfl (hb hby at_117) rfl ?_
        show Steps p.tables e below (T97.setTop (mkF m 119 #[.val (.int p0), .val (.long p1), .second, .val (.long p2), .second, .val (.long p3), .second, .val (.long p4), .second, .val (.long p5), .second, .val (.int (3 : Int32)), .val (.int (0 : Int32)), .val (.ref b1), .val (.int (1 : Int32))] [(.int (0 : Int32)), (.int (0 : Int32))])) _
        refine XS.icmpNo X97.here hx rfl (hb hby at_119) rfl (teq (by decide)).2 ?_
        show Steps p.tables e below (T97.setTop (mkF m 122 #[.val (.int p0), .val (.long p1), .second, .val (.long p2), .second, .val (.long p3), .second, .val (.long p4), .second, .val (.long p5), .second, .val (.int (3 : Int32)), .val (.int (0 : Int32)), .val (.ref b1), .val (.int (1 : Int32))] [])) _
        refine XS.iconst X97.here hx rfl (hb hby at_122) ?_
        show Steps p.tables e below (T97.setTop (mkF m 123 #[.val (.int p0), .val (.long p1), .second, .val (.long p2), .second, .val (.long p3), .second, .val (.long p4), .second, .val (.long p5), .second, .val (.int (3 : Int32)), .val (.int (0 : Int32)), .val (.ref b1), .val (.int (1 : Int32))] [(.int (1 : Int32))])) _
        refine XS.goto X97.here hx rfl (pc0 := 123) (pc' := 127) rfl (hb hby at_123) (by decide) (by decide) ?_
        show Steps p.tables e below (T97.setTop (mkF m 127 #[.val (.int p0), .val (.long p1), .second, .val (.long p2), .second, .val (.long p3), .second, .val (.long p4), .second, .val (.long p5), .second, .val (.int (3 : Int32)), .val (.int (0 : Int32)), .val (.ref b1), .val (.int (1 : Int32))] [(.int (1 : Int32))])) _
        refine XS.istore X97.here hx rfl (hb hby at_127) rfl (l' := #[.val (.int p0), .val (.long p1), .second, .val (.long p2), .second, .val (.long p3), .second, .val (.long p4), .second, .val (.long p5), .second, .val (.int (3 : Int32)), .val (.int (0 : Int32)), .val (.ref b1), .val (.int (1 : Int32))]) rfl ?_
        show Steps p.tables e below (T97.setTop (mkF m 129 #[.val (.int p0), .val (.long p1), .second, .val (.long p2), .second, .val (.long p3), .second, .val (.long p4), .second, .val (.long p5), .second, .val (.int (3 : Int32)), .val (.int (0 : Int32)), .val (.ref b1), .val (.int (1 : Int32))] [])) _
        refine XS.iload X97.here hx rfl (hb hby at_129) rfl ?_
        show Steps p.tables e below (T97.setTop (mkF m 131 #[.val (.int p0), .val (.long p1), .second, .val (.long p2), .second, .val (.long p3), .second, .val (.long p4), .second, .val (.long p5), .second, .val (.int (3 : Int32)), .val (.int (0 : Int32)), .val (.ref b1), .val (.int (1 : Int32))] [(.int (0 : Int32))])) _
        refine XS.iconst X97.here hx rfl (hb hby at_131) ?_
        show Steps p.tables e below (T97.setTop (mkF m 132 #[.val (.int p0), .val (.long p1), .second, .val (.long p2), .second, .val (.long p3), .second, .val (.long p4), .second, .val (.long p5), .second, .val (.int (3 : Int32)), .val (.int (0 : Int32)), .val (.ref b1), .val (.int (1 : Int32))] [(.int (1 : Int32)), (.int (0 : Int32))])) _
        refine XS.icmpYes X97.here hx rfl (pc0 := 132) (pc' := 159) rfl (hb hby at_132) rfl (tlt (by decide)).1 (by decide) (by decide) ?_
        show Steps p.tables e below (T97.setTop (mkF m 159 #[.val (.int p0), .val (.long p1), .second, .val (.long p2), .second, .val (.long p3), .second, .val (.long p4), .second, .val (.long p5), .second, .val (.int (3 : Int32)), .val (.int (0 : Int32)), .val (.ref b1), .val (.int (1 : Int32))] [])) _
        refine XS.iload X97.here hx rfl (hb hby at_159) rfl ?_
        show Steps p.tables e below (T97.setTop (mkF m 161 #[.val (.int p0), .val (.long p1), .second, .val (.long p2), .second, .val (.long p3), .second, .val (.long p4), .second, .val (.long p5), .second, .val (.int (3 : Int32)), .val (.int (0 : Int32)), .val (.ref b1), .val (.int (1 : Int32))] [(.int (0 : Int32))])) _
        refine XS.iconst X97.here hx rfl (hb hby at_161) ?_
        show Steps p.tables e below (T97.setTop (mkF m 162 #[.val (.int p0), .val (.long p1), .second, .val (.long p2), .second, .val (.long p3), .second, .val (.long p4), .second, .val (.long p5), .second, .val (.int (3 : Int32)), .val (.int (0 : Int32)), .val (.ref b1), .val (.int (1 : Int32))] [(.int (2 : Int32)), (.int (0 : Int32))])) _
        refine XS.icmpYes X97.here hx rfl (pc0 := 162) (pc' := 189) rfl (hb hby at_162) rfl (tlt (by decide)).1 (by decide) (by decide) ?_
        show Steps p.tables e below (T97.setTop (mkF m 189 #[.val (.int p0), .val (.long p1), .second, .val (.long p2), .second, .val (.long p3), .second, .val (.long p4), .second, .val (.long p5), .second, .val (.int (3 : Int32)), .val (.int (0 : Int32)), .val (.ref b1), .val (.int (1 : Int32))] [])) _
        refine XS.iload X97.here hx rfl (hb hby at_189) rfl ?_
        exact Steps.refl _
      obtain ⟨fs, hr, hrun, hended, hW, hsame⟩ := X97.leave (v := some (.int (1 : Int32))) (fun h => by rw [Bd.returns] at h; cases h)
      refine ⟨_, _, s98.trans ?_, hrun, hended, _, _, rfl, ?_, ⟨_, rfl⟩, hW, hsame.mono (by decide) (by decide)⟩
      · show Steps p.tables e below (T97.setTop (mkF m 191 #[.val (.int p0), .val (.long p1), .second, .val (.long p2), .second, .val (.long p3), .second, .val (.long p4), .second, .val (.long p5), .second, .val (.int (3 : Int32)), .val (.int (0 : Int32)), .val (.ref b1), .val (.int (1 : Int32))] [(.int (1 : Int32))])) _
        exact retN X97 hx (t := .boolean) Bd.returns (by simp) (hb hby at_191) hr
      · show Q0 Z p0 p1 p2 p3 p4 p5 h0 n0 _ T97.heap _
        rw [e97]
        exact ⟨rfl, N97⟩
    · have s99 := s94
      rw [hk95] at s99
      obtain ⟨cq100, kq100, q100a, q100b, q100c⟩ := isOf hZ e93 f88_0
      obtain ⟨_, _, ⟨T100, L100, k100, n100⟩, -, X100, ⟨Lc100, hQ100, l100, y100, z100⟩, st100⟩ := X93.virtualBack hx (y := (⟨"com/example/strikewire/strikewire/engine/LongList", "add", "(J)V"⟩ : MethodName)) (z := (⟨"com/example/strikewire/strikewire/engine/LongList", "add", "(J)V"⟩ : MethodName)) hown (mvT hZ (hw _ (List.mem_of_getElem? (i := 27) rfl))) (mvT hZ (hw _ (List.mem_of_getElem? (i := 28) rfl))) (notFace_of_selects (args := #[]) (mvT hZ (hw _ (List.mem_of_getElem? (i := 30) rfl)))) (mvT hZ (hw _ (List.mem_of_getElem? (i := 30) rfl))) (mvT hZ (hw _ (List.mem_of_getElem? (i := 29) rfl))) (by decide) (backOf (W := 0) (rma0 l Z a0 hw [] b1 p4 u89 u90 u91 u92 (0 : Int64) (0 : Int64) (0 : Int64) (0 : Int64) (0 : Int64) (0 : Int64) (0 : Int64) (0 : Int64) T88.heap n0 O88 f88_0 f88_1 f88_3 f88_2 f88_4 g_b1 g_u90 ne_b1_u89 ne_b1_u90 f88_7) hZ (hw _ (List.mem_of_getElem? (i := 31) rfl)) (hw _ (List.mem_of_getElem? (i := 3) rfl)) (by decide) (by decide)) q100a q100c (g := (mkF m 91 #[.val (.int p0), .val (.long p1), .second, .val (.long p2), .second, .val (.long p3), .second, .val (.long p4), .second, .val (.long p5), .second, .val (.int (3 : Int32)), .val (.int (1 : Int32)), .val (.ref b1), .val (.int (1 : Int32))] [(.long p4), (.ref b1)])) rfl (by rw [hml]; rfl) (Steps.refl _) (argsL := [(.long p4)]) (rest := []) (lenOf pd_rm0_2 rfl) rfl (by show 2 * 0 + _ ≤ _; exact Nat.le_of_eq rfl) (hb hby at_91) (fun _ _ => ⟨rfl, e93, (by decide : 5 + 0 ≤ _), (by decide : 20 + 0 ≤ _)⟩)
      dsimp only [Pt.U, Pt.locs, Pt.cells, Pt.slots] at X100 l100 y100 z100 st100 hQ100
      subst l100 y100 z100
      obtain ⟨rfl, Nq100, Kc100, f100_0, f100_1, f100_2, f100_3, f100_4⟩ := hQ100
      have N100 := Fr.app N93 Nq100
      have O100 := O88.keep Kc100 (allS g_b1 (allS g_u90 all0))
      obtain ⟨cq101, kq101, q101a, q101b, q101c⟩ := isOf hZ (rfl : T100.heap = T100.heap) f100_0
      obtain ⟨_, _, ⟨T101, L101, k101, n101⟩, -, X101, ⟨Lc101, hQ101, l101, y101, z101⟩, st101⟩ := X100.virtualBack hx (y := (⟨"com/example/strikewire/strikewire/engine/LongList", "size", "()I"⟩ : MethodName)) (z := (⟨"com/example/strikewire/strikewire/engine/LongList", "size", "()I"⟩ : MethodName)) hown (mvT hZ (hw _ (List.mem_of_getElem? (i := 22) rfl))) (mvT hZ (hw _ (List.mem_of_getElem? (i := 23) rfl))) (notFace_of_selects (args := #[]) (mvT hZ (hw _ (List.mem_of_getElem? (i := 25) rfl)))) (mvT hZ (hw _ (List.mem_of_getElem? (i := 25) rfl))) (mvT hZ (hw _ (List.mem_of_getElem? (i := 24) rfl))) (by decide) (backOf (W := 0) (rm4 l Z a0 hw [] b1 (1 : Int32) T100.heap n0 O100 f100_3) hZ (hw _ (List.mem_of_getElem? (i := 26) rfl)) (hw _ (List.mem_of_getElem? (i := 3) rfl)) (by decide) (by decide)) q101a q101c (g := (mkF m 114 #[.val (.int p0), .val (.long p1), .second, .val (.long p2), .second, .val (.long p3), .second, .val (.long p4), .second, .val (.long p5), .second, .val (.int (3 : Int32)), .val (.int (1 : Int32)), .val (.ref b1), .val (.int (1 : Int32))] [(.ref b1)])) rfl (by rw [hml]; rfl) (Steps.refl _) (argsL := []) (rest := []) (lenOf pd_rm0_1 rfl) rfl (by show 2 * 0 + _ ≤ _; exact Nat.le_of_eq rfl) (hb hby at_114) (fun _ _ => ⟨rfl, (rfl : T100.heap = T100.heap), (by decide : 5 + 0 ≤ _), (by decide : 20 + 0 ≤ _)⟩)
      dsimp only [Pt.U, Pt.locs, Pt.cells, Pt.slots] at X101 l101 y101 z101 st101 hQ101
      subst l101 y101 z101
      obtain ⟨rfl, Nq101, e101⟩ := hQ101
      have N101 := Fr.app N100 Nq101
      obtain ⟨cq102, kq102, q102a, q102b, q102c⟩ := isOf hZ e101 f100_0
      obtain ⟨_, _, ⟨T102, L102, k102, n102⟩, -, X102, ⟨Lc102, hQ102, l102, y102, z102⟩, st102⟩ := X101.virtualBack hx (y := (⟨"com/example/strikewire/strikewire/engine/LongList", "get", "(I)J"⟩ : MethodName)) (z := (⟨"com/example/strikewire/strikewire/engine/LongList", "get", "(I)J"⟩ : MethodName)) hown (mvT hZ (hw _ (List.mem_of_getElem? (i := 34) rfl))) (mvT hZ (hw _ (List.mem_of_getElem? (i := 35) rfl))) (notFace_of_selects (args := #[]) (mvT hZ (hw _ (List.mem_of_getElem? (i := 37) rfl)))) (mvT hZ (hw _ (List.mem_of_getElem? (i := 37) rfl))) (mvT hZ (hw _ (List.mem_of_getElem? (i := 36) rfl))) (by decide) (backOf (W := 0) (rmg0_1 l Z a0 hw [] b1 u89 u90 u91 u92 p4 (0 : Int64) (0 : Int64) (0 : Int64) (0 : Int64) (0 : Int64) (0 : Int64) (0 : Int64) T100.heap n0 O100 f100_0 f100_1 f100_2 f100_3 f100_4) hZ (hw _ (List.mem_of_getElem? (i := 38) rfl)) (hw _ (List.mem_of_getElem? (i := 3) rfl)) (by decide) (by decide)) q102a q102c (g := (mkF m 143 #[.val (.int p0), .val (.long p1), .second, .val (.long p2), .second, .val (.long p3), .second, .val (.long p4), .second, .val (.long p5), .second, .val (.int (3 : Int32)), .val (.int (1 : Int32)), .val (.ref b1), .val (.int (1 : Int32))] [(.int (0 : Int32)), (.ref b1)])) rfl (by rw [hml]; rfl) (Steps.refl _) (argsL := [(.int (0 : Int32))]) (rest := []) (lenOf pd_rm0_3 rfl) rfl (by show 2 * 0 + _ ≤ _; exact Nat.le_of_eq rfl) (hb hby at_143) (fun _ _ => ⟨rfl, e101, (by decide : 5 + 0 ≤ _), (by decide : 20 + 0 ≤ _)⟩)
      dsimp only [Pt.U, Pt.locs, Pt.cells, Pt.slots] at X102 l102 y102 z102 st102 hQ102
      subst l102 y102 z102
      obtain ⟨rfl, Nq102, e102⟩ := hQ102
      have N102 := Fr.app N101 Nq102
      have s103 : Steps p.tables e below (s₁.setTop (entryFrame m #[(.int p0), (.long p1), (.long p2), (.long p3), (.long p4), (.long p5)] maxLocals)) (T102.setTop (mkF m 191 #[.val (.int p0), .val (.long p1), .second, .val (.long p2), .second, .val (.long p3), .second, .val (.long p4), .second, .val (.long p5), .second, .val (.int (3 : Int32)), .val (.int (1 : Int32)), .val (.ref b1), .val (.int (1 : Int32))] [(.int (1 : Int32))])) := by
        refine s99.trans ?_
        show Steps p.tables e below (T93.setTop (mkF m 81 #[.val (.int p0), .val (.long p1), .second, .val (.long p2), .second, .val (.long p3), .second, .val (.long p4), .second, .val (.long p5), .second, .val (.int (3 : Int32)), .val (.int (1 : Int32)), .val (.ref b1), .val (.int (1 : Int32))] [])) _
        refine XS.iload X93.here hx rfl (hb hby at_81) rfl ?_
        show Steps p.tables e below (T93.setTop (mkF m 83 #[.val (.int p0), .val (.long p1), .second, .val (.long p2), .second, .val (.long p3), .second, .val (.long p4), .second, .val (.long p5), .second, .val (.int (3 : Int32)), .val (.int (1 : Int32)), .val (.ref b1), .val (.int (1 : Int32))] [(.int (1 : Int32))])) _
        refine XS.iconst X93.here hx rfl (hb hby at_83) ?_
        show Steps p.tables e below (T93.setTop (mkF m 84 #[.val (.int p0), .val (.long p1), .second, .val (.long p2), .second, .val (.long p3), .second, .val (.long p4), .second, .val (.long p5), .second, .val (.int (3 : Int32)), .val (.int (1 : Int32)), .val (.ref b1), .val (.int (1 : Int32))] [(.int (1 : Int32)), (.int (1 : Int32))])) _
        refine XS.icmpNo X93.here hx rfl (hb hby at_84) rfl (flt (by decide)).1 ?_
        show Steps p.tables e below (T93.setTop (mkF m 87 #[.val (.int p0), .val (.long p1), .second, .val (.long p2), .second, .val (.long p3), .second, .val (.long p4), .second, .val (.long p5), .second, .val (.int (3 : Int32)), .val (.int (1 : Int32)), .val (.ref b1), .val (.int (1 : Int32))] [])) _
        refine XS.aload X93.here hx rfl (hb hby at_87) rfl rfl ?_
        show Steps p.tables e below (T93.setTop (mkF m 89 #[.val (.int p0), .val (.long p1), .second, .val (.long p2), .second, .val (.long p3), .second, .val (.long p4), .second, .val (.long p5), .second, .val (.int (3 : Int32)), .val (.int (1 : Int32)), .val (.ref b1), .val (.int (1 : Int32))] [(.ref b1)])) _
        refine XS.lload X93.here hx rfl (hb hby at_89) rfl ?_
        show Steps p.tables e below (T93.setTop (mkF m 91 #[.val (.int p0), .val (.long p1), .second, .val (.long p2), .second, .val (.long p3), .second, .val (.long p4), .second, .val (.long p5), .second, .val (.int (3 : Int32)), .val (.int (1 : Int32)), .val (.ref b1), .val (.int (1 : Int32))] [(.long p4), (.ref b1)])) _
        refine st100.trans ?_
        show Steps p.tables e below (T100.setTop (mkF m 94 #[.val (.int p0), .val (.long p1), .second, .val (.long p2), .second, .val (.long p3), .second, .val (.long p4), .second, .val (.long p5), .second, .val (.int (3 : Int32)), .val (.int (1 : Int32)), .val (.ref b1), .val (.int (1 : Int32))] [])) _
        refine XS.iload X100.here hx rfl (hb hby at_94) rfl ?_
        show Steps p.tables e below (T100.setTop (mkF m 96 #[.val (.int p0), .val (.long p1), .second, .val (.long p2), .second, .val (.long p3), .second, .val (.long p4), .second, .val (.long p5), .second, .val (.int (3 : Int32)), .val (.int (1 : Int32)), .val (.ref b1), .val (.int (1 : Int32))] [(.int (1 : Int32))])) _
        refine XS.iconst X100.here hx rfl (hb hby at_96) ?_
        show Steps p.tables e below (T100.setTop (mkF m 97 #[.val (.int p0), .val (.long p1), .second, .val (.long p2), .second, .val (.long p3), .second, .val (.long p4), .second, .val (.long p5), .second, .val (.int (3 : Int32)), .val (.int (1 : Int32)), .val (.ref b1), .val (.int (1 : Int32))] [(.int (2 : Int32)), (.int (1 : Int32))])) _
        refine XS.icmpYes X100.here hx rfl (pc0 := 97) (pc' := 107) rfl (hb hby at_97) rfl (tlt (by decide)).1 (by decide) (by decide) ?_
        show Steps p.tables e below (T100.setTop (mkF m 107 #[.val (.int p0), .val (.long p1), .second, .val (.long p2), .second, .val (.long p3), .second, .val (.long p4), .second, .val (.long p5), .second, .val (.int (3 : Int32)), .val (.int (1 : Int32)), .val (.ref b1), .val (.int (1 : Int32))] [])) _
        refine XS.iload X100.here hx rfl (hb hby at_107) rfl ?_
        show Steps p.tables e below (T100.setTop (mkF m 109 #[.val (.int p0), .val (.long p1), .second, .val (.long p2), .second, .val (.long p3), .second, .val (.long p4), .second, .val (.long p5), .second, .val (.int (3 : Int32)), .val (.int (1 : Int32)), .val (.ref b1), .val (.int (1 : Int32))] [(.int (1 : Int32))])) _
        refine XS.ifNo X100.here hx rfl (hb hby at_109) rfl ((if0 _ _).trans (feq (by decide)).1) ?_
        show Steps p.tables e below (T100.setTop (mkF m 112 #[.val (.int p0), .val (.long p1), .second, .val (.long p2), .second, .val (.long p3), .second, .val (.long p4), .second, .val (.long p5), .second, .val (.int (3 : Int32)), .val (.int (1 : Int32)), .val (.ref b1), .val (.int (1 : Int32))] [])) _
        refine XS.aload X100.here hx rfl (hb hby at_112) rfl rfl ?_
        show Steps p.tables e below (T100.setTop (mkF m 114 #[.val (.int p0), .val (.long p1), .second, .val (.long p2), .second, .val (.long p3), .second, .val (.long p4), .second, .val (.long p5), .second, .val (.int (3 : Int32)), .val (.int (1 : Int32)), .val (.ref b1), .val (.int (1 : Int32))] [(.ref b1)])) _
        refine st101.trans ?_
        show Steps p.tables e below (T101.setTop (mkF m 117 #[.val (.int p0), .val (.long p1), .second, .val (.long p2), .second, .val (.long p3), .second, .val (.long p4), .second, .val (.long p5), .second, .val (.int (3 : Int32)), .val (.int (1 : Int32)), .val (.ref b1), .val (.int (1 : Int32))] [(.int (1 : Int32))])) _
        refine XS.iload X101.here hx rfl (hb hby at_117) rfl ?_
        show Steps p.tables e below (T101.setTop (mkF m 119 #[.val (.int p0), .val (.long p1), .second, .val (.long p2), .second, .val (.long p3), .second, .val (.long p4), .second, .val (.long p5), .second, .val (.int (3 : Int32)), .val (.int (1 : Int32)), .val (.ref b1), .val (.int (1 : Int32))] [(.int (1 : Int32)), (.int (1 : Int32))])) _
        refine XS.icmpNo X101.here hx rfl (hb hby at_119) rfl (teq (by decide)).2 ?_
        show Steps p.tables e below (T101.setTop (mkF m 122 #[.val (.int p0), .val (.long p1), .second, .val (.long p2), .second, .val (.long p3), .second, .val (.long p4), .second, .val (.long p5), .second, .val (.int (3 : Int32)), .val (.int (1 : Int32)), .val (.ref b1), .val (.int (1 : Int32))] [])) _
        refine XS.iconst X101.here hx rfl (hb hby at_122) ?_
        show Steps p.tables e below (T101.setTop (mkF m 123 #[.val (.int p0), .val (.long p1), .second, .val (.long p2), .second, .val (.long p3), .second, .val (.long p4), .second, .val (.long p5), .second, .val (.int (3 : Int32)), .val (.int (1 : Int32)), .val (.ref b1), .val (.int (1 : Int32))] [(.int (1 : Int32))])) _
        refine XS.goto X101.here hx rfl (pc0 := 123) (pc' := 127) rfl (hb hby at_123) (by decide) (by decide) ?_
        show Steps p.tables e below (T101.setTop (mkF m 127 #[.val (.int p0), .val (.long p1), .second, .val (.long p2), .second, .val (.long p3), .second, .val (.long p4), .second, .val (.long p5), .second, .val (.int (3 : Int32)), .val (.int (1 : Int32)), .val (.ref b1), .val (.int (1 : Int32))] [(.int (1 : Int32))])) _
        refine XS.istore X101.here hx rfl (hb hby at_127) rfl (l' := #[.val (.int p0), .val (.long p1), .second, .val (.long p2), .second, .val (.long p3), .second, .val (.long p4), .second, .val (.long p5), .second, .val (.int (3 : Int32)), .val (.int (1 : Int32)), .val (.ref b1), .val (.int (1 : Int32))]) rfl ?_
        show Steps p.tables e below (T101.setTop (mkF m 129 #[.val (.int p0), .val (.long p1), .second, .val (.long p2), .second, .val (.long p3), .second, .val (.long p4), .second, .val (.long p5), .second, .val (.int (3 : Int32)), .val (.int (1 : Int32)), .val (.ref b1), .val (.int (1 : Int32))] [])) _
        refine XS.iload X101.here hx rfl (hb hby at_129) rfl ?_
        show Steps p.tables e below (T101.setTop (mkF m 131 #[.val (.int p0), .val (.long p1), .second, .val (.long p2), .second, .val (.long p3), .second, .val (.long p4), .second, .val (.long p5), .second, .val (.int (3 : Int32)), .val (.int (1 : Int32)), .val (.ref b1), .val (.int (1 : Int32))] [(.int (1 : Int32))])) _
        refine XS.iconst X101.here hx rfl (hb hby at_131) ?_
        show Steps p.tables e below (T101.setTop (mkF m 132 #[.val (.int p0), .val (.long p1), .second, .val (.long p2), .second, .val (.long p3), .second, .val (.long p4), .second, .val (.long p5), .second, .val (.int (3 : Int32)), .val (.int (1 : Int32)), .val (.ref b1), .val (.int (1 : Int32))] [(.int (1 : Int32)), (.int (1 : Int32))])) _
        refine XS.icmpNo X101.here hx rfl (hb hby at_132) rfl (flt (by decide)).1 ?_
        show Steps p.tables e below (T101.setTop (mkF m 135 #[.val (.int p0), .val (.long p1), .second, .val (.long p2), .second, .val (.long p3), .second, .val (.long p4), .second, .val (.long p5), .second, .val (.int (3 : Int32)), .val (.int (1 : Int32)), .val (.ref b1), .val (.int (1 : Int32))] [])) _
        refine XS.iload X101.here hx rfl (hb hby at_135) rfl ?_
        show Steps p.tables e below (T101.setTop (mkF m 137 #[.val (.int p0), .val (.long p1), .second, .val (.long p2), .second, .val (.long p3), .second, .val (.long p4), .second, .val (.long p5), .second, .val (.int (3 : Int32)), .val (.int (1 : Int32)), .val (.ref b1), .val (.int (1 : Int32))] [(.int (1 : Int32))])) _
        refine XS.ifNo X101.here hx rfl (hb hby at_137) rfl ((if0 _ _).trans (feq (by decide)).1) ?_
        show Steps p.tables e below (T101.setTop (mkF m 140 #[.val (.int p0), .val (.long p1), .second, .val (.long p2), .second, .val (.long p3), .second, .val (.long p4), .second, .val (.long p5), .second, .val (.int (3 : Int32)), .val (.int (1 : Int32)), .val (.ref b1), .val (.int (1 : Int32))] [])) _
        refine XS.aload X101.here hx rfl (hb hby at_140) rfl rfl ?_
        show Steps p.tables e below (T101.setTop (mkF m 142 #[.val (.int p0), .val (.long p1), .second, .val (.long p2), .second, .val (.long p3), .second, .val (.long p4), .second, .val (.long p5), .second, .val (.int (3 : Int32)), .val (.int (1 : Int32)), .val (.ref b1), .val (.int (1 : Int32))] [(.ref b1)])) _
        refine XS.iconst X101.here hx rfl (hb hby at_142) ?_
        show Steps p.tables e below (T101.setTop (mkF m 143 #[.val (.int p0), .val (.long p1), .second, .val (.long p2), .second, .val (.long p3), .second, .val (.long p4), .second, .val (.long p5), .second, .val (.int (3 : Int32)), .val (.int (1 : Int32)), .val (.ref b1), .val (.int (1 : Int32))] [(.int (0 : Int32)), (.ref b1)])) _
        refine st102.trans ?_
        show Steps p.tables e below (T102.setTop (mkF m 146 #[.val (.int p0), .val (.long p1), .second, .val (.long p2), .second, .val (.long p3), .second, .val (.long p4), .second, .val (.long p5), .second, .val (.int (3 : Int32)), .val (.int (1 : Int32)), .val (.ref b1), .val (.int (1 : Int32))] [(.long p4)])) _
        refine XS.lload X102.here hx rfl (hb hby at_146) rfl ?_
        show Steps p.tables e below (T102.setTop (mkF m 148 #[.val (.int p0), .val (.long p1), .second, .val (.long p2), .second, .val (.long p3), .second, .val (.long p4), .second, .val (.long p5), .second, .val (.int (3 : Int32)), .val (.int (1 : Int32)), .val (.ref b1), .val (.int (1 : Int32))] [(.long p4), (.long p4)])) _
        refine XS.lcmp X102.here hx rfl (hb hby at_148) rfl ?_
        show Steps p.tables e below (T102.setTop (mkF m 149 #[.val (.int p0), .val (.long p1), .second, .val (.long p2), .second, .val (.long p3), .second, .val (.long p4), .second, .val (.long p5), .second, .val (.int (3 : Int32)), .val (.int (1 : Int32)), .val (.ref b1), .val (.int (1 : Int32))] [(.int (lcmpW p4 p4))])) _
        refine XS.ifNo X102.here hx rfl (hb hby at_149) rfl ((if0 _ _).trans (teq ((lw_eq _ _).mpr rfl)).2) ?_
        show Steps p.tables e below (T102.setTop (mkF m 152 #[.val (.int p0), .val (.long p1), .second, .val (.long p2), .second, .val (.long p3), .second, .val (.long p4), .second, .val (.long p5), .second, .val (.int (3 : Int32)), .val (.int (1 : Int32)), .val (.ref b1), .val (.int (1 : Int32))] [])) _
        refine XS.iconst X102.here hx rfl (hb hby at_152) ?_
        show Steps p.tables e below (T102.setTop (mkF m 153 #[.val (.int p0), .val (.long p1), .second, .val (.long p2), .second, .val (.long p3), .second, .val (.long p4), .second, .val (.long p5), .second, .val (.int (3 : Int32)), .val (.int (1 : Int32)), .val (.ref b1), .val (.int (1 : Int32))] [(.int (1 : Int32))])) _
        refine XS.goto X102.here hx rfl (pc0 := 153) (pc' := 157) rfl (hb hby at_153) (by decide) (by decide) ?_
        show Steps p.tables e below (T102.setTop (mkF m 157 #[.val (.int p0), .val (.long p1), .second, .val (.long p2), .second, .val (.long p3), .second, .val (.long p4), .second, .val (.long p5), .second, .val (.int (3 : Int32)), .val (.int (1 : Int32)), .val (.ref b1), .val (.int (1 : Int32))] [(.int (1 : Int32))])) _
        refine XS.istore X102.here hx rfl (hb hby at_157) rfl (l' := #[.val (.int p0), .val (.long p1), .second, .val (.long p2), .second, .val (.long p3), .second, .val (.long p4), .second, .val (.long p5), .second, .val (.int (3 : Int32)), .val (.int (1 : Int32)), .val (.ref b1), .val (.int (1 : Int32))]) rfl ?_
        show Steps p.tables e below (T102.setTop (mkF m 159 #[.val (.int p0), .val (.long p1), .second, .val (.long p2), .second, .val (.long p3), .second, .val (.long p4), .second, .val (.long p5), .second, .val (.int (3 : Int32)), .val (.int (1 : Int32)), .val (.ref b1), .val (.int (1 : Int32))] [])) _
        refine XS.iload X102.here hx rfl (hb hby at_159) rfl ?_
        show Steps p.tables e below (T102.setTop (mkF m 161 #[.val (.int p0), .val (.long p1), .second, .val (.long p2), .second, .val (.long p3), .second, .val (.long p4), .second, .val (.long p5), .second, .val (.int (3 : Int32)), .val (.int (1 : Int32)), .val (.ref b1), .val (.int (1 : Int32))] [(.int (1 : Int32))])) _
        refine XS.iconst X102.here hx rfl (hb hby at_161) ?_
        show Steps p.tables e below (T102.setTop (mkF m 162 #[.val (.int p0), .val (.long p1), .second, .val (.long p2), .second, .val (.long p3), .second, .val (.long p4), .second, .val (.long p5), .second, .val (.int (3 : Int32)), .val (.int (1 : Int32)), .val (.ref b1), .val (.int (1 : Int32))] [(.int (2 : Int32)), (.int (1 : Int32))])) _
        refine XS.icmpYes X102.here hx rfl (pc0 := 162) (pc' := 189) rfl (hb hby at_162) rfl (tlt (by decide)).1 (by decide) (by decide) ?_
        show Steps p.tables e below (T102.setTop (mkF m 189 #[.val (.int p0), .val (.long p1), .second, .val (.long p2), .second, .val (.long p3), .second, .val (.long p4), .second, .val (.long p5), .second, .val (.int (3 : Int32)), .val (.int (1 : Int32)), .val (.ref b1), .val (.int (1 : Int32))] [])) _
        refine XS.iload X102.here hx rfl (hb hby at_189) rfl ?_
        exact Steps.refl _
      obtain ⟨fs, hr, hrun, hended, hW, hsame⟩ := X102.leave (v := some (.int (1 : Int32))) (fun h => by rw [Bd.returns] at h; cases h)
      refine ⟨_, _, s103.trans ?_, hrun, hended, _, _, rfl, ?_, ⟨_, rfl⟩, hW, hsame.mono (by decide) (by decide)⟩
      · show Steps p.tables e below (T102.setTop (mkF m 191 #[.val (.int p0), .val (.long p1), .second, .val (.long p2), .second, .val (.long p3), .second, .val (.long p4), .second, .val (.long p5), .second, .val (.int (3 : Int32)), .val (.int (1 : Int32)), .val (.ref b1), .val (.int (1 : Int32))] [(.int (1 : Int32))])) _
        exact retN X102 hx (t := .boolean) Bd.returns (by simp) (hb hby at_191) hr
      · show Q0 Z p0 p1 p2 p3 p4 p5 h0 n0 _ T102.heap _
        rw [e102]
        exact ⟨rfl, N102⟩
    · have s104 := s94
      rw [hk95] at s104
      obtain ⟨cq105, kq105, q105a, q105b, q105c⟩ := isOf hZ e93 f88_0
      obtain ⟨_, _, ⟨T105, L105, k105, n105⟩, -, X105, ⟨Lc105, hQ105, l105, y105, z105⟩, st105⟩ := X93.virtualBack hx (y := (⟨"com/example/strikewire/strikewire/engine/LongList", "add", "(J)V"⟩ : MethodName)) (z := (⟨"com/example/strikewire/strikewire/engine/LongList", "add", "(J)V"⟩ : MethodName)) hown (mvT hZ (hw _ (List.mem_of_getElem? (i := 27) rfl))) (mvT hZ (hw _ (List.mem_of_getElem? (i := 28) rfl))) (notFace_of_selects (args := #[]) (mvT hZ (hw _ (List.mem_of_getElem? (i := 30) rfl)))) (mvT hZ (hw _ (List.mem_of_getElem? (i := 30) rfl))) (mvT hZ (hw _ (List.mem_of_getElem? (i := 29) rfl))) (by decide) (backOf (W := 0) (rma0 l Z a0 hw [] b1 p4 u89 u90 u91 u92 (0 : Int64) (0 : Int64) (0 : Int64) (0 : Int64) (0 : Int64) (0 : Int64) (0 : Int64) (0 : Int64) T88.heap n0 O88 f88_0 f88_1 f88_3 f88_2 f88_4 g_b1 g_u90 ne_b1_u89 ne_b1_u90 f88_7) hZ (hw _ (List.mem_of_getElem? (i := 31) rfl)) (hw _ (List.mem_of_getElem? (i := 3) rfl)) (by decide) (by decide)) q105a q105c (g := (mkF m 91 #[.val (.int p0), .val (.long p1), .second, .val (.long p2), .second, .val (.long p3), .second, .val (.long p4), .second, .val (.long p5), .second, .val (.int (3 : Int32)), .val (.int (2 : Int32)), .val (.ref b1), .val (.int (1 : Int32))] [(.long p4), (.ref b1)])) rfl (by rw [hml]; rfl) (Steps.refl _) (argsL := [(.long p4)]) (rest := []) (lenOf pd_rm0_2 rfl) rfl (by show 2 * 0 + _ ≤ _; exact Nat.le_of_eq rfl) (hb hby at_91) (fun _ _ => ⟨rfl, e93, (by decide : 5 + 0 ≤ _), (by decide : 20 + 0 ≤ _)⟩)
      dsimp only [Pt.U, Pt.locs, Pt.cells, Pt.slots] at X105 l105 y105 z105 st105 hQ105
      subst l105 y105 z105
      obtain ⟨rfl, Nq105, Kc105, f105_0, f105_1, f105_2, f105_3, f105_4⟩ := hQ105
      have N105 := Fr.app N93 Nq105
      have O105 := O88.keep Kc105 (allS g_b1 (allS g_u90 all0))
      obtain ⟨cq106, kq106, q106a, q106b, q106c⟩ := isOf hZ (rfl : T105.heap = T105.heap) f105_0
      obtain ⟨_, _, ⟨T106, L106, k106, n106⟩, -, X106, ⟨Lc106, hQ106, l106, y106, z106⟩, st106⟩ := X105.virtualBack hx (y := (⟨"com/example/strikewire/strikewire/engine/LongList", "add", "(J)V"⟩ : MethodName)) (z := (⟨"com/example/strikewire/strikewire/engine/LongList", "add", "(J)V"⟩ : MethodName)) hown (mvT hZ (hw _ (List.mem_of_getElem? (i := 27) rfl))) (mvT hZ (hw _ (List.mem_of_getElem? (i := 28) rfl))) (notFace_of_selects (args := #[]) (mvT hZ (hw _ (List.mem_of_getElem? (i := 30) rfl)))) (mvT hZ (hw _ (List.mem_of_getElem? (i := 30) rfl))) (mvT hZ (hw _ (List.mem_of_getElem? (i := 29) rfl))) (by decide) (backOf (W := 0) (rma1 l Z a0 hw [] b1 p5 u89 u90 u91 u92 p4 (0 : Int64) (0 : Int64) (0 : Int64) (0 : Int64) (0 : Int64) (0 : Int64) (0 : Int64) T105.heap n0 O105 f105_0 f105_1 f105_2 f105_3 f105_4 g_b1 g_u90 ne_b1_u89 ne_b1_u90 f88_7) hZ (hw _ (List.mem_of_getElem? (i := 31) rfl)) (hw _ (List.mem_of_getElem? (i := 3) rfl)) (by decide) (by decide)) q106a q106c (g := (mkF m 104 #[.val (.int p0), .val (.long p1), .second, .val (.long p2), .second, .val (.long p3), .second, .val (.long p4), .second, .val (.long p5), .second, .val (.int (3 : Int32)), .val (.int (2 : Int32)), .val (.ref b1), .val (.int (1 : Int32))] [(.long p5), (.ref b1)])) rfl (by rw [hml]; rfl) (Steps.refl _) (argsL := [(.long p5)]) (rest := []) (lenOf pd_rm0_2 rfl) rfl (by show 2 * 0 + _ ≤ _; exact Nat.le_of_eq rfl) (hb hby at_104) (fun _ _ => ⟨rfl, (rfl : T105.heap = T105.heap), (by decide : 5 + 0 ≤ _), (by decide : 20 + 0 ≤ _)⟩)
      dsimp only [Pt.U, Pt.locs, Pt.cells, Pt.slots] at X106 l106 y106 z106 st106 hQ106
      subst l106 y106 z106
      obtain ⟨rfl, Nq106, Kc106, f106_0, f106_1, f106_2, f106_3, f106_4⟩ := hQ106
      have N106 := Fr.app N105 Nq106
      have O106 := O105.keep Kc106 (allS g_b1 (allS g_u90 all0))
      obtain ⟨cq107, kq107, q107a, q107b, q107c⟩ := isOf hZ (rfl : T106.heap = T106.heap) f106_0
      obtain ⟨_, _, ⟨T107, L107, k107, n107⟩, -, X107, ⟨Lc107, hQ107, l107, y107, z107⟩, st107⟩ := X106.virtualBack hx (y := (⟨"com/example/strikewire/strikewire/engine/LongList", "size", "()I"⟩ : MethodName)) (z := (⟨"com/example/strikewire/strikewire/engine/LongList", "size", "()I"⟩ : MethodName)) hown (mvT hZ (hw _ (List.mem_of_getElem? (i := 22) rfl))) (mvT hZ (hw _ (List.mem_of_getElem? (i := 23) rfl))) (notFace_of_selects (args := #[]) (mvT hZ (hw _ (List.mem_of_getElem? (i := 25) rfl)))) (mvT hZ (hw _ (List.mem_of_getElem? (i := 25) rfl))) (mvT hZ (hw _ (List.mem_of_getElem? (i := 24) rfl))) (by decide) (backOf (W := 0) (rm4 l Z a0 hw [] b1 (2 : Int32) T106.heap n0 O106 f106_3) hZ (hw _ (List.mem_of_getElem? (i := 26) rfl)) (hw _ (List.mem_of_getElem? (i := 3) rfl)) (by decide) (by decide)) q107a q107c (g := (mkF m 114 #[.val (.int p0), .val (.long p1), .second, .val (.long p2), .second, .val (.long p3), .second, .val (.long p4), .second, .val (.long p5), .second, .val (.int (3 : Int32)), .val (.int (2 : Int32)), .val (.ref b1), .val (.int (1 : Int32))] [(.ref b1)])) rfl (by rw [hml]; rfl) (Steps.refl _) (argsL := []) (rest := []) (lenOf pd_rm0_1 rfl) rfl (by show 2 * 0 + _ ≤ _; exact Nat.le_of_eq rfl) (hb hby at_114) (fun _ _ => ⟨rfl, (rfl : T106.heap = T106.heap), (by decide : 5 + 0 ≤ _), (by decide : 20 + 0 ≤ _)⟩)
      dsimp only [Pt.U, Pt.locs, Pt.cells, Pt.slots] at X107 l107 y107 z107 st107 hQ107
      subst l107 y107 z107
      obtain ⟨rfl, Nq107, e107⟩ := hQ107
      have N107 := Fr.app N106 Nq107
      obtain ⟨cq108, kq108, q108a, q108b, q108c⟩ := isOf hZ e107 f106_0
      obtain ⟨_, _, ⟨T108, L108, k108, n108⟩, -, X108, ⟨Lc108, hQ108, l108, y108, z108⟩, st108⟩ := X107.virtualBack hx (y := (⟨"com/example/strikewire/strikewire/engine/LongList", "get", "(I)J"⟩ : MethodName)) (z := (⟨"com/example/strikewire/strikewire/engine/LongList", "get", "(I)J"⟩ : MethodName)) hown (mvT hZ (hw _ (List.mem_of_getElem? (i := 34) rfl))) (mvT hZ (hw _ (List.mem_of_getElem? (i := 35) rfl))) (notFace_of_selects (args := #[]) (mvT hZ (hw _ (List.mem_of_getElem? (i := 37) rfl)))) (mvT hZ (hw _ (List.mem_of_getElem? (i := 37) rfl))) (mvT hZ (hw _ (List.mem_of_getElem? (i := 36) rfl))) (by decide) (backOf (W := 0) (rmg0_2 l Z a0 hw [] b1 u89 u90 u91 u92 p4 p5 (0 : Int64) (0 : Int64) (0 : Int64) (0 : Int64) (0 : Int64) (0 : Int64) T106.heap n0 O106 f106_0 f106_1 f106_2 f106_3 f106_4) hZ (hw _ (List.mem_of_getElem? (i := 38) rfl)) (hw _ (List.mem_of_getElem? (i := 3) rfl)) (by decide) (by decide)) q108a q108c (g := (mkF m 143 #[.val (.int p0), .val (.long p1), .second, .val (.long p2), .second, .val (.long p3), .second, .val (.long p4), .second, .val (.long p5), .second, .val (.int (3 : Int32)), .val (.int (2 : Int32)), .val (.ref b1), .val (.int (1 : Int32))] [(.int (0 : Int32)), (.ref b1)])) rfl (by rw [hml]; rfl) (Steps.refl _) (argsL := [(.int (0 : Int32))]) (rest := []) (lenOf pd_rm0_3 rfl) rfl (by show 2 * 0 + _ ≤ _; exact Nat.le_of_eq rfl) (hb hby at_143) (fun _ _ => ⟨rfl, e107, (by decide : 5 + 0 ≤ _), (by decide : 20 + 0 ≤ _)⟩)
      dsimp only [Pt.U, Pt.locs, Pt.cells, Pt.slots] at X108 l108 y108 z108 st108 hQ108
      subst l108 y108 z108
      obtain ⟨rfl, Nq108, e108⟩ := hQ108
      have N108 := Fr.app N107 Nq108
      obtain ⟨cq109, kq109, q109a, q109b, q109c⟩ := isOf hZ e108 f106_0
      obtain ⟨_, _, ⟨T109, L109, k109, n109⟩, -, X109, ⟨Lc109, hQ109, l109, y109, z109⟩, st109⟩ := X108.virtualBack hx (y := (⟨"com/example/strikewire/strikewire/engine/LongList", "get", "(I)J"⟩ : MethodName)) (z := (⟨"com/example/strikewire/strikewire/engine/LongList", "get", "(I)J"⟩ : MethodName)) hown (mvT hZ (hw _ (List.mem_of_getElem? (i := 34) rfl))) (mvT hZ (hw _ (List.mem_of_getElem? (i := 35) rfl))) (notFace_of_selects (args := #[]) (mvT hZ (hw _ (List.mem_of_getElem? (i := 37) rfl)))) (mvT hZ (hw _ (List.mem_of_getElem? (i := 37) rfl))) (mvT hZ (hw _ (List.mem_of_getElem? (i := 36) rfl))) (by decide) (backOf (W := 0) (rmg1_2 l Z a0 hw [] b1 u89 u90 u91 u92 p4 p5 (0 : Int64) (0 : Int64) (0 : Int64) (0 : Int64) (0 : Int64) (0 : Int64) T106.heap n0 O106 f106_0 f106_1 f106_2 f106_3 f106_4) hZ (hw _ (List.mem_of_getElem? (i := 38) rfl)) (hw _ (List.mem_of_getElem? (i := 3) rfl)) (by decide) (by decide)) q109a q109c (g := (mkF m 173 #[.val (.int p0), .val (.long p1), .second, .val (.long p2), .second, .val (.long p3), .second, .val (.long p4), .second, .val (.long p5), .second, .val (.int (3 : Int32)), .val (.int (2 : Int32)), .val (.ref b1), .val (.int (1 : Int32))] [(.int (1 : Int32)), (.ref b1)])) rfl (by rw [hml]; rfl) (Steps.refl _) (argsL := [(.int (1 : Int32))]) (rest := []) (lenOf pd_rm0_3 rfl) rfl (by show 2 * 0 + _ ≤ _; exact Nat.le_of_eq rfl) (hb hby at_173) (fun _ _ => ⟨rfl, e108, (by decide : 5 + 0 ≤ _), (by decide : 20 + 0 ≤ _)⟩)
      dsimp only [Pt.U, Pt.locs, Pt.cells, Pt.slots] at X109 l109 y109 z109 st109 hQ109
      subst l109 y109 z109
      obtain ⟨rfl, Nq109, e109⟩ := hQ109
      have N109 := Fr.app N108 Nq109
      have s110 : Steps p.tables e below (s₁.setTop (entryFrame m #[(.int p0), (.long p1), (.long p2), (.long p3), (.long p4), (.long p5)] maxLocals)) (T109.setTop (mkF m 191 #[.val (.int p0), .val (.long p1), .second, .val (.long p2), .second, .val (.long p3), .second, .val (.long p4), .second, .val (.long p5), .second, .val (.int (3 : Int32)), .val (.int (2 : Int32)), .val (.ref b1), .val (.int (1 : Int32))] [(.int (1 : Int32))])) := by
        refine s104.trans ?_
        show Steps p.tables e below (T93.setTop (mkF m 81 #[.val (.int p0), .val (.long p1), .second, .val (.long p2), .second, .val (.long p3), .second, .val (.long p4), .second, .val (.long p5), .second, .val (.int (3 : Int32)), .val (.int (2 : Int32)), .val (.ref b1), .val (.int (1 : Int32))] [])) _
        refine XS.iload X93.here hx rfl (hb hby at_81) rfl ?_
        show Steps p.tables e below (T93.setTop (mkF m 83 #[.val (.int p0), .val (.long p1), .second, .val (.long p2), .second, .val (.long p3), .second, .val (.long p4), .second, .val (.long p5), .second, .val (.int (3 : Int32)), .val (.int (2 : Int32)), .val (.ref b1), .val (.int (1 : Int32))] [(.int (2 : Int32))])) _
        refine XS.iconst X93.here hx rfl (hb hby at_83) ?_
        show Steps p.tables e below (T93.setTop (mkF m 84 #[.val (.int p0), .val (.long p1), .second, .val (.long p2), .second, .val (.long p3), .second, .val (.long p4), .second, .val (.long p5), .second, .val (.int (3 : Int32)), .val (.int (2 : Int32)), .val (.ref b1), .val (.int (1 : Int32))] [(.int (1 : Int32)), (.int (2 : Int32))])) _
        refine XS.icmpNo X93.here hx rfl (hb hby at_84) rfl (flt (by decide)).1 ?_
        show Steps p.tables e below (T93.setTop (mkF m 87 #[.val (.int p0), .val (.long p1), .second, .val (.long p2), .second, .val (.long p3), .second, .val (.long p4), .second, .val (.long p5), .second, .val (.int (3 : Int32)), .val (.int (2 : Int32)), .val (.ref b1), .val (.int (1 : Int32))] [])) _
        refine XS.aload X93.here hx rfl (hb hby at_87) rfl rfl ?_
        show Steps p.tables e below (T93.setTop (mkF m 89 #[.val (.int p0), .val (.long p1), .second, .val (.long p2), .second, .val (.long p3), .second, .val (.long p4), .second, .val (.long p5), .second, .val (.int (3 : Int32)), .val (.int (2 : Int32)), .val (.ref b1), .val (.int (1 : Int32))] [(.ref b1)])) _
        refine XS.lload X93.here hx rfl (hb hby at_89) rfl ?_
        show Steps p.tables e below (T93.setTop (mkF m 91 #[.val (.int p0), .val (.long p1), .second, .val (.long p2), .second, .val (.long p3), .second, .val (.long p4), .second, .val (.long p5), .second, .val (.int (3 : Int32)), .val (.int (2 : Int32)), .val (.ref b1), .val (.int (1 : Int32))] [(.long p4), (.ref b1)])) _
        refine st105.trans ?_
        show Steps p.tables e below (T105.setTop (mkF m 94 #[.val (.int p0), .val (.long p1), .second, .val (.long p2), .second, .val (.long p3), .second, .val (.long p4), .second, .val (.long p5), .second, .val (.int (3 : Int32)), .val (.int (2 : Int32)), .val (.ref b1), .val (.int (1 : Int32))] [])) _
        refine XS.iload X105.here hx rfl (hb hby at_94) rfl ?_
        show Steps p.tables e below (T105.setTop (mkF m 96 #[.val (.int p0), .val (.long p1), .second, .val (.long p2), .second, .val (.long p3), .second, .val (.long p4), .second, .val (.long p5), .second, .val (.int (3 : Int32)), .val (.int (2 : Int32)), .val (.ref b1), .val (.int (1 : Int32))] [(.int (2 : Int32))])) _
        refine XS.iconst X105.here hx rfl (hb hby at_96) ?_
        show Steps p.tables e below (T105.setTop (mkF m 97 #[.val (.int p0), .val (.long p1), .second, .val (.long p2), .second, .val (.long p3), .second, .val (.long p4), .second, .val (.long p5), .second, .val (.int (3 : Int32)), .val (.int (2 : Int32)), .val (.ref b1), .val (.int (1 : Int32))] [(.int (2 : Int32)), (.int (2 : Int32))])) _
        refine XS.icmpNo X105.here hx rfl (hb hby at_97) rfl (flt (by decide)).1 ?_
        show Steps p.tables e below (T105.setTop (mkF m 100 #[.val (.int p0), .val (.long p1), .second, .val (.long p2), .second, .val (.long p3), .second, .val (.long p4), .second, .val (.long p5), .second, .val (.int (3 : Int32)), .val (.int (2 : Int32)), .val (.ref b1), .val (.int (1 : Int32))] [])) _
        refine XS.aload X105.here hx rfl (hb hby at_100) rfl rfl ?_
        show Steps p.tables e below (T105.setTop (mkF m 102 #[.val (.int p0), .val (.long p1), .second, .val (.long p2), .second, .val (.long p3), .second, .val (.long p4), .second, .val (.long p5), .second, .val (.int (3 : Int32)), .val (.int (2 : Int32)), .val (.ref b1), .val (.int (1 : Int32))] [(.ref b1)])) _
        refine XS.lload X105.here hx rfl (hb hby at_102) rfl ?_
        show Steps p.tables e below (T105.setTop (mkF m 104 #[.val (.int p0), .val (.long p1), .second, .val (.long p2), .second, .val (.long p3), .second, .val (.long p4), .second, .val (.long p5), .second, .val (.int (3 : Int32)), .val (.int (2 : Int32)), .val (.ref b1), .val (.int (1 : Int32))] [(.long p5), (.ref b1)])) _
        refine st106.trans ?_
        show Steps p.tables e below (T106.setTop (mkF m 107 #[.val (.int p0), .val (.long p1), .second, .val (.long p2), .second, .val (.long p3), .second, .val (.long p4), .second, .val (.long p5), .second, .val (.int (3 : Int32)), .val (.int (2 : Int32)), .val (.ref b1), .val (.int (1 : Int32))] [])) _
        refine XS.iload X106.here hx rfl (hb hby at_107) rfl ?_
        show Steps p.tables e below (T106.setTop (mkF m 109 #[.val (.int p0), .val (.long p1), .second, .val (.long p2), .second, .val (.long p3), .second, .val (.long p4), .second, .val (.long p5), .second, .val (.int (3 : Int32)), .val (.int (2 : Int32)), .val (.ref b1), .val (.int (1 : Int32))] [(.int (1 : Int32))])) _
        refine XS.ifNo X106.here hx rfl (hb hby at_109) rfl ((if0 _ _).trans (feq (by decide)).1) ?_
        show Steps p.tables e below (T106.setTop (mkF m 112 #[.val (.int p0), .val (.long p1), .second, .val (.long p2), .second, .val (.long p3), .second, .val (.long p4), .second, .val (.long p5), .second, .val (.int (3 : Int32)), .val (.int (2 : Int32)), .val (.ref b1), .val (.int (1 : Int32))] [])) _
        refine XS.aload X106.here hx rfl (hb hby at_112) rfl rfl ?_
        show Steps p.tables e below (T106.setTop (mkF m 114 #[.val (.int p0), .val (.long p1), .second, .val (.long p2), .second, .val (.long p3), .second, .val (.long p4), .second, .val (.long p5), .second, .val (.int (3 : Int32)), .val (.int (2 : Int32)), .val (.ref b1), .val (.int (1 : Int32))] [(.ref b1)])) _
        refine st107.trans ?_
        show Steps p.tables e below (T107.setTop (mkF m 117 #[.val (.int p0), .val (.long p1), .second, .val (.long p2), .second, .val (.long p3), .second, .val (.long p4), .second, .val (.long p5), .second, .val (.int (3 : Int32)), .val (.int (2 : Int32)), .val (.ref b1), .val (.int (1 : Int32))] [(.int (2 : Int32))])) _
        refine XS.iload X107.here hx rfl (hb hby at_117) rfl ?_
        show Steps p.tables e below (T107.setTop (mkF m 119 #[.val (.int p0), .val (.long p1), .second, .val (.long p2), .second, .val (.long p3), .second, .val (.long p4), .second, .val (.long p5), .second, .val (.int (3 : Int32)), .val (.int (2 : Int32)), .val (.ref b1), .val (.int (1 : Int32))] [(.int (2 : Int32)), (.int (2 : Int32))])) _
        refine XS.icmpNo X107.here hx rfl (hb hby at_119) rfl (teq (by decide)).2 ?_
        show Steps p.tables e below (T107.setTop (mkF m 122 #[.val (.int p0), .val (.long p1), .second, .val (.long p2), .second, .val (.long p3), .second, .val (.long p4), .second, .val (.long p5), .second, .val (.int (3 : Int32)), .val (.int (2 : Int32)), .val (.ref b1), .val (.int (1 : Int32))] [])) _
        refine XS.iconst X107.here hx rfl (hb hby at_122) ?_
        show Steps p.tables e below (T107.setTop (mkF m 123 #[.val (.int p0), .val (.long p1), .second, .val (.long p2), .second, .val (.long p3), .second, .val (.long p4), .second, .val (.long p5), .second, .val (.int (3 : Int32)), .val (.int (2 : Int32)), .val (.ref b1), .val (.int (1 : Int32))] [(.int (1 : Int32))])) _
        refine XS.goto X107.here hx rfl (pc0 := 123) (pc' := 127) rfl (hb hby at_123) (by decide) (by decide) ?_
        show Steps p.tables e below (T107.setTop (mkF m 127 #[.val (.int p0), .val (.long p1), .second, .val (.long p2), .second, .val (.long p3), .second, .val (.long p4), .second, .val (.long p5), .second, .val (.int (3 : Int32)), .val (.int (2 : Int32)), .val (.ref b1), .val (.int (1 : Int32))] [(.int (1 : Int32))])) _
        refine XS.istore X107.here hx rfl (hb hby at_127) rfl (l' := #[.val (.int p0), .val (.long p1), .second, .val (.long p2), .second, .val (.long p3), .second, .val (.long p4), .second, .val (.long p5), .second, .val (.int (3 : Int32)), .val (.int (2 : Int32)), .val (.ref b1), .val (.int (1 : Int32))]) rfl ?_
        show Steps p.tables e below (T107.setTop (mkF m 129 #[.val (.int p0), .val (.long p1), .second, .val (.long p2), .second, .val (.long p3), .second, .val (.long p4), .second, .val (.long p5), .second, .val (.int (3 : Int32)), .val (.int (2 : Int32)), .val (.ref b1), .val (.int (1 : Int32))] [])) _
        refine XS.iload X107.here hx rfl (hb hby at_129) rfl ?_
        show Steps p.tables e below (T107.setTop (mkF m 131 #[.val (.int p0), .val (.long p1), .second, .val (.long p2), .second, .val (.long p3), .second, .val (.long p4), .second, .val (.long p5), .second, .val (.int (3 : Int32)), .val (.int (2 : Int32)), .val (.ref b1), .val (.int (1 : Int32))] [(.int (2 : Int32))])) _
        refine XS.iconst X107.here hx rfl (hb hby at_131) ?_
        show Steps p.tables e below (T107.setTop (mkF m 132 #[.val (.int p0), .val (.long p1), .second, .val (.long p2), .second, .val (.long p3), .second, .val (.long p4), .second, .val (.long p5), .second, .val (.int (3 : Int32)), .val (.int (2 : Int32)), .val (.ref b1), .val (.int (1 : Int32))] [(.int (1 : Int32)), (.int (2 : Int32))])) _
        refine XS.icmpNo X107.here hx rfl (hb hby at_132) rfl (flt (by decide)).1 ?_
        show Steps p.tables e below (T107.setTop (mkF m 135 #[.val (.int p0), .val (.long p1), .second, .val (.long p2), .second, .val (.long p3), .second, .val (.long p4), .second, .val (.long p5), .second, .val (.int (3 : Int32)), .val (.int (2 : Int32)), .val (.ref b1), .val (.int (1 : Int32))] [])) _
        refine XS.iload X107.here hx rfl (hb hby at_135) rfl ?_
        show Steps p.tables e below (T107.setTop (mkF m 137 #[.val (.int p0), .val (.long p1), .second, .val (.long p2), .second, .val (.long p3), .second, .val (.long p4), .second, .val (.long p5), .second, .val (.int (3 : Int32)), .val (.int (2 : Int32)), .val (.ref b1), .val (.int (1 : Int32))] [(.int (1 : Int32))])) _
        refine XS.ifNo X107.here hx rfl (hb hby at_137) rfl ((if0 _ _).trans (feq (by decide)).1) ?_
        show Steps p.tables e below (T107.setTop (mkF m 140 #[.val (.int p0), .val (.long p1), .second, .val (.long p2), .second, .val (.long p3), .second, .val (.long p4), .second, .val (.long p5), .second, .val (.int (3 : Int32)), .val (.int (2 : Int32)), .val (.ref b1), .val (.int (1 : Int32))] [])) _
        refine XS.aload X107.here hx rfl (hb hby at_140) rfl rfl ?_
        show Steps p.tables e below (T107.setTop (mkF m 142 #[.val (.int p0), .val (.long p1), .second, .val (.long p2), .second, .val (.long p3), .second, .val (.long p4), .second, .val (.long p5), .second, .val (.int (3 : Int32)), .val (.int (2 : Int32)), .val (.ref b1), .val (.int (1 : Int32))] [(.ref b1)])) _
        refine XS.iconst X107.here hx rfl (hb hby at_142) ?_
        show Steps p.tables e below (T107.setTop (mkF m 143 #[.val (.int p0), .val (.long p1), .second, .val (.long p2), .second, .val (.long p3), .second, .val (.long p4), .second, .val (.long p5), .second, .val (.int (3 : Int32)), .val (.int (2 : Int32)), .val (.ref b1), .val (.int (1 : Int32))] [(.int (0 : Int32)), (.ref b1)])) _
        refine st108.trans ?_
        show Steps p.tables e below (T108.setTop (mkF m 146 #[.val (.int p0), .val (.long p1), .second, .val (.long p2), .second, .val (.long p3), .second, .val (.long p4), .second, .val (.long p5), .second, .val (.int (3 : Int32)), .val (.int (2 : Int32)), .val (.ref b1), .val (.int (1 : Int32))] [(.long p4)])) _
        refine XS.lload X108.here hx rfl (hb hby at_146) rfl ?_
        show Steps p.tables e below (T108.setTop (mkF m 148 #[.val (.int p0), .val (.long p1), .second, .val (.long p2), .second, .val (.long p3), .second, .val (.long p4), .second, .val (.long p5), .second, .val (.int (3 : Int32)), .val (.int (2 : Int32)), .val (.ref b1), .val (.int (1 : Int32))] [(.long p4), (.long p4)])) _
        refine XS.lcmp X108.here hx rfl (hb hby at_148) rfl ?_
        show Steps p.tables e below (T108.setTop (mkF m 149 #[.val (.int p0), .val (.long p1), .second, .val (.long p2), .second, .val (.long p3), .second, .val (.long p4), .second, .val (.long p5), .second, .val (.int (3 : Int32)), .val (.int (2 : Int32)), .val (.ref b1), .val (.int (1 : Int32))] [(.int (lcmpW p4 p4))])) _
        refine XS.ifNo X108.here hx rfl (hb hby at_149) rfl ((if0 _ _).trans (teq ((lw_eq _ _).mpr rfl)).2) ?_
        show Steps p.tables e below (T108.setTop (mkF m 152 #[.val (.int p0), .val (.long p1), .second, .val (.long p2), .second, .val (.long p3), .second, .val (.long p4), .second, .val (.long p5), .second, .val (.int (3 : Int32)), .val (.int (2 : Int32)), .val (.ref b1), .val (.int (1 : Int32))] [])) _
        refine XS.iconst X108.here hx rfl (hb hby at_152) ?_
        show Steps p.tables e below (T108.setTop (mkF m 153 #[.val (.int p0), .val (.long p1), .second, .val (.long p2), .second, .val (.long p3), .second, .val (.long p4), .second, .val (.long p5), .second, .val (.int (3 : Int32)), .val (.int (2 : Int32)), .val (.ref b1), .val (.int (1 : Int32))] [(.int (1 : Int32))])) _
        refine XS.goto X108.here hx rfl (pc0 := 153) (pc' := 157) rfl (hb hby at_153) (by decide) (by decide) ?_
        show Steps p.tables e below (T108.setTop (mkF m 157 #[.val (.int p0), .val (.long p1), .second, .val (.long p2), .second, .val (.long p3), .second, .val (.long p4), .second, .val (.long p5), .second, .val (.int (3 : Int32)), .val (.int (2 : Int32)), .val (.ref b1), .val (.int (1 : Int32))] [(.int (1 : Int32))])) _
        refine XS.istore X108.here hx rfl (hb hby at_157) rfl (l' := #[.val (.int p0), .val (.long p1), .second, .val (.long p2), .second, .val (.long p3), .second, .val (.long p4), .second, .val (.long p5), .second, .val (.int (3 : Int32)), .val (.int (2 : Int32)), .val (.ref b1), .val (.int (1 : Int32))]) rfl ?_
        show Steps p.tables e below (T108.setTop (mkF m 159 #[.val (.int p0), .val (.long p1), .second, .val (.long p2), .second, .val (.long p3), .second, .val (.long p4), .second, .val (.long p5), .second, .val (.int (3 : Int32)), .val (.int (2 : Int32)), .val (.ref b1), .val (.int (1 : Int32))] [])) _
        refine XS.iload X108.here hx rfl (hb hby at_159) rfl ?_
        show Steps p.tables e below (T108.setTop (mkF m 161 #[.val (.int p0), .val (.long p1), .second, .val (.long p2), .second, .val (.long p3), .second, .val (.long p4), .second, .val (.long p5), .second, .val (.int (3 : Int32)), .val (.int (2 : Int32)), .val (.ref b1), .val (.int (1 : Int32))] [(.int (2 : Int32))])) _
        refine XS.iconst X108.here hx rfl (hb hby at_161) ?_
        show Steps p.tables e below (T108.setTop (mkF m 162 #[.val (.int p0), .val (.long p1), .second, .val (.long p2), .second, .val (.long p3), .second, .val (.long p4), .second, .val (.long p5), .second, .val (.int (3 : Int32)), .val (.int (2 : Int32)), .val (.ref b1), .val (.int (1 : Int32))] [(.int (2 : Int32)), (.int (2 : Int32))])) _
        refine XS.icmpNo X108.here hx rfl (hb hby at_162) rfl (flt (by decide)).1 ?_
        show Steps p.tables e below (T108.setTop (mkF m 165 #[.val (.int p0), .val (.long p1), .second, .val (.long p2), .second, .val (.long p3), .second, .val (.long p4), .second, .val (.long p5), .second, .val (.int (3 : Int32)), .val (.int (2 : Int32)), .val (.ref b1), .val (.int (1 : Int32))] [])) _
        refine XS.iload X108.here hx rfl (hb hby at_165) rfl ?_
        show Steps p.tables e below (T108.setTop (mkF m 167 #[.val (.int p0), .val (.long p1), .second, .val (.long p2), .second, .val (.long p3), .second, .val (.long p4), .second, .val (.long p5), .second, .val (.int (3 : Int32)), .val (.int (2 : Int32)), .val (.ref b1), .val (.int (1 : Int32))] [(.int (1 : Int32))])) _
        refine XS.ifNo X108.here hx rfl (hb hby at_167) rfl ((if0 _ _).trans (feq (by decide)).1) ?_
        show Steps p.tables e below (T108.setTop (mkF m 170 #[.val (.int p0), .val (.long p1), .second, .val (.long p2), .second, .val (.long p3), .second, .val (.long p4), .second, .val (.long p5), .second, .val (.int (3 : Int32)), .val (.int (2 : Int32)), .val (.ref b1), .val (.int (1 : Int32))] [])) _
        refine XS.aload X108.here hx rfl (hb hby at_170) rfl rfl ?_
        show Steps p.tables e below (T108.setTop (mkF m 172 #[.val (.int p0), .val (.long p1), .second, .val (.long p2), .second, .val (.long p3), .second, .val (.long p4), .second, .val (.long p5), .second, .val (.int (3 : Int32)), .val (.int (2 : Int32)), .val (.ref b1), .val (.int (1 : Int32))] [(.ref b1)])) _
        refine XS.iconst X108.here hx rfl (hb hby at_172) ?_
        show Steps p.tables e below (T108.setTop (mkF m 173 #[.val (.int p0), .val (.long p1), .second, .val (.long p2), .second, .val (.long p3), .second, .val (.long p4), .second, .val (.long p5), .second, .val (.int (3 : Int32)), .val (.int (2 : Int32)), .val (.ref b1), .val (.int (1 : Int32))] [(.int (1 : Int32)), (.ref b1)])) _
        refine st109.trans ?_
        show Steps p.tables e below (T109.setTop (mkF m 176 #[.val (.int p0), .val (.long p1), .second, .val (.long p2), .second, .val (.long p3), .second, .val (.long p4), .second, .val (.long p5), .second, .val (.int (3 : Int32)), .val (.int (2 : Int32)), .val (.ref b1), .val (.int (1 : Int32))] [(.long p5)])) _
        refine XS.lload X109.here hx rfl (hb hby at_176) rfl ?_
        show Steps p.tables e below (T109.setTop (mkF m 178 #[.val (.int p0), .val (.long p1), .second, .val (.long p2), .second, .val (.long p3), .second, .val (.long p4), .second, .val (.long p5), .second, .val (.int (3 : Int32)), .val (.int (2 : Int32)), .val (.ref b1), .val (.int (1 : Int32))] [(.long p5), (.long p5)])) _
        refine XS.lcmp X109.here hx rfl (hb hby at_178) rfl ?_
        show Steps p.tables e below (T109.setTop (mkF m 179 #[.val (.int p0), .val (.long p1), .second, .val (.long p2), .second, .val (.long p3), .second, .val (.long p4), .second, .val (.long p5), .second, .val (.int (3 : Int32)), .val (.int (2 : Int32)), .val (.ref b1), .val (.int (1 : Int32))] [(.int (lcmpW p5 p5))])) _
        refine XS.ifNo X109.here hx rfl (hb hby at_179) rfl ((if0 _ _).trans (teq ((lw_eq _ _).mpr rfl)).2) ?_
        show Steps p.tables e below (T109.setTop (mkF m 182 #[.val (.int p0), .val (.long p1), .second, .val (.long p2), .second, .val (.long p3), .second, .val (.long p4), .second, .val (.long p5), .second, .val (.int (3 : Int32)), .val (.int (2 : Int32)), .val (.ref b1), .val (.int (1 : Int32))] [])) _
        refine XS.iconst X109.here hx rfl (hb hby at_182) ?_
        show Steps p.tables e below (T109.setTop (mkF m 183 #[.val (.int p0), .val (.long p1), .second, .val (.long p2), .second, .val (.long p3), .second, .val (.long p4), .second, .val (.long p5), .second, .val (.int (3 : Int32)), .val (.int (2 : Int32)), .val (.ref b1), .val (.int (1 : Int32))] [(.int (1 : Int32))])) _
        refine XS.goto X109.here hx rfl (pc0 := 183) (pc' := 187) rfl (hb hby at_183) (by decide) (by decide) ?_
        show Steps p.tables e below (T109.setTop (mkF m 187 #[.val (.int p0), .val (.long p1), .second, .val (.long p2), .second, .val (.long p3), .second, .val (.long p4), .second, .val (.long p5), .second, .val (.int (3 : Int32)), .val (.int (2 : Int32)), .val (.ref b1), .val (.int (1 : Int32))] [(.int (1 : Int32))])) _
        refine XS.istore X109.here hx rfl (hb hby at_187) rfl (l' := #[.val (.int p0), .val (.long p1), .second, .val (.long p2), .second, .val (.long p3), .second, .val (.long p4), .second, .val (.long p5), .second, .val (.int (3 : Int32)), .val (.int (2 : Int32)), .val (.ref b1), .val (.int (1 : Int32))]) rfl ?_
        show Steps p.tables e below (T109.setTop (mkF m 189 #[.val (.int p0), .val (.long p1), .second, .val (.long p2), .second, .val (.long p3), .second, .val (.long p4), .second, .val (.long p5), .second, .val (.int (3 : Int32)), .val (.int (2 : Int32)), .val (.ref b1), .val (.int (1 : Int32))] [])) _
        refine XS.iload X109.here hx rfl (hb hby at_189) rfl ?_
        exact Steps.refl _
      obtain ⟨fs, hr, hrun, hended, hW, hsame⟩ := X109.leave (v := some (.int (1 : Int32))) (fun h => by rw [Bd.returns] at h; cases h)
      refine ⟨_, _, s110.trans ?_, hrun, hended, _, _, rfl, ?_, ⟨_, rfl⟩, hW, hsame.mono (by decide) (by decide)⟩
      · show Steps p.tables e below (T109.setTop (mkF m 191 #[.val (.int p0), .val (.long p1), .second, .val (.long p2), .second, .val (.long p3), .second, .val (.long p4), .second, .val (.long p5), .second, .val (.int (3 : Int32)), .val (.int (2 : Int32)), .val (.ref b1), .val (.int (1 : Int32))] [(.int (1 : Int32))])) _
        exact retN X109 hx (t := .boolean) Bd.returns (by simp) (hb hby at_191) hr
      · show Q0 Z p0 p1 p2 p3 p4 p5 h0 n0 _ T109.heap _
        rw [e109]
        exact ⟨rfl, N109⟩
set_option maxRecDepth 65536 in
set_option maxHeartbeats 40000000 in
theorem comes_1 {Post : Tables → Env → Array Value → State → Outcome → State → Prop} (hpost : ∀ tb e args s v u, (limb_1_1.after args s (.returned v) u = true ∧ limb_1_2.after args s (.returned v) u = true ∧ True) → FrameEnd s (.returned v) u (Jvm.fieldLocs frame_1_writes args s ++ Jvm.arrayLocs frame_1_arrays args s ++ Jvm.staticLocs frame_1_statics s) 24 128 → Post tb e args s (.returned v) u) :
    ArmFor flags0 classFile x code maxLocals ret World_1 tables_1 room_1 Calls_1 rest_1 Pre_1 Post := by
  intro l hfl _ _ p e ha hc hk s m args below hf hA hF happ hP
  obtain ⟨hcalls, hrest, hpre⟩ := hP
  obtain ⟨-, -, -, hnamed, -, -, -, hat⟩ := (Spec.applies_iff hf).mp happ
  obtain ⟨hg, hn⟩ := and_e (Cond.before_iff.mp (show (Jvm.Cond.and given_1 narrow_1).before args s = true from hpre))
  obtain ⟨gc, gk0⟩ := and_e hg
  obtain ⟨ga0, gk1⟩ := and_e gk0
  obtain ⟨ga1, gk2⟩ := and_e gk1
  obtain ⟨ga2, gk3⟩ := and_e gk2
  obtain ⟨ga3, gk4⟩ := and_e gk3
  obtain ⟨ga4, gk5⟩ := and_e gk4
  obtain ⟨w0, w1, w2, w3, w4, w5, rfl⟩ : ∃ w0 w1 w2 w3 w4 w5 : Value, args = #[w0, w1, w2, w3, w4, w5] := by
    have hs : args.size = 6 := by simpa [Cond.value, given_1] using gc
    obtain ⟨L⟩ := args
    match L, hs with
    | [w0, w1, w2, w3, w4, w5], _ => exact ⟨w0, w1, w2, w3, w4, w5, rfl⟩
  have hw := fun d (hd : d ∈ tables_1) => atoms_spec (ws := Jvm.Cond.code x code maxLocals ret :: tables_1) hat d (List.mem_cons_of_mem _ hd)
  have hfit : Fit s := fun {y c} hc i hi => by
    obtain ⟨ha, rfl⟩ := Array.getElem?_eq_some_iff.mp hc
    have q := List.all_eq_true.mp ((Array.all_eq_true_iff_forall_mem.mp hF) _ (Array.getElem_mem ha)) i (List.mem_range.mpr hi)
    simpa [Array.getElem?_eq_getElem hi] using q
  obtain ⟨i0, ei0⟩ := is_v ga0
  obtain rfl : w0 = (.int i0) := Option.some.inj ei0
  obtain ⟨i1, ei1⟩ := isL_v ga1
  obtain rfl : w1 = (.long i1) := Option.some.inj ei1
  obtain ⟨i2, ei2⟩ := isL_v ga2
  obtain rfl : w2 = (.long i2) := Option.some.inj ei2
  obtain ⟨i3, ei3⟩ := isL_v ga3
  obtain rfl : w3 = (.long i3) := Option.some.inj ei3
  obtain ⟨i4, ei4⟩ := isL_v ga4
  obtain rfl : w4 = (.long i4) := Option.some.inj ei4
  obtain ⟨i5, ei5⟩ := isL_v gk5
  obtain rfl : w5 = (.long i5) := Option.some.inj ei5
  obtain ⟨n, o, h1, h2, h3, _, L, rfl, ⟨rfl, N⟩, hq⟩ := rm0 l s _ hw tables_1 i0 i1 i2 i3 i4 i5 s.heap s.heap.size (Old.start s) p e ha hc hk s m _ below hf ((Spec.applies_iff_loose hf).mp happ).1 ⟨rfl, State.Warmed39.refl s, rfl⟩ trivial
  refine ⟨n, _, h1, h2, h3, hpost _ _ _ _ _ _ ⟨Cond.after_iff.mpr rfl, Cond.after_iff.mpr (eq_i res_at (Term.int_eval (1)) rfl), trivial⟩ ⟨hq.1, hq.2.1, (hq.2.2.sift fun y hy => Or.inr (N y hy)).mono (by decide) (by decide)⟩⟩
theorem main_1_1 : Claimed_1_1 := comes_1 fun _ _ _ _ _ _ h hF => ⟨h.1, hF⟩
theorem main_1_2 : Claimed_1_2 := comes_1 fun _ _ _ _ _ _ h hF => ⟨h.2.1, hF⟩
end Jvm.Pilot.@@N@@
namespace Jvm.Pilot.@@N@@
open Jvm Jvm.ClassFile Sem Op Lib Jvm.Free Jvm.Stand Jvm.Pilot.@@N@@.Jvm.D
/-! MADE BY PROGRAM (witnessworld.py) out of the Statement's table words and the real class files: 11 classes; the members and pool entries that the words name. The judged class is class 1, her method 1. -/
namespace start1
open Jvm.ClassFile
def u (s : String) : CpInfo := .utf8 (stringToUtf16 s)
/-- a pool by its gaps: so many unusable entries, then the entry; so many at the end -/
def gap : Nat → List CpInfo → List CpInfo
  | 0, r => r
  | n + 1, r => .unusable :: gap n r
def poolList (es : List (Nat × CpInfo)) (last : Nat) : List CpInfo := es.foldr (fun e r => gap e.1 (e.2 :: r)) (gap last [])
def pool (es : List (Nat × CpInfo)) (last : Nat) : Array CpInfo := ⟨poolList es last⟩
def fileOf (pool : Array CpInfo) (this : Nat) (attrs : Array Attribute := #[]) (ms : Array MethodInfo := #[]) (fl : Nat := 33) (sup : Nat := 0) (ifs : Array Nat := #[]) (fds : Array FieldInfo := #[]) : ClassFile where
  minorVersion := 0
  majorVersion := 65
  constantPool := pool
  accessFlags := fl
  thisClass := this
  superClass := sup
  interfaces := ifs
  fields := fds
  methods := ms
  attributes := attrs
def plain (name : String) (sup : Option ClassId) : Class where
  name := name
  kind := .ordinary
  loader := none
  accessFlags := 33
  super := sup
  interfaces := #[]
  cf := none
  fields := #[]
  methods := #[]
  instanceTypes := #[]
  staticTypes := #[]
  resolved := #[]
  callSites := []
  init := .initialized
  statics := none
  mirror := none

def pool0 : Array CpInfo := pool [(5, u "<init>"), (0, u "()V"), (1, .class_ 10), (1, u "java/lang/Object")] 113

def k0c0 : Code := { maxStack := 0, maxLocals := 1, code := object_method_1_code, exceptionTable := #[], attributes := #[] }
def k0m0 : Method := { name := "<init>", desc := "()V", sig := { parameters := [], returnType := none }, accessFlags := 1, code := some k0c0 }
/-- java/lang/Object -/
def k0 : Class := { plain "java/lang/Object" none with
  accessFlags := 33
  interfaces := #[]
  cf := some (fileOf pool0 8 #[] #[{ accessFlags := 1, nameIndex := 5, descriptorIndex := 6, attributes := #[] }] 33 0 #[] #[])
  fields := #[]
  methods := #[k0m0]
  instanceTypes := #[]
  staticTypes := #[]
  resolved := Array.replicate 124 none
  statics := none }

def pool1 : Array CpInfo := pool [(2, .class_ 4), (0, .nameAndType 5 6), (0, u "java/lang/Object"), (0, u "<init>"), (0, u "()V"), (0, .integer 2147483647), (0, .class_ 9), (0, u "com/example/strikewire/strikewire/engine/LongList"), (0, .methodref 8 3), (0, .methodref 8 12), (0, .nameAndType 13 14), (0, u "add"), (0, u "(J)V"), (0, .methodref 8 16), (0, .nameAndType 17 6), (0, u "clear"), (0, .methodref 8 19), (0, .nameAndType 20 21), (0, u "size"), (0, u "()I"), (0, .methodref 8 23), (0, .nameAndType 24 25), (0, u "get"), (0, u "(I)J"), (0, .class_ 27), (0, u "com/example/strikewire/strikewire/engine/LongListClearPinLaw"), (2, u "law"), (0, u "(IJJJJJ)Z")] 3

def k1m0 : Method := { name := "<init>", desc := "()V", sig := { parameters := [], returnType := none }, accessFlags := 2, code := none }
def k1c1 : Code := { maxStack := 4, maxLocals := 15, code := code, exceptionTable := #[], attributes := #[] }
def k1m1 : Method := { name := "law", desc := "(IJJJJJ)Z", sig := { parameters := [.int, .long, .long, .long, .long, .long], returnType := some .boolean }, accessFlags := 9, code := some k1c1 }
/-- com/example/strikewire/strikewire/engine/LongListClearPinLaw -/
def k1 : Class := { plain "com/example/strikewire/strikewire/engine/LongListClearPinLaw" (some 0) with
  accessFlags := 49
  interfaces := #[]
  cf := some (fileOf pool1 26 #[] #[{ accessFlags := 2, nameIndex := 5, descriptorIndex := 6, attributes := #[] }, { accessFlags := 9, nameIndex := 30, descriptorIndex := 31, attributes := #[] }] 49 2 #[] #[])
  fields := #[]
  methods := #[k1m0, k1m1]
  instanceTypes := #[]
  staticTypes := #[]
  resolved := Array.replicate 35 none
  statics := none }

def pool2 : Array CpInfo := pool [(1, .class_ 2), (0, u "com/example/strikewire/strikewire/engine/LongList"), (0, .methodref 4 5), (0, .class_ 6), (0, .nameAndType 7 8), (0, u "java/lang/Object"), (0, u "<init>"), (0, u "()V"), (0, .class_ 10), (0, u "[[J"), (0, .fieldref 1 12), (0, .nameAndType 13 10), (0, u "mBlocks"), (0, .fieldref 1 15), (0, .nameAndType 16 17), (0, u "mSize"), (0, u "I"), (2, .integer 2147483647), (7, .integer 65535), (6, .integer 65536), (9, .methodref 1 46), (0, .nameAndType 47 48), (0, u "block"), (0, u "(I)I"), (7, u "BLOCK_BITS"), (2, u "BLOCK"), (0, u "FIRST_BLOCK"), (3, u "size"), (0, u "()I"), (0, u "add"), (0, u "(J)V"), (1, u "get"), (0, u "(I)J"), (2, u "clear")] 17

def k2c0 : Code := { maxStack := 3, maxLocals := 1, code := prog_19_method_1_code, exceptionTable := #[], attributes := #[] }
def k2m0 : Method := { name := "<init>", desc := "()V", sig := { parameters := [], returnType := none }, accessFlags := 1, code := some k2c0 }
def k2c1 : Code := { maxStack := 1, maxLocals := 1, code := prog_19_method_2_code, exceptionTable := #[], attributes := #[] }
def k2m1 : Method := { name := "size", desc := "()I", sig := { parameters := [], returnType := some .int }, accessFlags := 1, code := some k2c1 }
def k2c2 : Code := { maxStack := 6, maxLocals := 5, code := prog_19_method_3_code, exceptionTable := #[], attributes := #[] }
def k2m2 : Method := { name := "add", desc := "(J)V", sig := { parameters := [.long], returnType := none }, accessFlags := 1, code := some k2c2 }
def k2c3 : Code := { maxStack := 3, maxLocals := 2, code := prog_19_method_4_code, exceptionTable := #[], attributes := #[] }
def k2m3 : Method := { name := "get", desc := "(I)J", sig := { parameters := [.int], returnType := some .long }, accessFlags := 1, code := some k2c3 }
def k2c4 : Code := { maxStack := 3, maxLocals := 1, code := prog_19_method_6_code, exceptionTable := #[], attributes := #[] }
def k2m4 : Method := { name := "clear", desc := "()V", sig := { parameters := [], returnType := none }, accessFlags := 1, code := some k2c4 }
def k2c5 : Code := { maxStack := 4, maxLocals := 2, code := prog_19_method_7_code, exceptionTable := #[], attributes := #[] }
def k2m5 : Method := { name := "block", desc := "(I)I", sig := { parameters := [.int], returnType := some .int }, accessFlags := 2, code := some k2c5 }
/-- com/example/strikewire/strikewire/engine/LongList -/
def k2 : Class := { plain "com/example/strikewire/strikewire/engine/LongList" (some 0) with
  accessFlags := 49
  interfaces := #[]
  cf := some (fileOf pool2 1 #[] #[{ accessFlags := 1, nameIndex := 7, descriptorIndex := 8, attributes := #[] }, { accessFlags := 1, nameIndex := 64, descriptorIndex := 65, attributes := #[] }, { accessFlags := 1, nameIndex := 66, descriptorIndex := 67, attributes := #[] }, { accessFlags := 1, nameIndex := 69, descriptorIndex := 70, attributes := #[] }, { accessFlags := 1, nameIndex := 73, descriptorIndex := 8, attributes := #[] }, { accessFlags := 2, nameIndex := 47, descriptorIndex := 48, attributes := #[] }] 49 4 #[] #[{ accessFlags := 26, nameIndex := 56, descriptorIndex := 17, attributes := #[] }, { accessFlags := 26, nameIndex := 59, descriptorIndex := 17, attributes := #[] }, { accessFlags := 26, nameIndex := 60, descriptorIndex := 17, attributes := #[] }, { accessFlags := 2, nameIndex := 13, descriptorIndex := 10, attributes := #[] }, { accessFlags := 2, nameIndex := 16, descriptorIndex := 17, attributes := #[] }])
  fields := #[{ name := "BLOCK_BITS", type := .int, accessFlags := 26, slot := 0, constantValue := 0 }, { name := "BLOCK", type := .int, accessFlags := 26, slot := 1, constantValue := 0 }, { name := "FIRST_BLOCK", type := .int, accessFlags := 26, slot := 2, constantValue := 0 }, { name := "mBlocks", type := (.array (.array .long)), accessFlags := 2, slot := 0, constantValue := 0 }, { name := "mSize", type := .int, accessFlags := 2, slot := 1, constantValue := 0 }]
  methods := #[k2m0, k2m1, k2m2, k2m3, k2m4, k2m5]
  instanceTypes := #[(.array (.array .long)), .int]
  staticTypes := #[.int, .int, .int]
  resolved := Array.replicate 91 none
  statics := none }

def pool3 : Array CpInfo := pool [(1, u "java/lang/Cloneable"), (0, .class_ 1), (0, u "java/lang/Object"), (0, .class_ 3)] 3

/-- java/lang/Cloneable -/
def k3 : Class := { plain "java/lang/Cloneable" (some 0) with
  accessFlags := 1537
  interfaces := #[]
  cf := some (fileOf pool3 2 #[] #[] 1537 4 #[] #[])
  fields := #[]
  methods := #[]
  instanceTypes := #[]
  staticTypes := #[]
  resolved := Array.replicate 8 none
  statics := none }

def pool4 : Array CpInfo := pool [(1, u "java/io/Serializable"), (0, .class_ 1), (0, u "java/lang/Object"), (0, .class_ 3)] 3

/-- java/io/Serializable -/
def k4 : Class := { plain "java/io/Serializable" (some 0) with
  accessFlags := 1537
  interfaces := #[]
  cf := some (fileOf pool4 2 #[] #[] 1537 4 #[] #[])
  fields := #[]
  methods := #[]
  instanceTypes := #[]
  staticTypes := #[]
  resolved := Array.replicate 8 none
  statics := none }

/-- the primitive byte -/
def k5 : Class := { plain "byte" none with kind := .primitive 'B', accessFlags := 0x411 }
/-- [B -/
def k6 : Class := { plain "[B" (some 0) with kind := .array 5 .byte, interfaces := #[3, 4], accessFlags := 1041 }

/-- the primitive int -/
def k7 : Class := { plain "int" none with kind := .primitive 'I', accessFlags := 0x411 }
/-- [I -/
def k8 : Class := { plain "[I" (some 0) with kind := .array 7 .int, interfaces := #[3, 4], accessFlags := 1041 }

/-- the primitive long -/
def k9 : Class := { plain "long" none with kind := .primitive 'J', accessFlags := 0x411 }
/-- [J -/
def k10 : Class := { plain "[J" (some 0) with kind := .array 9 .long, interfaces := #[3, 4], accessFlags := 1041 }

/-- [[J -/
def k11 : Class := { plain "[[J" (some 0) with kind := .array 10 (.array .long), interfaces := #[3, 4], accessFlags := 1041 }
def heap : Heap := #[]
def classes : Array Class := #[k0, k1, k2, k3, k4, k5, k6, k7, k8, k9, k10, k11]
def interned : List (Array UInt16 × Addr) := []
def slotsUsed : Nat := 0
def theMethod : MethodId := ⟨1, 1⟩
def args0 : Array Value := #[.int 63, .long 5, .long 6, .long 7, .long 8, .long 9]
def aboutOver (below : List Frame) : State where
  vm := { classes := classes, interned := interned.toArray }
  heap := heap
  slotsUsed := slotsUsed
  threads := #[{ frames := .invoking theMethod args0 :: below }]
def below0 : List Frame := [.native { method := ⟨0, 0⟩, args := #[] }]
def about1 : State := aboutOver below0
def p0 : Program := .bare "" "" ""
def e0 : Env := launch0.env 0 0 0
theorem w_frames : about1.frames = Frame.invoking theMethod args0 :: below0 := rfl
set_option maxRecDepth 65536 in
theorem w_args : argsFit about1.vm theMethod args0 = true := by decide +kernel
set_option maxRecDepth 65536 in
theorem w_heap : heapFits about1 = true := by decide +kernel
set_option maxRecDepth 65536 in
theorem w_runnable : about1.curStatus? = some .runnable := by decide +kernel
set_option maxRecDepth 65536 in
theorem w_alone : about1.alone = true := by decide +kernel
set_option maxRecDepth 65536 in
theorem w_named : about1.methodNamed? x = some theMethod := by decide +kernel
set_option maxRecDepth 65536 in
theorem w_hears : about1.hears theMethod below0 = true := by decide +kernel
set_option maxRecDepth 65536 in
theorem w_ripe : about1.ripe theMethod args0 below0 = true := by decide +kernel
theorem w_running : about1.status = .running := rfl
set_option maxRecDepth 65536 in
theorem w_room : about1.hasRoom e0.platform room_1 = true :=
  launch0.hasRoom_least _ room_1 (by decide +kernel) (by decide +kernel) (by decide +kernel) (by decide +kernel) (by decide +kernel) (by decide +kernel)
theorem allAtoms_all (ts : List Jvm.Cond) (a : Array Jvm.Value) (st : Jvm.State) : (allAtoms ts).before a st = ts.all (fun c => c.before a st) := by
  induction ts with
  | nil => rfl
  | cons c t ih =>
    show (Jvm.Cond.and c (allAtoms t)).before a st = _
    rw [Jvm.Cond.before_and, ih, List.all_cons]
def words1 : List Jvm.Cond := Jvm.Cond.code x code maxLocals ret :: tables_1
/-- a 'code' word, met by the world's own term for the bytes: nothing is compared byte by byte -/
theorem code_word {y : MethodName} {bytes : ByteArray} {mx : Nat} {rt : Option FieldType} {a : Array Value} {s : State} {m : MethodId} {meth : Method} {c : Code} (h1 : s.methodNamed? y = some m) (h2 : s.vm.method? m = some meth) (h3 : meth.code = some c) (h4 : c.code = bytes)
    (h5 : (c.maxLocals == mx && c.exceptionTable.isEmpty && decide (c.maxStack ≤ mostOperands) && decide (meth.sig.returnType = rt) && !meth.locks && decide (parseMethodDescriptor y.desc = some meth.sig)) = true) : (Jvm.Cond.code y bytes mx rt).before a s = true := by
  simp only [Bool.and_eq_true, beq_iff_eq, Bool.not_eq_true', decide_eq_true_eq] at h5
  obtain ⟨⟨⟨⟨⟨g1, g2⟩, g3⟩, g4⟩, g5⟩, g6⟩ := h5
  simp [Cond.before, Cond.holds, Cond.value, h1, h2, h3, h4, g1, g2, g3, g4, g5, g6]
def isCode : Jvm.Cond → Bool
  | .code _ _ _ _ => true
  | _ => false
theorem all_split {L : List Jvm.Cond} {P : Jvm.Cond → Bool} (h1 : L.all (fun c => isCode c || P c) = true) (h2 : ∀ c ∈ L.filter isCode, P c = true) : L.all P = true := by
  refine List.all_eq_true.mpr fun c hc => ?_
  have h := List.all_eq_true.mp h1 c hc
  rcases Bool.eq_false_or_eq_true (isCode c) with hi | hi
  · exact h2 c (List.mem_filter.mpr ⟨hc, hi⟩)
  · simpa [hi] using h
set_option maxRecDepth 65536 in
theorem w_c0 : (Jvm.Cond.code x code maxLocals ret).before args0 about1 = true := code_word (m := ⟨1, 1⟩) (meth := k1m1) (c := k1c1) (by decide +kernel) rfl rfl rfl (by decide +kernel)
set_option maxRecDepth 65536 in
theorem w_c1 : (Jvm.Cond.code ({ cls := "com/example/strikewire/strikewire/engine/LongList", name := "<init>", desc := "()V" } : Jvm.MethodName) prog_19_method_1_code (1 : Nat) (Option.none : Option Jvm.ClassFile.FieldType)).before args0 about1 = true := code_word (m := ⟨2, 0⟩) (meth := k2m0) (c := k2c0) (by decide +kernel) rfl rfl rfl (by decide +kernel)
set_option maxRecDepth 65536 in
theorem w_c2 : (Jvm.Cond.code ({ cls := "java/lang/Object", name := "<init>", desc := "()V" } : Jvm.MethodName) object_method_1_code (1 : Nat) (Option.none : Option Jvm.ClassFile.FieldType)).before args0 about1 = true := code_word (m := ⟨0, 0⟩) (meth := k0m0) (c := k0c0) (by decide +kernel) rfl rfl rfl (by decide +kernel)
set_option maxRecDepth 65536 in
theorem w_c3 : (Jvm.Cond.code ({ cls := "com/example/strikewire/strikewire/engine/LongList", name := "clear", desc := "()V" } : Jvm.MethodName) prog_19_method_6_code (1 : Nat) (Option.none : Option Jvm.ClassFile.FieldType)).before args0 about1 = true := code_word (m := ⟨2, 4⟩) (meth := k2m4) (c := k2c4) (by decide +kernel) rfl rfl rfl (by decide +kernel)
set_option maxRecDepth 65536 in
theorem w_c4 : (Jvm.Cond.code ({ cls := "com/example/strikewire/strikewire/engine/LongList", name := "size", desc := "()I" } : Jvm.MethodName) prog_19_method_2_code (1 : Nat) (Option.some Jvm.ClassFile.FieldType.int)).before args0 about1 = true := code_word (m := ⟨2, 1⟩) (meth := k2m1) (c := k2c1) (by decide +kernel) rfl rfl rfl (by decide +kernel)
set_option maxRecDepth 65536 in
theorem w_c5 : (Jvm.Cond.code ({ cls := "com/example/strikewire/strikewire/engine/LongList", name := "add", desc := "(J)V" } : Jvm.MethodName) prog_19_method_3_code (5 : Nat) (Option.none : Option Jvm.ClassFile.FieldType)).before args0 about1 = true := code_word (m := ⟨2, 2⟩) (meth := k2m2) (c := k2c2) (by decide +kernel) rfl rfl rfl (by decide +kernel)
set_option maxRecDepth 65536 in
theorem w_c6 : (Jvm.Cond.code ({ cls := "com/example/strikewire/strikewire/engine/LongList", name := "get", desc := "(I)J" } : Jvm.MethodName) prog_19_method_4_code (2 : Nat) (Option.some Jvm.ClassFile.FieldType.long)).before args0 about1 = true := code_word (m := ⟨2, 3⟩) (meth := k2m3) (c := k2c3) (by decide +kernel) rfl rfl rfl (by decide +kernel)
set_option maxRecDepth 65536 in
theorem w_c7 : (Jvm.Cond.code ({ cls := "com/example/strikewire/strikewire/engine/LongList", name := "block", desc := "(I)I" } : Jvm.MethodName) prog_19_method_7_code (2 : Nat) (Option.some Jvm.ClassFile.FieldType.int)).before args0 about1 = true := code_word (m := ⟨2, 5⟩) (meth := k2m5) (c := k2c5) (by decide +kernel) rfl rfl rfl (by decide +kernel)
def codes1 : List Jvm.Cond := [Jvm.Cond.code x code maxLocals ret, Jvm.Cond.code ({ cls := "com/example/strikewire/strikewire/engine/LongList", name := "<init>", desc := "()V" } : Jvm.MethodName) prog_19_method_1_code (1 : Nat) (Option.none : Option Jvm.ClassFile.FieldType), Jvm.Cond.code ({ cls := "java/lang/Object", name := "<init>", desc := "()V" } : Jvm.MethodName) object_method_1_code (1 : Nat) (Option.none : Option Jvm.ClassFile.FieldType), Jvm.Cond.code ({ cls := "com/example/strikewire/strikewire/engine/LongList", name := "clear", desc := "()V" } : Jvm.MethodName) prog_19_method_6_code (1 : Nat) (Option.none : Option Jvm.ClassFile.FieldType), Jvm.Cond.code ({ cls := "com/example/strikewire/strikewire/engine/LongList", name := "size", desc := "()I" } : Jvm.MethodName) prog_19_method_2_code (1 : Nat) (Option.some Jvm.ClassFile.FieldType.int), Jvm.Cond.code ({ cls := "com/example/strikewire/strikewire/engine/LongList", name := "add", desc := "(J)V" } : Jvm.MethodName) prog_19_method_3_code (5 : Nat) (Option.none : Option Jvm.ClassFile.FieldType), Jvm.Cond.code ({ cls := "com/example/strikewire/strikewire/engine/LongList", name := "get", desc := "(I)J" } : Jvm.MethodName) prog_19_method_4_code (2 : Nat) (Option.some Jvm.ClassFile.FieldType.long), Jvm.Cond.code ({ cls := "com/example/strikewire/strikewire/engine/LongList", name := "block", desc := "(I)I" } : Jvm.MethodName) prog_19_method_7_code (2 : Nat) (Option.some Jvm.ClassFile.FieldType.int)]
set_option maxRecDepth 65536 in
theorem codes_eq : words1.filter isCode = codes1 := rfl
theorem w_codes : ∀ c ∈ words1.filter isCode, c.before args0 about1 = true := by
  rw [codes_eq]
  intro c hc
  simp only [codes1, List.mem_cons, List.not_mem_nil, or_false] at hc
  rcases hc with rfl | rfl | rfl | rfl | rfl | rfl | rfl | rfl
  · exact w_c0
  · exact w_c1
  · exact w_c2
  · exact w_c3
  · exact w_c4
  · exact w_c5
  · exact w_c6
  · exact w_c7
set_option maxRecDepth 65536 in
theorem w_t1 : (words1.take 24).all (fun c => isCode c || c.before args0 about1) = true := by decide +kernel
set_option maxRecDepth 65536 in
theorem w_t2 : (words1.drop 24).all (fun c => isCode c || c.before args0 about1) = true := by decide +kernel
theorem w_tables : (allAtoms (Jvm.Cond.code x code maxLocals ret :: tables_1)).before args0 about1 = true := by
  rw [allAtoms_all]
  show words1.all (fun c => c.before args0 about1) = true
  refine all_split ?_ w_codes
  rw [← List.take_append_drop 24 words1, List.all_append, w_t1, w_t2]
  rfl
set_option maxRecDepth 65536 in
theorem w_case : (Jvm.Cond.and given_1 narrow_1).before args0 about1 = true := by decide +kernel
theorem w_applies : (headSpec (Jvm.Cond.code x code maxLocals ret :: tables_1) room_1).applies x e0.platform about1 = true :=
  (Spec.applies_iff w_frames).mpr ⟨w_running, w_runnable, w_alone, w_named, w_hears, w_ripe, w_room, w_tables⟩
theorem atStart : AtStart classFile x code maxLocals ret World_1 tables_1 room_1 Calls_1 rest_1 Pre_1 launch0 p0 e0 about1 theMethod args0 below0 :=
  ⟨lists_1, trivial, launch0.admits_env _ _ _, launch0.least_env, fairChoices_fair.cas, fairChoices_fair.clock, w_frames, w_args, w_heap, w_applies, trivial, trivial, w_case⟩
end start1
theorem witness_1 : WitnessClaimed_1 := ⟨start1.p0, start1.e0, start1.about1, start1.theMethod, start1.args0, start1.below0, start1.atStart⟩
end Jvm.Pilot.@@N@@
