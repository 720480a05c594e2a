import JvmDerived
import JvmDerived.Pilot.@@N@@Statement
import JvmDerived.Pilot.@@N@@Code
set_option linter.unusedVariables false
set_option linter.unusedSimpArgs false
namespace Jvm.RoadKit
open Sem ClassFile Op Lib Jvm.Stand Jvm.Free Jvm.LawKit
section New
variable {p : Program} {l : Launch} {e : Env} {R : Room} {s : State} {m : MethodId} {args : Array Value} {below : List Frame} {meth : Method} {c : Code} {T : State} {locs : List Loc} {cells slots : Nat}
theorem retI (X : Stand p l e R s m args below meth c T locs cells slots) (hx : p.tables.exec = Jvm.exec) {pc : Nat} {Ls : Array Slot} {z : Int32} {rest : List Value} (hret : meth.sig.returnType = some .int) (hd : decode c.code pc = .ok (.ireturn, 1)) {fs : List Frame}
    (hl : ∀ (f : JFrame) (acts : List Action), f.method = m → f.locked = none → f.entered = [] → (doReturn e (T.setTop f) acts (some (.int z))).1 = T.setFrames fs) : Steps p.tables e below (T.setTop (mkF m pc Ls (.int z :: rest))) (T.setFrames fs) := by
  have hm' : T.vm.method? m = some meth := X.method'
  have hn : narrow .int (.int z) = .int z := rfl
  show Steps p.tables e below (T.setTop { method := m, pc := pc, locals := Ls, stack := _ :: rest, locked := none }) _
  jvm_step X.here [X.here.top, hx, hd, hm', hret, hn]
  first | (intro acts; rw [hl _ acts rfl rfl rfl]) | rw [hl _ _ rfl rfl rfl]
  exact Steps.refl _
end New
end Jvm.RoadKit
namespace Jvm.Pilot.@@N@@
open Jvm Jvm.ClassFile Sem Op Lib Jvm.Free Jvm.Stand Jvm.LawKit Jvm.RoadKit Bundle Jvm.Pilot.@@N@@.Jvm.D
def own_at (xs : List Int32) (j : Int32) : Int32 := xs.getD j.toNatClampNeg 0
theorem own_getD (xs : List Int32) (i : Nat) : (xs.map Value.int).getD i (.int (0 : Int32)) = .int (xs.getD i 0) := by
  induction xs generalizing i with
  | nil => rfl
  | cons a t ih => cases i with
    | zero => rfl
    | succ n => exact ih n
theorem own_k0 : (0 : Int32).toInt = 0 := rfl
theorem own_k1 : (1 : Int32).toInt = 1 := rfl
theorem own_k2 : (2 : Int32).toInt = 2 := rfl
theorem own_k3 : (3 : Int32).toInt = 3 := rfl
theorem own_k4 : (4 : Int32).toInt = 4 := rfl
theorem own_k5 : (5 : Int32).toInt = 5 := rfl
theorem own_k6 : (6 : Int32).toInt = 6 := rfl
theorem own_and3 (p : Int32) : (p &&& (3 : Int32)) = (0 : Int32) ∨ (p &&& (3 : Int32)) = (1 : Int32) ∨ (p &&& (3 : Int32)) = (2 : Int32) ∨ (p &&& (3 : Int32)) = (3 : Int32) := by
  have h1 := c_mask p 3 2 (by decide) (by decide)
  simp only [← Int32.toInt_inj, own_k0, own_k1, own_k2, own_k3]
  omega
theorem d1_0 : decode prog_38_method_1_code 0 = .ok (.aload_n 0, 1) := by decide +kernel
theorem d1_1 : decode prog_38_method_1_code 1 = .ok (.invokespecial 1, 3) := by decide +kernel
theorem d1_4 : decode prog_38_method_1_code 4 = .ok (.aload_n 0, 1) := by decide +kernel
theorem d1_5 : decode prog_38_method_1_code 5 = .ok (.aload_n 1, 1) := by decide +kernel
theorem d1_6 : decode prog_38_method_1_code 6 = .ok (.putfield 7, 3) := by decide +kernel
theorem d1_9 : decode prog_38_method_1_code 9 = .ok (.aload_n 0, 1) := by decide +kernel
theorem d1_10 : decode prog_38_method_1_code 10 = .ok (.aload_n 2, 1) := by decide +kernel
theorem d1_11 : decode prog_38_method_1_code 11 = .ok (.putfield 13, 3) := by decide +kernel
theorem d1_14 : decode prog_38_method_1_code 14 = .ok (.return_, 1) := by decide +kernel
theorem pn_1 : plainName "com/example/odds_on_axioms/oddsonaxioms/network/Condition" = true := by first | (simp [plainName, overriddenIn]; done) | decide +kernel
theorem ef_rm1 (m : MethodId) (p0 : Addr) (p1 : Addr) (p2 : Addr) : entryFrame m #[(.ref p0), (.ref p1), (.ref p2)] 3 = mkF m 0 #[.val (.ref p0), .val (.ref p1), .val (.ref p2)] [] := by first | (simp [entryFrame, mkF, argsToLocals, Value.category]; done) | rfl
def Q1 (Z : State) (p0 : Addr) (p1 : Addr) (p2 : Addr) (h0 : Heap) (n0 : Nat) (v : Option Value) (h : Heap) (L : List Loc) : Prop := v = none ∧ Fr n0 L ∧ Keep h0 h [p0] ∧ (Exa Z h p0 "com/example/odds_on_axioms/oddsonaxioms/network/Condition") ∧ (Fld Z h p0 "com/example/odds_on_axioms/oddsonaxioms/network/Condition" "positions" "[I" (.ref p1)) ∧ (Fld Z h p0 "com/example/odds_on_axioms/oddsonaxioms/network/Condition" "states" "[I" (.ref p2))
set_option maxRecDepth 65536 in
set_option maxHeartbeats 40000000 in
theorem rm1 (l : Launch) (Z : State) (a0 : Array Value) (hw : ∀ d ∈ tables_1, d.before a0 Z = true) (ws : List Jvm.Cond) (p0 : Addr) (p1 : Addr) (p2 : Addr) (h0 : Heap) (n0 : Nat) (O0 : Old Z n0 h0) (F0_ : Exa Z h0 p0 "com/example/odds_on_axioms/oddsonaxioms/network/Condition") (F1_ : Fld Z h0 p0 "com/example/odds_on_axioms/oddsonaxioms/network/Condition" "positions" "[I" .null) (F2_ : Fld Z h0 p0 "com/example/odds_on_axioms/oddsonaxioms/network/Condition" "states" "[I" .null) (F3_ : n0 ≤ p0) :
    MetFree l (⟨"com/example/odds_on_axioms/oddsonaxioms/network/Condition", "<init>", "([I[I)V"⟩ : MethodName) (head1 (Jvm.Cond.code (⟨"com/example/odds_on_axioms/oddsonaxioms/network/Condition", "<init>", "([I[I)V"⟩ : MethodName) prog_38_method_1_code 3 none :: ws) ({ frames := 1, cells := 0, slots := 0, locals := 12 } : Room)) (fun a U => a = #[(.ref p0), (.ref p1), (.ref p2)] ∧ Z.Warmed39 U.vm ∧ U.heap = h0) (fun _ _ _ _ _ => True) (fun _ U o U' => ∃ v L, o = .returned v ∧ Q1 Z p0 p1 p2 h0 n0 v U'.heap L ∧ FrameEnd U o U' L ({ frames := 1, cells := 0, slots := 0, locals := 12 } : Room).cells ({ frames := 1, cells := 0, slots := 0, locals := 12 } : Room).slots) := by
  refine MetFree.of_bodySF (plainFor_of_name pn_1) hisR ?_
  intro p e s m args below meth c s₁ Bd hml0 hP hK
  obtain ⟨rfl, hZ, hh⟩ := hP
  have hx := Bd.exec
  have hby := Bd.bytes
  have hml : c.maxLocals = 3 := hml0
  have hown : s.vm.findClass "com/example/odds_on_axioms/oddsonaxioms/network/Condition" = some m.cls := findClass_of_methodNamed Bd.named
  have hnm := (name_of_methodNamed Bd.named Bd.method).1
  have X0 : Stand p l e ({ frames := 1, cells := 0, slots := 0, locals := 12 } : Room) s m #[(.ref p0), (.ref p1), (.ref p2)] below meth c s₁ [] 0 0 := Stand.of_body Bd
  have e0 : s₁.heap = h0 := by rw [← hh, Bd.state]; rfl
  have N0 := Fr.nil n0
  have s0 : Steps p.tables e below (s₁.setTop (entryFrame m #[(.ref p0), (.ref p1), (.ref p2)] 3)) (s₁.setTop (mkF m 0 #[.val (.ref p0), .val (.ref p1), .val (.ref p2)] [])) := castTop (ef_rm1 m p0 p1 p2) (Steps.refl _)
  obtain ⟨T1, X1, e1, st1⟩ := initO X0 hx hZ hown (hw _ (List.mem_of_getElem? (i := 7) rfl)) (hw _ (List.mem_of_getElem? (i := 8) rfl)) (hw _ (List.mem_of_getElem? (i := 9) rfl)) e0 (g := (mkF m 1 #[.val (.ref p0), .val (.ref p1), .val (.ref p2)] [(.ref p0)])) rfl (by rw [hml]; rfl) rfl (hb hby d1_1) (by decide) (W := 0) (by show 2 * 0 + _ ≤ _; exact Nat.le_of_eq rfl) (by decide)
  obtain ⟨T2, h2, X2, e2, W2, st2⟩ := putF X1 hx hZ hown (host := "") (Or.inl (hw _ (List.mem_of_getElem? (i := 10) rfl))) Via.refl e1 F1_ F0_ (Or.inr ⟨(hw _ (List.mem_of_getElem? (i := 11) rfl)), rfl, hnm⟩) (hw _ (List.mem_of_getElem? (i := 2) rfl)) (ty := (.array .int)) (by decide) rfl rfl (g := (mkF m 6 #[.val (.ref p0), .val (.ref p1), .val (.ref p2)] [(.ref p1), (.ref p0)])) rfl rfl (hb hby d1_6)
  have Fw2 := F1_.same W2
  have O2 := O0.wr W2 F3_
  have K2 : Keep h0 h2 [p0] := (Keep.refl h0 [p0]).wr W2 (Or.inl (List.mem_of_getElem? (i := 0) rfl))
  have N2 := Fr.snoc X2 N0 F3_
  have c3 : Exa Z h2 p0 "com/example/odds_on_axioms/oddsonaxioms/network/Condition" := (F0_.wr W2)
  have c4 : Fld Z h2 p0 "com/example/odds_on_axioms/oddsonaxioms/network/Condition" "states" "[I" .null := (F2_.other W2 (Or.inr (slot_ne (Or.inr (hw _ (List.mem_of_getElem? (i := 13) rfl))) (Or.inr (hw _ (List.mem_of_getElem? (i := 11) rfl))) (by decide) (t := (.array .int)) (t' := (.array .int)) (by decide) (by decide))))
  obtain ⟨T5, h5, X5, e5, W5, st5⟩ := putF X2 hx hZ hown (host := "") (Or.inl (hw _ (List.mem_of_getElem? (i := 12) rfl))) Via.refl e2 c4 c3 (Or.inr ⟨(hw _ (List.mem_of_getElem? (i := 13) rfl)), rfl, hnm⟩) (hw _ (List.mem_of_getElem? (i := 2) rfl)) (ty := (.array .int)) (by decide) rfl rfl (g := (mkF m 11 #[.val (.ref p0), .val (.ref p1), .val (.ref p2)] [(.ref p2), (.ref p0)])) rfl rfl (hb hby d1_11)
  have Fw5 := c4.same W5
  have O5 := O2.wr W5 F3_
  have K5 : Keep h0 h5 [p0] := K2.wr W5 (Or.inl (List.mem_of_getElem? (i := 0) rfl))
  have N5 := Fr.snoc X5 N2 F3_
  have s6 : Steps p.tables e below (s₁.setTop (entryFrame m #[(.ref p0), (.ref p1), (.ref p2)] 3)) (T5.setTop (mkF m 14 #[.val (.ref p0), .val (.ref p1), .val (.ref p2)] [])) := by
    refine s0.trans ?_
    show Steps p.tables e below (s₁.setTop (mkF m 0 #[.val (.ref p0), .val (.ref p1), .val (.ref p2)] [])) _
    refine XS.aloadN X0.here hx rfl (hb hby d1_0) rfl rfl ?_
    show Steps p.tables e below (s₁.setTop (mkF m 1 #[.val (.ref p0), .val (.ref p1), .val (.ref p2)] [(.ref p0)])) _
    refine st1 _ ?_
    show Steps p.tables e below (T1.setTop (mkF m 4 #[.val (.ref p0), .val (.ref p1), .val (.ref p2)] [])) _
    refine XS.aloadN X1.here hx rfl (hb hby d1_4) rfl rfl ?_
    show Steps p.tables e below (T1.setTop (mkF m 5 #[.val (.ref p0), .val (.ref p1), .val (.ref p2)] [(.ref p0)])) _
    refine XS.aloadN X1.here hx rfl (hb hby d1_5) rfl rfl ?_
    show Steps p.tables e below (T1.setTop (mkF m 6 #[.val (.ref p0), .val (.ref p1), .val (.ref p2)] [(.ref p1), (.ref p0)])) _
    refine st2 _ ?_
    show Steps p.tables e below (T2.setTop (mkF m 9 #[.val (.ref p0), .val (.ref p1), .val (.ref p2)] [])) _
    refine XS.aloadN X2.here hx rfl (hb hby d1_9) rfl rfl ?_
    show Steps p.tables e below (T2.setTop (mkF m 10 #[.val (.ref p0), .val (.ref p1), .val (.ref p2)] [(.ref p0)])) _
    refine XS.aloadN X2.here hx rfl (hb hby d1_10) rfl rfl ?_
    show Steps p.tables e below (T2.setTop (mkF m 11 #[.val (.ref p0), .val (.ref p1), .val (.ref p2)] [(.ref p2), (.ref p0)])) _
    refine st5 _ ?_
    exact Steps.refl _
  have c7 : Exa Z h5 p0 "com/example/odds_on_axioms/oddsonaxioms/network/Condition" := (c3.wr W5)
  have c8 : Fld Z h5 p0 "com/example/odds_on_axioms/oddsonaxioms/network/Condition" "positions" "[I" (.ref p1) := (Fw2.other W5 (Or.inr (slot_ne (Or.inr (hw _ (List.mem_of_getElem? (i := 11) rfl))) (Or.inr (hw _ (List.mem_of_getElem? (i := 13) rfl))) (by decide) (t := (.array .int)) (t' := (.array .int)) (by decide) (by decide))))
  obtain ⟨fs, hr, hrun, hended, hW, hsame⟩ := X5.leave (v := none) (fun _ => rfl)
  refine ⟨_, _, s6.trans ?_, hrun, hended, _, _, rfl, ?_, ⟨_, rfl⟩, hW, hsame.mono (by decide) (by decide)⟩
  · show Steps p.tables e below (T5.setTop (mkF m 14 #[.val (.ref p0), .val (.ref p1), .val (.ref p2)] [])) _
    exact X5.returnOut hx Bd.returns (hb hby d1_14) hr
  · show Q1 Z p0 p1 p2 h0 n0 _ T5.heap _
    rw [e5]
    exact ⟨rfl, N5, K5, c7, c8, Fw5⟩
theorem d3_0 : decode prog_38_method_6_code 0 = .ok (.iconst 0, 1) := by decide +kernel
theorem d3_1 : decode prog_38_method_6_code 1 = .ok (.istore_n 2, 1) := by decide +kernel
theorem d3_2 : decode prog_38_method_6_code 2 = .ok (.iload_n 2, 1) := by decide +kernel
theorem d3_3 : decode prog_38_method_6_code 3 = .ok (.aload_n 0, 1) := by decide +kernel
theorem d3_4 : decode prog_38_method_6_code 4 = .ok (.getfield 7, 3) := by decide +kernel
theorem d3_7 : decode prog_38_method_6_code 7 = .ok (.arraylength, 1) := by decide +kernel
theorem d3_8 : decode prog_38_method_6_code 8 = .ok (.if_icmp .ge 28, 3) := by decide +kernel
theorem d3_36 : decode prog_38_method_6_code 36 = .ok (.iconst 1, 1) := by decide +kernel
theorem d3_37 : decode prog_38_method_6_code 37 = .ok (.ireturn, 1) := by decide +kernel
theorem ef_rmh0 (m : MethodId) (p0 : Addr) (p1 : Addr) : entryFrame m #[(.ref p0), (.ref p1)] 3 = mkF m 0 #[.val (.ref p0), .val (.ref p1), .unset] [] := by first | (simp [entryFrame, mkF, argsToLocals, Value.category]; done) | rfl
def Qh0 (Z : State) (p0 : Addr) (p1 : Addr) (b1 : Addr) (b2 : Addr) (k1 : ClassId) (k2 : ClassId) (k3 : ClassId) (x0 : Int32) (x1 : Int32) (x2 : Int32) (x3 : Int32) (x4 : Int32) (x5 : Int32) (h0 : Heap) (n0 : Nat) (v : Option Value) (h : Heap) (L : List Loc) : Prop := v = some (.int (1 : Int32)) ∧ Fr n0 L ∧ h = h0
set_option maxRecDepth 65536 in
set_option maxHeartbeats 40000000 in
theorem rmh0 (l : Launch) (Z : State) (a0 : Array Value) (hw : ∀ d ∈ tables_1, d.before a0 Z = true) (ws : List Jvm.Cond) (p0 : Addr) (p1 : Addr) (b1 : Addr) (b2 : Addr) (k1 : ClassId) (k2 : ClassId) (k3 : ClassId) (x0 : Int32) (x1 : Int32) (x2 : Int32) (x3 : Int32) (x4 : Int32) (x5 : Int32) (h0 : Heap) (n0 : Nat) (O0 : Old Z n0 h0) (F0_ : Fld Z h0 p0 "com/example/odds_on_axioms/oddsonaxioms/network/Condition" "positions" "[I" (.ref b1)) (F1_ : Fld Z h0 p0 "com/example/odds_on_axioms/oddsonaxioms/network/Condition" "states" "[I" (.ref b2)) (F2_ : Arv Z h0 b1 k1 .int (0 : Int32) [] (.int (0 : Int32))) (F3_ : Arv Z h0 b2 k2 .int (0 : Int32) [] (.int (0 : Int32))) (F4_ : Arv Z h0 p1 k3 .int (6 : Int32) [(.int x0), (.int x1), (.int x2), (.int x3), (.int x4), (.int x5)] (.int (0 : Int32))) :
    MetFree l (⟨"com/example/odds_on_axioms/oddsonaxioms/network/Condition", "holdsIn", "([I)Z"⟩ : MethodName) (head1 (Jvm.Cond.code (⟨"com/example/odds_on_axioms/oddsonaxioms/network/Condition", "holdsIn", "([I)Z"⟩ : MethodName) prog_38_method_6_code 3 (some .boolean) :: ws) ({ frames := 0, cells := 0, slots := 0, locals := 0 } : Room)) (fun a U => a = #[(.ref p0), (.ref p1)] ∧ Z.Warmed39 U.vm ∧ U.heap = h0) (fun _ _ _ _ _ => True) (fun _ U o U' => ∃ v L, o = .returned v ∧ Qh0 Z p0 p1 b1 b2 k1 k2 k3 x0 x1 x2 x3 x4 x5 h0 n0 v U'.heap L ∧ FrameEnd U o U' L ({ frames := 0, cells := 0, slots := 0, locals := 0 } : Room).cells ({ frames := 0, cells := 0, slots := 0, locals := 0 } : Room).slots) := by
  refine MetFree.of_bodySF (plainFor_of_name pn_1) hisR ?_
  intro p e s m args below meth c s₁ Bd hml0 hP hK
  obtain ⟨rfl, hZ, hh⟩ := hP
  have hx := Bd.exec
  have hby := Bd.bytes
  have hml : c.maxLocals = 3 := hml0
  have hown : s.vm.findClass "com/example/odds_on_axioms/oddsonaxioms/network/Condition" = some m.cls := findClass_of_methodNamed Bd.named
  have hnm := (name_of_methodNamed Bd.named Bd.method).1
  have X0 : Stand p l e ({ frames := 0, cells := 0, slots := 0, locals := 0 } : Room) s m #[(.ref p0), (.ref p1)] below meth c s₁ [] 0 0 := Stand.of_body Bd
  have e0 : s₁.heap = h0 := by rw [← hh, Bd.state]; rfl
  have N0 := Fr.nil n0
  have s0 : Steps p.tables e below (s₁.setTop (entryFrame m #[(.ref p0), (.ref p1)] 3)) (s₁.setTop (mkF m 0 #[.val (.ref p0), .val (.ref p1), .unset] [])) := castTop (ef_rmh0 m p0 p1) (Steps.refl _)
  obtain ⟨T1, X1, e1, st1⟩ := getF X0 hx hZ hown (host := "") (Or.inl (hw _ (List.mem_of_getElem? (i := 10) rfl))) Via.refl e0 F0_ (g := (mkF m 4 #[.val (.ref p0), .val (.ref p1), .val (.int (0 : Int32))] [(.ref p0), (.int (0 : Int32))])) rfl rfl (hb hby d3_4)
  obtain ⟨cla2, Ara2, qa2, Sa2, Za2, Ha2, Ga2⟩ := id F2_
  have s3 : Steps p.tables e below (s₁.setTop (entryFrame m #[(.ref p0), (.ref p1)] 3)) (T1.setTop (mkF m 37 #[.val (.ref p0), .val (.ref p1), .val (.int (0 : Int32))] [(.int (1 : Int32))])) := by
    refine s0.trans ?_
    show Steps p.tables e below (s₁.setTop (mkF m 0 #[.val (.ref p0), .val (.ref p1), .unset] [])) _
    refine XS.iconst X0.here hx rfl (hb hby d3_0) ?_
    show Steps p.tables e below (s₁.setTop (mkF m 1 #[.val (.ref p0), .val (.ref p1), .unset] [(.int (0 : Int32))])) _
    refine XS.istoreN X0.here hx rfl (hb hby d3_1) rfl (l' := #[.val (.ref p0), .val (.ref p1), .val (.int (0 : Int32))]) rfl ?_
    show Steps p.tables e below (s₁.setTop (mkF m 2 #[.val (.ref p0), .val (.ref p1), .val (.int (0 : Int32))] [])) _
    refine XS.iloadN X0.here hx rfl (hb hby d3_2) rfl ?_
    show Steps p.tables e below (s₁.setTop (mkF m 3 #[.val (.ref p0), .val (.ref p1), .val (.int (0 : Int32))] [(.int (0 : Int32))])) _
    refine XS.aloadN X0.here hx rfl (hb hby d3_3) rfl rfl ?_
    show Steps p.tables e below (s₁.setTop (mkF m 4 #[.val (.ref p0), .val (.ref p1), .val (.int (0 : Int32))] [(.ref p0), (.int (0 : Int32))])) _
    refine st1 _ ?_
    show Steps p.tables e below (T1.setTop (mkF m 7 #[.val (.ref p0), .val (.ref p1), .val (.int (0 : Int32))] [(.ref b1), (.int (0 : Int32))])) _
    refine X1.arraylength hx (by rw [e1]; exact Ara2.1) (State.isArrayOf_alike hZ.alike Ara2.2.1) (g := (mkF m 7 #[.val (.ref p0), .val (.ref p1), .val (.int (0 : Int32))] [(.ref b1), (.int (0 : Int32))])) rfl rfl (hb hby d3_7) _ ?_
    rw [len_of Sa2 Za2]
    show Steps p.tables e below (T1.setTop (mkF m 8 #[.val (.ref p0), .val (.ref p1), .val (.int (0 : Int32))] [(.int (0 : Int32)), (.int (0 : Int32))])) _
    refine XS.icmpYes X1.here hx rfl (pc0 := 8) (pc' := 36) rfl (hb hby d3_8) rfl (flt (by decide)).2.1 (by decide) (by decide) ?_
    show Steps p.tables e below (T1.setTop (mkF m 36 #[.val (.ref p0), .val (.ref p1), .val (.int (0 : Int32))] [])) _
    refine XS.iconst X1.here hx rfl (hb hby d3_36) ?_
    exact Steps.refl _
  obtain ⟨fs, hr, hrun, hended, hW, hsame⟩ := X1.leave (v := some (.int (1 : Int32))) (fun h => by rw [Bd.returns] at h; cases h)
  refine ⟨_, _, s3.trans ?_, hrun, hended, _, _, rfl, ?_, ⟨_, rfl⟩, hW, hsame.mono (by decide) (by decide)⟩
  · show Steps p.tables e below (T1.setTop (mkF m 37 #[.val (.ref p0), .val (.ref p1), .val (.int (0 : Int32))] [(.int (1 : Int32))])) _
    exact retN X1 hx (t := .boolean) Bd.returns (by simp) (hb hby d3_37) hr
  · show Qh0 Z p0 p1 b1 b2 k1 k2 k3 x0 x1 x2 x3 x4 x5 h0 n0 _ T1.heap _
    rw [e1]
    exact ⟨rfl, N0, rfl⟩
theorem d3_11 : decode prog_38_method_6_code 11 = .ok (.aload_n 1, 1) := by decide +kernel
theorem d3_12 : decode prog_38_method_6_code 12 = .ok (.aload_n 0, 1) := by decide +kernel
theorem d3_13 : decode prog_38_method_6_code 13 = .ok (.getfield 7, 3) := by decide +kernel
theorem d3_16 : decode prog_38_method_6_code 16 = .ok (.iload_n 2, 1) := by decide +kernel
theorem d3_17 : decode prog_38_method_6_code 17 = .ok (.iaload, 1) := by decide +kernel
theorem d3_18 : decode prog_38_method_6_code 18 = .ok (.iaload, 1) := by decide +kernel
theorem d3_19 : decode prog_38_method_6_code 19 = .ok (.aload_n 0, 1) := by decide +kernel
theorem d3_20 : decode prog_38_method_6_code 20 = .ok (.getfield 13, 3) := by decide +kernel
theorem d3_23 : decode prog_38_method_6_code 23 = .ok (.iload_n 2, 1) := by decide +kernel
theorem d3_24 : decode prog_38_method_6_code 24 = .ok (.iaload, 1) := by decide +kernel
theorem d3_25 : decode prog_38_method_6_code 25 = .ok (.if_icmp .eq 5, 3) := by decide +kernel
theorem d3_28 : decode prog_38_method_6_code 28 = .ok (.iconst 0, 1) := by decide +kernel
theorem d3_29 : decode prog_38_method_6_code 29 = .ok (.ireturn, 1) := by decide +kernel
theorem d3_30 : decode prog_38_method_6_code 30 = .ok (.iinc 2 1, 3) := by decide +kernel
theorem d3_33 : decode prog_38_method_6_code 33 = .ok (.goto (-31), 3) := by decide +kernel
theorem ef_rmh1 (m : MethodId) (p0 : Addr) (p1 : Addr) : entryFrame m #[(.ref p0), (.ref p1)] 3 = mkF m 0 #[.val (.ref p0), .val (.ref p1), .unset] [] := by first | (simp [entryFrame, mkF, argsToLocals, Value.category]; done) | rfl
def Qh1 (Z : State) (p0 : Addr) (p1 : Addr) (b1 : Addr) (b2 : Addr) (k1 : ClassId) (k2 : ClassId) (k3 : ClassId) (q0 : Int32) (t0 : Int32) (x0 : Int32) (x1 : Int32) (x2 : Int32) (x3 : Int32) (x4 : Int32) (x5 : Int32) (h0 : Heap) (n0 : Nat) (v : Option Value) (h : Heap) (L : List Loc) : Prop := v = some (.int (if (own_at [x0, x1, x2, x3, x4, x5] q0) = t0 then (1 : Int32) else (0 : Int32))) ∧ Fr n0 L ∧ h = h0
set_option maxRecDepth 65536 in
set_option maxHeartbeats 40000000 in
theorem rmh1 (l : Launch) (Z : State) (a0 : Array Value) (hw : ∀ d ∈ tables_1, d.before a0 Z = true) (ws : List Jvm.Cond) (p0 : Addr) (p1 : Addr) (b1 : Addr) (b2 : Addr) (k1 : ClassId) (k2 : ClassId) (k3 : ClassId) (q0 : Int32) (t0 : Int32) (x0 : Int32) (x1 : Int32) (x2 : Int32) (x3 : Int32) (x4 : Int32) (x5 : Int32) (h0 : Heap) (n0 : Nat) (O0 : Old Z n0 h0) (F0_ : Fld Z h0 p0 "com/example/odds_on_axioms/oddsonaxioms/network/Condition" "positions" "[I" (.ref b1)) (F1_ : Fld Z h0 p0 "com/example/odds_on_axioms/oddsonaxioms/network/Condition" "states" "[I" (.ref b2)) (F2_ : Arv Z h0 b1 k1 .int (1 : Int32) [(.int q0)] (.int (0 : Int32))) (F3_ : Arv Z h0 b2 k2 .int (1 : Int32) [(.int t0)] (.int (0 : Int32))) (F4_ : Arv Z h0 p1 k3 .int (6 : Int32) [(.int x0), (.int x1), (.int x2), (.int x3), (.int x4), (.int x5)] (.int (0 : Int32))) (hq0 : ¬ q0 < (0 : Int32) ∧ q0 < (6 : Int32)) :
    MetFree l (⟨"com/example/odds_on_axioms/oddsonaxioms/network/Condition", "holdsIn", "([I)Z"⟩ : MethodName) (head1 (Jvm.Cond.code (⟨"com/example/odds_on_axioms/oddsonaxioms/network/Condition", "holdsIn", "([I)Z"⟩ : MethodName) prog_38_method_6_code 3 (some .boolean) :: ws) ({ frames := 0, cells := 0, slots := 0, locals := 0 } : Room)) (fun a U => a = #[(.ref p0), (.ref p1)] ∧ Z.Warmed39 U.vm ∧ U.heap = h0) (fun _ _ _ _ _ => True) (fun _ U o U' => ∃ v L, o = .returned v ∧ Qh1 Z p0 p1 b1 b2 k1 k2 k3 q0 t0 x0 x1 x2 x3 x4 x5 h0 n0 v U'.heap L ∧ FrameEnd U o U' L ({ frames := 0, cells := 0, slots := 0, locals := 0 } : Room).cells ({ frames := 0, cells := 0, slots := 0, locals := 0 } : Room).slots) := by
  refine MetFree.of_bodySF (plainFor_of_name pn_1) hisR ?_
  intro p e s m args below meth c s₁ Bd hml0 hP hK
  obtain ⟨rfl, hZ, hh⟩ := hP
  have hx := Bd.exec
  have hby := Bd.bytes
  have hml : c.maxLocals = 3 := hml0
  have hown : s.vm.findClass "com/example/odds_on_axioms/oddsonaxioms/network/Condition" = some m.cls := findClass_of_methodNamed Bd.named
  have hnm := (name_of_methodNamed Bd.named Bd.method).1
  have X0 : Stand p l e ({ frames := 0, cells := 0, slots := 0, locals := 0 } : Room) s m #[(.ref p0), (.ref p1)] below meth c s₁ [] 0 0 := Stand.of_body Bd
  have e0 : s₁.heap = h0 := by rw [← hh, Bd.state]; rfl
  have N0 := Fr.nil n0
  have s0 : Steps p.tables e below (s₁.setTop (entryFrame m #[(.ref p0), (.ref p1)] 3)) (s₁.setTop (mkF m 0 #[.val (.ref p0), .val (.ref p1), .unset] [])) := castTop (ef_rmh1 m p0 p1) (Steps.refl _)
  obtain ⟨T1, X1, e1, st1⟩ := getF X0 hx hZ hown (host := "") (Or.inl (hw _ (List.mem_of_getElem? (i := 10) rfl))) Via.refl e0 F0_ (g := (mkF m 4 #[.val (.ref p0), .val (.ref p1), .val (.int (0 : Int32))] [(.ref p0), (.int (0 : Int32))])) rfl rfl (hb hby d3_4)
  obtain ⟨cla2, Ara2, qa2, Sa2, Za2, Ha2, Ga2⟩ := id F2_
  obtain ⟨T3, X3, e3, st3⟩ := getF X1 hx hZ hown (host := "") (Or.inl (hw _ (List.mem_of_getElem? (i := 10) rfl))) Via.refl e1 F0_ (g := (mkF m 13 #[.val (.ref p0), .val (.ref p1), .val (.int (0 : Int32))] [(.ref p0), (.ref p1)])) rfl rfl (hb hby d3_13)
  have hin4 : ¬ ((0 : Int32) < 0 ∨ cla2.slots.size ≤ ((0 : Int32)).toNatClampNeg) := inb_of Sa2 ⟨by decide, by decide⟩
  have hat5 : cla2.slots[((0 : Int32)).toNatClampNeg]? = some (.int q0) := Has.at Ha2 hin4 rfl
  obtain ⟨cla6, Ara6, qa6, Sa6, Za6, Ha6, Ga6⟩ := id F4_
  have hin7 : ¬ (q0 < 0 ∨ cla6.slots.size ≤ (q0).toNatClampNeg) := inb_of Sa6 hq0
  have hat8 : cla6.slots[(q0).toNatClampNeg]? = some (.int (own_at [x0, x1, x2, x3, x4, x5] q0)) := Has.at Ha6 hin7 (own_getD [x0, x1, x2, x3, x4, x5] _)
  obtain ⟨T9, X9, e9, st9⟩ := getF X3 hx hZ hown (host := "") (Or.inl (hw _ (List.mem_of_getElem? (i := 12) rfl))) Via.refl e3 F1_ (g := (mkF m 20 #[.val (.ref p0), .val (.ref p1), .val (.int (0 : Int32))] [(.ref p0), (.int (own_at [x0, x1, x2, x3, x4, x5] q0))])) rfl rfl (hb hby d3_20)
  obtain ⟨cla10, Ara10, qa10, Sa10, Za10, Ha10, Ga10⟩ := id F3_
  have hin11 : ¬ ((0 : Int32) < 0 ∨ cla10.slots.size ≤ ((0 : Int32)).toNatClampNeg) := inb_of Sa10 ⟨by decide, by decide⟩
  have hat12 : cla10.slots[((0 : Int32)).toNatClampNeg]? = some (.int t0) := Has.at Ha10 hin11 rfl
  have s13 : Steps p.tables e below (s₁.setTop (entryFrame m #[(.ref p0), (.ref p1)] 3)) (T9.setTop (mkF m 25 #[.val (.ref p0), .val (.ref p1), .val (.int (0 : Int32))] [(.int t0), (.int (own_at [x0, x1, x2, x3, x4, x5] q0))])) := by
    refine s0.trans ?_
    show Steps p.tables e below (s₁.setTop (mkF m 0 #[.val (.ref p0), .val (.ref p1), .unset] [])) _
    refine XS.iconst X0.here hx rfl (hb hby d3_0) ?_
    show Steps p.tables e below (s₁.setTop (mkF m 1 #[.val (.ref p0), .val (.ref p1), .unset] [(.int (0 : Int32))])) _
    refine XS.istoreN X0.here hx rfl (hb hby d3_1) rfl (l' := #[.val (.ref p0), .val (.ref p1), .val (.int (0 : Int32))]) rfl ?_
    show Steps p.tables e below (s₁.setTop (mkF m 2 #[.val (.ref p0), .val (.ref p1), .val (.int (0 : Int32))] [])) _
    refine XS.iloadN X0.here hx rfl (hb hby d3_2) rfl ?_
    show Steps p.tables e below (s₁.setTop (mkF m 3 #[.val (.ref p0), .val (.ref p1), .val (.int (0 : Int32))] [(.int (0 : Int32))])) _
    refine XS.aloadN X0.here hx rfl (hb hby d3_3) rfl rfl ?_
    show Steps p.tables e below (s₁.setTop (mkF m 4 #[.val (.ref p0), .val (.ref p1), .val (.int (0 : Int32))] [(.ref p0), (.int (0 : Int32))])) _
    refine st1 _ ?_
    show Steps p.tables e below (T1.setTop (mkF m 7 #[.val (.ref p0), .val (.ref p1), .val (.int (0 : Int32))] [(.ref b1), (.int (0 : Int32))])) _
    refine X1.arraylength hx (by rw [e1]; exact Ara2.1) (State.isArrayOf_alike hZ.alike Ara2.2.1) (g := (mkF m 7 #[.val (.ref p0), .val (.ref p1), .val (.int (0 : Int32))] [(.ref b1), (.int (0 : Int32))])) rfl rfl (hb hby d3_7) _ ?_
    rw [len_of Sa2 Za2]
    show Steps p.tables e below (T1.setTop (mkF m 8 #[.val (.ref p0), .val (.ref p1), .val (.int (0 : Int32))] [(.int (1 : Int32)), (.int (0 : Int32))])) _
    refine XS.icmpNo X1.here hx rfl (hb hby d3_8) rfl (tlt (by decide)).2.1 ?_
    show Steps p.tables e below (T1.setTop (mkF m 11 #[.val (.ref p0), .val (.ref p1), .val (.int (0 : Int32))] [])) _
    refine XS.aloadN X1.here hx rfl (hb hby d3_11) rfl rfl ?_
    show Steps p.tables e below (T1.setTop (mkF m 12 #[.val (.ref p0), .val (.ref p1), .val (.int (0 : Int32))] [(.ref p1)])) _
    refine XS.aloadN X1.here hx rfl (hb hby d3_12) rfl rfl ?_
    show Steps p.tables e below (T1.setTop (mkF m 13 #[.val (.ref p0), .val (.ref p1), .val (.int (0 : Int32))] [(.ref p0), (.ref p1)])) _
    refine st3 _ ?_
    show Steps p.tables e below (T3.setTop (mkF m 16 #[.val (.ref p0), .val (.ref p1), .val (.int (0 : Int32))] [(.ref b1), (.ref p1)])) _
    refine XS.iloadN X3.here hx rfl (hb hby d3_16) rfl ?_
    show Steps p.tables e below (T3.setTop (mkF m 17 #[.val (.ref p0), .val (.ref p1), .val (.int (0 : Int32))] [(.int (0 : Int32)), (.ref b1), (.ref p1)])) _
    refine X3.iaload hx (j := (0 : Int32)) (v := (.int q0)) (by rw [e3]; exact Ara2.1) (State.isArrayOf_alike hZ.alike Ara2.2.1) Ara2.2.2 hin4 hat5 (g := (mkF m 17 #[.val (.ref p0), .val (.ref p1), .val (.int (0 : Int32))] [(.int (0 : Int32)), (.ref b1), (.ref p1)])) rfl rfl (hb hby d3_17) _ ?_
    show Steps p.tables e below (T3.setTop (mkF m 18 #[.val (.ref p0), .val (.ref p1), .val (.int (0 : Int32))] [(.int q0), (.ref p1)])) _
    refine X3.iaload hx (j := q0) (v := (.int (own_at [x0, x1, x2, x3, x4, x5] q0))) (by rw [e3]; exact Ara6.1) (State.isArrayOf_alike hZ.alike Ara6.2.1) Ara6.2.2 hin7 hat8 (g := (mkF m 18 #[.val (.ref p0), .val (.ref p1), .val (.int (0 : Int32))] [(.int q0), (.ref p1)])) rfl rfl (hb hby d3_18) _ ?_
    show Steps p.tables e below (T3.setTop (mkF m 19 #[.val (.ref p0), .val (.ref p1), .val (.int (0 : Int32))] [(.int (own_at [x0, x1, x2, x3, x4, x5] q0))])) _
    refine XS.aloadN X3.here hx rfl (hb hby d3_19) rfl rfl ?_
    show Steps p.tables e below (T3.setTop (mkF m 20 #[.val (.ref p0), .val (.ref p1), .val (.int (0 : Int32))] [(.ref p0), (.int (own_at [x0, x1, x2, x3, x4, x5] q0))])) _
    refine st9 _ ?_
    show Steps p.tables e below (T9.setTop (mkF m 23 #[.val (.ref p0), .val (.ref p1), .val (.int (0 : Int32))] [(.ref b2), (.int (own_at [x0, x1, x2, x3, x4, x5] q0))])) _
    refine XS.iloadN X9.here hx rfl (hb hby d3_23) rfl ?_
    show Steps p.tables e below (T9.setTop (mkF m 24 #[.val (.ref p0), .val (.ref p1), .val (.int (0 : Int32))] [(.int (0 : Int32)), (.ref b2), (.int (own_at [x0, x1, x2, x3, x4, x5] q0))])) _
    refine X9.iaload hx (j := (0 : Int32)) (v := (.int t0)) (by rw [e9]; exact Ara10.1) (State.isArrayOf_alike hZ.alike Ara10.2.1) Ara10.2.2 hin11 hat12 (g := (mkF m 24 #[.val (.ref p0), .val (.ref p1), .val (.int (0 : Int32))] [(.int (0 : Int32)), (.ref b2), (.int (own_at [x0, x1, x2, x3, x4, x5] q0))])) rfl rfl (hb hby d3_24) _ ?_
    exact Steps.refl _
  by_cases hc14 : (own_at [x0, x1, x2, x3, x4, x5] q0) = t0
  · obtain ⟨T15, X15, e15, st15⟩ := getF X9 hx hZ hown (host := "") (Or.inl (hw _ (List.mem_of_getElem? (i := 10) rfl))) Via.refl e9 F0_ (g := (mkF m 4 #[.val (.ref p0), .val (.ref p1), .val (.int (1 : Int32))] [(.ref p0), (.int (1 : Int32))])) rfl rfl (hb hby d3_4)
    have s16 : Steps p.tables e below (s₁.setTop (entryFrame m #[(.ref p0), (.ref p1)] 3)) (T15.setTop (mkF m 37 #[.val (.ref p0), .val (.ref p1), .val (.int (1 : Int32))] [(.int (1 : Int32))])) := by
      refine s13.trans ?_
      show Steps p.tables e below (T9.setTop (mkF m 25 #[.val (.ref p0), .val (.ref p1), .val (.int (0 : Int32))] [(.int t0), (.int (own_at [x0, x1, x2, x3, x4, x5] q0))])) _
      refine XS.icmpYes X9.here hx rfl (pc0 := 25) (pc' := 30) rfl (hb hby d3_25) rfl (teq hc14).1 (by decide) (by decide) ?_
      show Steps p.tables e below (T9.setTop (mkF m 30 #[.val (.ref p0), .val (.ref p1), .val (.int (0 : Int32))] [])) _
      refine XS.iinc X9.here hx rfl (hb hby d3_30) rfl (l' := #[.val (.ref p0), .val (.ref p1), .val (.int (1 : Int32))]) rfl ?_
      show Steps p.tables e below (T9.setTop (mkF m 33 #[.val (.ref p0), .val (.ref p1), .val (.int (1 : Int32))] [])) _
      refine XS.goto X9.here hx rfl (pc0 := 33) (pc' := 2) rfl (hb hby d3_33) (by decide) (by decide) ?_
      show Steps p.tables e below (T9.setTop (mkF m 2 #[.val (.ref p0), .val (.ref p1), .val (.int (1 : Int32))] [])) _
      refine XS.iloadN X9.here hx rfl (hb hby d3_2) rfl ?_
      show Steps p.tables e below (T9.setTop (mkF m 3 #[.val (.ref p0), .val (.ref p1), .val (.int (1 : Int32))] [(.int (1 : Int32))])) _
      refine XS.aloadN X9.here hx rfl (hb hby d3_3) rfl rfl ?_
      show Steps p.tables e below (T9.setTop (mkF m 4 #[.val (.ref p0), .val (.ref p1), .val (.int (1 : Int32))] [(.ref p0), (.int (1 : Int32))])) _
      refine st15 _ ?_
      show Steps p.tables e below (T15.setTop (mkF m 7 #[.val (.ref p0), .val (.ref p1), .val (.int (1 : Int32))] [(.ref b1), (.int (1 : Int32))])) _
      refine X15.arraylength hx (by rw [e15]; exact Ara2.1) (State.isArrayOf_alike hZ.alike Ara2.2.1) (g := (mkF m 7 #[.val (.ref p0), .val (.ref p1), .val (.int (1 : Int32))] [(.ref b1), (.int (1 : Int32))])) rfl rfl (hb hby d3_7) _ ?_
      rw [len_of Sa2 Za2]
      show Steps p.tables e below (T15.setTop (mkF m 8 #[.val (.ref p0), .val (.ref p1), .val (.int (1 : Int32))] [(.int (1 : Int32)), (.int (1 : Int32))])) _
      refine XS.icmpYes X15.here hx rfl (pc0 := 8) (pc' := 36) rfl (hb hby d3_8) rfl (flt (by decide)).2.1 (by decide) (by decide) ?_
      show Steps p.tables e below (T15.setTop (mkF m 36 #[.val (.ref p0), .val (.ref p1), .val (.int (1 : Int32))] [])) _
      refine XS.iconst X15.here hx rfl (hb hby d3_36) ?_
      exact Steps.refl _
    obtain ⟨fs, hr, hrun, hended, hW, hsame⟩ := X15.leave (v := some (.int (1 : Int32))) (fun h => by rw [Bd.returns] at h; cases h)
    refine ⟨_, _, s16.trans ?_, hrun, hended, _, _, rfl, ?_, ⟨_, rfl⟩, hW, hsame.mono (by decide) (by decide)⟩
    · show Steps p.tables e below (T15.setTop (mkF m 37 #[.val (.ref p0), .val (.ref p1), .val (.int (1 : Int32))] [(.int (1 : Int32))])) _
      exact retN X15 hx (t := .boolean) Bd.returns (by simp) (hb hby d3_37) hr
    · show Qh1 Z p0 p1 b1 b2 k1 k2 k3 q0 t0 x0 x1 x2 x3 x4 x5 h0 n0 _ T15.heap _
      rw [e15]
      exact ⟨(by rw [if_pos hc14]), N0, rfl⟩
  · have s17 : Steps p.tables e below (s₁.setTop (entryFrame m #[(.ref p0), (.ref p1)] 3)) (T9.setTop (mkF m 29 #[.val (.ref p0), .val (.ref p1), .val (.int (0 : Int32))] [(.int (0 : Int32))])) := by
      refine s13.trans ?_
      show Steps p.tables e below (T9.setTop (mkF m 25 #[.val (.ref p0), .val (.ref p1), .val (.int (0 : Int32))] [(.int t0), (.int (own_at [x0, x1, x2, x3, x4, x5] q0))])) _
      refine XS.icmpNo X9.here hx rfl (hb hby d3_25) rfl (feq hc14).1 ?_
      show Steps p.tables e below (T9.setTop (mkF m 28 #[.val (.ref p0), .val (.ref p1), .val (.int (0 : Int32))] [])) _
      refine XS.iconst X9.here hx rfl (hb hby d3_28) ?_
      exact Steps.refl _
    obtain ⟨fs, hr, hrun, hended, hW, hsame⟩ := X9.leave (v := some (.int (0 : Int32))) (fun h => by rw [Bd.returns] at h; cases h)
    refine ⟨_, _, s17.trans ?_, hrun, hended, _, _, rfl, ?_, ⟨_, rfl⟩, hW, hsame.mono (by decide) (by decide)⟩
    · show Steps p.tables e below (T9.setTop (mkF m 29 #[.val (.ref p0), .val (.ref p1), .val (.int (0 : Int32))] [(.int (0 : Int32))])) _
      exact retN X9 hx (t := .boolean) Bd.returns (by simp) (hb hby d3_29) hr
    · show Qh1 Z p0 p1 b1 b2 k1 k2 k3 q0 t0 x0 x1 x2 x3 x4 x5 h0 n0 _ T9.heap _
      rw [e9]
      exact ⟨(by rw [if_neg hc14]), N0, rfl⟩
theorem ef_rmh2 (m : MethodId) (p0 : Addr) (p1 : Addr) : entryFrame m #[(.ref p0), (.ref p1)] 3 = mkF m 0 #[.val (.ref p0), .val (.ref p1), .unset] [] := by first | (simp [entryFrame, mkF, argsToLocals, Value.category]; done) | rfl
def Qh2 (Z : State) (p0 : Addr) (p1 : Addr) (b1 : Addr) (b2 : Addr) (k1 : ClassId) (k2 : ClassId) (k3 : ClassId) (q0 : Int32) (q1 : Int32) (t0 : Int32) (t1 : Int32) (x0 : Int32) (x1 : Int32) (x2 : Int32) (x3 : Int32) (x4 : Int32) (x5 : Int32) (h0 : Heap) (n0 : Nat) (v : Option Value) (h : Heap) (L : List Loc) : Prop := v = some (.int (if (own_at [x0, x1, x2, x3, x4, x5] q0) = t0 then (if (own_at [x0, x1, x2, x3, x4, x5] q1) = t1 then (1 : Int32) else (0 : Int32)) else (0 : Int32))) ∧ Fr n0 L ∧ h = h0
set_option maxRecDepth 65536 in
set_option maxHeartbeats 40000000 in
theorem rmh2 (l : Launch) (Z : State) (a0 : Array Value) (hw : ∀ d ∈ tables_1, d.before a0 Z = true) (ws : List Jvm.Cond) (p0 : Addr) (p1 : Addr) (b1 : Addr) (b2 : Addr) (k1 : ClassId) (k2 : ClassId) (k3 : ClassId) (q0 : Int32) (q1 : Int32) (t0 : Int32) (t1 : Int32) (x0 : Int32) (x1 : Int32) (x2 : Int32) (x3 : Int32) (x4 : Int32) (x5 : Int32) (h0 : Heap) (n0 : Nat) (O0 : Old Z n0 h0) (F0_ : Fld Z h0 p0 "com/example/odds_on_axioms/oddsonaxioms/network/Condition" "positions" "[I" (.ref b1)) (F1_ : Fld Z h0 p0 "com/example/odds_on_axioms/oddsonaxioms/network/Condition" "states" "[I" (.ref b2)) (F2_ : Arv Z h0 b1 k1 .int (2 : Int32) [(.int q0), (.int q1)] (.int (0 : Int32))) (F3_ : Arv Z h0 b2 k2 .int (2 : Int32) [(.int t0), (.int t1)] (.int (0 : Int32))) (F4_ : Arv Z h0 p1 k3 .int (6 : Int32) [(.int x0), (.int x1), (.int x2), (.int x3), (.int x4), (.int x5)] (.int (0 : Int32))) (hq0 : ¬ q0 < (0 : Int32) ∧ q0 < (6 : Int32)) (hq1 : ¬ q1 < (0 : Int32) ∧ q1 < (6 : Int32)) :
    MetFree l (⟨"com/example/odds_on_axioms/oddsonaxioms/network/Condition", "holdsIn", "([I)Z"⟩ : MethodName) (head1 (Jvm.Cond.code (⟨"com/example/odds_on_axioms/oddsonaxioms/network/Condition", "holdsIn", "([I)Z"⟩ : MethodName) prog_38_method_6_code 3 (some .boolean) :: ws) ({ frames := 0, cells := 0, slots := 0, locals := 0 } : Room)) (fun a U => a = #[(.ref p0), (.ref p1)] ∧ Z.Warmed39 U.vm ∧ U.heap = h0) (fun _ _ _ _ _ => True) (fun _ U o U' => ∃ v L, o = .returned v ∧ Qh2 Z p0 p1 b1 b2 k1 k2 k3 q0 q1 t0 t1 x0 x1 x2 x3 x4 x5 h0 n0 v U'.heap L ∧ FrameEnd U o U' L ({ frames := 0, cells := 0, slots := 0, locals := 0 } : Room).cells ({ frames := 0, cells := 0, slots := 0, locals := 0 } : Room).slots) := by
  refine MetFree.of_bodySF (plainFor_of_name pn_1) hisR ?_
  intro p e s m args below meth c s₁ Bd hml0 hP hK
  obtain ⟨rfl, hZ, hh⟩ := hP
  have hx := Bd.exec
  have hby := Bd.bytes
  have hml : c.maxLocals = 3 := hml0
  have hown : s.vm.findClass "com/example/odds_on_axioms/oddsonaxioms/network/Condition" = some m.cls := findClass_of_methodNamed Bd.named
  have hnm := (name_of_methodNamed Bd.named Bd.method).1
  have X0 : Stand p l e ({ frames := 0, cells := 0, slots := 0, locals := 0 } : Room) s m #[(.ref p0), (.ref p1)] below meth c s₁ [] 0 0 := Stand.of_body Bd
  have e0 : s₁.heap = h0 := by rw [← hh, Bd.state]; rfl
  have N0 := Fr.nil n0
  have s0 : Steps p.tables e below (s₁.setTop (entryFrame m #[(.ref p0), (.ref p1)] 3)) (s₁.setTop (mkF m 0 #[.val (.ref p0), .val (.ref p1), .unset] [])) := castTop (ef_rmh2 m p0 p1) (Steps.refl _)
  obtain ⟨T1, X1, e1, st1⟩ := getF X0 hx hZ hown (host := "") (Or.inl (hw _ (List.mem_of_getElem? (i := 10) rfl))) Via.refl e0 F0_ (g := (mkF m 4 #[.val (.ref p0), .val (.ref p1), .val (.int (0 : Int32))] [(.ref p0), (.int (0 : Int32))])) rfl rfl (hb hby d3_4)
  obtain ⟨cla2, Ara2, qa2, Sa2, Za2, Ha2, Ga2⟩ := id F2_
  obtain ⟨T3, X3, e3, st3⟩ := getF X1 hx hZ hown (host := "") (Or.inl (hw _ (List.mem_of_getElem? (i := 10) rfl))) Via.refl e1 F0_ (g := (mkF m 13 #[.val (.ref p0), .val (.ref p1), .val (.int (0 : Int32))] [(.ref p0), (.ref p1)])) rfl rfl (hb hby d3_13)
  have hin4 : ¬ ((0 : Int32) < 0 ∨ cla2.slots.size ≤ ((0 : Int32)).toNatClampNeg) := inb_of Sa2 ⟨by decide, by decide⟩
  have hat5 : cla2.slots[((0 : Int32)).toNatClampNeg]? = some (.int q0) := Has.at Ha2 hin4 rfl
  obtain ⟨cla6, Ara6, qa6, Sa6, Za6, Ha6, Ga6⟩ := id F4_
  have hin7 : ¬ (q0 < 0 ∨ cla6.slots.size ≤ (q0).toNatClampNeg) := inb_of Sa6 hq0
  have hat8 : cla6.slots[(q0).toNatClampNeg]? = some (.int (own_at [x0, x1, x2, x3, x4, x5] q0)) := Has.at Ha6 hin7 (own_getD [x0, x1, x2, x3, x4, x5] _)
  obtain ⟨T9, X9, e9, st9⟩ := getF X3 hx hZ hown (host := "") (Or.inl (hw _ (List.mem_of_getElem? (i := 12) rfl))) Via.refl e3 F1_ (g := (mkF m 20 #[.val (.ref p0), .val (.ref p1), .val (.int (0 : Int32))] [(.ref p0), (.int (own_at [x0, x1, x2, x3, x4, x5] q0))])) rfl rfl (hb hby d3_20)
  obtain ⟨cla10, Ara10, qa10, Sa10, Za10, Ha10, Ga10⟩ := id F3_
  have hin11 : ¬ ((0 : Int32) < 0 ∨ cla10.slots.size ≤ ((0 : Int32)).toNatClampNeg) := inb_of Sa10 ⟨by decide, by decide⟩
  have hat12 : cla10.slots[((0 : Int32)).toNatClampNeg]? = some (.int t0) := Has.at Ha10 hin11 rfl
  have s13 : Steps p.tables e below (s₁.setTop (entryFrame m #[(.ref p0), (.ref p1)] 3)) (T9.setTop (mkF m 25 #[.val (.ref p0), .val (.ref p1), .val (.int (0 : Int32))] [(.int t0), (.int (own_at [x0, x1, x2, x3, x4, x5] q0))])) := by
    refine s0.trans ?_
    show Steps p.tables e below (s₁.setTop (mkF m 0 #[.val (.ref p0), .val (.ref p1), .unset] [])) _
    refine XS.iconst X0.here hx rfl (hb hby d3_0) ?_
    show Steps p.tables e below (s₁.setTop (mkF m 1 #[.val (.ref p0), .val (.ref p1), .unset] [(.int (0 : Int32))])) _
    refine XS.istoreN X0.here hx rfl (hb hby d3_1) rfl (l' := #[.val (.ref p0), .val (.ref p1), .val (.int (0 : Int32))]) rfl ?_
    show Steps p.tables e below (s₁.setTop (mkF m 2 #[.val (.ref p0), .val (.ref p1), .val (.int (0 : Int32))] [])) _
    refine XS.iloadN X0.here hx rfl (hb hby d3_2) rfl ?_
    show Steps p.tables e below (s₁.setTop (mkF m 3 #[.val (.ref p0), .val (.ref p1), .val (.int (0 : Int32))] [(.int (0 : Int32))])) _
    refine XS.aloadN X0.here hx rfl (hb hby d3_3) rfl rfl ?_
    show Steps p.tables e below (s₁.setTop (mkF m 4 #[.val (.ref p0), .val (.ref p1), .val (.int (0 : Int32))] [(.ref p0), (.int (0 : Int32))])) _
    refine st1 _ ?_
    show Steps p.tables e below (T1.setTop (mkF m 7 #[.val (.ref p0), .val (.ref p1), .val (.int (0 : Int32))] [(.ref b1), (.int (0 : Int32))])) _
    refine X1.arraylength hx (by rw [e1]; exact Ara2.1) (State.isArrayOf_alike hZ.alike Ara2.2.1) (g := (mkF m 7 #[.val (.ref p0), .val (.ref p1), .val (.int (0 : Int32))] [(.ref b1), (.int (0 : Int32))])) rfl rfl (hb hby d3_7) _ ?_
    rw [len_of Sa2 Za2]
    show Steps p.tables e below (T1.setTop (mkF m 8 #[.val (.ref p0), .val (.ref p1), .val (.int (0 : Int32))] [(.int (2 : Int32)), (.int (0 : Int32))])) _
    refine XS.icmpNo X1.here hx rfl (hb hby d3_8) rfl (tlt (by decide)).2.1 ?_
    show Steps p.tables e below (T1.setTop (mkF m 11 #[.val (.ref p0), .val (.ref p1), .val (.int (0 : Int32))] [])) _
    refine XS.aloadN X1.here hx rfl (hb hby d3_11) rfl rfl ?_
    show Steps p.tables e below (T1.setTop (mkF m 12 #[.val (.ref p0), .val (.ref p1), .val (.int (0 : Int32))] [(.ref p1)])) _
    refine XS.aloadN X1.here hx rfl (hb hby d3_12) rfl rfl ?_
    show Steps p.tables e below (T1.setTop (mkF m 13 #[.val (.ref p0), .val (.ref p1), .val (.int (0 : Int32))] [(.ref p0), (.ref p1)])) _
    refine st3 _ ?_
    show Steps p.tables e below (T3.setTop (mkF m 16 #[.val (.ref p0), .val (.ref p1), .val (.int (0 : Int32))] [(.ref b1), (.ref p1)])) _
    refine XS.iloadN X3.here hx rfl (hb hby d3_16) rfl ?_
    show Steps p.tables e below (T3.setTop (mkF m 17 #[.val (.ref p0), .val (.ref p1), .val (.int (0 : Int32))] [(.int (0 : Int32)), (.ref b1), (.ref p1)])) _
    refine X3.iaload hx (j := (0 : Int32)) (v := (.int q0)) (by rw [e3]; exact Ara2.1) (State.isArrayOf_alike hZ.alike Ara2.2.1) Ara2.2.2 hin4 hat5 (g := (mkF m 17 #[.val (.ref p0), .val (.ref p1), .val (.int (0 : Int32))] [(.int (0 : Int32)), (.ref b1), (.ref p1)])) rfl rfl (hb hby d3_17) _ ?_
    show Steps p.tables e below (T3.setTop (mkF m 18 #[.val (.ref p0), .val (.ref p1), .val (.int (0 : Int32))] [(.int q0), (.ref p1)])) _
    refine X3.iaload hx (j := q0) (v := (.int (own_at [x0, x1, x2, x3, x4, x5] q0))) (by rw [e3]; exact Ara6.1) (State.isArrayOf_alike hZ.alike Ara6.2.1) Ara6.2.2 hin7 hat8 (g := (mkF m 18 #[.val (.ref p0), .val (.ref p1), .val (.int (0 : Int32))] [(.int q0), (.ref p1)])) rfl rfl (hb hby d3_18) _ ?_
    show Steps p.tables e below (T3.setTop (mkF m 19 #[.val (.ref p0), .val (.ref p1), .val (.int (0 : Int32))] [(.int (own_at [x0, x1, x2, x3, x4, x5] q0))])) _
    refine XS.aloadN X3.here hx rfl (hb hby d3_19) rfl rfl ?_
    show Steps p.tables e below (T3.setTop (mkF m 20 #[.val (.ref p0), .val (.ref p1), .val (.int (0 : Int32))] [(.ref p0), (.int (own_at [x0, x1, x2, x3, x4, x5] q0))])) _
    refine st9 _ ?_
    show Steps p.tables e below (T9.setTop (mkF m 23 #[.val (.ref p0), .val (.ref p1), .val (.int (0 : Int32))] [(.ref b2), (.int (own_at [x0, x1, x2, x3, x4, x5] q0))])) _
    refine XS.iloadN X9.here hx rfl (hb hby d3_23) rfl ?_
    show Steps p.tables e below (T9.setTop (mkF m 24 #[.val (.ref p0), .val (.ref p1), .val (.int (0 : Int32))] [(.int (0 : Int32)), (.ref b2), (.int (own_at [x0, x1, x2, x3, x4, x5] q0))])) _
    refine X9.iaload hx (j := (0 : Int32)) (v := (.int t0)) (by rw [e9]; exact Ara10.1) (State.isArrayOf_alike hZ.alike Ara10.2.1) Ara10.2.2 hin11 hat12 (g := (mkF m 24 #[.val (.ref p0), .val (.ref p1), .val (.int (0 : Int32))] [(.int (0 : Int32)), (.ref b2), (.int (own_at [x0, x1, x2, x3, x4, x5] q0))])) rfl rfl (hb hby d3_24) _ ?_
    exact Steps.refl _
  by_cases hc14 : (own_at [x0, x1, x2, x3, x4, x5] q0) = t0
  · obtain ⟨T15, X15, e15, st15⟩ := getF X9 hx hZ hown (host := "") (Or.inl (hw _ (List.mem_of_getElem? (i := 10) rfl))) Via.refl e9 F0_ (g := (mkF m 4 #[.val (.ref p0), .val (.ref p1), .val (.int (1 : Int32))] [(.ref p0), (.int (1 : Int32))])) rfl rfl (hb hby d3_4)
    obtain ⟨T16, X16, e16, st16⟩ := getF X15 hx hZ hown (host := "") (Or.inl (hw _ (List.mem_of_getElem? (i := 10) rfl))) Via.refl e15 F0_ (g := (mkF m 13 #[.val (.ref p0), .val (.ref p1), .val (.int (1 : Int32))] [(.ref p0), (.ref p1)])) rfl rfl (hb hby d3_13)
    have hin17 : ¬ ((1 : Int32) < 0 ∨ cla2.slots.size ≤ ((1 : Int32)).toNatClampNeg) := inb_of Sa2 ⟨by decide, by decide⟩
    have hat18 : cla2.slots[((1 : Int32)).toNatClampNeg]? = some (.int q1) := Has.at Ha2 hin17 rfl
    have hin19 : ¬ (q1 < 0 ∨ cla6.slots.size ≤ (q1).toNatClampNeg) := inb_of Sa6 hq1
    have hat20 : cla6.slots[(q1).toNatClampNeg]? = some (.int (own_at [x0, x1, x2, x3, x4, x5] q1)) := Has.at Ha6 hin19 (own_getD [x0, x1, x2, x3, x4, x5] _)
    obtain ⟨T21, X21, e21, st21⟩ := getF X16 hx hZ hown (host := "") (Or.inl (hw _ (List.mem_of_getElem? (i := 12) rfl))) Via.refl e16 F1_ (g := (mkF m 20 #[.val (.ref p0), .val (.ref p1), .val (.int (1 : Int32))] [(.ref p0), (.int (own_at [x0, x1, x2, x3, x4, x5] q1))])) rfl rfl (hb hby d3_20)
    have hin22 : ¬ ((1 : Int32) < 0 ∨ cla10.slots.size ≤ ((1 : Int32)).toNatClampNeg) := inb_of Sa10 ⟨by decide, by decide⟩
    have hat23 : cla10.slots[((1 : Int32)).toNatClampNeg]? = some (.int t1) := Has.at Ha10 hin22 rfl
    have s24 : Steps p.tables e below (s₁.setTop (entryFrame m #[(.ref p0), (.ref p1)] 3)) (T21.setTop (mkF m 25 #[.val (.ref p0), .val (.ref p1), .val (.int (1 : Int32))] [(.int t1), (.int (own_at [x0, x1, x2, x3, x4, x5] q1))])) := by
      refine s13.trans ?_
      show Steps p.tables e below (T9.setTop (mkF m 25 #[.val (.ref p0), .val (.ref p1), .val (.int (0 : Int32))] [(.int t0), (.int (own_at [x0, x1, x2, x3, x4, x5] q0))])) _
      refine XS.icmpYes X9.here hx rfl (pc0 := 25) (pc' := 30) rfl (hb hby d3_25) rfl (teq hc14).1 (by decide) (by decide) ?_
      show Steps p.tables e below (T9.setTop (mkF m 30 #[.val (.ref p0), .val (.ref p1), .val (.int (0 : Int32))] [])) _
      refine XS.iinc X9.here hx rfl (hb hby d3_30) rfl (l' := #[.val (.ref p0), .val (.ref p1), .val (.int (1 : Int32))]) rfl ?_
      show Steps p.tables e below (T9.setTop (mkF m 33 #[.val (.ref p0), .val (.ref p1), .val (.int (1 : Int32))] [])) _
      refine XS.goto X9.here hx rfl (pc0 := 33) (pc' := 2) rfl (hb hby d3_33) (by decide) (by decide) ?_
      show Steps p.tables e below (T9.setTop (mkF m 2 #[.val (.ref p0), .val (.ref p1), .val (.int (1 : Int32))] [])) _
      refine XS.iloadN X9.here hx rfl (hb hby d3_2) rfl ?_
      show Steps p.tables e below (T9.setTop (mkF m 3 #[.val (.ref p0), .val (.ref p1), .val (.int (1 : Int32))] [(.int (1 : Int32))])) _
      refine XS.aloadN X9.here hx rfl (hb hby d3_3) rfl rfl ?_
      show Steps p.tables e below (T9.setTop (mkF m 4 #[.val (.ref p0), .val (.ref p1), .val (.int (1 : Int32))] [(.ref p0), (.int (1 : Int32))])) _
      refine st15 _ ?_
      show Steps p.tables e below (T15.setTop (mkF m 7 #[.val (.ref p0), .val (.ref p1), .val (.int (1 : Int32))] [(.ref b1), (.int (1 : Int32))])) _
      refine X15.arraylength hx (by rw [e15]; exact Ara2.1) (State.isArrayOf_alike hZ.alike Ara2.2.1) (g := (mkF m 7 #[.val (.ref p0), .val (.ref p1), .val (.int (1 : Int32))] [(.ref b1), (.int (1 : Int32))])) rfl rfl (hb hby d3_7) _ ?_
      rw [len_of Sa2 Za2]
      show Steps p.tables e below (T15.setTop (mkF m 8 #[.val (.ref p0), .val (.ref p1), .val (.int (1 : Int32))] [(.int (2 : Int32)), (.int (1 : Int32))])) _
      refine XS.icmpNo X15.here hx rfl (hb hby d3_8) rfl (tlt (by decide)).2.1 ?_
      show Steps p.tables e below (T15.setTop (mkF m 11 #[.val (.ref p0), .val (.ref p1), .val (.int (1 : Int32))] [])) _
      refine XS.aloadN X15.here hx rfl (hb hby d3_11) rfl rfl ?_
      show Steps p.tables e below (T15.setTop (mkF m 12 #[.val (.ref p0), .val (.ref p1), .val (.int (1 : Int32))] [(.ref p1)])) _
      refine XS.aloadN X15.here hx rfl (hb hby d3_12) rfl rfl ?_
      show Steps p.tables e below (T15.setTop (mkF m 13 #[.val (.ref p0), .val (.ref p1), .val (.int (1 : Int32))] [(.ref p0), (.ref p1)])) _
      refine st16 _ ?_
      show Steps p.tables e below (T16.setTop (mkF m 16 #[.val (.ref p0), .val (.ref p1), .val (.int (1 : Int32))] [(.ref b1), (.ref p1)])) _
      refine XS.iloadN X16.here hx rfl (hb hby d3_16) rfl ?_
      show Steps p.tables e below (T16.setTop (mkF m 17 #[.val (.ref p0), .val (.ref p1), .val (.int (1 : Int32))] [(.int (1 : Int32)), (.ref b1), (.ref p1)])) _
      refine X16.iaload hx (j := (1 : Int32)) (v := (.int q1)) (by rw [e16]; exact Ara2.1) (State.isArrayOf_alike hZ.alike Ara2.2.1) Ara2.2.2 hin17 hat18 (g := (mkF m 17 #[.val (.ref p0), .val (.ref p1), .val (.int (1 : Int32))] [(.int (1 : Int32)), (.ref b1), (.ref p1)])) rfl rfl (hb hby d3_17) _ ?_
      show Steps p.tables e below (T16.setTop (mkF m 18 #[.val (.ref p0), .val (.ref p1), .val (.int (1 : Int32))] [(.int q1), (.ref p1)])) _
      refine X16.iaload hx (j := q1) (v := (.int (own_at [x0, x1, x2, x3, x4, x5] q1))) (by rw [e16]; exact Ara6.1) (State.isArrayOf_alike hZ.alike Ara6.2.1) Ara6.2.2 hin19 hat20 (g := (mkF m 18 #[.val (.ref p0), .val (.ref p1), .val (.int (1 : Int32))] [(.int q1), (.ref p1)])) rfl rfl (hb hby d3_18) _ ?_
      show Steps p.tables e below (T16.setTop (mkF m 19 #[.val (.ref p0), .val (.ref p1), .val (.int (1 : Int32))] [(.int (own_at [x0, x1, x2, x3, x4, x5] q1))])) _
      refine XS.aloadN X16.here hx rfl (hb hby d3_19) rfl rfl ?_
      show Steps p.tables e below (T16.setTop (mkF m 20 #[.val (.ref p0), .val (.ref p1), .val (.int (1 : Int32))] [(.ref p0), (.int (own_at [x0, x1, x2, x3, x4, x5] q1))])) _
      refine st21 _ ?_
      show Steps p.tables e below (T21.setTop (mkF m 23 #[.val (.ref p0), .val (.ref p1), .val (.int (1 : Int32))] [(.ref b2), (.int (own_at [x0, x1, x2, x3, x4, x5] q1))])) _
      refine XS.iloadN X21.here hx rfl (hb hby d3_23) rfl ?_
      show Steps p.tables e below (T21.setTop (mkF m 24 #[.val (.ref p0), .val (.ref p1), .val (.int (1 : Int32))] [(.int (1 : Int32)), (.ref b2), (.int (own_at [x0, x1, x2, x3, x4, x5] q1))])) _
      refine X21.iaload hx (j := (1 : Int32)) (v := (.int t1)) (by rw [e21]; exact Ara10.1) (State.isArrayOf_alike hZ.alike Ara10.2.1) Ara10.2.2 hin22 hat23 (g := (mkF m 24 #[.val (.ref p0), .val (.ref p1), .val (.int (1 : Int32))] [(.int (1 : Int32)), (.ref b2), (.int (own_at [x0, x1, x2, x3, x4, x5] q1))])) rfl rfl (hb hby d3_24) _ ?_
      exact Steps.refl _
    by_cases hc25 : (own_at [x0, x1, x2, x3, x4, x5] q1) = t1
    · obtain ⟨T26, X26, e26, st26⟩ := getF X21 hx hZ hown (host := "") (Or.inl (hw _ (List.mem_of_getElem? (i := 10) rfl))) Via.refl e21 F0_ (g := (mkF m 4 #[.val (.ref p0), .val (.ref p1), .val (.int (2 : Int32))] [(.ref p0), (.int (2 : Int32))])) rfl rfl (hb hby d3_4)
      have s27 : Steps p.tables e below (s₁.setTop (entryFrame m #[(.ref p0), (.ref p1)] 3)) (T26.setTop (mkF m 37 #[.val (.ref p0), .val (.ref p1), .val (.int (2 : Int32))] [(.int (1 : Int32))])) := by
        refine s24.trans ?_
        show Steps p.tables e below (T21.setTop (mkF m 25 #[.val (.ref p0), .val (.ref p1), .val (.int (1 : Int32))] [(.int t1), (.int (own_at [x0, x1, x2, x3, x4, x5] q1))])) _
        refine XS.icmpYes X21.here hx rfl (pc0 := 25) (pc' := 30) rfl (hb hby d3_25) rfl (teq hc25).1 (by decide) (by decide) ?_
        show Steps p.tables e below (T21.setTop (mkF m 30 #[.val (.ref p0), .val (.ref p1), .val (.int (1 : Int32))] [])) _
        refine XS.iinc X21.here hx rfl (hb hby d3_30) rfl (l' := #[.val (.ref p0), .val (.ref p1), .val (.int (2 : Int32))]) rfl ?_
        show Steps p.tables e below (T21.setTop (mkF m 33 #[.val (.ref p0), .val (.ref p1), .val (.int (2 : Int32))] [])) _
        refine XS.goto X21.here hx rfl (pc0 := 33) (pc' := 2) rfl (hb hby d3_33) (by decide) (by decide) ?_
        show Steps p.tables e below (T21.setTop (mkF m 2 #[.val (.ref p0), .val (.ref p1), .val (.int (2 : Int32))] [])) _
        refine XS.iloadN X21.here hx rfl (hb hby d3_2) rfl ?_
        show Steps p.tables e below (T21.setTop (mkF m 3 #[.val (.ref p0), .val (.ref p1), .val (.int (2 : Int32))] [(.int (2 : Int32))])) _
        refine XS.aloadN X21.here hx rfl (hb hby d3_3) rfl rfl ?_
        show Steps p.tables e below (T21.setTop (mkF m 4 #[.val (.ref p0), .val (.ref p1), .val (.int (2 : Int32))] [(.ref p0), (.int (2 : Int32))])) _
        refine st26 _ ?_
        show Steps p.tables e below (T26.setTop (mkF m 7 #[.val (.ref p0), .val (.ref p1), .val (.int (2 : Int32))] [(.ref b1), (.int (2 : Int32))])) _
        refine X26.arraylength hx (by rw [e26]; exact Ara2.1) (State.isArrayOf_alike hZ.alike Ara2.2.1) (g := (mkF m 7 #[.val (.ref p0), .val (.ref p1), .val (.int (2 : Int32))] [(.ref b1), (.int (2 : Int32))])) rfl rfl (hb hby d3_7) _ ?_
        rw [len_of Sa2 Za2]
        show Steps p.tables e below (T26.setTop (mkF m 8 #[.val (.ref p0), .val (.ref p1), .val (.int (2 : Int32))] [(.int (2 : Int32)), (.int (2 : Int32))])) _
        refine XS.icmpYes X26.here hx rfl (pc0 := 8) (pc' := 36) rfl (hb hby d3_8) rfl (flt (by decide)).2.1 (by decide) (by decide) ?_
        show Steps p.tables e below (T26.setTop (mkF m 36 #[.val (.ref p0), .val (.ref p1), .val (.int (2 : Int32))] [])) _
        refine XS.iconst X26.here hx rfl (hb hby d3_36) ?_
        exact Steps.refl _
      obtain ⟨fs, hr, hrun, hended, hW, hsame⟩ := X26.leave (v := some (.int (1 : Int32))) (fun h => by rw [Bd.returns] at h; cases h)
      refine ⟨_, _, s27.trans ?_, hrun, hended, _, _, rfl, ?_, ⟨_, rfl⟩, hW, hsame.mono (by decide) (by decide)⟩
      · show Steps p.tables e below (T26.setTop (mkF m 37 #[.val (.ref p0), .val (.ref p1), .val (.int (2 : Int32))] [(.int (1 : Int32))])) _
        exact retN X26 hx (t := .boolean) Bd.returns (by simp) (hb hby d3_37) hr
      · show Qh2 Z p0 p1 b1 b2 k1 k2 k3 q0 q1 t0 t1 x0 x1 x2 x3 x4 x5 h0 n0 _ T26.heap _
        rw [e26]
        exact ⟨(by rw [if_pos hc14, if_pos hc25]), N0, rfl⟩
    · have s28 : Steps p.tables e below (s₁.setTop (entryFrame m #[(.ref p0), (.ref p1)] 3)) (T21.setTop (mkF m 29 #[.val (.ref p0), .val (.ref p1), .val (.int (1 : Int32))] [(.int (0 : Int32))])) := by
        refine s24.trans ?_
        show Steps p.tables e below (T21.setTop (mkF m 25 #[.val (.ref p0), .val (.ref p1), .val (.int (1 : Int32))] [(.int t1), (.int (own_at [x0, x1, x2, x3, x4, x5] q1))])) _
        refine XS.icmpNo X21.here hx rfl (hb hby d3_25) rfl (feq hc25).1 ?_
        show Steps p.tables e below (T21.setTop (mkF m 28 #[.val (.ref p0), .val (.ref p1), .val (.int (1 : Int32))] [])) _
        refine XS.iconst X21.here hx rfl (hb hby d3_28) ?_
        exact Steps.refl _
      obtain ⟨fs, hr, hrun, hended, hW, hsame⟩ := X21.leave (v := some (.int (0 : Int32))) (fun h => by rw [Bd.returns] at h; cases h)
      refine ⟨_, _, s28.trans ?_, hrun, hended, _, _, rfl, ?_, ⟨_, rfl⟩, hW, hsame.mono (by decide) (by decide)⟩
      · show Steps p.tables e below (T21.setTop (mkF m 29 #[.val (.ref p0), .val (.ref p1), .val (.int (1 : Int32))] [(.int (0 : Int32))])) _
        exact retN X21 hx (t := .boolean) Bd.returns (by simp) (hb hby d3_29) hr
      · show Qh2 Z p0 p1 b1 b2 k1 k2 k3 q0 q1 t0 t1 x0 x1 x2 x3 x4 x5 h0 n0 _ T21.heap _
        rw [e21]
        exact ⟨(by rw [if_pos hc14, if_neg hc25]), N0, rfl⟩
  · have s29 : Steps p.tables e below (s₁.setTop (entryFrame m #[(.ref p0), (.ref p1)] 3)) (T9.setTop (mkF m 29 #[.val (.ref p0), .val (.ref p1), .val (.int (0 : Int32))] [(.int (0 : Int32))])) := by
      refine s13.trans ?_
      show Steps p.tables e below (T9.setTop (mkF m 25 #[.val (.ref p0), .val (.ref p1), .val (.int (0 : Int32))] [(.int t0), (.int (own_at [x0, x1, x2, x3, x4, x5] q0))])) _
      refine XS.icmpNo X9.here hx rfl (hb hby d3_25) rfl (feq hc14).1 ?_
      show Steps p.tables e below (T9.setTop (mkF m 28 #[.val (.ref p0), .val (.ref p1), .val (.int (0 : Int32))] [])) _
      refine XS.iconst X9.here hx rfl (hb hby d3_28) ?_
      exact Steps.refl _
    obtain ⟨fs, hr, hrun, hended, hW, hsame⟩ := X9.leave (v := some (.int (0 : Int32))) (fun h => by rw [Bd.returns] at h; cases h)
    refine ⟨_, _, s29.trans ?_, hrun, hended, _, _, rfl, ?_, ⟨_, rfl⟩, hW, hsame.mono (by decide) (by decide)⟩
    · show Steps p.tables e below (T9.setTop (mkF m 29 #[.val (.ref p0), .val (.ref p1), .val (.int (0 : Int32))] [(.int (0 : Int32))])) _
      exact retN X9 hx (t := .boolean) Bd.returns (by simp) (hb hby d3_29) hr
    · show Qh2 Z p0 p1 b1 b2 k1 k2 k3 q0 q1 t0 t1 x0 x1 x2 x3 x4 x5 h0 n0 _ T9.heap _
      rw [e9]
      exact ⟨(by rw [if_neg hc14]), N0, rfl⟩
theorem ef_rmh3 (m : MethodId) (p0 : Addr) (p1 : Addr) : entryFrame m #[(.ref p0), (.ref p1)] 3 = mkF m 0 #[.val (.ref p0), .val (.ref p1), .unset] [] := by first | (simp [entryFrame, mkF, argsToLocals, Value.category]; done) | rfl
def Qh3 (Z : State) (p0 : Addr) (p1 : Addr) (b1 : Addr) (b2 : Addr) (k1 : ClassId) (k2 : ClassId) (k3 : ClassId) (q0 : Int32) (q1 : Int32) (q2 : Int32) (t0 : Int32) (t1 : Int32) (t2 : Int32) (x0 : Int32) (x1 : Int32) (x2 : Int32) (x3 : Int32) (x4 : Int32) (x5 : Int32) (h0 : Heap) (n0 : Nat) (v : Option Value) (h : Heap) (L : List Loc) : Prop := v = some (.int (if (own_at [x0, x1, x2, x3, x4, x5] q0) = t0 then (if (own_at [x0, x1, x2, x3, x4, x5] q1) = t1 then (if (own_at [x0, x1, x2, x3, x4, x5] q2) = t2 then (1 : Int32) else (0 : Int32)) else (0 : Int32)) else (0 : Int32))) ∧ Fr n0 L ∧ h = h0
set_option maxRecDepth 65536 in
set_option maxHeartbeats 40000000 in
theorem rmh3 (l : Launch) (Z : State) (a0 : Array Value) (hw : ∀ d ∈ tables_1, d.before a0 Z = true) (ws : List Jvm.Cond) (p0 : Addr) (p1 : Addr) (b1 : Addr) (b2 : Addr) (k1 : ClassId) (k2 : ClassId) (k3 : ClassId) (q0 : Int32) (q1 : Int32) (q2 : Int32) (t0 : Int32) (t1 : Int32) (t2 : Int32) (x0 : Int32) (x1 : Int32) (x2 : Int32) (x3 : Int32) (x4 : Int32) (x5 : Int32) (h0 : Heap) (n0 : Nat) (O0 : Old Z n0 h0) (F0_ : Fld Z h0 p0 "com/example/odds_on_axioms/oddsonaxioms/network/Condition" "positions" "[I" (.ref b1)) (F1_ : Fld Z h0 p0 "com/example/odds_on_axioms/oddsonaxioms/network/Condition" "states" "[I" (.ref b2)) (F2_ : Arv Z h0 b1 k1 .int (3 : Int32) [(.int q0), (.int q1), (.int q2)] (.int (0 : Int32))) (F3_ : Arv Z h0 b2 k2 .int (3 : Int32) [(.int t0), (.int t1), (.int t2)] (.int (0 : Int32))) (F4_ : Arv Z h0 p1 k3 .int (6 : Int32) [(.int x0), (.int x1), (.int x2), (.int x3), (.int x4), (.int x5)] (.int (0 : Int32))) (hq0 : ¬ q0 < (0 : Int32) ∧ q0 < (6 : Int32)) (hq1 : ¬ q1 < (0 : Int32) ∧ q1 < (6 : Int32)) (hq2 : ¬ q2 < (0 : Int32) ∧ q2 < (6 : Int32)) :
    MetFree l (⟨"com/example/odds_on_axioms/oddsonaxioms/network/Condition", "holdsIn", "([I)Z"⟩ : MethodName) (head1 (Jvm.Cond.code (⟨"com/example/odds_on_axioms/oddsonaxioms/network/Condition", "holdsIn", "([I)Z"⟩ : MethodName) prog_38_method_6_code 3 (some .boolean) :: ws) ({ frames := 0, cells := 0, slots := 0, locals := 0 } : Room)) (fun a U => a = #[(.ref p0), (.ref p1)] ∧ Z.Warmed39 U.vm ∧ U.heap = h0) (fun _ _ _ _ _ => True) (fun _ U o U' => ∃ v L, o = .returned v ∧ Qh3 Z p0 p1 b1 b2 k1 k2 k3 q0 q1 q2 t0 t1 t2 x0 x1 x2 x3 x4 x5 h0 n0 v U'.heap L ∧ FrameEnd U o U' L ({ frames := 0, cells := 0, slots := 0, locals := 0 } : Room).cells ({ frames := 0, cells := 0, slots := 0, locals := 0 } : Room).slots) := by
  refine MetFree.of_bodySF (plainFor_of_name pn_1) hisR ?_
  intro p e s m args below meth c s₁ Bd hml0 hP hK
  obtain ⟨rfl, hZ, hh⟩ := hP
  have hx := Bd.exec
  have hby := Bd.bytes
  have hml : c.maxLocals = 3 := hml0
  have hown : s.vm.findClass "com/example/odds_on_axioms/oddsonaxioms/network/Condition" = some m.cls := findClass_of_methodNamed Bd.named
  have hnm := (name_of_methodNamed Bd.named Bd.method).1
  have X0 : Stand p l e ({ frames := 0, cells := 0, slots := 0, locals := 0 } : Room) s m #[(.ref p0), (.ref p1)] below meth c s₁ [] 0 0 := Stand.of_body Bd
  have e0 : s₁.heap = h0 := by rw [← hh, Bd.state]; rfl
  have N0 := Fr.nil n0
  have s0 : Steps p.tables e below (s₁.setTop (entryFrame m #[(.ref p0), (.ref p1)] 3)) (s₁.setTop (mkF m 0 #[.val (.ref p0), .val (.ref p1), .unset] [])) := castTop (ef_rmh3 m p0 p1) (Steps.refl _)
  obtain ⟨T1, X1, e1, st1⟩ := getF X0 hx hZ hown (host := "") (Or.inl (hw _ (List.mem_of_getElem? (i := 10) rfl))) Via.refl e0 F0_ (g := (mkF m 4 #[.val (.ref p0), .val (.ref p1), .val (.int (0 : Int32))] [(.ref p0), (.int (0 : Int32))])) rfl rfl (hb hby d3_4)
  obtain ⟨cla2, Ara2, qa2, Sa2, Za2, Ha2, Ga2⟩ := id F2_
  obtain ⟨T3, X3, e3, st3⟩ := getF X1 hx hZ hown (host := "") (Or.inl (hw _ (List.mem_of_getElem? (i := 10) rfl))) Via.refl e1 F0_ (g := (mkF m 13 #[.val (.ref p0), .val (.ref p1), .val (.int (0 : Int32))] [(.ref p0), (.ref p1)])) rfl rfl (hb hby d3_13)
  have hin4 : ¬ ((0 : Int32) < 0 ∨ cla2.slots.size ≤ ((0 : Int32)).toNatClampNeg) := inb_of Sa2 ⟨by decide, by decide⟩
  have hat5 : cla2.slots[((0 : Int32)).toNatClampNeg]? = some (.int q0) := Has.at Ha2 hin4 rfl
  obtain ⟨cla6, Ara6, qa6, Sa6, Za6, Ha6, Ga6⟩ := id F4_
  have hin7 : ¬ (q0 < 0 ∨ cla6.slots.size ≤ (q0).toNatClampNeg) := inb_of Sa6 hq0
  have hat8 : cla6.slots[(q0).toNatClampNeg]? = some (.int (own_at [x0, x1, x2, x3, x4, x5] q0)) := Has.at Ha6 hin7 (own_getD [x0, x1, x2, x3, x4, x5] _)
  obtain ⟨T9, X9, e9, st9⟩ := getF X3 hx hZ hown (host := "") (Or.inl (hw _ (List.mem_of_getElem? (i := 12) rfl))) Via.refl e3 F1_ (g := (mkF m 20 #[.val (.ref p0), .val (.ref p1), .val (.int (0 : Int32))] [(.ref p0), (.int (own_at [x0, x1, x2, x3, x4, x5] q0))])) rfl rfl (hb hby d3_20)
  obtain ⟨cla10, Ara10, qa10, Sa10, Za10, Ha10, Ga10⟩ := id F3_
  have hin11 : ¬ ((0 : Int32) < 0 ∨ cla10.slots.size ≤ ((0 : Int32)).toNatClampNeg) := inb_of Sa10 ⟨by decide, by decide⟩
  have hat12 : cla10.slots[((0 : Int32)).toNatClampNeg]? = some (.int t0) := Has.at Ha10 hin11 rfl
  have s13 : Steps p.tables e below (s₁.setTop (entryFrame m #[(.ref p0), (.ref p1)] 3)) (T9.setTop (mkF m 25 #[.val (.ref p0), .val (.ref p1), .val (.int (0 : Int32))] [(.int t0), (.int (own_at [x0, x1, x2, x3, x4, x5] q0))])) := by
    refine s0.trans ?_
    show Steps p.tables e below (s₁.setTop (mkF m 0 #[.val (.ref p0), .val (.ref p1), .unset] [])) _
    refine XS.iconst X0.here hx rfl (hb hby d3_0) ?_
    show Steps p.tables e below (s₁.setTop (mkF m 1 #[.val (.ref p0), .val (.ref p1), .unset] [(.int (0 : Int32))])) _
    refine XS.istoreN X0.here hx rfl (hb hby d3_1) rfl (l' := #[.val (.ref p0), .val (.ref p1), .val (.int (0 : Int32))]) rfl ?_
    show Steps p.tables e below (s₁.setTop (mkF m 2 #[.val (.ref p0), .val (.ref p1), .val (.int (0 : Int32))] [])) _
    refine XS.iloadN X0.here hx rfl (hb hby d3_2) rfl ?_
    show Steps p.tables e below (s₁.setTop (mkF m 3 #[.val (.ref p0), .val (.ref p1), .val (.int (0 : Int32))] [(.int (0 : Int32))])) _
    refine XS.aloadN X0.here hx rfl (hb hby d3_3) rfl rfl ?_
    show Steps p.tables e below (s₁.setTop (mkF m 4 #[.val (.ref p0), .val (.ref p1), .val (.int (0 : Int32))] [(.ref p0), (.int (0 : Int32))])) _
    refine st1 _ ?_
    show Steps p.tables e below (T1.setTop (mkF m 7 #[.val (.ref p0), .val (.ref p1), .val (.int (0 : Int32))] [(.ref b1), (.int (0 : Int32))])) _
    refine X1.arraylength hx (by rw [e1]; exact Ara2.1) (State.isArrayOf_alike hZ.alike Ara2.2.1) (g := (mkF m 7 #[.val (.ref p0), .val (.ref p1), .val (.int (0 : Int32))] [(.ref b1), (.int (0 : Int32))])) rfl rfl (hb hby d3_7) _ ?_
    rw [len_of Sa2 Za2]
    show Steps p.tables e below (T1.setTop (mkF m 8 #[.val (.ref p0), .val (.ref p1), .val (.int (0 : Int32))] [(.int (3 : Int32)), (.int (0 : Int32))])) _
    refine XS.icmpNo X1.here hx rfl (hb hby d3_8) rfl (tlt (by decide)).2.1 ?_
    show Steps p.tables e below (T1.setTop (mkF m 11 #[.val (.ref p0), .val (.ref p1), .val (.int (0 : Int32))] [])) _
    refine XS.aloadN X1.here hx rfl (hb hby d3_11) rfl rfl ?_
    show Steps p.tables e below (T1.setTop (mkF m 12 #[.val (.ref p0), .val (.ref p1), .val (.int (0 : Int32))] [(.ref p1)])) _
    refine XS.aloadN X1.here hx rfl (hb hby d3_12) rfl rfl ?_
    show Steps p.tables e below (T1.setTop (mkF m 13 #[.val (.ref p0), .val (.ref p1), .val (.int (0 : Int32))] [(.ref p0), (.ref p1)])) _
    refine st3 _ ?_
    show Steps p.tables e below (T3.setTop (mkF m 16 #[.val (.ref p0), .val (.ref p1), .val (.int (0 : Int32))] [(.ref b1), (.ref p1)])) _
    refine XS.iloadN X3.here hx rfl (hb hby d3_16) rfl ?_
    show Steps p.tables e below (T3.setTop (mkF m 17 #[.val (.ref p0), .val (.ref p1), .val (.int (0 : Int32))] [(.int (0 : Int32)), (.ref b1), (.ref p1)])) _
    refine X3.iaload hx (j := (0 : Int32)) (v := (.int q0)) (by rw [e3]; exact Ara2.1) (State.isArrayOf_alike hZ.alike Ara2.2.1) Ara2.2.2 hin4 hat5 (g := (mkF m 17 #[.val (.ref p0), .val (.ref p1), .val (.int (0 : Int32))] [(.int (0 : Int32)), (.ref b1), (.ref p1)])) rfl rfl (hb hby d3_17) _ ?_
    show Steps p.tables e below (T3.setTop (mkF m 18 #[.val (.ref p0), .val (.ref p1), .val (.int (0 : Int32))] [(.int q0), (.ref p1)])) _
    refine X3.iaload hx (j := q0) (v := (.int (own_at [x0, x1, x2, x3, x4, x5] q0))) (by rw [e3]; exact Ara6.1) (State.isArrayOf_alike hZ.alike Ara6.2.1) Ara6.2.2 hin7 hat8 (g := (mkF m 18 #[.val (.ref p0), .val (.ref p1), .val (.int (0 : Int32))] [(.int q0), (.ref p1)])) rfl rfl (hb hby d3_18) _ ?_
    show Steps p.tables e below (T3.setTop (mkF m 19 #[.val (.ref p0), .val (.ref p1), .val (.int (0 : Int32))] [(.int (own_at [x0, x1, x2, x3, x4, x5] q0))])) _
    refine XS.aloadN X3.here hx rfl (hb hby d3_19) rfl rfl ?_
    show Steps p.tables e below (T3.setTop (mkF m 20 #[.val (.ref p0), .val (.ref p1), .val (.int (0 : Int32))] [(.ref p0), (.int (own_at [x0, x1, x2, x3, x4, x5] q0))])) _
    refine st9 _ ?_
    show Steps p.tables e below (T9.setTop (mkF m 23 #[.val (.ref p0), .val (.ref p1), .val (.int (0 : Int32))] [(.ref b2), (.int (own_at [x0, x1, x2, x3, x4, x5] q0))])) _
    refine XS.iloadN X9.here hx rfl (hb hby d3_23) rfl ?_
    show Steps p.tables e below (T9.setTop (mkF m 24 #[.val (.ref p0), .val (.ref p1), .val (.int (0 : Int32))] [(.int (0 : Int32)), (.ref b2), (.int (own_at [x0, x1, x2, x3, x4, x5] q0))])) _
    refine X9.iaload hx (j := (0 : Int32)) (v := (.int t0)) (by rw [e9]; exact Ara10.1) (State.isArrayOf_alike hZ.alike Ara10.2.1) Ara10.2.2 hin11 hat12 (g := (mkF m 24 #[.val (.ref p0), .val (.ref p1), .val (.int (0 : Int32))] [(.int (0 : Int32)), (.ref b2), (.int (own_at [x0, x1, x2, x3, x4, x5] q0))])) rfl rfl (hb hby d3_24) _ ?_
    exact Steps.refl _
  by_cases hc14 : (own_at [x0, x1, x2, x3, x4, x5] q0) = t0
  · obtain ⟨T15, X15, e15, st15⟩ := getF X9 hx hZ hown (host := "") (Or.inl (hw _ (List.mem_of_getElem? (i := 10) rfl))) Via.refl e9 F0_ (g := (mkF m 4 #[.val (.ref p0), .val (.ref p1), .val (.int (1 : Int32))] [(.ref p0), (.int (1 : Int32))])) rfl rfl (hb hby d3_4)
    obtain ⟨T16, X16, e16, st16⟩ := getF X15 hx hZ hown (host := "") (Or.inl (hw _ (List.mem_of_getElem? (i := 10) rfl))) Via.refl e15 F0_ (g := (mkF m 13 #[.val (.ref p0), .val (.ref p1), .val (.int (1 : Int32))] [(.ref p0), (.ref p1)])) rfl rfl (hb hby d3_13)
    have hin17 : ¬ ((1 : Int32) < 0 ∨ cla2.slots.size ≤ ((1 : Int32)).toNatClampNeg) := inb_of Sa2 ⟨by decide, by decide⟩
    have hat18 : cla2.slots[((1 : Int32)).toNatClampNeg]? = some (.int q1) := Has.at Ha2 hin17 rfl
    have hin19 : ¬ (q1 < 0 ∨ cla6.slots.size ≤ (q1).toNatClampNeg) := inb_of Sa6 hq1
    have hat20 : cla6.slots[(q1).toNatClampNeg]? = some (.int (own_at [x0, x1, x2, x3, x4, x5] q1)) := Has.at Ha6 hin19 (own_getD [x0, x1, x2, x3, x4, x5] _)
    obtain ⟨T21, X21, e21, st21⟩ := getF X16 hx hZ hown (host := "") (Or.inl (hw _ (List.mem_of_getElem? (i := 12) rfl))) Via.refl e16 F1_ (g := (mkF m 20 #[.val (.ref p0), .val (.ref p1), .val (.int (1 : Int32))] [(.ref p0), (.int (own_at [x0, x1, x2, x3, x4, x5] q1))])) rfl rfl (hb hby d3_20)
    have hin22 : ¬ ((1 : Int32) < 0 ∨ cla10.slots.size ≤ ((1 : Int32)).toNatClampNeg) := inb_of Sa10 ⟨by decide, by decide⟩
    have hat23 : cla10.slots[((1 : Int32)).toNatClampNeg]? = some (.int t1) := Has.at Ha10 hin22 rfl
    have s24 : Steps p.tables e below (s₁.setTop (entryFrame m #[(.ref p0), (.ref p1)] 3)) (T21.setTop (mkF m 25 #[.val (.ref p0), .val (.ref p1), .val (.int (1 : Int32))] [(.int t1), (.int (own_at [x0, x1, x2, x3, x4, x5] q1))])) := by
      refine s13.trans ?_
      show Steps p.tables e below (T9.setTop (mkF m 25 #[.val (.ref p0), .val (.ref p1), .val (.int (0 : Int32))] [(.int t0), (.int (own_at [x0, x1, x2, x3, x4, x5] q0))])) _
      refine XS.icmpYes X9.here hx rfl (pc0 := 25) (pc' := 30) rfl (hb hby d3_25) rfl (teq hc14).1 (by decide) (by decide) ?_
      show Steps p.tables e below (T9.setTop (mkF m 30 #[.val (.ref p0), .val (.ref p1), .val (.int (0 : Int32))] [])) _
      refine XS.iinc X9.here hx rfl (hb hby d3_30) rfl (l' := #[.val (.ref p0), .val (.ref p1), .val (.int (1 : Int32))]) rfl ?_
      show Steps p.tables e below (T9.setTop (mkF m 33 #[.val (.ref p0), .val (.ref p1), .val (.int (1 : Int32))] [])) _
      refine XS.goto X9.here hx rfl (pc0 := 33) (pc' := 2) rfl (hb hby d3_33) (by decide) (by decide) ?_
      show Steps p.tables e below (T9.setTop (mkF m 2 #[.val (.ref p0), .val (.ref p1), .val (.int (1 : Int32))] [])) _
      refine XS.iloadN X9.here hx rfl (hb hby d3_2) rfl ?_
      show Steps p.tables e below (T9.setTop (mkF m 3 #[.val (.ref p0), .val (.ref p1), .val (.int (1 : Int32))] [(.int (1 : Int32))])) _
      refine XS.aloadN X9.here hx rfl (hb hby d3_3) rfl rfl ?_
      show Steps p.tables e below (T9.setTop (mkF m 4 #[.val (.ref p0), .val (.ref p1), .val (.int (1 : Int32))] [(.ref p0), (.int (1 : Int32))])) _
      refine st15 _ ?_
      show Steps p.tables e below (T15.setTop (mkF m 7 #[.val (.ref p0), .val (.ref p1), .val (.int (1 : Int32))] [(.ref b1), (.int (1 : Int32))])) _
      refine X15.arraylength hx (by rw [e15]; exact Ara2.1) (State.isArrayOf_alike hZ.alike Ara2.2.1) (g := (mkF m 7 #[.val (.ref p0), .val (.ref p1), .val (.int (1 : Int32))] [(.ref b1), (.int (1 : Int32))])) rfl rfl (hb hby d3_7) _ ?_
      rw [len_of Sa2 Za2]
      show Steps p.tables e below (T15.setTop (mkF m 8 #[.val (.ref p0), .val (.ref p1), .val (.int (1 : Int32))] [(.int (3 : Int32)), (.int (1 : Int32))])) _
      refine XS.icmpNo X15.here hx rfl (hb hby d3_8) rfl (tlt (by decide)).2.1 ?_
      show Steps p.tables e below (T15.setTop (mkF m 11 #[.val (.ref p0), .val (.ref p1), .val (.int (1 : Int32))] [])) _
      refine XS.aloadN X15.here hx rfl (hb hby d3_11) rfl rfl ?_
      show Steps p.tables e below (T15.setTop (mkF m 12 #[.val (.ref p0), .val (.ref p1), .val (.int (1 : Int32))] [(.ref p1)])) _
      refine XS.aloadN X15.here hx rfl (hb hby d3_12) rfl rfl ?_
      show Steps p.tables e below (T15.setTop (mkF m 13 #[.val (.ref p0), .val (.ref p1), .val (.int (1 : Int32))] [(.ref p0), (.ref p1)])) _
      refine st16 _ ?_
      show Steps p.tables e below (T16.setTop (mkF m 16 #[.val (.ref p0), .val (.ref p1), .val (.int (1 : Int32))] [(.ref b1), (.ref p1)])) _
      refine XS.iloadN X16.here hx rfl (hb hby d3_16) rfl ?_
      show Steps p.tables e below (T16.setTop (mkF m 17 #[.val (.ref p0), .val (.ref p1), .val (.int (1 : Int32))] [(.int (1 : Int32)), (.ref b1), (.ref p1)])) _
      refine X16.iaload hx (j := (1 : Int32)) (v := (.int q1)) (by rw [e16]; exact Ara2.1) (State.isArrayOf_alike hZ.alike Ara2.2.1) Ara2.2.2 hin17 hat18 (g := (mkF m 17 #[.val (.ref p0), .val (.ref p1), .val (.int (1 : Int32))] [(.int (1 : Int32)), (.ref b1), (.ref p1)])) rfl rfl (hb hby d3_17) _ ?_
      show Steps p.tables e below (T16.setTop (mkF m 18 #[.val (.ref p0), .val (.ref p1), .val (.int (1 : Int32))] [(.int q1), (.ref p1)])) _
      refine X16.iaload hx (j := q1) (v := (.int (own_at [x0, x1, x2, x3, x4, x5] q1))) (by rw [e16]; exact Ara6.1) (State.isArrayOf_alike hZ.alike Ara6.2.1) Ara6.2.2 hin19 hat20 (g := (mkF m 18 #[.val (.ref p0), .val (.ref p1), .val (.int (1 : Int32))] [(.int q1), (.ref p1)])) rfl rfl (hb hby d3_18) _ ?_
      show Steps p.tables e below (T16.setTop (mkF m 19 #[.val (.ref p0), .val (.ref p1), .val (.int (1 : Int32))] [(.int (own_at [x0, x1, x2, x3, x4, x5] q1))])) _
      refine XS.aloadN X16.here hx rfl (hb hby d3_19) rfl rfl ?_
      show Steps p.tables e below (T16.setTop (mkF m 20 #[.val (.ref p0), .val (.ref p1), .val (.int (1 : Int32))] [(.ref p0), (.int (own_at [x0, x1, x2, x3, x4, x5] q1))])) _
      refine st21 _ ?_
      show Steps p.tables e below (T21.setTop (mkF m 23 #[.val (.ref p0), .val (.ref p1), .val (.int (1 : Int32))] [(.ref b2), (.int (own_at [x0, x1, x2, x3, x4, x5] q1))])) _
      refine XS.iloadN X21.here hx rfl (hb hby d3_23) rfl ?_
      show Steps p.tables e below (T21.setTop (mkF m 24 #[.val (.ref p0), .val (.ref p1), .val (.int (1 : Int32))] [(.int (1 : Int32)), (.ref b2), (.int (own_at [x0, x1, x2, x3, x4, x5] q1))])) _
      refine X21.iaload hx (j := (1 : Int32)) (v := (.int t1)) (by rw [e21]; exact Ara10.1) (State.isArrayOf_alike hZ.alike Ara10.2.1) Ara10.2.2 hin22 hat23 (g := (mkF m 24 #[.val (.ref p0), .val (.ref p1), .val (.int (1 : Int32))] [(.int (1 : Int32)), (.ref b2), (.int (own_at [x0, x1, x2, x3, x4, x5] q1))])) rfl rfl (hb hby d3_24) _ ?_
      exact Steps.refl _
    by_cases hc25 : (own_at [x0, x1, x2, x3, x4, x5] q1) = t1
    · obtain ⟨T26, X26, e26, st26⟩ := getF X21 hx hZ hown (host := "") (Or.inl (hw _ (List.mem_of_getElem? (i := 10) rfl))) Via.refl e21 F0_ (g := (mkF m 4 #[.val (.ref p0), .val (.ref p1), .val (.int (2 : Int32))] [(.ref p0), (.int (2 : Int32))])) rfl rfl (hb hby d3_4)
      obtain ⟨T27, X27, e27, st27⟩ := getF X26 hx hZ hown (host := "") (Or.inl (hw _ (List.mem_of_getElem? (i := 10) rfl))) Via.refl e26 F0_ (g := (mkF m 13 #[.val (.ref p0), .val (.ref p1), .val (.int (2 : Int32))] [(.ref p0), (.ref p1)])) rfl rfl (hb hby d3_13)
      have hin28 : ¬ ((2 : Int32) < 0 ∨ cla2.slots.size ≤ ((2 : Int32)).toNatClampNeg) := inb_of Sa2 ⟨by decide, by decide⟩
      have hat29 : cla2.slots[((2 : Int32)).toNatClampNeg]? = some (.int q2) := Has.at Ha2 hin28 rfl
      have hin30 : ¬ (q2 < 0 ∨ cla6.slots.size ≤ (q2).toNatClampNeg) := inb_of Sa6 hq2
      have hat31 : cla6.slots[(q2).toNatClampNeg]? = some (.int (own_at [x0, x1, x2, x3, x4, x5] q2)) := Has.at Ha6 hin30 (own_getD [x0, x1, x2, x3, x4, x5] _)
      obtain ⟨T32, X32, e32, st32⟩ := getF X27 hx hZ hown (host := "") (Or.inl (hw _ (List.mem_of_getElem? (i := 12) rfl))) Via.refl e27 F1_ (g := (mkF m 20 #[.val (.ref p0), .val (.ref p1), .val (.int (2 : Int32))] [(.ref p0), (.int (own_at [x0, x1, x2, x3, x4, x5] q2))])) rfl rfl (hb hby d3_20)
      have hin33 : ¬ ((2 : Int32) < 0 ∨ cla10.slots.size ≤ ((2 : Int32)).toNatClampNeg) := inb_of Sa10 ⟨by decide, by decide⟩
      have hat34 : cla10.slots[((2 : Int32)).toNatClampNeg]? = some (.int t2) := Has.at Ha10 hin33 rfl
      have s35 : Steps p.tables e below (s₁.setTop (entryFrame m #[(.ref p0), (.ref p1)] 3)) (T32.setTop (mkF m 25 #[.val (.ref p0), .val (.ref p1), .val (.int (2 : Int32))] [(.int t2), (.int (own_at [x0, x1, x2, x3, x4, x5] q2))])) := by
        refine s24.trans ?_
        show Steps p.tables e below (T21.setTop (mkF m 25 #[.val (.ref p0), .val (.ref p1), .val (.int (1 : Int32))] [(.int t1), (.int (own_at [x0, x1, x2, x3, x4, x5] q1))])) _
        refine XS.icmpYes X21.here hx rfl (pc0 := 25) (pc' := 30) rfl (hb hby d3_25) rfl (teq hc25).1 (by decide) (by decide) ?_
        show Steps p.tables e below (T21.setTop (mkF m 30 #[.val (.ref p0), .val (.ref p1), .val (.int (1 : Int32))] [])) _
        refine XS.iinc X21.here hx rfl (hb hby d3_30) rfl (l' := #[.val (.ref p0), .val (.ref p1), .val (.int (2 : Int32))]) rfl ?_
        show Steps p.tables e below (T21.setTop (mkF m 33 #[.val (.ref p0), .val (.ref p1), .val (.int (2 : Int32))] [])) _
        refine XS.goto X21.here hx rfl (pc0 := 33) (pc' := 2) rfl (hb hby d3_33) (by decide) (by decide) ?_
        show Steps p.tables e below (T21.setTop (mkF m 2 #[.val (.ref p0), .val (.ref p1), .val (.int (2 : Int32))] [])) _
        refine XS.iloadN X21.here hx rfl (hb hby d3_2) rfl ?_
        show Steps p.tables e below (T21.setTop (mkF m 3 #[.val (.ref p0), .val (.ref p1), .val (.int (2 : Int32))] [(.int (2 : Int32))])) _
        refine XS.aloadN X21.here hx rfl (hb hby d3_3) rfl rfl ?_
        show Steps p.tables e below (T21.setTop (mkF m 4 #[.val (.ref p0), .val (.ref p1), .val (.int (2 : Int32))] [(.ref p0), (.int (2 : Int32))])) _
        refine st26 _ ?_
        show Steps p.tables e below (T26.setTop (mkF m 7 #[.val (.ref p0), .val (.ref p1), .val (.int (2 : Int32))] [(.ref b1), (.int (2 : Int32))])) _
        refine X26.arraylength hx (by rw [e26]; exact Ara2.1) (State.isArrayOf_alike hZ.alike Ara2.2.1) (g := (mkF m 7 #[.val (.ref p0), .val (.ref p1), .val (.int (2 : Int32))] [(.ref b1), (.int (2 : Int32))])) rfl rfl (hb hby d3_7) _ ?_
        rw [len_of Sa2 Za2]
        show Steps p.tables e below (T26.setTop (mkF m 8 #[.val (.ref p0), .val (.ref p1), .val (.int (2 : Int32))] [(.int (3 : Int32)), (.int (2 : Int32))])) _
        refine XS.icmpNo X26.here hx rfl (hb hby d3_8) rfl (tlt (by decide)).2.1 ?_
        show Steps p.tables e below (T26.setTop (mkF m 11 #[.val (.ref p0), .val (.ref p1), .val (.int (2 : Int32))] [])) _
        refine XS.aloadN X26.here hx rfl (hb hby d3_11) rfl rfl ?_
        show Steps p.tables e below (T26.setTop (mkF m 12 #[.val (.ref p0), .val (.ref p1), .val (.int (2 : Int32))] [(.ref p1)])) _
        refine XS.aloadN X26.here hx rfl (hb hby d3_12) rfl rfl ?_
        show Steps p.tables e below (T26.setTop (mkF m 13 #[.val (.ref p0), .val (.ref p1), .val (.int (2 : Int32))] [(.ref p0), (.ref p1)])) _
        refine st27 _ ?_
        show Steps p.tables e below (T27.setTop (mkF m 16 #[.val (.ref p0), .val (.ref p1), .val (.int (2 : Int32))] [(.ref b1), (.ref p1)])) _
        refine XS.iloadN X27.here hx rfl (hb hby d3_16) rfl ?_
        show Steps p.tables e below (T27.setTop (mkF m 17 #[.val (.ref p0), .val (.ref p1), .val (.int (2 : Int32))] [(.int (2 : Int32)), (.ref b1), (.ref p1)])) _
        refine X27.iaload hx (j := (2 : Int32)) (v := (.int q2)) (by rw [e27]; exact Ara2.1) (State.isArrayOf_alike hZ.alike Ara2.2.1) Ara2.2.2 hin28 hat29 (g := (mkF m 17 #[.val (.ref p0), .val (.ref p1), .val (.int (2 : Int32))] [(.int (2 : Int32)), (.ref b1), (.ref p1)])) rfl rfl (hb hby d3_17) _ ?_
        show Steps p.tables e below (T27.setTop (mkF m 18 #[.val (.ref p0), .val (.ref p1), .val (.int (2 : Int32))] [(.int q2), (.ref p1)])) _
        refine X27.iaload hx (j := q2) (v := (.int (own_at [x0, x1, x2, x3, x4, x5] q2))) (by rw [e27]; exact Ara6.1) (State.isArrayOf_alike hZ.alike Ara6.2.1) Ara6.2.2 hin30 hat31 (g := (mkF m 18 #[.val (.ref p0), .val (.ref p1), .val (.int (2 : Int32))] [(.int q2), (.ref p1)])) rfl rfl (hb hby d3_18) _ ?_
        show Steps p.tables e below (T27.setTop (mkF m 19 #[.val (.ref p0), .val (.ref p1), .val (.int (2 : Int32))] [(.int (own_at [x0, x1, x2, x3, x4, x5] q2))])) _
        refine XS.aloadN X27.here hx rfl (hb hby d3_19) rfl rfl ?_
        show Steps p.tables e below (T27.setTop (mkF m 20 #[.val (.ref p0), .val (.ref p1), .val (.int (2 : Int32))] [(.ref p0), (.int (own_at [x0, x1, x2, x3, x4, x5] q2))])) _
        refine st32 _ ?_
        show Steps p.tables e below (T32.setTop (mkF m 23 #[.val (.ref p0), .val (.ref p1), .val (.int (2 : Int32))] [(.ref b2), (.int (own_at [x0, x1, x2, x3, x4, x5] q2))])) _
        refine XS.iloadN X32.here hx rfl (hb hby d3_23) rfl ?_
        show Steps p.tables e below (T32.setTop (mkF m 24 #[.val (.ref p0), .val (.ref p1), .val (.int (2 : Int32))] [(.int (2 : Int32)), (.ref b2), (.int (own_at [x0, x1, x2, x3, x4, x5] q2))])) _
        refine X32.iaload hx (j := (2 : Int32)) (v := (.int t2)) (by rw [e32]; exact Ara10.1) (State.isArrayOf_alike hZ.alike Ara10.2.1) Ara10.2.2 hin33 hat34 (g := (mkF m 24 #[.val (.ref p0), .val (.ref p1), .val (.int (2 : Int32))] [(.int (2 : Int32)), (.ref b2), (.int (own_at [x0, x1, x2, x3, x4, x5] q2))])) rfl rfl (hb hby d3_24) _ ?_
        exact Steps.refl _
      by_cases hc36 : (own_at [x0, x1, x2, x3, x4, x5] q2) = t2
      · obtain ⟨T37, X37, e37, st37⟩ := getF X32 hx hZ hown (host := "") (Or.inl (hw _ (List.mem_of_getElem? (i := 10) rfl))) Via.refl e32 F0_ (g := (mkF m 4 #[.val (.ref p0), .val (.ref p1), .val (.int (3 : Int32))] [(.ref p0), (.int (3 : Int32))])) rfl rfl (hb hby d3_4)
        have s38 : Steps p.tables e below (s₁.setTop (entryFrame m #[(.ref p0), (.ref p1)] 3)) (T37.setTop (mkF m 37 #[.val (.ref p0), .val (.ref p1), .val (.int (3 : Int32))] [(.int (1 : Int32))])) := by
          refine s35.trans ?_
          show Steps p.tables e below (T32.setTop (mkF m 25 #[.val (.ref p0), .val (.ref p1), .val (.int (2 : Int32))] [(.int t2), (.int (own_at [x0, x1, x2, x3, x4, x5] q2))])) _
          refine XS.icmpYes X32.here hx rfl (pc0 := 25) (pc' := 30) rfl (hb hby d3_25) rfl (teq hc36).1 (by decide) (by decide) ?_
          show Steps p.tables e below (T32.setTop (mkF m 30 #[.val (.ref p0), .val (.ref p1), .val (.int (2 : Int32))] [])) _
          refine XS.iinc X32.here hx rfl (hb hby d3_30) rfl (l' := #[.val (.ref p0), .val (.ref p1), .val (.int (3 : Int32))]) rfl ?_
          show Steps p.tables e below (T32.setTop (mkF m 33 #[.val (.ref p0), .val (.ref p1), .val (.int (3 : Int32))] [])) _
          refine XS.goto X32.here hx rfl (pc0 := 33) (pc' := 2) rfl (hb hby d3_33) (by decide) (by decide) ?_
          show Steps p.tables e below (T32.setTop (mkF m 2 #[.val (.ref p0), .val (.ref p1), .val (.int (3 : Int32))] [])) _
          refine XS.iloadN X32.here hx rfl (hb hby d3_2) rfl ?_
          show Steps p.tables e below (T32.setTop (mkF m 3 #[.val (.ref p0), .val (.ref p1), .val (.int (3 : Int32))] [(.int (3 : Int32))])) _
          refine XS.aloadN X32.here hx rfl (hb hby d3_3) rfl rfl ?_
          show Steps p.tables e below (T32.setTop (mkF m 4 #[.val (.ref p0), .val (.ref p1), .val (.int (3 : Int32))] [(.ref p0), (.int (3 : Int32))])) _
          refine st37 _ ?_
          show Steps p.tables e below (T37.setTop (mkF m 7 #[.val (.ref p0), .val (.ref p1), .val (.int (3 : Int32))] [(.ref b1), (.int (3 : Int32))])) _
          refine X37.arraylength hx (by rw [e37]; exact Ara2.1) (State.isArrayOf_alike hZ.alike Ara2.2.1) (g := (mkF m 7 #[.val (.ref p0), .val (.ref p1), .val (.int (3 : Int32))] [(.ref b1), (.int (3 : Int32))])) rfl rfl (hb hby d3_7) _ ?_
          rw [len_of Sa2 Za2]
          show Steps p.tables e below (T37.setTop (mkF m 8 #[.val (.ref p0), .val (.ref p1), .val (.int (3 : Int32))] [(.int (3 : Int32)), (.int (3 : Int32))])) _
          refine XS.icmpYes X37.here hx rfl (pc0 := 8) (pc' := 36) rfl (hb hby d3_8) rfl (flt (by decide)).2.1 (by decide) (by decide) ?_
          show Steps p.tables e below (T37.setTop (mkF m 36 #[.val (.ref p0), .val (.ref p1), .val (.int (3 : Int32))] [])) _
          refine XS.iconst X37.here hx rfl (hb hby d3_36) ?_
          exact Steps.refl _
        obtain ⟨fs, hr, hrun, hended, hW, hsame⟩ := X37.leave (v := some (.int (1 : Int32))) (fun h => by rw [Bd.returns] at h; cases h)
        refine ⟨_, _, s38.trans ?_, hrun, hended, _, _, rfl, ?_, ⟨_, rfl⟩, hW, hsame.mono (by decide) (by decide)⟩
        · show Steps p.tables e below (T37.setTop (mkF m 37 #[.val (.ref p0), .val (.ref p1), .val (.int (3 : Int32))] [(.int (1 : Int32))])) _
          exact retN X37 hx (t := .boolean) Bd.returns (by simp) (hb hby d3_37) hr
        · show Qh3 Z p0 p1 b1 b2 k1 k2 k3 q0 q1 q2 t0 t1 t2 x0 x1 x2 x3 x4 x5 h0 n0 _ T37.heap _
          rw [e37]
          exact ⟨(by rw [if_pos hc14, if_pos hc25, if_pos hc36]), N0, rfl⟩
      · have s39 : Steps p.tables e below (s₁.setTop (entryFrame m #[(.ref p0), (.ref p1)] 3)) (T32.setTop (mkF m 29 #[.val (.ref p0), .val (.ref p1), .val (.int (2 : Int32))] [(.int (0 : Int32))])) := by
          refine s35.trans ?_
          show Steps p.tables e below (T32.setTop (mkF m 25 #[.val (.ref p0), .val (.ref p1), .val (.int (2 : Int32))] [(.int t2), (.int (own_at [x0, x1, x2, x3, x4, x5] q2))])) _
          refine XS.icmpNo X32.here hx rfl (hb hby d3_25) rfl (feq hc36).1 ?_
          show Steps p.tables e below (T32.setTop (mkF m 28 #[.val (.ref p0), .val (.ref p1), .val (.int (2 : Int32))] [])) _
          refine XS.iconst X32.here hx rfl (hb hby d3_28) ?_
          exact Steps.refl _
        obtain ⟨fs, hr, hrun, hended, hW, hsame⟩ := X32.leave (v := some (.int (0 : Int32))) (fun h => by rw [Bd.returns] at h; cases h)
        refine ⟨_, _, s39.trans ?_, hrun, hended, _, _, rfl, ?_, ⟨_, rfl⟩, hW, hsame.mono (by decide) (by decide)⟩
        · show Steps p.tables e below (T32.setTop (mkF m 29 #[.val (.ref p0), .val (.ref p1), .val (.int (2 : Int32))] [(.int (0 : Int32))])) _
          exact retN X32 hx (t := .boolean) Bd.returns (by simp) (hb hby d3_29) hr
        · show Qh3 Z p0 p1 b1 b2 k1 k2 k3 q0 q1 q2 t0 t1 t2 x0 x1 x2 x3 x4 x5 h0 n0 _ T32.heap _
          rw [e32]
          exact ⟨(by rw [if_pos hc14, if_pos hc25, if_neg hc36]), N0, rfl⟩
    · have s40 : Steps p.tables e below (s₁.setTop (entryFrame m #[(.ref p0), (.ref p1)] 3)) (T21.setTop (mkF m 29 #[.val (.ref p0), .val (.ref p1), .val (.int (1 : Int32))] [(.int (0 : Int32))])) := by
        refine s24.trans ?_
        show Steps p.tables e below (T21.setTop (mkF m 25 #[.val (.ref p0), .val (.ref p1), .val (.int (1 : Int32))] [(.int t1), (.int (own_at [x0, x1, x2, x3, x4, x5] q1))])) _
        refine XS.icmpNo X21.here hx rfl (hb hby d3_25) rfl (feq hc25).1 ?_
        show Steps p.tables e below (T21.setTop (mkF m 28 #[.val (.ref p0), .val (.ref p1), .val (.int (1 : Int32))] [])) _
        refine XS.iconst X21.here hx rfl (hb hby d3_28) ?_
        exact Steps.refl _
      obtain ⟨fs, hr, hrun, hended, hW, hsame⟩ := X21.leave (v := some (.int (0 : Int32))) (fun h => by rw [Bd.returns] at h; cases h)
      refine ⟨_, _, s40.trans ?_, hrun, hended, _, _, rfl, ?_, ⟨_, rfl⟩, hW, hsame.mono (by decide) (by decide)⟩
      · show Steps p.tables e below (T21.setTop (mkF m 29 #[.val (.ref p0), .val (.ref p1), .val (.int (1 : Int32))] [(.int (0 : Int32))])) _
        exact retN X21 hx (t := .boolean) Bd.returns (by simp) (hb hby d3_29) hr
      · show Qh3 Z p0 p1 b1 b2 k1 k2 k3 q0 q1 q2 t0 t1 t2 x0 x1 x2 x3 x4 x5 h0 n0 _ T21.heap _
        rw [e21]
        exact ⟨(by rw [if_pos hc14, if_neg hc25]), N0, rfl⟩
  · have s41 : Steps p.tables e below (s₁.setTop (entryFrame m #[(.ref p0), (.ref p1)] 3)) (T9.setTop (mkF m 29 #[.val (.ref p0), .val (.ref p1), .val (.int (0 : Int32))] [(.int (0 : Int32))])) := by
      refine s13.trans ?_
      show Steps p.tables e below (T9.setTop (mkF m 25 #[.val (.ref p0), .val (.ref p1), .val (.int (0 : Int32))] [(.int t0), (.int (own_at [x0, x1, x2, x3, x4, x5] q0))])) _
      refine XS.icmpNo X9.here hx rfl (hb hby d3_25) rfl (feq hc14).1 ?_
      show Steps p.tables e below (T9.setTop (mkF m 28 #[.val (.ref p0), .val (.ref p1), .val (.int (0 : Int32))] [])) _
      refine XS.iconst X9.here hx rfl (hb hby d3_28) ?_
      exact Steps.refl _
    obtain ⟨fs, hr, hrun, hended, hW, hsame⟩ := X9.leave (v := some (.int (0 : Int32))) (fun h => by rw [Bd.returns] at h; cases h)
    refine ⟨_, _, s41.trans ?_, hrun, hended, _, _, rfl, ?_, ⟨_, rfl⟩, hW, hsame.mono (by decide) (by decide)⟩
    · show Steps p.tables e below (T9.setTop (mkF m 29 #[.val (.ref p0), .val (.ref p1), .val (.int (0 : Int32))] [(.int (0 : Int32))])) _
      exact retN X9 hx (t := .boolean) Bd.returns (by simp) (hb hby d3_29) hr
    · show Qh3 Z p0 p1 b1 b2 k1 k2 k3 q0 q1 q2 t0 t1 t2 x0 x1 x2 x3 x4 x5 h0 n0 _ T9.heap _
      rw [e9]
      exact ⟨(by rw [if_neg hc14]), N0, rfl⟩
theorem own_rm0_1 (p0 : Int32) (q0 : Int32) (hq0 : q0 = ((p0 >>> ((2 : Int32) &&& 31)) &&& (1 : Int32))) : ¬ q0 < (0 : Int32) ∧ q0 < (6 : Int32) := by
  have a0 := c_mask (p0 >>> ((2 : Int32) &&& 31)) 1 1 (by decide) (by decide)
  have a1 := c_mask (p0 >>> ((3 : Int32) &&& 31)) 1 1 (by decide) (by decide)
  have a2 := c_mask (p0 >>> ((4 : Int32) &&& 31)) 1 1 (by decide) (by decide)
  simp only [Int32.lt_iff_toInt_lt, own_k0, own_k6]
  subst hq0
  omega
theorem own_rm0_2 (p0 : Int32) (q0 : Int32) (hq0 : q0 = ((p0 >>> ((2 : Int32) &&& 31)) &&& (1 : Int32))) : ¬ q0 < (0 : Int32) ∧ q0 < (6 : Int32) := by
  have a0 := c_mask (p0 >>> ((2 : Int32) &&& 31)) 1 1 (by decide) (by decide)
  have a1 := c_mask (p0 >>> ((3 : Int32) &&& 31)) 1 1 (by decide) (by decide)
  have a2 := c_mask (p0 >>> ((4 : Int32) &&& 31)) 1 1 (by decide) (by decide)
  simp only [Int32.lt_iff_toInt_lt, own_k0, own_k6]
  subst hq0
  omega
theorem own_rm0_3 (p2 : Int32) (q0 : Int32) (t0 : Int32) (z0 : Int32) (hz0 : z0 = (if (own_at [(p2 &&& (3 : Int32)), ((p2 >>> ((2 : Int32) &&& 31)) &&& (3 : Int32)), ((p2 >>> ((4 : Int32) &&& 31)) &&& (3 : Int32)), ((p2 >>> ((6 : Int32) &&& 31)) &&& (3 : Int32)), ((p2 >>> ((8 : Int32) &&& 31)) &&& (3 : Int32)), ((p2 >>> ((10 : Int32) &&& 31)) &&& (3 : Int32))] q0) = t0 then (1 : Int32) else (0 : Int32))) : (if (own_at [(p2 &&& (3 : Int32)), ((p2 >>> ((2 : Int32) &&& 31)) &&& (3 : Int32)), ((p2 >>> ((4 : Int32) &&& 31)) &&& (3 : Int32)), ((p2 >>> ((6 : Int32) &&& 31)) &&& (3 : Int32)), ((p2 >>> ((8 : Int32) &&& 31)) &&& (3 : Int32)), ((p2 >>> ((10 : Int32) &&& 31)) &&& (3 : Int32))] q0) = t0 then (1 : Int32) else (0 : Int32)) = z0 := by
  subst hz0
  repeat' split
  all_goals first | rfl | (exfalso; simp_all; done) | simp_all
theorem own_rm0_4 (p0 : Int32) (q0 : Int32) (hq0 : q0 = ((p0 >>> ((2 : Int32) &&& 31)) &&& (1 : Int32))) : ¬ q0 < (0 : Int32) ∧ q0 < (6 : Int32) := by
  have a0 := c_mask (p0 >>> ((2 : Int32) &&& 31)) 1 1 (by decide) (by decide)
  have a1 := c_mask (p0 >>> ((3 : Int32) &&& 31)) 1 1 (by decide) (by decide)
  have a2 := c_mask (p0 >>> ((4 : Int32) &&& 31)) 1 1 (by decide) (by decide)
  simp only [Int32.lt_iff_toInt_lt, own_k0, own_k6]
  subst hq0
  omega
theorem own_rm0_5 (p0 : Int32) (q0 : Int32) (q1 : Int32) (hq0 : q0 = ((p0 >>> ((2 : Int32) &&& 31)) &&& (1 : Int32))) (hq1 : q1 = ((q0 + (1 : Int32)) + ((p0 >>> ((3 : Int32) &&& 31)) &&& (1 : Int32)))) : ¬ q1 < (0 : Int32) ∧ q1 < (6 : Int32) := by
  have a0 := c_mask (p0 >>> ((2 : Int32) &&& 31)) 1 1 (by decide) (by decide)
  have a1 := c_mask (p0 >>> ((3 : Int32) &&& 31)) 1 1 (by decide) (by decide)
  have a2 := c_mask (p0 >>> ((4 : Int32) &&& 31)) 1 1 (by decide) (by decide)
  simp only [Int32.lt_iff_toInt_lt, own_k0, own_k6]
  have b1 := c_iadd q0 1
  have b2 := c_iadd (q0 + 1) ((p0 >>> ((3 : Int32) &&& 31)) &&& 1)
  rw [hq1]
  have r1 := rng32 (q0 + 1)
  have r2 := rng32 ((q0 + 1) + ((p0 >>> ((3 : Int32) &&& 31)) &&& 1))
  have k1 := own_k1
  rw [← hq0] at a0
  omega
theorem own_rm0_6 (p0 : Int32) (q0 : Int32) (hq0 : q0 = ((p0 >>> ((2 : Int32) &&& 31)) &&& (1 : Int32))) : ¬ q0 < (0 : Int32) ∧ q0 < (6 : Int32) := by
  have a0 := c_mask (p0 >>> ((2 : Int32) &&& 31)) 1 1 (by decide) (by decide)
  have a1 := c_mask (p0 >>> ((3 : Int32) &&& 31)) 1 1 (by decide) (by decide)
  have a2 := c_mask (p0 >>> ((4 : Int32) &&& 31)) 1 1 (by decide) (by decide)
  simp only [Int32.lt_iff_toInt_lt, own_k0, own_k6]
  subst hq0
  omega
theorem own_rm0_7 (p0 : Int32) (q0 : Int32) (q1 : Int32) (hq0 : q0 = ((p0 >>> ((2 : Int32) &&& 31)) &&& (1 : Int32))) (hq1 : q1 = ((q0 + (1 : Int32)) + ((p0 >>> ((3 : Int32) &&& 31)) &&& (1 : Int32)))) : ¬ q1 < (0 : Int32) ∧ q1 < (6 : Int32) := by
  have a0 := c_mask (p0 >>> ((2 : Int32) &&& 31)) 1 1 (by decide) (by decide)
  have a1 := c_mask (p0 >>> ((3 : Int32) &&& 31)) 1 1 (by decide) (by decide)
  have a2 := c_mask (p0 >>> ((4 : Int32) &&& 31)) 1 1 (by decide) (by decide)
  simp only [Int32.lt_iff_toInt_lt, own_k0, own_k6]
  have b1 := c_iadd q0 1
  have b2 := c_iadd (q0 + 1) ((p0 >>> ((3 : Int32) &&& 31)) &&& 1)
  rw [hq1]
  have r1 := rng32 (q0 + 1)
  have r2 := rng32 ((q0 + 1) + ((p0 >>> ((3 : Int32) &&& 31)) &&& 1))
  have k1 := own_k1
  rw [← hq0] at a0
  omega
theorem own_rm0_8 (p2 : Int32) (q0 : Int32) (q1 : Int32) (t0 : Int32) (t1 : Int32) (z0 : Int32) (z1 : Int32) (hz0 : z0 = (if (own_at [(p2 &&& (3 : Int32)), ((p2 >>> ((2 : Int32) &&& 31)) &&& (3 : Int32)), ((p2 >>> ((4 : Int32) &&& 31)) &&& (3 : Int32)), ((p2 >>> ((6 : Int32) &&& 31)) &&& (3 : Int32)), ((p2 >>> ((8 : Int32) &&& 31)) &&& (3 : Int32)), ((p2 >>> ((10 : Int32) &&& 31)) &&& (3 : Int32))] q0) = t0 then (1 : Int32) else (0 : Int32))) (hz1 : z1 = (if (own_at [(p2 &&& (3 : Int32)), ((p2 >>> ((2 : Int32) &&& 31)) &&& (3 : Int32)), ((p2 >>> ((4 : Int32) &&& 31)) &&& (3 : Int32)), ((p2 >>> ((6 : Int32) &&& 31)) &&& (3 : Int32)), ((p2 >>> ((8 : Int32) &&& 31)) &&& (3 : Int32)), ((p2 >>> ((10 : Int32) &&& 31)) &&& (3 : Int32))] q1) = t1 then z0 else (0 : Int32))) : (if (own_at [(p2 &&& (3 : Int32)), ((p2 >>> ((2 : Int32) &&& 31)) &&& (3 : Int32)), ((p2 >>> ((4 : Int32) &&& 31)) &&& (3 : Int32)), ((p2 >>> ((6 : Int32) &&& 31)) &&& (3 : Int32)), ((p2 >>> ((8 : Int32) &&& 31)) &&& (3 : Int32)), ((p2 >>> ((10 : Int32) &&& 31)) &&& (3 : Int32))] q0) = t0 then (if (own_at [(p2 &&& (3 : Int32)), ((p2 >>> ((2 : Int32) &&& 31)) &&& (3 : Int32)), ((p2 >>> ((4 : Int32) &&& 31)) &&& (3 : Int32)), ((p2 >>> ((6 : Int32) &&& 31)) &&& (3 : Int32)), ((p2 >>> ((8 : Int32) &&& 31)) &&& (3 : Int32)), ((p2 >>> ((10 : Int32) &&& 31)) &&& (3 : Int32))] q1) = t1 then (1 : Int32) else (0 : Int32)) else (0 : Int32)) = z1 := by
  subst hz1
  subst hz0
  repeat' split
  all_goals first | rfl | (exfalso; simp_all; done) | simp_all
theorem own_rm0_9 (p0 : Int32) (q0 : Int32) (hq0 : q0 = ((p0 >>> ((2 : Int32) &&& 31)) &&& (1 : Int32))) : ¬ q0 < (0 : Int32) ∧ q0 < (6 : Int32) := by
  have a0 := c_mask (p0 >>> ((2 : Int32) &&& 31)) 1 1 (by decide) (by decide)
  have a1 := c_mask (p0 >>> ((3 : Int32) &&& 31)) 1 1 (by decide) (by decide)
  have a2 := c_mask (p0 >>> ((4 : Int32) &&& 31)) 1 1 (by decide) (by decide)
  simp only [Int32.lt_iff_toInt_lt, own_k0, own_k6]
  subst hq0
  omega
theorem own_rm0_10 (p0 : Int32) (q0 : Int32) (q1 : Int32) (hq0 : q0 = ((p0 >>> ((2 : Int32) &&& 31)) &&& (1 : Int32))) (hq1 : q1 = ((q0 + (1 : Int32)) + ((p0 >>> ((3 : Int32) &&& 31)) &&& (1 : Int32)))) : ¬ q1 < (0 : Int32) ∧ q1 < (6 : Int32) := by
  have a0 := c_mask (p0 >>> ((2 : Int32) &&& 31)) 1 1 (by decide) (by decide)
  have a1 := c_mask (p0 >>> ((3 : Int32) &&& 31)) 1 1 (by decide) (by decide)
  have a2 := c_mask (p0 >>> ((4 : Int32) &&& 31)) 1 1 (by decide) (by decide)
  simp only [Int32.lt_iff_toInt_lt, own_k0, own_k6]
  have b1 := c_iadd q0 1
  have b2 := c_iadd (q0 + 1) ((p0 >>> ((3 : Int32) &&& 31)) &&& 1)
  rw [hq1]
  have r1 := rng32 (q0 + 1)
  have r2 := rng32 ((q0 + 1) + ((p0 >>> ((3 : Int32) &&& 31)) &&& 1))
  have k1 := own_k1
  rw [← hq0] at a0
  omega
theorem own_rm0_11 (p0 : Int32) (q0 : Int32) (q1 : Int32) (q2 : Int32) (hq0 : q0 = ((p0 >>> ((2 : Int32) &&& 31)) &&& (1 : Int32))) (hq1 : q1 = ((q0 + (1 : Int32)) + ((p0 >>> ((3 : Int32) &&& 31)) &&& (1 : Int32)))) (hq2 : q2 = ((q1 + (1 : Int32)) + ((p0 >>> ((4 : Int32) &&& 31)) &&& (1 : Int32)))) : ¬ q2 < (0 : Int32) ∧ q2 < (6 : Int32) := by
  have a0 := c_mask (p0 >>> ((2 : Int32) &&& 31)) 1 1 (by decide) (by decide)
  have a1 := c_mask (p0 >>> ((3 : Int32) &&& 31)) 1 1 (by decide) (by decide)
  have a2 := c_mask (p0 >>> ((4 : Int32) &&& 31)) 1 1 (by decide) (by decide)
  simp only [Int32.lt_iff_toInt_lt, own_k0, own_k6]
  have b1 := c_iadd q0 1
  have b2 := c_iadd (q0 + 1) ((p0 >>> ((3 : Int32) &&& 31)) &&& 1)
  rw [← hq1] at b2
  have b3 := c_iadd q1 1
  have b4 := c_iadd (q1 + 1) ((p0 >>> ((4 : Int32) &&& 31)) &&& 1)
  rw [← hq2] at b4
  have r1 := rng32 (q0 + 1)
  have r2 := rng32 q1
  have r3 := rng32 (q1 + 1)
  have r4 := rng32 q2
  have k1 := own_k1
  rw [← hq0] at a0
  omega
theorem own_rm0_12 (p0 : Int32) (q0 : Int32) (hq0 : q0 = ((p0 >>> ((2 : Int32) &&& 31)) &&& (1 : Int32))) : ¬ q0 < (0 : Int32) ∧ q0 < (6 : Int32) := by
  have a0 := c_mask (p0 >>> ((2 : Int32) &&& 31)) 1 1 (by decide) (by decide)
  have a1 := c_mask (p0 >>> ((3 : Int32) &&& 31)) 1 1 (by decide) (by decide)
  have a2 := c_mask (p0 >>> ((4 : Int32) &&& 31)) 1 1 (by decide) (by decide)
  simp only [Int32.lt_iff_toInt_lt, own_k0, own_k6]
  subst hq0
  omega
theorem own_rm0_13 (p0 : Int32) (q0 : Int32) (q1 : Int32) (hq0 : q0 = ((p0 >>> ((2 : Int32) &&& 31)) &&& (1 : Int32))) (hq1 : q1 = ((q0 + (1 : Int32)) + ((p0 >>> ((3 : Int32) &&& 31)) &&& (1 : Int32)))) : ¬ q1 < (0 : Int32) ∧ q1 < (6 : Int32) := by
  have a0 := c_mask (p0 >>> ((2 : Int32) &&& 31)) 1 1 (by decide) (by decide)
  have a1 := c_mask (p0 >>> ((3 : Int32) &&& 31)) 1 1 (by decide) (by decide)
  have a2 := c_mask (p0 >>> ((4 : Int32) &&& 31)) 1 1 (by decide) (by decide)
  simp only [Int32.lt_iff_toInt_lt, own_k0, own_k6]
  have b1 := c_iadd q0 1
  have b2 := c_iadd (q0 + 1) ((p0 >>> ((3 : Int32) &&& 31)) &&& 1)
  rw [hq1]
  have r1 := rng32 (q0 + 1)
  have r2 := rng32 ((q0 + 1) + ((p0 >>> ((3 : Int32) &&& 31)) &&& 1))
  have k1 := own_k1
  rw [← hq0] at a0
  omega
theorem own_rm0_14 (p0 : Int32) (q0 : Int32) (q1 : Int32) (q2 : Int32) (hq0 : q0 = ((p0 >>> ((2 : Int32) &&& 31)) &&& (1 : Int32))) (hq1 : q1 = ((q0 + (1 : Int32)) + ((p0 >>> ((3 : Int32) &&& 31)) &&& (1 : Int32)))) (hq2 : q2 = ((q1 + (1 : Int32)) + ((p0 >>> ((4 : Int32) &&& 31)) &&& (1 : Int32)))) : ¬ q2 < (0 : Int32) ∧ q2 < (6 : Int32) := by
  have a0 := c_mask (p0 >>> ((2 : Int32) &&& 31)) 1 1 (by decide) (by decide)
  have a1 := c_mask (p0 >>> ((3 : Int32) &&& 31)) 1 1 (by decide) (by decide)
  have a2 := c_mask (p0 >>> ((4 : Int32) &&& 31)) 1 1 (by decide) (by decide)
  simp only [Int32.lt_iff_toInt_lt, own_k0, own_k6]
  have b1 := c_iadd q0 1
  have b2 := c_iadd (q0 + 1) ((p0 >>> ((3 : Int32) &&& 31)) &&& 1)
  rw [← hq1] at b2
  have b3 := c_iadd q1 1
  have b4 := c_iadd (q1 + 1) ((p0 >>> ((4 : Int32) &&& 31)) &&& 1)
  rw [← hq2] at b4
  have r1 := rng32 (q0 + 1)
  have r2 := rng32 q1
  have r3 := rng32 (q1 + 1)
  have r4 := rng32 q2
  have k1 := own_k1
  rw [← hq0] at a0
  omega
theorem own_rm0_15 (p2 : Int32) (q0 : Int32) (q1 : Int32) (q2 : Int32) (t0 : Int32) (t1 : Int32) (t2 : Int32) (z0 : Int32) (z1 : Int32) (z2 : Int32) (hz0 : z0 = (if (own_at [(p2 &&& (3 : Int32)), ((p2 >>> ((2 : Int32) &&& 31)) &&& (3 : Int32)), ((p2 >>> ((4 : Int32) &&& 31)) &&& (3 : Int32)), ((p2 >>> ((6 : Int32) &&& 31)) &&& (3 : Int32)), ((p2 >>> ((8 : Int32) &&& 31)) &&& (3 : Int32)), ((p2 >>> ((10 : Int32) &&& 31)) &&& (3 : Int32))] q0) = t0 then (1 : Int32) else (0 : Int32))) (hz1 : z1 = (if (own_at [(p2 &&& (3 : Int32)), ((p2 >>> ((2 : Int32) &&& 31)) &&& (3 : Int32)), ((p2 >>> ((4 : Int32) &&& 31)) &&& (3 : Int32)), ((p2 >>> ((6 : Int32) &&& 31)) &&& (3 : Int32)), ((p2 >>> ((8 : Int32) &&& 31)) &&& (3 : Int32)), ((p2 >>> ((10 : Int32) &&& 31)) &&& (3 : Int32))] q1) = t1 then z0 else (0 : Int32))) (hz2 : z2 = (if (own_at [(p2 &&& (3 : Int32)), ((p2 >>> ((2 : Int32) &&& 31)) &&& (3 : Int32)), ((p2 >>> ((4 : Int32) &&& 31)) &&& (3 : Int32)), ((p2 >>> ((6 : Int32) &&& 31)) &&& (3 : Int32)), ((p2 >>> ((8 : Int32) &&& 31)) &&& (3 : Int32)), ((p2 >>> ((10 : Int32) &&& 31)) &&& (3 : Int32))] q2) = t2 then z1 else (0 : Int32))) : (if (own_at [(p2 &&& (3 : Int32)), ((p2 >>> ((2 : Int32) &&& 31)) &&& (3 : Int32)), ((p2 >>> ((4 : Int32) &&& 31)) &&& (3 : Int32)), ((p2 >>> ((6 : Int32) &&& 31)) &&& (3 : Int32)), ((p2 >>> ((8 : Int32) &&& 31)) &&& (3 : Int32)), ((p2 >>> ((10 : Int32) &&& 31)) &&& (3 : Int32))] q0) = t0 then (if (own_at [(p2 &&& (3 : Int32)), ((p2 >>> ((2 : Int32) &&& 31)) &&& (3 : Int32)), ((p2 >>> ((4 : Int32) &&& 31)) &&& (3 : Int32)), ((p2 >>> ((6 : Int32) &&& 31)) &&& (3 : Int32)), ((p2 >>> ((8 : Int32) &&& 31)) &&& (3 : Int32)), ((p2 >>> ((10 : Int32) &&& 31)) &&& (3 : Int32))] q1) = t1 then (if (own_at [(p2 &&& (3 : Int32)), ((p2 >>> ((2 : Int32) &&& 31)) &&& (3 : Int32)), ((p2 >>> ((4 : Int32) &&& 31)) &&& (3 : Int32)), ((p2 >>> ((6 : Int32) &&& 31)) &&& (3 : Int32)), ((p2 >>> ((8 : Int32) &&& 31)) &&& (3 : Int32)), ((p2 >>> ((10 : Int32) &&& 31)) &&& (3 : Int32))] q2) = t2 then (1 : Int32) else (0 : Int32)) else (0 : Int32)) else (0 : Int32)) = z2 := by
  subst hz2
  subst hz1
  subst hz0
  repeat' split
  all_goals first | rfl | (exfalso; simp_all; done) | simp_all
theorem pn_0 : plainName "com/example/odds_on_axioms/oddsonaxioms/network/ConditionHoldsInPinLaw" = true := by first | (simp [plainName, overriddenIn]; done) | decide +kernel
theorem pd_rm0_0 : parseMethodDescriptor "([I[I)V" = some ⟨[(.array .int), (.array .int)], none⟩ := by decide +kernel
theorem pd_rm0_1 : parseMethodDescriptor "([I)Z" = some ⟨[(.array .int)], some .boolean⟩ := by decide +kernel
theorem ef_rm0 (m : MethodId) (p0 : Int32) (p1 : Int32) (p2 : Int32) : entryFrame m #[(.int p0), (.int p1), (.int p2)] maxLocals = mkF m 0 #[.val (.int p0), .val (.int p1), .val (.int p2), .unset, .unset, .unset, .unset, .unset, .unset, .unset, .unset, .unset, .unset, .unset, .unset] [] := by first | (simp [entryFrame, mkF, argsToLocals, Value.category, maxLocals]; done) | rfl
def Q0 (Z : State) (p0 : Int32) (p1 : Int32) (p2 : Int32) (h0 : Heap) (n0 : Nat) (v : Option Value) (h : Heap) (L : List Loc) : Prop := v = some (.int (1 : Int32)) ∧ Fr n0 L
set_option maxRecDepth 65536 in
set_option maxHeartbeats 40000000 in
theorem rm0 (l : Launch) (Z : State) (a0 : Array Value) (hw : ∀ d ∈ tables_1, d.before a0 Z = true) (ws : List Jvm.Cond) (p0 : Int32) (p1 : Int32) (p2 : Int32) (h0 : Heap) (n0 : Nat) (O0 : Old Z n0 h0) :
    MetFree l x (head1 (Jvm.Cond.code x code maxLocals ret :: ws) room_1) (fun a U => a = #[(.int p0), (.int p1), (.int p2)] ∧ Z.Warmed39 U.vm ∧ U.heap = h0) (fun _ _ _ _ _ => True) (fun _ U o U' => ∃ v L, o = .returned v ∧ Q0 Z p0 p1 p2 h0 n0 v U'.heap L ∧ FrameEnd U o U' L room_1.cells room_1.slots) := by
  refine MetFree.of_bodySF (plainFor_of_name pn_0) hisR ?_
  intro p e s m args below meth c s₁ Bd hml0 hP hK
  obtain ⟨rfl, hZ, hh⟩ := hP
  have hx := Bd.exec
  have hby := Bd.bytes
  have hml : c.maxLocals = 15 := hml0
  have hown : s.vm.findClass "com/example/odds_on_axioms/oddsonaxioms/network/ConditionHoldsInPinLaw" = some m.cls := findClass_of_methodNamed Bd.named
  have hnm := (name_of_methodNamed Bd.named Bd.method).1
  have X0 : Stand p l e room_1 s m #[(.int p0), (.int p1), (.int p2)] below meth c s₁ [] 0 0 := Stand.of_body Bd
  have e0 : s₁.heap = h0 := by rw [← hh, Bd.state]; rfl
  have N0 := Fr.nil n0
  have s0 : Steps p.tables e below (s₁.setTop (entryFrame m #[(.int p0), (.int p1), (.int p2)] maxLocals)) (s₁.setTop (mkF m 0 #[.val (.int p0), .val (.int p1), .val (.int p2), .unset, .unset, .unset, .unset, .unset, .unset, .unset, .unset, .unset, .unset, .unset, .unset] [])) := castTop (ef_rm0 m p0 p1 p2) (Steps.refl _)
  have s1 : Steps p.tables e below (s₁.setTop (entryFrame m #[(.int p0), (.int p1), (.int p2)] maxLocals)) (s₁.setTop (mkF m 11 #[.val (.int p0), .val (.int p1), .val (.int p2), .val (.int (p0 &&& (3 : Int32))), .val (.int ((p0 >>> ((2 : Int32) &&& 31)) &&& (1 : Int32))), .unset, .unset, .unset, .unset, .unset, .unset, .unset, .unset, .unset, .unset] [])) := by
    refine s0.trans ?_
    show Steps p.tables e below (s₁.setTop (mkF m 0 #[.val (.int p0), .val (.int p1), .val (.int p2), .unset, .unset, .unset, .unset, .unset, .unset, .unset, .unset, .unset, .unset, .unset, .unset] [])) _
    refine XS.iloadN X0.here hx rfl (hb hby at_0) rfl ?_
    show Steps p.tables e below (s₁.setTop (mkF m 1 #[.val (.int p0), .val (.int p1), .val (.int p2), .unset, .unset, .unset, .unset, .unset, .unset, .unset, .unset, .unset, .unset, .unset, .unset] [(.int p0)])) _
    refine XS.iconst X0.here hx rfl (hb hby at_1) ?_
    show Steps p.tables e below (s₁.setTop (mkF m 2 #[.val (.int p0), .val (.int p1), .val (.int p2), .unset, .unset, .unset, .unset, .unset, .unset, .unset, .unset, .unset, .unset, .unset, .unset] [(.int (3 : Int32)), (.int p0)])) _
    refine XS.iand X0.here hx rfl (hb hby at_2) rfl ?_
    show Steps p.tables e below (s₁.setTop (mkF m 3 #[.val (.int p0), .val (.int p1), .val (.int p2), .unset, .unset, .unset, .unset, .unset, .unset, .unset, .unset, .unset, .unset, .unset, .unset] [(.int (p0 &&& (3 : Int32)))])) _
    refine XS.istoreN X0.here hx rfl (hb hby at_3) rfl (l' := #[.val (.int p0), .val (.int p1), .val (.int p2), .val (.int (p0 &&& (3 : Int32))), .unset, .unset, .unset, .unset, .unset, .unset, .unset, .unset, .unset, .unset, .unset]) rfl ?_
    show Steps p.tables e below (s₁.setTop (mkF m 4 #[.val (.int p0), .val (.int p1), .val (.int p2), .val (.int (p0 &&& (3 : Int32))), .unset, .unset, .unset, .unset, .unset, .unset, .unset, .unset, .unset, .unset, .unset] [])) _
    refine XS.iloadN X0.here hx rfl (hb hby at_4) rfl ?_
    show Steps p.tables e below (s₁.setTop (mkF m 5 #[.val (.int p0), .val (.int p1), .val (.int p2), .val (.int (p0 &&& (3 : Int32))), .unset, .unset, .unset, .unset, .unset, .unset, .unset, .unset, .unset, .unset, .unset] [(.int p0)])) _
    refine XS.iconst X0.here hx rfl (hb hby at_5) ?_
    show Steps p.tables e below (s₁.setTop (mkF m 6 #[.val (.int p0), .val (.int p1), .val (.int p2), .val (.int (p0 &&& (3 : Int32))), .unset, .unset, .unset, .unset, .unset, .unset, .unset, .unset, .unset, .unset, .unset] [(.int (2 : Int32)), (.int p0)])) _
    refine XS.ishr X0.here hx rfl (hb hby at_6) rfl ?_
    show Steps p.tables e below (s₁.setTop (mkF m 7 #[.val (.int p0), .val (.int p1), .val (.int p2), .val (.int (p0 &&& (3 : Int32))), .unset, .unset, .unset, .unset, .unset, .unset, .unset, .unset, .unset, .unset, .unset] [(.int (p0 >>> ((2 : Int32) &&& 31)))])) _
    refine XS.iconst X0.here hx rfl (hb hby at_7) ?_
    show Steps p.tables e below (s₁.setTop (mkF m 8 #[.val (.int p0), .val (.int p1), .val (.int p2), .val (.int (p0 &&& (3 : Int32))), .unset, .unset, .unset, .unset, .unset, .unset, .unset, .unset, .unset, .unset, .unset] [(.int (1 : Int32)), (.int (p0 >>> ((2 : Int32) &&& 31)))])) _
    refine XS.iand X0.here hx rfl (hb hby at_8) rfl ?_
    show Steps p.tables e below (s₁.setTop (mkF m 9 #[.val (.int p0), .val (.int p1), .val (.int p2), .val (.int (p0 &&& (3 : Int32))), .unset, .unset, .unset, .unset, .unset, .unset, .unset, .unset, .unset, .unset, .unset] [(.int ((p0 >>> ((2 : Int32) &&& 31)) &&& (1 : Int32)))])) _
    refine XS.istore X0.here hx rfl (hb hby at_9) rfl (l' := #[.val (.int p0), .val (.int p1), .val (.int p2), .val (.int (p0 &&& (3 : Int32))), .val (.int ((p0 >>> ((2 : Int32) &&& 31)) &&& (1 : Int32))), .unset, .unset, .unset, .unset, .unset, .unset, .unset, .unset, .unset, .unset]) rfl ?_
    exact Steps.refl _
  obtain ⟨q0, hq0⟩ : ∃ z, z = ((p0 >>> ((2 : Int32) &&& 31)) &&& (1 : Int32)) := ⟨_, rfl⟩
  have s2 := s1
  rw [← hq0] at s2
  have s3 : Steps p.tables e below (s₁.setTop (entryFrame m #[(.int p0), (.int p1), (.int p2)] maxLocals)) (s₁.setTop (mkF m 23 #[.val (.int p0), .val (.int p1), .val (.int p2), .val (.int (p0 &&& (3 : Int32))), .val (.int q0), .val (.int ((q0 + (1 : Int32)) + ((p0 >>> ((3 : Int32) &&& 31)) &&& (1 : Int32)))), .unset, .unset, .unset, .unset, .unset, .unset, .unset, .unset, .unset] [])) := by
    refine s2.trans ?_
    show Steps p.tables e below (s₁.setTop (mkF m 11 #[.val (.int p0), .val (.int p1), .val (.int p2), .val (.int (p0 &&& (3 : Int32))), .val (.int q0), .unset, .unset, .unset, .unset, .unset, .unset, .unset, .unset, .unset, .unset] [])) _
    refine XS.iload X0.here hx rfl (hb hby at_11) rfl ?_
    show Steps p.tables e below (s₁.setTop (mkF m 13 #[.val (.int p0), .val (.int p1), .val (.int p2), .val (.int (p0 &&& (3 : Int32))), .val (.int q0), .unset, .unset, .unset, .unset, .unset, .unset, .unset, .unset, .unset, .unset] [(.int q0)])) _
    refine XS.iconst X0.here hx rfl (hb hby at_13) ?_
    show Steps p.tables e below (s₁.setTop (mkF m 14 #[.val (.int p0), .val (.int p1), .val (.int p2), .val (.int (p0 &&& (3 : Int32))), .val (.int q0), .unset, .unset, .unset, .unset, .unset, .unset, .unset, .unset, .unset, .unset] [(.int (1 : Int32)), (.int q0)])) _
    refine XS.iadd X0.here hx rfl (hb hby at_14) rfl ?_
    show Steps p.tables e below (s₁.setTop (mkF m 15 #[.val (.int p0), .val (.int p1), .val (.int p2), .val (.int (p0 &&& (3 : Int32))), .val (.int q0), .unset, .unset, .unset, .unset, .unset, .unset, .unset, .unset, .unset, .unset] [(.int (q0 + (1 : Int32)))])) _
    refine XS.iloadN X0.here hx rfl (hb hby at_15) rfl ?_
    show Steps p.tables e below (s₁.setTop (mkF m 16 #[.val (.int p0), .val (.int p1), .val (.int p2), .val (.int (p0 &&& (3 : Int32))), .val (.int q0), .unset, .unset, .unset, .unset, .unset, .unset, .unset, .unset, .unset, .unset] [(.int p0), (.int (q0 + (1 : Int32)))])) _
    refine XS.iconst X0.here hx rfl (hb hby at_16) ?_
    show Steps p.tables e below (s₁.setTop (mkF m 17 #[.val (.int p0), .val (.int p1), .val (.int p2), .val (.int (p0 &&& (3 : Int32))), .val (.int q0), .unset, .unset, .unset, .unset, .unset, .unset, .unset, .unset, .unset, .unset] [(.int (3 : Int32)), (.int p0), (.int (q0 + (1 : Int32)))])) _
    refine XS.ishr X0.here hx rfl (hb hby at_17) rfl ?_
    show Steps p.tables e below (s₁.setTop (mkF m 18 #[.val (.int p0), .val (.int p1), .val (.int p2), .val (.int (p0 &&& (3 : Int32))), .val (.int q0), .unset, .unset, .unset, .unset, .unset, .unset, .unset, .unset, .unset, .unset] [(.int (p0 >>> ((3 : Int32) &&& 31))), (.int (q0 + (1 : Int32)))])) _
    refine XS.iconst X0.here hx rfl (hb hby at_18) ?_
    show Steps p.tables e below (s₁.setTop (mkF m 19 #[.val (.int p0), .val (.int p1), .val (.int p2), .val (.int (p0 &&& (3 : Int32))), .val (.int q0), .unset, .unset, .unset, .unset, .unset, .unset, .unset, .unset, .unset, .unset] [(.int (1 : Int32)), (.int (p0 >>> ((3 : Int32) &&& 31))), (.int (q0 + (1 : Int32)))])) _
    refine XS.iand X0.here hx rfl (hb hby at_19) rfl ?_
    show Steps p.tables e below (s₁.setTop (mkF m 20 #[.val (.int p0), .val (.int p1), .val (.int p2), .val (.int (p0 &&& (3 : Int32))), .val (.int q0), .unset, .unset, .unset, .unset, .unset, .unset, .unset, .unset, .unset, .unset] [(.int ((p0 >>> ((3 : Int32) &&& 31)) &&& (1 : Int32))), (.int (q0 + (1 : Int32)))])) _
    refine XS.iadd X0.here hx rfl (hb hby at_20) rfl ?_
    show Steps p.tables e below (s₁.setTop (mkF m 21 #[.val (.int p0), .val (.int p1), .val (.int p2), .val (.int (p0 &&& (3 : Int32))), .val (.int q0), .unset, .unset, .unset, .unset, .unset, .unset, .unset, .unset, .unset, .unset] [(.int ((q0 + (1 : Int32)) + ((p0 >>> ((3 : Int32) &&& 31)) &&& (1 : Int32))))])) _
    refine XS.istore X0.here hx rfl (hb hby at_21) rfl (l' := #[.val (.int p0), .val (.int p1), .val (.int p2), .val (.int (p0 &&& (3 : Int32))), .val (.int q0), .val (.int ((q0 + (1 : Int32)) + ((p0 >>> ((3 : Int32) &&& 31)) &&& (1 : Int32)))), .unset, .unset, .unset, .unset, .unset, .unset, .unset, .unset, .unset]) rfl ?_
    exact Steps.refl _
  obtain ⟨q1, hq1⟩ : ∃ z, z = ((q0 + (1 : Int32)) + ((p0 >>> ((3 : Int32) &&& 31)) &&& (1 : Int32))) := ⟨_, rfl⟩
  have s4 := s3
  rw [← hq1] at s4
  have s5 : Steps p.tables e below (s₁.setTop (entryFrame m #[(.int p0), (.int p1), (.int p2)] maxLocals)) (s₁.setTop (mkF m 35 #[.val (.int p0), .val (.int p1), .val (.int p2), .val (.int (p0 &&& (3 : Int32))), .val (.int q0), .val (.int q1), .val (.int ((q1 + (1 : Int32)) + ((p0 >>> ((4 : Int32) &&& 31)) &&& (1 : Int32)))), .unset, .unset, .unset, .unset, .unset, .unset, .unset, .unset] [])) := by
    refine s4.trans ?_
    show Steps p.tables e below (s₁.setTop (mkF m 23 #[.val (.int p0), .val (.int p1), .val (.int p2), .val (.int (p0 &&& (3 : Int32))), .val (.int q0), .val (.int q1), .unset, .unset, .unset, .unset, .unset, .unset, .unset, .unset, .unset] [])) _
    refine XS.iload X0.here hx rfl (hb hby at_23) rfl ?_
    show Steps p.tables e below (s₁.setTop (mkF m 25 #[.val (.int p0), .val (.int p1), .val (.int p2), .val (.int (p0 &&& (3 : Int32))), .val (.int q0), .val (.int q1), .unset, .unset, .unset, .unset, .unset, .unset, .unset, .unset, .unset] [(.int q1)])) _
    refine XS.iconst X0.here hx rfl (hb hby at_25) ?_
    show Steps p.tables e below (s₁.setTop (mkF m 26 #[.val (.int p0), .val (.int p1), .val (.int p2), .val (.int (p0 &&& (3 : Int32))), .val (.int q0), .val (.int q1), .unset, .unset, .unset, .unset, .unset, .unset, .unset, .unset, .unset] [(.int (1 : Int32)), (.int q1)])) _
    refine XS.iadd X0.here hx rfl (hb hby at_26) rfl ?_
    show Steps p.tables e below (s₁.setTop (mkF m 27 #[.val (.int p0), .val (.int p1), .val (.int p2), .val (.int (p0 &&& (3 : Int32))), .val (.int q0), .val (.int q1), .unset, .unset, .unset, .unset, .unset, .unset, .unset, .unset, .unset] [(.int (q1 + (1 : Int32)))])) _
    refine XS.iloadN X0.here hx rfl (hb hby at_27) rfl ?_
    show Steps p.tables e below (s₁.setTop (mkF m 28 #[.val (.int p0), .val (.int p1), .val (.int p2), .val (.int (p0 &&& (3 : Int32))), .val (.int q0), .val (.int q1), .unset, .unset, .unset, .unset, .unset, .unset, .unset, .unset, .unset] [(.int p0), (.int (q1 + (1 : Int32)))])) _
    refine XS.iconst X0.here hx rfl (hb hby at_28) ?_
    show Steps p.tables e below (s₁.setTop (mkF m 29 #[.val (.int p0), .val (.int p1), .val (.int p2), .val (.int (p0 &&& (3 : Int32))), .val (.int q0), .val (.int q1), .unset, .unset, .unset, .unset, .unset, .unset, .unset, .unset, .unset] [(.int (4 : Int32)), (.int p0), (.int (q1 + (1 : Int32)))])) _
    refine XS.ishr X0.here hx rfl (hb hby at_29) rfl ?_
    show Steps p.tables e below (s₁.setTop (mkF m 30 #[.val (.int p0), .val (.int p1), .val (.int p2), .val (.int (p0 &&& (3 : Int32))), .val (.int q0), .val (.int q1), .unset, .unset, .unset, .unset, .unset, .unset, .unset, .unset, .unset] [(.int (p0 >>> ((4 : Int32) &&& 31))), (.int (q1 + (1 : Int32)))])) _
    refine XS.iconst X0.here hx rfl (hb hby at_30) ?_
    show Steps p.tables e below (s₁.setTop (mkF m 31 #[.val (.int p0), .val (.int p1), .val (.int p2), .val (.int (p0 &&& (3 : Int32))), .val (.int q0), .val (.int q1), .unset, .unset, .unset, .unset, .unset, .unset, .unset, .unset, .unset] [(.int (1 : Int32)), (.int (p0 >>> ((4 : Int32) &&& 31))), (.int (q1 + (1 : Int32)))])) _
    refine XS.iand X0.here hx rfl (hb hby at_31) rfl ?_
    show Steps p.tables e below (s₁.setTop (mkF m 32 #[.val (.int p0), .val (.int p1), .val (.int p2), .val (.int (p0 &&& (3 : Int32))), .val (.int q0), .val (.int q1), .unset, .unset, .unset, .unset, .unset, .unset, .unset, .unset, .unset] [(.int ((p0 >>> ((4 : Int32) &&& 31)) &&& (1 : Int32))), (.int (q1 + (1 : Int32)))])) _
    refine XS.iadd X0.here hx rfl (hb hby at_32) rfl ?_
    show Steps p.tables e below (s₁.setTop (mkF m 33 #[.val (.int p0), .val (.int p1), .val (.int p2), .val (.int (p0 &&& (3 : Int32))), .val (.int q0), .val (.int q1), .unset, .unset, .unset, .unset, .unset, .unset, .unset, .unset, .unset] [(.int ((q1 + (1 : Int32)) + ((p0 >>> ((4 : Int32) &&& 31)) &&& (1 : Int32))))])) _
    refine XS.istore X0.here hx rfl (hb hby at_33) rfl (l' := #[.val (.int p0), .val (.int p1), .val (.int p2), .val (.int (p0 &&& (3 : Int32))), .val (.int q0), .val (.int q1), .val (.int ((q1 + (1 : Int32)) + ((p0 >>> ((4 : Int32) &&& 31)) &&& (1 : Int32)))), .unset, .unset, .unset, .unset, .unset, .unset, .unset, .unset]) rfl ?_
    exact Steps.refl _
  obtain ⟨q2, hq2⟩ : ∃ z, z = ((q1 + (1 : Int32)) + ((p0 >>> ((4 : Int32) &&& 31)) &&& (1 : Int32))) := ⟨_, rfl⟩
  have s6 := s5
  rw [← hq2] at s6
  have s7 : Steps p.tables e below (s₁.setTop (entryFrame m #[(.int p0), (.int p1), (.int p2)] maxLocals)) (s₁.setTop (mkF m 40 #[.val (.int p0), .val (.int p1), .val (.int p2), .val (.int (p0 &&& (3 : Int32))), .val (.int q0), .val (.int q1), .val (.int q2), .val (.int (p1 &&& (3 : Int32))), .unset, .unset, .unset, .unset, .unset, .unset, .unset] [])) := by
    refine s6.trans ?_
    show Steps p.tables e below (s₁.setTop (mkF m 35 #[.val (.int p0), .val (.int p1), .val (.int p2), .val (.int (p0 &&& (3 : Int32))), .val (.int q0), .val (.int q1), .val (.int q2), .unset, .unset, .unset, .unset, .unset, .unset, .unset, .unset] [])) _
    refine XS.iloadN X0.here hx rfl (hb hby at_35) rfl ?_
    show Steps p.tables e below (s₁.setTop (mkF m 36 #[.val (.int p0), .val (.int p1), .val (.int p2), .val (.int (p0 &&& (3 : Int32))), .val (.int q0), .val (.int q1), .val (.int q2), .unset, .unset, .unset, .unset, .unset, .unset, .unset, .unset] [(.int p1)])) _
    refine XS.iconst X0.here hx rfl (hb hby at_36) ?_
    show Steps p.tables e below (s₁.setTop (mkF m 37 #[.val (.int p0), .val (.int p1), .val (.int p2), .val (.int (p0 &&& (3 : Int32))), .val (.int q0), .val (.int q1), .val (.int q2), .unset, .unset, .unset, .unset, .unset, .unset, .unset, .unset] [(.int (3 : Int32)), (.int p1)])) _
    refine XS.iand X0.here hx rfl (hb hby at_37) rfl ?_
    show Steps p.tables e below (s₁.setTop (mkF m 38 #[.val (.int p0), .val (.int p1), .val (.int p2), .val (.int (p0 &&& (3 : Int32))), .val (.int q0), .val (.int q1), .val (.int q2), .unset, .unset, .unset, .unset, .unset, .unset, .unset, .unset] [(.int (p1 &&& (3 : Int32)))])) _
    refine XS.istore X0.here hx rfl (hb hby at_38) rfl (l' := #[.val (.int p0), .val (.int p1), .val (.int p2), .val (.int (p0 &&& (3 : Int32))), .val (.int q0), .val (.int q1), .val (.int q2), .val (.int (p1 &&& (3 : Int32))), .unset, .unset, .unset, .unset, .unset, .unset, .unset]) rfl ?_
    exact Steps.refl _
  obtain ⟨t0, ht0⟩ : ∃ z, z = (p1 &&& (3 : Int32)) := ⟨_, rfl⟩
  have s8 := s7
  rw [← ht0] at s8
  have s9 : Steps p.tables e below (s₁.setTop (entryFrame m #[(.int p0), (.int p1), (.int p2)] maxLocals)) (s₁.setTop (mkF m 47 #[.val (.int p0), .val (.int p1), .val (.int p2), .val (.int (p0 &&& (3 : Int32))), .val (.int q0), .val (.int q1), .val (.int q2), .val (.int t0), .val (.int ((p1 >>> ((2 : Int32) &&& 31)) &&& (3 : Int32))), .unset, .unset, .unset, .unset, .unset, .unset] [])) := by
    refine s8.trans ?_
    show Steps p.tables e below (s₁.setTop (mkF m 40 #[.val (.int p0), .val (.int p1), .val (.int p2), .val (.int (p0 &&& (3 : Int32))), .val (.int q0), .val (.int q1), .val (.int q2), .val (.int t0), .unset, .unset, .unset, .unset, .unset, .unset, .unset] [])) _
    refine XS.iloadN X0.here hx rfl (hb hby at_40) rfl ?_
    show Steps p.tables e below (s₁.setTop (mkF m 41 #[.val (.int p0), .val (.int p1), .val (.int p2), .val (.int (p0 &&& (3 : Int32))), .val (.int q0), .val (.int q1), .val (.int q2), .val (.int t0), .unset, .unset, .unset, .unset, .unset, .unset, .unset] [(.int p1)])) _
    refine XS.iconst X0.here hx rfl (hb hby at_41) ?_
    show Steps p.tables e below (s₁.setTop (mkF m 42 #[.val (.int p0), .val (.int p1), .val (.int p2), .val (.int (p0 &&& (3 : Int32))), .val (.int q0), .val (.int q1), .val (.int q2), .val (.int t0), .unset, .unset, .unset, .unset, .unset, .unset, .unset] [(.int (2 : Int32)), (.int p1)])) _
    refine XS.ishr X0.here hx rfl (hb hby at_42) rfl ?_
    show Steps p.tables e below (s₁.setTop (mkF m 43 #[.val (.int p0), .val (.int p1), .val (.int p2), .val (.int (p0 &&& (3 : Int32))), .val (.int q0), .val (.int q1), .val (.int q2), .val (.int t0), .unset, .unset, .unset, .unset, .unset, .unset, .unset] [(.int (p1 >>> ((2 : Int32) &&& 31)))])) _
    refine XS.iconst X0.here hx rfl (hb hby at_43) ?_
    show Steps p.tables e below (s₁.setTop (mkF m 44 #[.val (.int p0), .val (.int p1), .val (.int p2), .val (.int (p0 &&& (3 : Int32))), .val (.int q0), .val (.int q1), .val (.int q2), .val (.int t0), .unset, .unset, .unset, .unset, .unset, .unset, .unset] [(.int (3 : Int32)), (.int (p1 >>> ((2 : Int32) &&& 31)))])) _
    refine XS.iand X0.here hx rfl (hb hby at_44) rfl ?_
    show Steps p.tables e below (s₁.setTop (mkF m 45 #[.val (.int p0), .val (.int p1), .val (.int p2), .val (.int (p0 &&& (3 : Int32))), .val (.int q0), .val (.int q1), .val (.int q2), .val (.int t0), .unset, .unset, .unset, .unset, .unset, .unset, .unset] [(.int ((p1 >>> ((2 : Int32) &&& 31)) &&& (3 : Int32)))])) _
    refine XS.istore X0.here hx rfl (hb hby at_45) rfl (l' := #[.val (.int p0), .val (.int p1), .val (.int p2), .val (.int (p0 &&& (3 : Int32))), .val (.int q0), .val (.int q1), .val (.int q2), .val (.int t0), .val (.int ((p1 >>> ((2 : Int32) &&& 31)) &&& (3 : Int32))), .unset, .unset, .unset, .unset, .unset, .unset]) rfl ?_
    exact Steps.refl _
  obtain ⟨t1, ht1⟩ : ∃ z, z = ((p1 >>> ((2 : Int32) &&& 31)) &&& (3 : Int32)) := ⟨_, rfl⟩
  have s10 := s9
  rw [← ht1] at s10
  have s11 : Steps p.tables e below (s₁.setTop (entryFrame m #[(.int p0), (.int p1), (.int p2)] maxLocals)) (s₁.setTop (mkF m 54 #[.val (.int p0), .val (.int p1), .val (.int p2), .val (.int (p0 &&& (3 : Int32))), .val (.int q0), .val (.int q1), .val (.int q2), .val (.int t0), .val (.int t1), .val (.int ((p1 >>> ((4 : Int32) &&& 31)) &&& (3 : Int32))), .unset, .unset, .unset, .unset, .unset] [])) := by
    refine s10.trans ?_
    show Steps p.tables e below (s₁.setTop (mkF m 47 #[.val (.int p0), .val (.int p1), .val (.int p2), .val (.int (p0 &&& (3 : Int32))), .val (.int q0), .val (.int q1), .val (.int q2), .val (.int t0), .val (.int t1), .unset, .unset, .unset, .unset, .unset, .unset] [])) _
    refine XS.iloadN X0.here hx rfl (hb hby at_47) rfl ?_
    show Steps p.tables e below (s₁.setTop (mkF m 48 #[.val (.int p0), .val (.int p1), .val (.int p2), .val (.int (p0 &&& (3 : Int32))), .val (.int q0), .val (.int q1), .val (.int q2), .val (.int t0), .val (.int t1), .unset, .unset, .unset, .unset, .unset, .unset] [(.int p1)])) _
    refine XS.iconst X0.here hx rfl (hb hby at_48) ?_
    show Steps p.tables e below (s₁.setTop (mkF m 49 #[.val (.int p0), .val (.int p1), .val (.int p2), .val (.int (p0 &&& (3 : Int32))), .val (.int q0), .val (.int q1), .val (.int q2), .val (.int t0), .val (.int t1), .unset, .unset, .unset, .unset, .unset, .unset] [(.int (4 : Int32)), (.int p1)])) _
    refine XS.ishr X0.here hx rfl (hb hby at_49) rfl ?_
    show Steps p.tables e below (s₁.setTop (mkF m 50 #[.val (.int p0), .val (.int p1), .val (.int p2), .val (.int (p0 &&& (3 : Int32))), .val (.int q0), .val (.int q1), .val (.int q2), .val (.int t0), .val (.int t1), .unset, .unset, .unset, .unset, .unset, .unset] [(.int (p1 >>> ((4 : Int32) &&& 31)))])) _
    refine XS.iconst X0.here hx rfl (hb hby at_50) ?_
    show Steps p.tables e below (s₁.setTop (mkF m 51 #[.val (.int p0), .val (.int p1), .val (.int p2), .val (.int (p0 &&& (3 : Int32))), .val (.int q0), .val (.int q1), .val (.int q2), .val (.int t0), .val (.int t1), .unset, .unset, .unset, .unset, .unset, .unset] [(.int (3 : Int32)), (.int (p1 >>> ((4 : Int32) &&& 31)))])) _
    refine XS.iand X0.here hx rfl (hb hby at_51) rfl ?_
    show Steps p.tables e below (s₁.setTop (mkF m 52 #[.val (.int p0), .val (.int p1), .val (.int p2), .val (.int (p0 &&& (3 : Int32))), .val (.int q0), .val (.int q1), .val (.int q2), .val (.int t0), .val (.int t1), .unset, .unset, .unset, .unset, .unset, .unset] [(.int ((p1 >>> ((4 : Int32) &&& 31)) &&& (3 : Int32)))])) _
    refine XS.istore X0.here hx rfl (hb hby at_52) rfl (l' := #[.val (.int p0), .val (.int p1), .val (.int p2), .val (.int (p0 &&& (3 : Int32))), .val (.int q0), .val (.int q1), .val (.int q2), .val (.int t0), .val (.int t1), .val (.int ((p1 >>> ((4 : Int32) &&& 31)) &&& (3 : Int32))), .unset, .unset, .unset, .unset, .unset]) rfl ?_
    exact Steps.refl _
  obtain ⟨t2, ht2⟩ : ∃ z, z = ((p1 >>> ((4 : Int32) &&& 31)) &&& (3 : Int32)) := ⟨_, rfl⟩
  have s12 := s11
  rw [← ht2] at s12
  obtain ⟨T13, h13, k13, X13, e13, E13, A13, st13⟩ := newP X0 hx hZ (hw _ (List.mem_of_getElem? (i := 0) rfl)) e0 (g := (mkF m 56 #[.val (.int p0), .val (.int p1), .val (.int p2), .val (.int (p0 &&& (3 : Int32))), .val (.int q0), .val (.int q1), .val (.int q2), .val (.int t0), .val (.int t1), .val (.int t2), .unset, .unset, .unset, .unset, .unset] [(.int (6 : Int32))])) rfl (hb hby at_56) rfl (by decide) (cap := 6) (by decide) (by decide) (by decide) (by decide)
  obtain ⟨b13, g13⟩ : ∃ z, z = h0.size := ⟨_, rfl⟩
  rw [← g13] at A13 st13
  have g_b13 : n0 ≤ b13 := Nat.le_trans (Nat.le_of_eq O0.1.symm) (Nat.le_trans O0.2.1 (Nat.le_of_eq g13.symm))
  have O13 := O0.ext E13
  have V13 : Arv Z h13 b13 k13 .int (6 : Int32) [(.int (0 : Int32)), (.int (0 : Int32)), (.int (0 : Int32)), (.int (0 : Int32)), (.int (0 : Int32)), (.int (0 : Int32))] (.int (0 : Int32)) := (Arv.new A13 (by decide)).pad (pad_rep [] (.int (0 : Int32)) 6)
  obtain ⟨cla14, Ara14, qa14, Sa14, Za14, Ha14, Ga14⟩ := id V13
  have hin15 : ¬ ((0 : Int32) < 0 ∨ cla14.slots.size ≤ ((0 : Int32)).toNatClampNeg) := inb_of Sa14 ⟨by decide, by decide⟩
  obtain ⟨T16, h16, X16, e16, W16, st16⟩ := stI X13 hx hZ e13 Ara14 (j := (0 : Int32)) hin15 (g := (mkF m 66 #[.val (.int p0), .val (.int p1), .val (.int p2), .val (.int (p0 &&& (3 : Int32))), .val (.int q0), .val (.int q1), .val (.int q2), .val (.int t0), .val (.int t1), .val (.int t2), .val (.ref b13), .unset, .unset, .unset, .unset] [(.int (p2 &&& (3 : Int32))), (.int (0 : Int32)), (.ref b13)])) rfl rfl (hb hby at_66)
  have O16 := O13.wr W16 g_b13
  have N16 := Fr.snoc X16 N0 g_b13
  have V16 : Arv Z h16 b13 k13 .int (6 : Int32) [(.int (p2 &&& (3 : Int32))), (.int (0 : Int32)), (.int (0 : Int32)), (.int (0 : Int32)), (.int (0 : Int32)), (.int (0 : Int32))] (.int (0 : Int32)) := Arv.set Ara14 qa14 Sa14 Za14 Ha14 Ga14 rfl W16 0 rfl (Nat.le_of_ble_eq_true rfl)
  obtain ⟨cla17, Ara17, qa17, Sa17, Za17, Ha17, Ga17⟩ := id V16
  have hin18 : ¬ ((1 : Int32) < 0 ∨ cla17.slots.size ≤ ((1 : Int32)).toNatClampNeg) := inb_of Sa17 ⟨by decide, by decide⟩
  obtain ⟨T19, h19, X19, e19, W19, st19⟩ := stI X16 hx hZ e16 Ara17 (j := (1 : Int32)) hin18 (g := (mkF m 75 #[.val (.int p0), .val (.int p1), .val (.int p2), .val (.int (p0 &&& (3 : Int32))), .val (.int q0), .val (.int q1), .val (.int q2), .val (.int t0), .val (.int t1), .val (.int t2), .val (.ref b13), .unset, .unset, .unset, .unset] [(.int ((p2 >>> ((2 : Int32) &&& 31)) &&& (3 : Int32))), (.int (1 : Int32)), (.ref b13)])) rfl rfl (hb hby at_75)
  have O19 := O16.wr W19 g_b13
  have N19 := Fr.snoc X19 N16 g_b13
  have V19 : Arv Z h19 b13 k13 .int (6 : Int32) [(.int (p2 &&& (3 : Int32))), (.int ((p2 >>> ((2 : Int32) &&& 31)) &&& (3 : Int32))), (.int (0 : Int32)), (.int (0 : Int32)), (.int (0 : Int32)), (.int (0 : Int32))] (.int (0 : Int32)) := Arv.set Ara17 qa17 Sa17 Za17 Ha17 Ga17 rfl W19 1 rfl (Nat.le_of_ble_eq_true rfl)
  obtain ⟨cla20, Ara20, qa20, Sa20, Za20, Ha20, Ga20⟩ := id V19
  have hin21 : ¬ ((2 : Int32) < 0 ∨ cla20.slots.size ≤ ((2 : Int32)).toNatClampNeg) := inb_of Sa20 ⟨by decide, by decide⟩
  obtain ⟨T22, h22, X22, e22, W22, st22⟩ := stI X19 hx hZ e19 Ara20 (j := (2 : Int32)) hin21 (g := (mkF m 84 #[.val (.int p0), .val (.int p1), .val (.int p2), .val (.int (p0 &&& (3 : Int32))), .val (.int q0), .val (.int q1), .val (.int q2), .val (.int t0), .val (.int t1), .val (.int t2), .val (.ref b13), .unset, .unset, .unset, .unset] [(.int ((p2 >>> ((4 : Int32) &&& 31)) &&& (3 : Int32))), (.int (2 : Int32)), (.ref b13)])) rfl rfl (hb hby at_84)
  have O22 := O19.wr W22 g_b13
  have N22 := Fr.snoc X22 N19 g_b13
  have V22 : Arv Z h22 b13 k13 .int (6 : Int32) [(.int (p2 &&& (3 : Int32))), (.int ((p2 >>> ((2 : Int32) &&& 31)) &&& (3 : Int32))), (.int ((p2 >>> ((4 : Int32) &&& 31)) &&& (3 : Int32))), (.int (0 : Int32)), (.int (0 : Int32)), (.int (0 : Int32))] (.int (0 : Int32)) := Arv.set Ara20 qa20 Sa20 Za20 Ha20 Ga20 rfl W22 2 rfl (Nat.le_of_ble_eq_true rfl)
  obtain ⟨cla23, Ara23, qa23, Sa23, Za23, Ha23, Ga23⟩ := id V22
  have hin24 : ¬ ((3 : Int32) < 0 ∨ cla23.slots.size ≤ ((3 : Int32)).toNatClampNeg) := inb_of Sa23 ⟨by decide, by decide⟩
  obtain ⟨T25, h25, X25, e25, W25, st25⟩ := stI X22 hx hZ e22 Ara23 (j := (3 : Int32)) hin24 (g := (mkF m 94 #[.val (.int p0), .val (.int p1), .val (.int p2), .val (.int (p0 &&& (3 : Int32))), .val (.int q0), .val (.int q1), .val (.int q2), .val (.int t0), .val (.int t1), .val (.int t2), .val (.ref b13), .unset, .unset, .unset, .unset] [(.int ((p2 >>> ((6 : Int32) &&& 31)) &&& (3 : Int32))), (.int (3 : Int32)), (.ref b13)])) rfl rfl (hb hby at_94)
  have O25 := O22.wr W25 g_b13
  have N25 := Fr.snoc X25 N22 g_b13
  have V25 : Arv Z h25 b13 k13 .int (6 : Int32) [(.int (p2 &&& (3 : Int32))), (.int ((p2 >>> ((2 : Int32) &&& 31)) &&& (3 : Int32))), (.int ((p2 >>> ((4 : Int32) &&& 31)) &&& (3 : Int32))), (.int ((p2 >>> ((6 : Int32) &&& 31)) &&& (3 : Int32))), (.int (0 : Int32)), (.int (0 : Int32))] (.int (0 : Int32)) := Arv.set Ara23 qa23 Sa23 Za23 Ha23 Ga23 rfl W25 3 rfl (Nat.le_of_ble_eq_true rfl)
  obtain ⟨cla26, Ara26, qa26, Sa26, Za26, Ha26, Ga26⟩ := id V25
  have hin27 : ¬ ((4 : Int32) < 0 ∨ cla26.slots.size ≤ ((4 : Int32)).toNatClampNeg) := inb_of Sa26 ⟨by decide, by decide⟩
  obtain ⟨T28, h28, X28, e28, W28, st28⟩ := stI X25 hx hZ e25 Ara26 (j := (4 : Int32)) hin27 (g := (mkF m 104 #[.val (.int p0), .val (.int p1), .val (.int p2), .val (.int (p0 &&& (3 : Int32))), .val (.int q0), .val (.int q1), .val (.int q2), .val (.int t0), .val (.int t1), .val (.int t2), .val (.ref b13), .unset, .unset, .unset, .unset] [(.int ((p2 >>> ((8 : Int32) &&& 31)) &&& (3 : Int32))), (.int (4 : Int32)), (.ref b13)])) rfl rfl (hb hby at_104)
  have O28 := O25.wr W28 g_b13
  have N28 := Fr.snoc X28 N25 g_b13
  have V28 : Arv Z h28 b13 k13 .int (6 : Int32) [(.int (p2 &&& (3 : Int32))), (.int ((p2 >>> ((2 : Int32) &&& 31)) &&& (3 : Int32))), (.int ((p2 >>> ((4 : Int32) &&& 31)) &&& (3 : Int32))), (.int ((p2 >>> ((6 : Int32) &&& 31)) &&& (3 : Int32))), (.int ((p2 >>> ((8 : Int32) &&& 31)) &&& (3 : Int32))), (.int (0 : Int32))] (.int (0 : Int32)) := Arv.set Ara26 qa26 Sa26 Za26 Ha26 Ga26 rfl W28 4 rfl (Nat.le_of_ble_eq_true rfl)
  obtain ⟨cla29, Ara29, qa29, Sa29, Za29, Ha29, Ga29⟩ := id V28
  have hin30 : ¬ ((5 : Int32) < 0 ∨ cla29.slots.size ≤ ((5 : Int32)).toNatClampNeg) := inb_of Sa29 ⟨by decide, by decide⟩
  obtain ⟨T31, h31, X31, e31, W31, st31⟩ := stI X28 hx hZ e28 Ara29 (j := (5 : Int32)) hin30 (g := (mkF m 114 #[.val (.int p0), .val (.int p1), .val (.int p2), .val (.int (p0 &&& (3 : Int32))), .val (.int q0), .val (.int q1), .val (.int q2), .val (.int t0), .val (.int t1), .val (.int t2), .val (.ref b13), .unset, .unset, .unset, .unset] [(.int ((p2 >>> ((10 : Int32) &&& 31)) &&& (3 : Int32))), (.int (5 : Int32)), (.ref b13)])) rfl rfl (hb hby at_114)
  have O31 := O28.wr W31 g_b13
  have N31 := Fr.snoc X31 N28 g_b13
  have V31 : Arv Z h31 b13 k13 .int (6 : Int32) [(.int (p2 &&& (3 : Int32))), (.int ((p2 >>> ((2 : Int32) &&& 31)) &&& (3 : Int32))), (.int ((p2 >>> ((4 : Int32) &&& 31)) &&& (3 : Int32))), (.int ((p2 >>> ((6 : Int32) &&& 31)) &&& (3 : Int32))), (.int ((p2 >>> ((8 : Int32) &&& 31)) &&& (3 : Int32))), (.int ((p2 >>> ((10 : Int32) &&& 31)) &&& (3 : Int32)))] (.int (0 : Int32)) := Arv.set Ara29 qa29 Sa29 Za29 Ha29 Ga29 rfl W31 5 rfl (Nat.le_of_ble_eq_true rfl)
  have s32 : Steps p.tables e below (s₁.setTop (entryFrame m #[(.int p0), (.int p1), (.int p2)] maxLocals)) (T31.setTop (mkF m 116 #[.val (.int p0), .val (.int p1), .val (.int p2), .val (.int (p0 &&& (3 : Int32))), .val (.int q0), .val (.int q1), .val (.int q2), .val (.int t0), .val (.int t1), .val (.int t2), .val (.ref b13), .unset, .unset, .unset, .unset] [(.int (p0 &&& (3 : Int32)))])) := by
    refine s12.trans ?_
    show Steps p.tables e below (s₁.setTop (mkF m 54 #[.val (.int p0), .val (.int p1), .val (.int p2), .val (.int (p0 &&& (3 : Int32))), .val (.int q0), .val (.int q1), .val (.int q2), .val (.int t0), .val (.int t1), .val (.int t2), .unset, .unset, .unset, .unset, .unset] [])) _
    refine XS.bipush X0.here hx rfl (hb hby at_54) ?_
    show Steps p.tables e below (s₁.setTop (mkF m 56 #[.val (.int p0), .val (.int p1), .val (.int p2), .val (.int (p0 &&& (3 : Int32))), .val (.int q0), .val (.int q1), .val (.int q2), .val (.int t0), .val (.int t1), .val (.int t2), .unset, .unset, .unset, .unset, .unset] [(.int (6 : Int32))])) _
    refine st13 _ ?_
    show Steps p.tables e below (T13.setTop (mkF m 58 #[.val (.int p0), .val (.int p1), .val (.int p2), .val (.int (p0 &&& (3 : Int32))), .val (.int q0), .val (.int q1), .val (.int q2), .val (.int t0), .val (.int t1), .val (.int t2), .unset, .unset, .unset, .unset, .unset] [(.ref b13)])) _
    refine XS.astore X13.here hx rfl (hb hby at_58) rfl rfl (l' := #[.val (.int p0), .val (.int p1), .val (.int p2), .val (.int (p0 &&& (3 : Int32))), .val (.int q0), .val (.int q1), .val (.int q2), .val (.int t0), .val (.int t1), .val (.int t2), .val (.ref b13), .unset, .unset, .unset, .unset]) rfl ?_
    show Steps p.tables e below (T13.setTop (mkF m 60 #[.val (.int p0), .val (.int p1), .val (.int p2), .val (.int (p0 &&& (3 : Int32))), .val (.int q0), .val (.int q1), .val (.int q2), .val (.int t0), .val (.int t1), .val (.int t2), .val (.ref b13), .unset, .unset, .unset, .unset] [])) _
    refine XS.aload X13.here hx rfl (hb hby at_60) rfl rfl ?_
    show Steps p.tables e below (T13.setTop (mkF m 62 #[.val (.int p0), .val (.int p1), .val (.int p2), .val (.int (p0 &&& (3 : Int32))), .val (.int q0), .val (.int q1), .val (.int q2), .val (.int t0), .val (.int t1), .val (.int t2), .val (.ref b13), .unset, .unset, .unset, .unset] [(.ref b13)])) _
    refine XS.iconst X13.here hx rfl (hb hby at_62) ?_
    show Steps p.tables e below (T13.setTop (mkF m 63 #[.val (.int p0), .val (.int p1), .val (.int p2), .val (.int (p0 &&& (3 : Int32))), .val (.int q0), .val (.int q1), .val (.int q2), .val (.int t0), .val (.int t1), .val (.int t2), .val (.ref b13), .unset, .unset, .unset, .unset] [(.int (0 : Int32)), (.ref b13)])) _
    refine XS.iloadN X13.here hx rfl (hb hby at_63) rfl ?_
    show Steps p.tables e below (T13.setTop (mkF m 64 #[.val (.int p0), .val (.int p1), .val (.int p2), .val (.int (p0 &&& (3 : Int32))), .val (.int q0), .val (.int q1), .val (.int q2), .val (.int t0), .val (.int t1), .val (.int t2), .val (.ref b13), .unset, .unset, .unset, .unset] [(.int p2), (.int (0 : Int32)), (.ref b13)])) _
    refine XS.iconst X13.here hx rfl (hb hby at_64) ?_
    show Steps p.tables e below (T13.setTop (mkF m 65 #[.val (.int p0), .val (.int p1), .val (.int p2), .val (.int (p0 &&& (3 : Int32))), .val (.int q0), .val (.int q1), .val (.int q2), .val (.int t0), .val (.int t1), .val (.int t2), .val (.ref b13), .unset, .unset, .unset, .unset] [(.int (3 : Int32)), (.int p2), (.int (0 : Int32)), (.ref b13)])) _
    refine XS.iand X13.here hx rfl (hb hby at_65) rfl ?_
    show Steps p.tables e below (T13.setTop (mkF m 66 #[.val (.int p0), .val (.int p1), .val (.int p2), .val (.int (p0 &&& (3 : Int32))), .val (.int q0), .val (.int q1), .val (.int q2), .val (.int t0), .val (.int t1), .val (.int t2), .val (.ref b13), .unset, .unset, .unset, .unset] [(.int (p2 &&& (3 : Int32))), (.int (0 : Int32)), (.ref b13)])) _
    refine st16 _ ?_
    show Steps p.tables e below (T16.setTop (mkF m 67 #[.val (.int p0), .val (.int p1), .val (.int p2), .val (.int (p0 &&& (3 : Int32))), .val (.int q0), .val (.int q1), .val (.int q2), .val (.int t0), .val (.int t1), .val (.int t2), .val (.ref b13), .unset, .unset, .unset, .unset] [])) _
    refine XS.aload X16.here hx rfl (hb hby at_67) rfl rfl ?_
    show Steps p.tables e below (T16.setTop (mkF m 69 #[.val (.int p0), .val (.int p1), .val (.int p2), .val (.int (p0 &&& (3 : Int32))), .val (.int q0), .val (.int q1), .val (.int q2), .val (.int t0), .val (.int t1), .val (.int t2), .val (.ref b13), .unset, .unset, .unset, .unset] [(.ref b13)])) _
    refine XS.iconst X16.here hx rfl (hb hby at_69) ?_
    show Steps p.tables e below (T16.setTop (mkF m 70 #[.val (.int p0), .val (.int p1), .val (.int p2), .val (.int (p0 &&& (3 : Int32))), .val (.int q0), .val (.int q1), .val (.int q2), .val (.int t0), .val (.int t1), .val (.int t2), .val (.ref b13), .unset, .unset, .unset, .unset] [(.int (1 : Int32)), (.ref b13)])) _
    refine XS.iloadN X16.here hx rfl (hb hby at_70) rfl ?_
    show Steps p.tables e below (T16.setTop (mkF m 71 #[.val (.int p0), .val (.int p1), .val (.int p2), .val (.int (p0 &&& (3 : Int32))), .val (.int q0), .val (.int q1), .val (.int q2), .val (.int t0), .val (.int t1), .val (.int t2), .val (.ref b13), .unset, .unset, .unset, .unset] [(.int p2), (.int (1 : Int32)), (.ref b13)])) _
    refine XS.iconst X16.here hx rfl (hb hby at_71) ?_
    show Steps p.tables e below (T16.setTop (mkF m 72 #[.val (.int p0), .val (.int p1), .val (.int p2), .val (.int (p0 &&& (3 : Int32))), .val (.int q0), .val (.int q1), .val (.int q2), .val (.int t0), .val (.int t1), .val (.int t2), .val (.ref b13), .unset, .unset, .unset, .unset] [(.int (2 : Int32)), (.int p2), (.int (1 : Int32)), (.ref b13)])) _
    refine XS.ishr X16.here hx rfl (hb hby at_72) rfl ?_
    show Steps p.tables e below (T16.setTop (mkF m 73 #[.val (.int p0), .val (.int p1), .val (.int p2), .val (.int (p0 &&& (3 : Int32))), .val (.int q0), .val (.int q1), .val (.int q2), .val (.int t0), .val (.int t1), .val (.int t2), .val (.ref b13), .unset, .unset, .unset, .unset] [(.int (p2 >>> ((2 : Int32) &&& 31))), (.int (1 : Int32)), (.ref b13)])) _
    refine XS.iconst X16.here hx rfl (hb hby at_73) ?_
    show Steps p.tables e below (T16.setTop (mkF m 74 #[.val (.int p0), .val (.int p1), .val (.int p2), .val (.int (p0 &&& (3 : Int32))), .val (.int q0), .val (.int q1), .val (.int q2), .val (.int t0), .val (.int t1), .val (.int t2), .val (.ref b13), .unset, .unset, .unset, .unset] [(.int (3 : Int32)), (.int (p2 >>> ((2 : Int32) &&& 31))), (.int (1 : Int32)), (.ref b13)])) _
    refine XS.iand X16.here hx rfl (hb hby at_74) rfl ?_
    show Steps p.tables e below (T16.setTop (mkF m 75 #[.val (.int p0), .val (.int p1), .val (.int p2), .val (.int (p0 &&& (3 : Int32))), .val (.int q0), .val (.int q1), .val (.int q2), .val (.int t0), .val (.int t1), .val (.int t2), .val (.ref b13), .unset, .unset, .unset, .unset] [(.int ((p2 >>> ((2 : Int32) &&& 31)) &&& (3 : Int32))), (.int (1 : Int32)), (.ref b13)])) _
    refine st19 _ ?_
    show Steps p.tables e below (T19.setTop (mkF m 76 #[.val (.int p0), .val (.int p1), .val (.int p2), .val (.int (p0 &&& (3 : Int32))), .val (.int q0), .val (.int q1), .val (.int q2), .val (.int t0), .val (.int t1), .val (.int t2), .val (.ref b13), .unset, .unset, .unset, .unset] [])) _
    refine XS.aload X19.here hx rfl (hb hby at_76) rfl rfl ?_
    show Steps p.tables e below (T19.setTop (mkF m 78 #[.val (.int p0), .val (.int p1), .val (.int p2), .val (.int (p0 &&& (3 : Int32))), .val (.int q0), .val (.int q1), .val (.int q2), .val (.int t0), .val (.int t1), .val (.int t2), .val (.ref b13), .unset, .unset, .unset, .unset] [(.ref b13)])) _
    refine XS.iconst X19.here hx rfl (hb hby at_78) ?_
    show Steps p.tables e below (T19.setTop (mkF m 79 #[.val (.int p0), .val (.int p1), .val (.int p2), .val (.int (p0 &&& (3 : Int32))), .val (.int q0), .val (.int q1), .val (.int q2), .val (.int t0), .val (.int t1), .val (.int t2), .val (.ref b13), .unset, .unset, .unset, .unset] [(.int (2 : Int32)), (.ref b13)])) _
    refine XS.iloadN X19.here hx rfl (hb hby at_79) rfl ?_
    show Steps p.tables e below (T19.setTop (mkF m 80 #[.val (.int p0), .val (.int p1), .val (.int p2), .val (.int (p0 &&& (3 : Int32))), .val (.int q0), .val (.int q1), .val (.int q2), .val (.int t0), .val (.int t1), .val (.int t2), .val (.ref b13), .unset, .unset, .unset, .unset] [(.int p2), (.int (2 : Int32)), (.ref b13)])) _
    refine XS.iconst X19.here hx rfl (hb hby at_80) ?_
    show Steps p.tables e below (T19.setTop (mkF m 81 #[.val (.int p0), .val (.int p1), .val (.int p2), .val (.int (p0 &&& (3 : Int32))), .val (.int q0), .val (.int q1), .val (.int q2), .val (.int t0), .val (.int t1), .val (.int t2), .val (.ref b13), .unset, .unset, .unset, .unset] [(.int (4 : Int32)), (.int p2), (.int (2 : Int32)), (.ref b13)])) _
    refine XS.ishr X19.here hx rfl (hb hby at_81) rfl ?_
    show Steps p.tables e below (T19.setTop (mkF m 82 #[.val (.int p0), .val (.int p1), .val (.int p2), .val (.int (p0 &&& (3 : Int32))), .val (.int q0), .val (.int q1), .val (.int q2), .val (.int t0), .val (.int t1), .val (.int t2), .val (.ref b13), .unset, .unset, .unset, .unset] [(.int (p2 >>> ((4 : Int32) &&& 31))), (.int (2 : Int32)), (.ref b13)])) _
    refine XS.iconst X19.here hx rfl (hb hby at_82) ?_
    show Steps p.tables e below (T19.setTop (mkF m 83 #[.val (.int p0), .val (.int p1), .val (.int p2), .val (.int (p0 &&& (3 : Int32))), .val (.int q0), .val (.int q1), .val (.int q2), .val (.int t0), .val (.int t1), .val (.int t2), .val (.ref b13), .unset, .unset, .unset, .unset] [(.int (3 : Int32)), (.int (p2 >>> ((4 : Int32) &&& 31))), (.int (2 : Int32)), (.ref b13)])) _
    refine XS.iand X19.here hx rfl (hb hby at_83) rfl ?_
    show Steps p.tables e below (T19.setTop (mkF m 84 #[.val (.int p0), .val (.int p1), .val (.int p2), .val (.int (p0 &&& (3 : Int32))), .val (.int q0), .val (.int q1), .val (.int q2), .val (.int t0), .val (.int t1), .val (.int t2), .val (.ref b13), .unset, .unset, .unset, .unset] [(.int ((p2 >>> ((4 : Int32) &&& 31)) &&& (3 : Int32))), (.int (2 : Int32)), (.ref b13)])) _
    refine st22 _ ?_
    show Steps p.tables e below (T22.setTop (mkF m 85 #[.val (.int p0), .val (.int p1), .val (.int p2), .val (.int (p0 &&& (3 : Int32))), .val (.int q0), .val (.int q1), .val (.int q2), .val (.int t0), .val (.int t1), .val (.int t2), .val (.ref b13), .unset, .unset, .unset, .unset] [])) _
    refine XS.aload X22.here hx rfl (hb hby at_85) rfl rfl ?_
    show Steps p.tables e below (T22.setTop (mkF m 87 #[.val (.int p0), .val (.int p1), .val (.int p2), .val (.int (p0 &&& (3 : Int32))), .val (.int q0), .val (.int q1), .val (.int q2), .val (.int t0), .val (.int t1), .val (.int t2), .val (.ref b13), .unset, .unset, .unset, .unset] [(.ref b13)])) _
    refine XS.iconst X22.here hx rfl (hb hby at_87) ?_
    show Steps p.tables e below (T22.setTop (mkF m 88 #[.val (.int p0), .val (.int p1), .val (.int p2), .val (.int (p0 &&& (3 : Int32))), .val (.int q0), .val (.int q1), .val (.int q2), .val (.int t0), .val (.int t1), .val (.int t2), .val (.ref b13), .unset, .unset, .unset, .unset] [(.int (3 : Int32)), (.ref b13)])) _
    refine XS.iloadN X22.here hx rfl (hb hby at_88) rfl ?_
    show Steps p.tables e below (T22.setTop (mkF m 89 #[.val (.int p0), .val (.int p1), .val (.int p2), .val (.int (p0 &&& (3 : Int32))), .val (.int q0), .val (.int q1), .val (.int q2), .val (.int t0), .val (.int t1), .val (.int t2), .val (.ref b13), .unset, .unset, .unset, .unset] [(.int p2), (.int (3 : Int32)), (.ref b13)])) _
    refine XS.bipush X22.here hx rfl (hb hby at_89) ?_
    show Steps p.tables e below (T22.setTop (mkF m 91 #[.val (.int p0), .val (.int p1), .val (.int p2), .val (.int (p0 &&& (3 : Int32))), .val (.int q0), .val (.int q1), .val (.int q2), .val (.int t0), .val (.int t1), .val (.int t2), .val (.ref b13), .unset, .unset, .unset, .unset] [(.int (6 : Int32)), (.int p2), (.int (3 : Int32)), (.ref b13)])) _
    refine XS.ishr X22.here hx rfl (hb hby at_91) rfl ?_
    show Steps p.tables e below (T22.setTop (mkF m 92 #[.val (.int p0), .val (.int p1), .val (.int p2), .val (.int (p0 &&& (3 : Int32))), .val (.int q0), .val (.int q1), .val (.int q2), .val (.int t0), .val (.int t1), .val (.int t2), .val (.ref b13), .unset, .unset, .unset, .unset] [(.int (p2 >>> ((6 : Int32) &&& 31))), (.int (3 : Int32)), (.ref b13)])) _
    refine XS.iconst X22.here hx rfl (hb hby at_92) ?_
    show Steps p.tables e below (T22.setTop (mkF m 93 #[.val (.int p0), .val (.int p1), .val (.int p2), .val (.int (p0 &&& (3 : Int32))), .val (.int q0), .val (.int q1), .val (.int q2), .val (.int t0), .val (.int t1), .val (.int t2), .val (.ref b13), .unset, .unset, .unset, .unset] [(.int (3 : Int32)), (.int (p2 >>> ((6 : Int32) &&& 31))), (.int (3 : Int32)), (.ref b13)])) _
    refine XS.iand X22.here hx rfl (hb hby at_93) rfl ?_
    show Steps p.tables e below (T22.setTop (mkF m 94 #[.val (.int p0), .val (.int p1), .val (.int p2), .val (.int (p0 &&& (3 : Int32))), .val (.int q0), .val (.int q1), .val (.int q2), .val (.int t0), .val (.int t1), .val (.int t2), .val (.ref b13), .unset, .unset, .unset, .unset] [(.int ((p2 >>> ((6 : Int32) &&& 31)) &&& (3 : Int32))), (.int (3 : Int32)), (.ref b13)])) _
    refine st25 _ ?_
    show Steps p.tables e below (T25.setTop (mkF m 95 #[.val (.int p0), .val (.int p1), .val (.int p2), .val (.int (p0 &&& (3 : Int32))), .val (.int q0), .val (.int q1), .val (.int q2), .val (.int t0), .val (.int t1), .val (.int t2), .val (.ref b13), .unset, .unset, .unset, .unset] [])) _
    refine XS.aload X25.here hx rfl (hb hby at_95) rfl rfl ?_
    show Steps p.tables e below (T25.setTop (mkF m 97 #[.val (.int p0), .val (.int p1), .val (.int p2), .val (.int (p0 &&& (3 : Int32))), .val (.int q0), .val (.int q1), .val (.int q2), .val (.int t0), .val (.int t1), .val (.int t2), .val (.ref b13), .unset, .unset, .unset, .unset] [(.ref b13)])) _
    refine XS.iconst X25.here hx rfl (hb hby at_97) ?_
    show Steps p.tables e below (T25.setTop (mkF m 98 #[.val (.int p0), .val (.int p1), .val (.int p2), .val (.int (p0 &&& (3 : Int32))), .val (.int q0), .val (.int q1), .val (.int q2), .val (.int t0), .val (.int t1), .val (.int t2), .val (.ref b13), .unset, .unset, .unset, .unset] [(.int (4 : Int32)), (.ref b13)])) _
    refine XS.iloadN X25.here hx rfl (hb hby at_98) rfl ?_
    show Steps p.tables e below (T25.setTop (mkF m 99 #[.val (.int p0), .val (.int p1), .val (.int p2), .val (.int (p0 &&& (3 : Int32))), .val (.int q0), .val (.int q1), .val (.int q2), .val (.int t0), .val (.int t1), .val (.int t2), .val (.ref b13), .unset, .unset, .unset, .unset] [(.int p2), (.int (4 : Int32)), (.ref b13)])) _
    refine XS.bipush X25.here hx rfl (hb hby at_99) ?_
    show Steps p.tables e below (T25.setTop (mkF m 101 #[.val (.int p0), .val (.int p1), .val (.int p2), .val (.int (p0 &&& (3 : Int32))), .val (.int q0), .val (.int q1), .val (.int q2), .val (.int t0), .val (.int t1), .val (.int t2), .val (.ref b13), .unset, .unset, .unset, .unset] [(.int (8 : Int32)), (.int p2), (.int (4 : Int32)), (.ref b13)])) _
    refine XS.ishr X25.here hx rfl (hb hby at_101) rfl ?_
    show Steps p.tables e below (T25.setTop (mkF m 102 #[.val (.int p0), .val (.int p1), .val (.int p2), .val (.int (p0 &&& (3 : Int32))), .val (.int q0), .val (.int q1), .val (.int q2), .val (.int t0), .val (.int t1), .val (.int t2), .val (.ref b13), .unset, .unset, .unset, .unset] [(.int (p2 >>> ((8 : Int32) &&& 31))), (.int (4 : Int32)), (.ref b13)])) _
    refine XS.iconst X25.here hx rfl (hb hby at_102) ?_
    show Steps p.tables e below (T25.setTop (mkF m 103 #[.val (.int p0), .val (.int p1), .val (.int p2), .val (.int (p0 &&& (3 : Int32))), .val (.int q0), .val (.int q1), .val (.int q2), .val (.int t0), .val (.int t1), .val (.int t2), .val (.ref b13), .unset, .unset, .unset, .unset] [(.int (3 : Int32)), (.int (p2 >>> ((8 : Int32) &&& 31))), (.int (4 : Int32)), (.ref b13)])) _
    refine XS.iand X25.here hx rfl (hb hby at_103) rfl ?_
    show Steps p.tables e below (T25.setTop (mkF m 104 #[.val (.int p0), .val (.int p1), .val (.int p2), .val (.int (p0 &&& (3 : Int32))), .val (.int q0), .val (.int q1), .val (.int q2), .val (.int t0), .val (.int t1), .val (.int t2), .val (.ref b13), .unset, .unset, .unset, .unset] [(.int ((p2 >>> ((8 : Int32) &&& 31)) &&& (3 : Int32))), (.int (4 : Int32)), (.ref b13)])) _
    refine st28 _ ?_
    show Steps p.tables e below (T28.setTop (mkF m 105 #[.val (.int p0), .val (.int p1), .val (.int p2), .val (.int (p0 &&& (3 : Int32))), .val (.int q0), .val (.int q1), .val (.int q2), .val (.int t0), .val (.int t1), .val (.int t2), .val (.ref b13), .unset, .unset, .unset, .unset] [])) _
    refine XS.aload X28.here hx rfl (hb hby at_105) rfl rfl ?_
    show Steps p.tables e below (T28.setTop (mkF m 107 #[.val (.int p0), .val (.int p1), .val (.int p2), .val (.int (p0 &&& (3 : Int32))), .val (.int q0), .val (.int q1), .val (.int q2), .val (.int t0), .val (.int t1), .val (.int t2), .val (.ref b13), .unset, .unset, .unset, .unset] [(.ref b13)])) _
    refine XS.iconst X28.here hx rfl (hb hby at_107) ?_
    show Steps p.tables e below (T28.setTop (mkF m 108 #[.val (.int p0), .val (.int p1), .val (.int p2), .val (.int (p0 &&& (3 : Int32))), .val (.int q0), .val (.int q1), .val (.int q2), .val (.int t0), .val (.int t1), .val (.int t2), .val (.ref b13), .unset, .unset, .unset, .unset] [(.int (5 : Int32)), (.ref b13)])) _
    refine XS.iloadN X28.here hx rfl (hb hby at_108) rfl ?_
    show Steps p.tables e below (T28.setTop (mkF m 109 #[.val (.int p0), .val (.int p1), .val (.int p2), .val (.int (p0 &&& (3 : Int32))), .val (.int q0), .val (.int q1), .val (.int q2), .val (.int t0), .val (.int t1), .val (.int t2), .val (.ref b13), .unset, .unset, .unset, .unset] [(.int p2), (.int (5 : Int32)), (.ref b13)])) _
    refine XS.bipush X28.here hx rfl (hb hby at_109) ?_
    show Steps p.tables e below (T28.setTop (mkF m 111 #[.val (.int p0), .val (.int p1), .val (.int p2), .val (.int (p0 &&& (3 : Int32))), .val (.int q0), .val (.int q1), .val (.int q2), .val (.int t0), .val (.int t1), .val (.int t2), .val (.ref b13), .unset, .unset, .unset, .unset] [(.int (10 : Int32)), (.int p2), (.int (5 : Int32)), (.ref b13)])) _
    refine XS.ishr X28.here hx rfl (hb hby at_111) rfl ?_
    show Steps p.tables e below (T28.setTop (mkF m 112 #[.val (.int p0), .val (.int p1), .val (.int p2), .val (.int (p0 &&& (3 : Int32))), .val (.int q0), .val (.int q1), .val (.int q2), .val (.int t0), .val (.int t1), .val (.int t2), .val (.ref b13), .unset, .unset, .unset, .unset] [(.int (p2 >>> ((10 : Int32) &&& 31))), (.int (5 : Int32)), (.ref b13)])) _
    refine XS.iconst X28.here hx rfl (hb hby at_112) ?_
    show Steps p.tables e below (T28.setTop (mkF m 113 #[.val (.int p0), .val (.int p1), .val (.int p2), .val (.int (p0 &&& (3 : Int32))), .val (.int q0), .val (.int q1), .val (.int q2), .val (.int t0), .val (.int t1), .val (.int t2), .val (.ref b13), .unset, .unset, .unset, .unset] [(.int (3 : Int32)), (.int (p2 >>> ((10 : Int32) &&& 31))), (.int (5 : Int32)), (.ref b13)])) _
    refine XS.iand X28.here hx rfl (hb hby at_113) rfl ?_
    show Steps p.tables e below (T28.setTop (mkF m 114 #[.val (.int p0), .val (.int p1), .val (.int p2), .val (.int (p0 &&& (3 : Int32))), .val (.int q0), .val (.int q1), .val (.int q2), .val (.int t0), .val (.int t1), .val (.int t2), .val (.ref b13), .unset, .unset, .unset, .unset] [(.int ((p2 >>> ((10 : Int32) &&& 31)) &&& (3 : Int32))), (.int (5 : Int32)), (.ref b13)])) _
    refine st31 _ ?_
    show Steps p.tables e below (T31.setTop (mkF m 115 #[.val (.int p0), .val (.int p1), .val (.int p2), .val (.int (p0 &&& (3 : Int32))), .val (.int q0), .val (.int q1), .val (.int q2), .val (.int t0), .val (.int t1), .val (.int t2), .val (.ref b13), .unset, .unset, .unset, .unset] [])) _
    refine XS.iloadN X31.here hx rfl (hb hby at_115) rfl ?_
    exact Steps.refl _
  rcases own_and3 p0 with hk33 | hk33 | hk33 | hk33
  · have s34 := s32
    rw [hk33] at s34
    obtain ⟨T35, h35, k35, X35, e35, E35, A35, st35⟩ := newP X31 hx hZ (hw _ (List.mem_of_getElem? (i := 0) rfl)) e31 (g := (mkF m 120 #[.val (.int p0), .val (.int p1), .val (.int p2), .val (.int (0 : Int32)), .val (.int q0), .val (.int q1), .val (.int q2), .val (.int t0), .val (.int t1), .val (.int t2), .val (.ref b13), .unset, .unset, .unset, .unset] [(.int (0 : Int32))])) rfl (hb hby at_120) rfl (by decide) (cap := 0) (by decide) (by decide) (by decide) (by decide)
    obtain ⟨b35, g35⟩ : ∃ z, z = h31.size := ⟨_, rfl⟩
    rw [← g35] at A35 st35
    have ne_b13_b35 : b13 ≠ b35 := Nat.ne_of_lt (Nat.lt_of_lt_of_le V31.lt (Nat.le_of_eq g35.symm))
    have g_b35 : n0 ≤ b35 := Nat.le_trans (Nat.le_of_eq O31.1.symm) (Nat.le_trans O31.2.1 (Nat.le_of_eq g35.symm))
    have O35 := O31.ext E35
    have V35 : Arv Z h35 b35 k35 .int (0 : Int32) [] (.int (0 : Int32)) := (Arv.new A35 (by decide)).pad (pad_rep [] (.int (0 : Int32)) 0)
    obtain ⟨T36, h36, k36, X36, e36, E36, A36, st36⟩ := newP X35 hx hZ (hw _ (List.mem_of_getElem? (i := 0) rfl)) e35 (g := (mkF m 125 #[.val (.int p0), .val (.int p1), .val (.int p2), .val (.int (0 : Int32)), .val (.int q0), .val (.int q1), .val (.int q2), .val (.int t0), .val (.int t1), .val (.int t2), .val (.ref b13), .val (.ref b35), .unset, .unset, .unset] [(.int (0 : Int32))])) rfl (hb hby at_125) rfl (by decide) (cap := 0) (by decide) (by decide) (by decide) (by decide)
    obtain ⟨b36, g36⟩ : ∃ z, z = h35.size := ⟨_, rfl⟩
    rw [← g36] at A36 st36
    have c37 : Arv Z h35 b13 k13 .int (6 : Int32) [(.int (p2 &&& (3 : Int32))), (.int ((p2 >>> ((2 : Int32) &&& 31)) &&& (3 : Int32))), (.int ((p2 >>> ((4 : Int32) &&& 31)) &&& (3 : Int32))), (.int ((p2 >>> ((6 : Int32) &&& 31)) &&& (3 : Int32))), (.int ((p2 >>> ((8 : Int32) &&& 31)) &&& (3 : Int32))), (.int ((p2 >>> ((10 : Int32) &&& 31)) &&& (3 : Int32)))] (.int (0 : Int32)) := (V31.ext E35)
    have ne_b13_b36 : b13 ≠ b36 := Nat.ne_of_lt (Nat.lt_of_lt_of_le c37.lt (Nat.le_of_eq g36.symm))
    have ne_b35_b36 : b35 ≠ b36 := Nat.ne_of_lt (Nat.lt_of_lt_of_le V35.lt (Nat.le_of_eq g36.symm))
    have g_b36 : n0 ≤ b36 := Nat.le_trans (Nat.le_of_eq O35.1.symm) (Nat.le_trans O35.2.1 (Nat.le_of_eq g36.symm))
    have O36 := O35.ext E36
    have V36 : Arv Z h36 b36 k36 .int (0 : Int32) [] (.int (0 : Int32)) := (Arv.new A36 (by decide)).pad (pad_rep [] (.int (0 : Int32)) 0)
    obtain ⟨T38, h38, X38, e38, E38, A38, D38, -, st38⟩ := newO X36 hx hZ hown (hw _ (List.mem_of_getElem? (i := 1) rfl)) (hw _ (List.mem_of_getElem? (i := 2) rfl)) (hw _ (List.mem_of_getElem? (i := 3) rfl)) e36 (g := (mkF m 295 #[.val (.int p0), .val (.int p1), .val (.int p2), .val (.int (0 : Int32)), .val (.int q0), .val (.int q1), .val (.int q2), .val (.int t0), .val (.int t1), .val (.int t2), .val (.ref b13), .val (.ref b35), .val (.ref b36), .val (.int (1 : Int32)), .unset] [])) rfl (hb hby at_295) (by decide) (by decide)
    obtain ⟨b38, g38⟩ : ∃ z, z = h36.size := ⟨_, rfl⟩
    rw [← g38] at A38 D38 st38
    have c39 : Arv Z h36 b13 k13 .int (6 : Int32) [(.int (p2 &&& (3 : Int32))), (.int ((p2 >>> ((2 : Int32) &&& 31)) &&& (3 : Int32))), (.int ((p2 >>> ((4 : Int32) &&& 31)) &&& (3 : Int32))), (.int ((p2 >>> ((6 : Int32) &&& 31)) &&& (3 : Int32))), (.int ((p2 >>> ((8 : Int32) &&& 31)) &&& (3 : Int32))), (.int ((p2 >>> ((10 : Int32) &&& 31)) &&& (3 : Int32)))] (.int (0 : Int32)) := (c37.ext E36)
    have ne_b13_b38 : b13 ≠ b38 := Nat.ne_of_lt (Nat.lt_of_lt_of_le c39.lt (Nat.le_of_eq g38.symm))
    have c40 : Arv Z h36 b35 k35 .int (0 : Int32) [] (.int (0 : Int32)) := (V35.ext E36)
    have ne_b35_b38 : b35 ≠ b38 := Nat.ne_of_lt (Nat.lt_of_lt_of_le c40.lt (Nat.le_of_eq g38.symm))
    have ne_b36_b38 : b36 ≠ b38 := Nat.ne_of_lt (Nat.lt_of_lt_of_le V36.lt (Nat.le_of_eq g38.symm))
    have g_b38 : n0 ≤ b38 := Nat.le_trans (Nat.le_of_eq O36.1.symm) (Nat.le_trans O36.2.1 (Nat.le_of_eq g38.symm))
    have O38 := O36.ext E38
    have F38_positions : Fld Z h38 b38 "com/example/odds_on_axioms/oddsonaxioms/network/Condition" "positions" "[I" .null := D38 (Or.inr (hw _ (List.mem_of_getElem? (i := 11) rfl))) (ty := (.array .int)) (by decide)
    have F38_states : Fld Z h38 b38 "com/example/odds_on_axioms/oddsonaxioms/network/Condition" "states" "[I" .null := D38 (Or.inr (hw _ (List.mem_of_getElem? (i := 13) rfl))) (ty := (.array .int)) (by decide)
    obtain ⟨_, _, ⟨T41, L41, k41, n41⟩, -, X41, ⟨Lc41, hQ41, l41, y41, z41⟩, st41⟩ := X38.specialBack hx (y := (⟨"com/example/odds_on_axioms/oddsonaxioms/network/Condition", "<init>", "([I[I)V"⟩ : MethodName)) rfl hown (mvT hZ (hw _ (List.mem_of_getElem? (i := 4) rfl))) (mvT hZ (hw _ (List.mem_of_getElem? (i := 5) rfl))) (mvT hZ (hw _ (List.mem_of_getElem? (i := 6) rfl))) (by decide) (backOf (W := 1) (rm1 l Z a0 hw [] b38 b35 b36 h38 n0 O38 A38 F38_positions F38_states g_b38) hZ (hw _ (List.mem_of_getElem? (i := 6) rfl)) (hw _ (List.mem_of_getElem? (i := 3) rfl)) (by decide) (by decide)) (g := (mkF m 303 #[.val (.int p0), .val (.int p1), .val (.int p2), .val (.int (0 : Int32)), .val (.int q0), .val (.int q1), .val (.int q2), .val (.int t0), .val (.int t1), .val (.int t2), .val (.ref b13), .val (.ref b35), .val (.ref b36), .val (.int (1 : Int32)), .unset] [(.ref b36), (.ref b35), (.ref b38), (.ref b38)])) rfl (by rw [hml]; rfl) (Steps.refl _) (a := b38) (argsL := [(.ref b35), (.ref b36)]) (rest := [(.ref b38)]) (lenOf pd_rm0_0 rfl) rfl (by show 2 * 0 + _ ≤ _; exact Nat.le_of_eq rfl) (hb hby at_303) (fun _ _ => ⟨rfl, e38, (by decide : 4 + 0 ≤ _), (by decide : 8 + 0 ≤ _)⟩)
    dsimp only [Pt.U, Pt.locs, Pt.cells, Pt.slots] at X41 l41 y41 z41 st41 hQ41
    subst l41 y41 z41
    obtain ⟨rfl, Nq41, Kc41, f41_0, f41_1, f41_2⟩ := hQ41
    have N41 := Fr.app N31 Nq41
    have O41 := O38.keep Kc41 (allS g_b38 all0)
    have c42 : Arv Z T41.heap b35 k35 .int (0 : Int32) [] (.int (0 : Int32)) := ((c40.ext E38).keep Kc41 (ninS ne_b35_b38 nin0))
    have c43 : Arv Z T41.heap b36 k36 .int (0 : Int32) [] (.int (0 : Int32)) := ((V36.ext E38).keep Kc41 (ninS ne_b36_b38 nin0))
    have c44 : Arv Z T41.heap b13 k13 .int (6 : Int32) [(.int (p2 &&& (3 : Int32))), (.int ((p2 >>> ((2 : Int32) &&& 31)) &&& (3 : Int32))), (.int ((p2 >>> ((4 : Int32) &&& 31)) &&& (3 : Int32))), (.int ((p2 >>> ((6 : Int32) &&& 31)) &&& (3 : Int32))), (.int ((p2 >>> ((8 : Int32) &&& 31)) &&& (3 : Int32))), (.int ((p2 >>> ((10 : Int32) &&& 31)) &&& (3 : Int32)))] (.int (0 : Int32)) := ((c39.ext E38).keep Kc41 (ninS ne_b13_b38 nin0))
    obtain ⟨cq45, kq45, q45a, q45b, q45c⟩ := isOf hZ (rfl : T41.heap = T41.heap) f41_0
    obtain ⟨_, _, ⟨T45, L45, k45, n45⟩, -, X45, ⟨Lc45, hQ45, l45, y45, z45⟩, st45⟩ := X41.virtualBack hx (y := (⟨"com/example/odds_on_axioms/oddsonaxioms/network/Condition", "holdsIn", "([I)Z"⟩ : MethodName)) (z := (⟨"com/example/odds_on_axioms/oddsonaxioms/network/Condition", "holdsIn", "([I)Z"⟩ : MethodName)) hown (mvT hZ (hw _ (List.mem_of_getElem? (i := 14) rfl))) (mvT hZ (hw _ (List.mem_of_getElem? (i := 15) rfl))) (notFace_of_selects (args := #[]) (mvT hZ (hw _ (List.mem_of_getElem? (i := 17) rfl)))) (mvT hZ (hw _ (List.mem_of_getElem? (i := 17) rfl))) (mvT hZ (hw _ (List.mem_of_getElem? (i := 16) rfl))) (by decide) (backOf (W := 0) (rmh0 l Z a0 hw [] b38 b13 b35 b36 k35 k36 k13 (p2 &&& (3 : Int32)) ((p2 >>> ((2 : Int32) &&& 31)) &&& (3 : Int32)) ((p2 >>> ((4 : Int32) &&& 31)) &&& (3 : Int32)) ((p2 >>> ((6 : Int32) &&& 31)) &&& (3 : Int32)) ((p2 >>> ((8 : Int32) &&& 31)) &&& (3 : Int32)) ((p2 >>> ((10 : Int32) &&& 31)) &&& (3 : Int32)) T41.heap n0 O41 f41_1 f41_2 c42 c43 c44) hZ (hw _ (List.mem_of_getElem? (i := 18) rfl)) (hw _ (List.mem_of_getElem? (i := 3) rfl)) (by decide) (by decide)) q45a q45c (g := (mkF m 312 #[.val (.int p0), .val (.int p1), .val (.int p2), .val (.int (0 : Int32)), .val (.int q0), .val (.int q1), .val (.int q2), .val (.int t0), .val (.int t1), .val (.int t2), .val (.ref b13), .val (.ref b35), .val (.ref b36), .val (.int (1 : Int32)), .val (.ref b38)] [(.ref b13), (.ref b38)])) rfl (by rw [hml]; rfl) (Steps.refl _) (argsL := [(.ref b13)]) (rest := []) (lenOf pd_rm0_1 rfl) rfl (by show 2 * 0 + _ ≤ _; exact Nat.le_of_eq rfl) (hb hby at_312) (fun _ _ => ⟨rfl, (rfl : T41.heap = T41.heap), (by decide : 4 + 0 ≤ _), (by decide : 8 + 0 ≤ _)⟩)
    dsimp only [Pt.U, Pt.locs, Pt.cells, Pt.slots] at X45 l45 y45 z45 st45 hQ45
    subst l45 y45 z45
    obtain ⟨rfl, Nq45, e45⟩ := hQ45
    have N45 := Fr.app N41 Nq45
    have s46 : Steps p.tables e below (s₁.setTop (entryFrame m #[(.int p0), (.int p1), (.int p2)] maxLocals)) (T45.setTop (mkF m 325 #[.val (.int p0), .val (.int p1), .val (.int p2), .val (.int (0 : Int32)), .val (.int q0), .val (.int q1), .val (.int q2), .val (.int t0), .val (.int t1), .val (.int t2), .val (.ref b13), .val (.ref b35), .val (.ref b36), .val (.int (1 : Int32)), .val (.ref b38)] [(.int (1 : Int32))])) := by
      refine s34.trans ?_
      show Steps p.tables e below (T31.setTop (mkF m 116 #[.val (.int p0), .val (.int p1), .val (.int p2), .val (.int (0 : Int32)), .val (.int q0), .val (.int q1), .val (.int q2), .val (.int t0), .val (.int t1), .val (.int t2), .val (.ref b13), .unset, .unset, .unset, .unset] [(.int (0 : Int32))])) _
      refine XS.ifNo X31.here hx rfl (hb hby at_116) rfl ((if0 _ _).trans (teq (by decide)).2) ?_
      show Steps p.tables e below (T31.setTop (mkF m 119 #[.val (.int p0), .val (.int p1), .val (.int p2), .val (.int (0 : Int32)), .val (.int q0), .val (.int q1), .val (.int q2), .val (.int t0), .val (.int t1), .val (.int t2), .val (.ref b13), .unset, .unset, .unset, .unset] [])) _
      refine XS.iconst X31.here hx rfl (hb hby at_119) ?_
      show Steps p.tables e below (T31.setTop (mkF m 120 #[.val (.int p0), .val (.int p1), .val (.int p2), .val (.int (0 : Int32)), .val (.int q0), .val (.int q1), .val (.int q2), .val (.int t0), .val (.int t1), .val (.int t2), .val (.ref b13), .unset, .unset, .unset, .unset] [(.int (0 : Int32))])) _
      refine st35 _ ?_
      show Steps p.tables e below (T35.setTop (mkF m 122 #[.val (.int p0), .val (.int p1), .val (.int p2), .val (.int (0 : Int32)), .val (.int q0), .val (.int q1), .val (.int q2), .val (.int t0), .val (.int t1), .val (.int t2), .val (.ref b13), .unset, .unset, .unset, .unset] [(.ref b35)])) _
      refine XS.astore X35.here hx rfl (hb hby at_122) rfl rfl (l' := #[.val (.int p0), .val (.int p1), .val (.int p2), .val (.int (0 : Int32)), .val (.int q0), .val (.int q1), .val (.int q2), .val (.int t0), .val (.int t1), .val (.int t2), .val (.ref b13), .val (.ref b35), .unset, .unset, .unset]) rfl ?_
      show Steps p.tables e below (T35.setTop (mkF m 124 #[.val (.int p0), .val (.int p1), .val (.int p2), .val (.int (0 : Int32)), .val (.int q0), .val (.int q1), .val (.int q2), .val (.int t0), .val (.int t1), .val (.int t2), .val (.ref b13), .val (.ref b35), .unset, .unset, .unset] [])) _
      refine XS.iconst X35.here hx rfl (hb hby at_124) ?_
      show Steps p.tables e below (T35.setTop (mkF m 125 #[.val (.int p0), .val (.int p1), .val (.int p2), .val (.int (0 : Int32)), .val (.int q0), .val (.int q1), .val (.int q2), .val (.int t0), .val (.int t1), .val (.int t2), .val (.ref b13), .val (.ref b35), .unset, .unset, .unset] [(.int (0 : Int32))])) _
      refine st36 _ ?_
      show Steps p.tables e below (T36.setTop (mkF m 127 #[.val (.int p0), .val (.int p1), .val (.int p2), .val (.int (0 : Int32)), .val (.int q0), .val (.int q1), .val (.int q2), .val (.int t0), .val (.int t1), .val (.int t2), .val (.ref b13), .val (.ref b35), .unset, .unset, .unset] [(.ref b36)])) _
      refine XS.astore X36.here hx rfl (hb hby at_127) rfl rfl (l' := #[.val (.int p0), .val (.int p1), .val (.int p2), .val (.int (0 : Int32)), .val (.int q0), .val (.int q1), .val (.int q2), .val (.int t0), .val (.int t1), .val (.int t2), .val (.ref b13), .val (.ref b35), .val (.ref b36), .unset, .unset]) rfl ?_
      show Steps p.tables e below (T36.setTop (mkF m 129 #[.val (.int p0), .val (.int p1), .val (.int p2), .val (.int (0 : Int32)), .val (.int q0), .val (.int q1), .val (.int q2), .val (.int t0), .val (.int t1), .val (.int t2), .val (.ref b13), .val (.ref b35), .val (.ref b36), .unset, .unset] [])) _
      refine XS.goto X36.here hx rfl (pc0 := 129) (pc' := 238) rfl (hb hby at_129) (by decide) (by decide) ?_
      show Steps p.tables e below (T36.setTop (mkF m 238 #[.val (.int p0), .val (.int p1), .val (.int p2), .val (.int (0 : Int32)), .val (.int q0), .val (.int q1), .val (.int q2), .val (.int t0), .val (.int t1), .val (.int t2), .val (.ref b13), .val (.ref b35), .val (.ref b36), .unset, .unset] [])) _
      refine XS.iconst X36.here hx rfl (hb hby at_238) ?_
      show Steps p.tables e below (T36.setTop (mkF m 239 #[.val (.int p0), .val (.int p1), .val (.int p2), .val (.int (0 : Int32)), .val (.int q0), .val (.int q1), .val (.int q2), .val (.int t0), .val (.int t1), .val (.int t2), .val (.ref b13), .val (.ref b35), .val (.ref b36), .unset, .unset] [(.int (1 : Int32))])) _
      refine XS.istore X36.here hx rfl (hb hby at_239) rfl (l' := #[.val (.int p0), .val (.int p1), .val (.int p2), .val (.int (0 : Int32)), .val (.int q0), .val (.int q1), .val (.int q2), .val (.int t0), .val (.int t1), .val (.int t2), .val (.ref b13), .val (.ref b35), .val (.ref b36), .val (.int (1 : Int32)), .unset]) rfl ?_
      show Steps p.tables e below (T36.setTop (mkF m 241 #[.val (.int p0), .val (.int p1), .val (.int p2), .val (.int (0 : Int32)), .val (.int q0), .val (.int q1), .val (.int q2), .val (.int t0), .val (.int t1), .val (.int t2), .val (.ref b13), .val (.ref b35), .val (.ref b36), .val (.int (1 : Int32)), .unset] [])) _
      refine XS.iloadN X36.here hx rfl (hb hby at_241) rfl ?_
      show Steps p.tables e below (T36.setTop (mkF m 242 #[.val (.int p0), .val (.int p1), .val (.int p2), .val (.int (0 : Int32)), .val (.int q0), .val (.int q1), .val (.int q2), .val (.int t0), .val (.int t1), .val (.int t2), .val (.ref b13), .val (.ref b35), .val (.ref b36), .val (.int (1 : Int32)), .unset] [(.int (0 : Int32))])) _
      refine XS.iconst X36.here hx rfl (hb hby at_242) ?_
      show Steps p.tables e below (T36.setTop (mkF m 243 #[.val (.int p0), .val (.int p1), .val (.int p2), .val (.int (0 : Int32)), .val (.int q0), .val (.int q1), .val (.int q2), .val (.int t0), .val (.int t1), .val (.int t2), .val (.ref b13), .val (.ref b35), .val (.ref b36), .val (.int (1 : Int32)), .unset] [(.int (1 : Int32)), (.int (0 : Int32))])) _
      refine XS.icmpYes X36.here hx rfl (pc0 := 243) (pc' := 259) rfl (hb hby at_243) rfl (tlt (by decide)).1 (by decide) (by decide) ?_
      show Steps p.tables e below (T36.setTop (mkF m 259 #[.val (.int p0), .val (.int p1), .val (.int p2), .val (.int (0 : Int32)), .val (.int q0), .val (.int q1), .val (.int q2), .val (.int t0), .val (.int t1), .val (.int t2), .val (.ref b13), .val (.ref b35), .val (.ref b36), .val (.int (1 : Int32)), .unset] [])) _
      refine XS.iloadN X36.here hx rfl (hb hby at_259) rfl ?_
      show Steps p.tables e below (T36.setTop (mkF m 260 #[.val (.int p0), .val (.int p1), .val (.int p2), .val (.int (0 : Int32)), .val (.int q0), .val (.int q1), .val (.int q2), .val (.int t0), .val (.int t1), .val (.int t2), .val (.ref b13), .val (.ref b35), .val (.ref b36), .val (.int (1 : Int32)), .unset] [(.int (0 : Int32))])) _
      refine XS.iconst X36.here hx rfl (hb hby at_260) ?_
      show Steps p.tables e below (T36.setTop (mkF m 261 #[.val (.int p0), .val (.int p1), .val (.int p2), .val (.int (0 : Int32)), .val (.int q0), .val (.int q1), .val (.int q2), .val (.int t0), .val (.int t1), .val (.int t2), .val (.ref b13), .val (.ref b35), .val (.ref b36), .val (.int (1 : Int32)), .unset] [(.int (2 : Int32)), (.int (0 : Int32))])) _
      refine XS.icmpYes X36.here hx rfl (pc0 := 261) (pc' := 277) rfl (hb hby at_261) rfl (tlt (by decide)).1 (by decide) (by decide) ?_
      show Steps p.tables e below (T36.setTop (mkF m 277 #[.val (.int p0), .val (.int p1), .val (.int p2), .val (.int (0 : Int32)), .val (.int q0), .val (.int q1), .val (.int q2), .val (.int t0), .val (.int t1), .val (.int t2), .val (.ref b13), .val (.ref b35), .val (.ref b36), .val (.int (1 : Int32)), .unset] [])) _
      refine XS.iloadN X36.here hx rfl (hb hby at_277) rfl ?_
      show Steps p.tables e below (T36.setTop (mkF m 278 #[.val (.int p0), .val (.int p1), .val (.int p2), .val (.int (0 : Int32)), .val (.int q0), .val (.int q1), .val (.int q2), .val (.int t0), .val (.int t1), .val (.int t2), .val (.ref b13), .val (.ref b35), .val (.ref b36), .val (.int (1 : Int32)), .unset] [(.int (0 : Int32))])) _
      refine XS.iconst X36.here hx rfl (hb hby at_278) ?_
      show Steps p.tables e below (T36.setTop (mkF m 279 #[.val (.int p0), .val (.int p1), .val (.int p2), .val (.int (0 : Int32)), .val (.int q0), .val (.int q1), .val (.int q2), .val (.int t0), .val (.int t1), .val (.int t2), .val (.ref b13), .val (.ref b35), .val (.ref b36), .val (.int (1 : Int32)), .unset] [(.int (3 : Int32)), (.int (0 : Int32))])) _
      refine XS.icmpYes X36.here hx rfl (pc0 := 279) (pc' := 295) rfl (hb hby at_279) rfl (tlt (by decide)).1 (by decide) (by decide) ?_
      show Steps p.tables e below (T36.setTop (mkF m 295 #[.val (.int p0), .val (.int p1), .val (.int p2), .val (.int (0 : Int32)), .val (.int q0), .val (.int q1), .val (.int q2), .val (.int t0), .val (.int t1), .val (.int t2), .val (.ref b13), .val (.ref b35), .val (.ref b36), .val (.int (1 : Int32)), .unset] [])) _
      refine st38 _ ?_
      show Steps p.tables e below (T38.setTop (mkF m 298 #[.val (.int p0), .val (.int p1), .val (.int p2), .val (.int (0 : Int32)), .val (.int q0), .val (.int q1), .val (.int q2), .val (.int t0), .val (.int t1), .val (.int t2), .val (.ref b13), .val (.ref b35), .val (.ref b36), .val (.int (1 : Int32)), .unset] [(.ref b38)])) _
      refine XS.dup X38.here hx rfl (hb hby at_298) rfl rfl ?_
      show Steps p.tables e below (T38.setTop (mkF m 299 #[.val (.int p0), .val (.int p1), .val (.int p2), .val (.int (0 : Int32)), .val (.int q0), .val (.int q1), .val (.int q2), .val (.int t0), .val (.int t1), .val (.int t2), .val (.ref b13), .val (.ref b35), .val (.ref b36), .val (.int (1 : Int32)), .unset] [(.ref b38), (.ref b38)])) _
      refine XS.aload X38.here hx rfl (hb hby at_299) rfl rfl ?_
      show Steps p.tables e below (T38.setTop (mkF m 301 #[.val (.int p0), .val (.int p1), .val (.int p2), .val (.int (0 : Int32)), .val (.int q0), .val (.int q1), .val (.int q2), .val (.int t0), .val (.int t1), .val (.int t2), .val (.ref b13), .val (.ref b35), .val (.ref b36), .val (.int (1 : Int32)), .unset] [(.ref b35), (.ref b38), (.ref b38)])) _
      refine XS.aload X38.here hx rfl (hb hby at_301) rfl rfl ?_
      show Steps p.tables e below (T38.setTop (mkF m 303 #[.val (.int p0), .val (.int p1), .val (.int p2), .val (.int (0 : Int32)), .val (.int q0), .val (.int q1), .val (.int q2), .val (.int t0), .val (.int t1), .val (.int t2), .val (.ref b13), .val (.ref b35), .val (.ref b36), .val (.int (1 : Int32)), .unset] [(.ref b36), (.ref b35), (.ref b38), (.ref b38)])) _
      refine st41.trans ?_
      show Steps p.tables e below (T41.setTop (mkF m 306 #[.val (.int p0), .val (.int p1), .val (.int p2), .val (.int (0 : Int32)), .val (.int q0), .val (.int q1), .val (.int q2), .val (.int t0), .val (.int t1), .val (.int t2), .val (.ref b13), .val (.ref b35), .val (.ref b36), .val (.int (1 : Int32)), .unset] [(.ref b38)])) _
      refine XS.astore X41.here hx rfl (hb hby at_306) rfl rfl (l' := #[.val (.int p0), .val (.int p1), .val (.int p2), .val (.int (0 : Int32)), .val (.int q0), .val (.int q1), .val (.int q2), .val (.int t0), .val (.int t1), .val (.int t2), .val (.ref b13), .val (.ref b35), .val (.ref b36), .val (.int (1 : Int32)), .val (.ref b38)]) rfl ?_
      show Steps p.tables e below (T41.setTop (mkF m 308 #[.val (.int p0), .val (.int p1), .val (.int p2), .val (.int (0 : Int32)), .val (.int q0), .val (.int q1), .val (.int q2), .val (.int t0), .val (.int t1), .val (.int t2), .val (.ref b13), .val (.ref b35), .val (.ref b36), .val (.int (1 : Int32)), .val (.ref b38)] [])) _
      refine XS.aload X41.here hx rfl (hb hby at_308) rfl rfl ?_
      show Steps p.tables e below (T41.setTop (mkF m 310 #[.val (.int p0), .val (.int p1), .val (.int p2), .val (.int (0 : Int32)), .val (.int q0), .val (.int q1), .val (.int q2), .val (.int t0), .val (.int t1), .val (.int t2), .val (.ref b13), .val (.ref b35), .val (.ref b36), .val (.int (1 : Int32)), .val (.ref b38)] [(.ref b38)])) _
      refine XS.aload X41.here hx rfl (hb hby at_310) rfl rfl ?_
      show Steps p.tables e below (T41.setTop (mkF m 312 #[.val (.int p0), .val (.int p1), .val (.int p2), .val (.int (0 : Int32)), .val (.int q0), .val (.int q1), .val (.int q2), .val (.int t0), .val (.int t1), .val (.int t2), .val (.ref b13), .val (.ref b35), .val (.ref b36), .val (.int (1 : Int32)), .val (.ref b38)] [(.ref b13), (.ref b38)])) _
      refine st45.trans ?_
      show Steps p.tables e below (T45.setTop (mkF m 315 #[.val (.int p0), .val (.int p1), .val (.int p2), .val (.int (0 : Int32)), .val (.int q0), .val (.int q1), .val (.int q2), .val (.int t0), .val (.int t1), .val (.int t2), .val (.ref b13), .val (.ref b35), .val (.ref b36), .val (.int (1 : Int32)), .val (.ref b38)] [(.int (1 : Int32))])) _
      refine XS.iload X45.here hx rfl (hb hby at_315) rfl ?_
      show Steps p.tables e below (T45.setTop (mkF m 317 #[.val (.int p0), .val (.int p1), .val (.int p2), .val (.int (0 : Int32)), .val (.int q0), .val (.int q1), .val (.int q2), .val (.int t0), .val (.int t1), .val (.int t2), .val (.ref b13), .val (.ref b35), .val (.ref b36), .val (.int (1 : Int32)), .val (.ref b38)] [(.int (1 : Int32)), (.int (1 : Int32))])) _
      refine XS.icmpNo X45.here hx rfl (hb hby at_317) rfl (teq rfl).2 ?_
      show Steps p.tables e below (T45.setTop (mkF m 320 #[.val (.int p0), .val (.int p1), .val (.int p2), .val (.int (0 : Int32)), .val (.int q0), .val (.int q1), .val (.int q2), .val (.int t0), .val (.int t1), .val (.int t2), .val (.ref b13), .val (.ref b35), .val (.ref b36), .val (.int (1 : Int32)), .val (.ref b38)] [])) _
      refine XS.iconst X45.here hx rfl (hb hby at_320) ?_
      show Steps p.tables e below (T45.setTop (mkF m 321 #[.val (.int p0), .val (.int p1), .val (.int p2), .val (.int (0 : Int32)), .val (.int q0), .val (.int q1), .val (.int q2), .val (.int t0), .val (.int t1), .val (.int t2), .val (.ref b13), .val (.ref b35), .val (.ref b36), .val (.int (1 : Int32)), .val (.ref b38)] [(.int (1 : Int32))])) _
      refine XS.goto X45.here hx rfl (pc0 := 321) (pc' := 325) rfl (hb hby at_321) (by decide) (by decide) ?_
      exact Steps.refl _
    obtain ⟨fs, hr, hrun, hended, hW, hsame⟩ := X45.leave (v := some (.int (1 : Int32))) (fun h => by rw [Bd.returns] at h; cases h)
    refine ⟨_, _, s46.trans ?_, hrun, hended, _, _, rfl, ?_, ⟨_, rfl⟩, hW, hsame.mono (by decide) (by decide)⟩
    · show Steps p.tables e below (T45.setTop (mkF m 325 #[.val (.int p0), .val (.int p1), .val (.int p2), .val (.int (0 : Int32)), .val (.int q0), .val (.int q1), .val (.int q2), .val (.int t0), .val (.int t1), .val (.int t2), .val (.ref b13), .val (.ref b35), .val (.ref b36), .val (.int (1 : Int32)), .val (.ref b38)] [(.int (1 : Int32))])) _
      exact retN X45 hx (t := .boolean) Bd.returns (by simp) (hb hby at_325) hr
    · show Q0 Z p0 p1 p2 h0 n0 _ T45.heap _
      rw [e45]
      exact ⟨rfl, N45⟩
  · have s47 := s32
    rw [hk33] at s47
    obtain ⟨T48, h48, k48, X48, e48, E48, A48, st48⟩ := newP X31 hx hZ (hw _ (List.mem_of_getElem? (i := 0) rfl)) e31 (g := (mkF m 138 #[.val (.int p0), .val (.int p1), .val (.int p2), .val (.int (1 : Int32)), .val (.int q0), .val (.int q1), .val (.int q2), .val (.int t0), .val (.int t1), .val (.int t2), .val (.ref b13), .unset, .unset, .unset, .unset] [(.int (1 : Int32))])) rfl (hb hby at_138) rfl (by decide) (cap := 1) (by decide) (by decide) (by decide) (by decide)
    obtain ⟨b48, g48⟩ : ∃ z, z = h31.size := ⟨_, rfl⟩
    rw [← g48] at A48 st48
    have ne_b13_b48 : b13 ≠ b48 := Nat.ne_of_lt (Nat.lt_of_lt_of_le V31.lt (Nat.le_of_eq g48.symm))
    have g_b48 : n0 ≤ b48 := Nat.le_trans (Nat.le_of_eq O31.1.symm) (Nat.le_trans O31.2.1 (Nat.le_of_eq g48.symm))
    have O48 := O31.ext E48
    have V48 : Arv Z h48 b48 k48 .int (1 : Int32) [(.int (0 : Int32))] (.int (0 : Int32)) := (Arv.new A48 (by decide)).pad (pad_rep [] (.int (0 : Int32)) 1)
    obtain ⟨cla49, Ara49, qa49, Sa49, Za49, Ha49, Ga49⟩ := id V48
    have hin50 : ¬ ((0 : Int32) < 0 ∨ cla49.slots.size ≤ ((0 : Int32)).toNatClampNeg) := inb_of Sa49 ⟨by decide, by decide⟩
    obtain ⟨T51, h51, X51, e51, W51, st51⟩ := stI X48 hx hZ e48 Ara49 (j := (0 : Int32)) hin50 (g := (mkF m 144 #[.val (.int p0), .val (.int p1), .val (.int p2), .val (.int (1 : Int32)), .val (.int q0), .val (.int q1), .val (.int q2), .val (.int t0), .val (.int t1), .val (.int t2), .val (.ref b13), .unset, .unset, .unset, .unset] [(.int q0), (.int (0 : Int32)), (.ref b48), (.ref b48)])) rfl rfl (hb hby at_144)
    have O51 := O48.wr W51 g_b48
    have N51 := Fr.snoc X51 N31 g_b48
    have V51 : Arv Z h51 b48 k48 .int (1 : Int32) [(.int q0)] (.int (0 : Int32)) := Arv.set Ara49 qa49 Sa49 Za49 Ha49 Ga49 rfl W51 0 rfl (Nat.le_of_ble_eq_true rfl)
    obtain ⟨T52, h52, k52, X52, e52, E52, A52, st52⟩ := newP X51 hx hZ (hw _ (List.mem_of_getElem? (i := 0) rfl)) e51 (g := (mkF m 148 #[.val (.int p0), .val (.int p1), .val (.int p2), .val (.int (1 : Int32)), .val (.int q0), .val (.int q1), .val (.int q2), .val (.int t0), .val (.int t1), .val (.int t2), .val (.ref b13), .val (.ref b48), .unset, .unset, .unset] [(.int (1 : Int32))])) rfl (hb hby at_148) rfl (by decide) (cap := 1) (by decide) (by decide) (by decide) (by decide)
    obtain ⟨b52, g52⟩ : ∃ z, z = h51.size := ⟨_, rfl⟩
    rw [← g52] at A52 st52
    have c53 : Arv Z h51 b13 k13 .int (6 : Int32) [(.int (p2 &&& (3 : Int32))), (.int ((p2 >>> ((2 : Int32) &&& 31)) &&& (3 : Int32))), (.int ((p2 >>> ((4 : Int32) &&& 31)) &&& (3 : Int32))), (.int ((p2 >>> ((6 : Int32) &&& 31)) &&& (3 : Int32))), (.int ((p2 >>> ((8 : Int32) &&& 31)) &&& (3 : Int32))), (.int ((p2 >>> ((10 : Int32) &&& 31)) &&& (3 : Int32)))] (.int (0 : Int32)) := ((V31.ext E48).other W51 ne_b13_b48)
    have ne_b13_b52 : b13 ≠ b52 := Nat.ne_of_lt (Nat.lt_of_lt_of_le c53.lt (Nat.le_of_eq g52.symm))
    have ne_b48_b52 : b48 ≠ b52 := Nat.ne_of_lt (Nat.lt_of_lt_of_le V51.lt (Nat.le_of_eq g52.symm))
    have g_b52 : n0 ≤ b52 := Nat.le_trans (Nat.le_of_eq O51.1.symm) (Nat.le_trans O51.2.1 (Nat.le_of_eq g52.symm))
    have O52 := O51.ext E52
    have V52 : Arv Z h52 b52 k52 .int (1 : Int32) [(.int (0 : Int32))] (.int (0 : Int32)) := (Arv.new A52 (by decide)).pad (pad_rep [] (.int (0 : Int32)) 1)
    obtain ⟨cla54, Ara54, qa54, Sa54, Za54, Ha54, Ga54⟩ := id V52
    have hin55 : ¬ ((0 : Int32) < 0 ∨ cla54.slots.size ≤ ((0 : Int32)).toNatClampNeg) := inb_of Sa54 ⟨by decide, by decide⟩
    obtain ⟨T56, h56, X56, e56, W56, st56⟩ := stI X52 hx hZ e52 Ara54 (j := (0 : Int32)) hin55 (g := (mkF m 154 #[.val (.int p0), .val (.int p1), .val (.int p2), .val (.int (1 : Int32)), .val (.int q0), .val (.int q1), .val (.int q2), .val (.int t0), .val (.int t1), .val (.int t2), .val (.ref b13), .val (.ref b48), .unset, .unset, .unset] [(.int t0), (.int (0 : Int32)), (.ref b52), (.ref b52)])) rfl rfl (hb hby at_154)
    have O56 := O52.wr W56 g_b52
    have N56 := Fr.snoc X56 N51 g_b52
    have V56 : Arv Z h56 b52 k52 .int (1 : Int32) [(.int t0)] (.int (0 : Int32)) := Arv.set Ara54 qa54 Sa54 Za54 Ha54 Ga54 rfl W56 0 rfl (Nat.le_of_ble_eq_true rfl)
    have c57 : Arv Z h56 b13 k13 .int (6 : Int32) [(.int (p2 &&& (3 : Int32))), (.int ((p2 >>> ((2 : Int32) &&& 31)) &&& (3 : Int32))), (.int ((p2 >>> ((4 : Int32) &&& 31)) &&& (3 : Int32))), (.int ((p2 >>> ((6 : Int32) &&& 31)) &&& (3 : Int32))), (.int ((p2 >>> ((8 : Int32) &&& 31)) &&& (3 : Int32))), (.int ((p2 >>> ((10 : Int32) &&& 31)) &&& (3 : Int32)))] (.int (0 : Int32)) := ((c53.ext E52).other W56 ne_b13_b52)
    obtain ⟨cla58, Ara58, qa58, Sa58, Za58, Ha58, Ga58⟩ := id c57
    have hin59 : ¬ (q0 < 0 ∨ cla58.slots.size ≤ (q0).toNatClampNeg) := inb_of Sa58 (own_rm0_1 p0 q0 hq0)
    have hat60 : cla58.slots[(q0).toNatClampNeg]? = some (.int (own_at [(p2 &&& (3 : Int32)), ((p2 >>> ((2 : Int32) &&& 31)) &&& (3 : Int32)), ((p2 >>> ((4 : Int32) &&& 31)) &&& (3 : Int32)), ((p2 >>> ((6 : Int32) &&& 31)) &&& (3 : Int32)), ((p2 >>> ((8 : Int32) &&& 31)) &&& (3 : Int32)), ((p2 >>> ((10 : Int32) &&& 31)) &&& (3 : Int32))] q0)) := Has.at Ha58 hin59 (own_getD [(p2 &&& (3 : Int32)), ((p2 >>> ((2 : Int32) &&& 31)) &&& (3 : Int32)), ((p2 >>> ((4 : Int32) &&& 31)) &&& (3 : Int32)), ((p2 >>> ((6 : Int32) &&& 31)) &&& (3 : Int32)), ((p2 >>> ((8 : Int32) &&& 31)) &&& (3 : Int32)), ((p2 >>> ((10 : Int32) &&& 31)) &&& (3 : Int32))] _)
    have s61 : Steps p.tables e below (s₁.setTop (entryFrame m #[(.int p0), (.int p1), (.int p2)] maxLocals)) (T56.setTop (mkF m 253 #[.val (.int p0), .val (.int p1), .val (.int p2), .val (.int (1 : Int32)), .val (.int q0), .val (.int q1), .val (.int q2), .val (.int t0), .val (.int t1), .val (.int t2), .val (.ref b13), .val (.ref b48), .val (.ref b52), .val (.int (1 : Int32)), .unset] [(.int t0), (.int (own_at [(p2 &&& (3 : Int32)), ((p2 >>> ((2 : Int32) &&& 31)) &&& (3 : Int32)), ((p2 >>> ((4 : Int32) &&& 31)) &&& (3 : Int32)), ((p2 >>> ((6 : Int32) &&& 31)) &&& (3 : Int32)), ((p2 >>> ((8 : Int32) &&& 31)) &&& (3 : Int32)), ((p2 >>> ((10 : Int32) &&& 31)) &&& (3 : Int32))] q0))])) := by
      refine s47.trans ?_
      show Steps p.tables e below (T31.setTop (mkF m 116 #[.val (.int p0), .val (.int p1), .val (.int p2), .val (.int (1 : Int32)), .val (.int q0), .val (.int q1), .val (.int q2), .val (.int t0), .val (.int t1), .val (.int t2), .val (.ref b13), .unset, .unset, .unset, .unset] [(.int (1 : Int32))])) _
      refine XS.ifYes X31.here hx rfl (pc0 := 116) (pc' := 132) rfl (hb hby at_116) rfl ((if0 _ _).trans (feq (by decide)).2) (by decide) (by decide) ?_
      show Steps p.tables e below (T31.setTop (mkF m 132 #[.val (.int p0), .val (.int p1), .val (.int p2), .val (.int (1 : Int32)), .val (.int q0), .val (.int q1), .val (.int q2), .val (.int t0), .val (.int t1), .val (.int t2), .val (.ref b13), .unset, .unset, .unset, .unset] [])) _
      refine XS.iloadN X31.here hx rfl (hb hby at_132) rfl ?_
      show Steps p.tables e below (T31.setTop (mkF m 133 #[.val (.int p0), .val (.int p1), .val (.int p2), .val (.int (1 : Int32)), .val (.int q0), .val (.int q1), .val (.int q2), .val (.int t0), .val (.int t1), .val (.int t2), .val (.ref b13), .unset, .unset, .unset, .unset] [(.int (1 : Int32))])) _
      refine XS.iconst X31.here hx rfl (hb hby at_133) ?_
      show Steps p.tables e below (T31.setTop (mkF m 134 #[.val (.int p0), .val (.int p1), .val (.int p2), .val (.int (1 : Int32)), .val (.int q0), .val (.int q1), .val (.int q2), .val (.int t0), .val (.int t1), .val (.int t2), .val (.ref b13), .unset, .unset, .unset, .unset] [(.int (1 : Int32)), (.int (1 : Int32))])) _
      refine XS.icmpNo X31.here hx rfl (hb hby at_134) rfl (teq (by decide)).2 ?_
      show Steps p.tables e below (T31.setTop (mkF m 137 #[.val (.int p0), .val (.int p1), .val (.int p2), .val (.int (1 : Int32)), .val (.int q0), .val (.int q1), .val (.int q2), .val (.int t0), .val (.int t1), .val (.int t2), .val (.ref b13), .unset, .unset, .unset, .unset] [])) _
      refine XS.iconst X31.here hx rfl (hb hby at_137) ?_
      show Steps p.tables e below (T31.setTop (mkF m 138 #[.val (.int p0), .val (.int p1), .val (.int p2), .val (.int (1 : Int32)), .val (.int q0), .val (.int q1), .val (.int q2), .val (.int t0), .val (.int t1), .val (.int t2), .val (.ref b13), .unset, .unset, .unset, .unset] [(.int (1 : Int32))])) _
      refine st48 _ ?_
      show Steps p.tables e below (T48.setTop (mkF m 140 #[.val (.int p0), .val (.int p1), .val (.int p2), .val (.int (1 : Int32)), .val (.int q0), .val (.int q1), .val (.int q2), .val (.int t0), .val (.int t1), .val (.int t2), .val (.ref b13), .unset, .unset, .unset, .unset] [(.ref b48)])) _
      refine XS.dup X48.here hx rfl (hb hby at_140) rfl rfl ?_
      show Steps p.tables e below (T48.setTop (mkF m 141 #[.val (.int p0), .val (.int p1), .val (.int p2), .val (.int (1 : Int32)), .val (.int q0), .val (.int q1), .val (.int q2), .val (.int t0), .val (.int t1), .val (.int t2), .val (.ref b13), .unset, .unset, .unset, .unset] [(.ref b48), (.ref b48)])) _
      refine XS.iconst X48.here hx rfl (hb hby at_141) ?_
      show Steps p.tables e below (T48.setTop (mkF m 142 #[.val (.int p0), .val (.int p1), .val (.int p2), .val (.int (1 : Int32)), .val (.int q0), .val (.int q1), .val (.int q2), .val (.int t0), .val (.int t1), .val (.int t2), .val (.ref b13), .unset, .unset, .unset, .unset] [(.int (0 : Int32)), (.ref b48), (.ref b48)])) _
      refine XS.iload X48.here hx rfl (hb hby at_142) rfl ?_
      show Steps p.tables e below (T48.setTop (mkF m 144 #[.val (.int p0), .val (.int p1), .val (.int p2), .val (.int (1 : Int32)), .val (.int q0), .val (.int q1), .val (.int q2), .val (.int t0), .val (.int t1), .val (.int t2), .val (.ref b13), .unset, .unset, .unset, .unset] [(.int q0), (.int (0 : Int32)), (.ref b48), (.ref b48)])) _
      refine st51 _ ?_
      show Steps p.tables e below (T51.setTop (mkF m 145 #[.val (.int p0), .val (.int p1), .val (.int p2), .val (.int (1 : Int32)), .val (.int q0), .val (.int q1), .val (.int q2), .val (.int t0), .val (.int t1), .val (.int t2), .val (.ref b13), .unset, .unset, .unset, .unset] [(.ref b48)])) _
      refine XS.astore X51.here hx rfl (hb hby at_145) rfl rfl (l' := #[.val (.int p0), .val (.int p1), .val (.int p2), .val (.int (1 : Int32)), .val (.int q0), .val (.int q1), .val (.int q2), .val (.int t0), .val (.int t1), .val (.int t2), .val (.ref b13), .val (.ref b48), .unset, .unset, .unset]) rfl ?_
      show Steps p.tables e below (T51.setTop (mkF m 147 #[.val (.int p0), .val (.int p1), .val (.int p2), .val (.int (1 : Int32)), .val (.int q0), .val (.int q1), .val (.int q2), .val (.int t0), .val (.int t1), .val (.int t2), .val (.ref b13), .val (.ref b48), .unset, .unset, .unset] [])) _
      refine XS.iconst X51.here hx rfl (hb hby at_147) ?_
      show Steps p.tables e below (T51.setTop (mkF m 148 #[.val (.int p0), .val (.int p1), .val (.int p2), .val (.int (1 : Int32)), .val (.int q0), .val (.int q1), .val (.int q2), .val (.int t0), .val (.int t1), .val (.int t2), .val (.ref b13), .val (.ref b48), .unset, .unset, .unset] [(.int (1 : Int32))])) _
      refine st52 _ ?_
      show Steps p.tables e below (T52.setTop (mkF m 150 #[.val (.int p0), .val (.int p1), .val (.int p2), .val (.int (1 : Int32)), .val (.int q0), .val (.int q1), .val (.int q2), .val (.int t0), .val (.int t1), .val (.int t2), .val (.ref b13), .val (.ref b48), .unset, .unset, .unset] [(.ref b52)])) _
      refine XS.dup X52.here hx rfl (hb hby at_150) rfl rfl ?_
      show Steps p.tables e below (T52.setTop (mkF m 151 #[.val (.int p0), .val (.int p1), .val (.int p2), .val (.int (1 : Int32)), .val (.int q0), .val (.int q1), .val (.int q2), .val (.int t0), .val (.int t1), .val (.int t2), .val (.ref b13), .val (.ref b48), .unset, .unset, .unset] [(.ref b52), (.ref b52)])) _
      refine XS.iconst X52.here hx rfl (hb hby at_151) ?_
      show Steps p.tables e below (T52.setTop (mkF m 152 #[.val (.int p0), .val (.int p1), .val (.int p2), .val (.int (1 : Int32)), .val (.int q0), .val (.int q1), .val (.int q2), .val (.int t0), .val (.int t1), .val (.int t2), .val (.ref b13), .val (.ref b48), .unset, .unset, .unset] [(.int (0 : Int32)), (.ref b52), (.ref b52)])) _
      refine XS.iload X52.here hx rfl (hb hby at_152) rfl ?_
      show Steps p.tables e below (T52.setTop (mkF m 154 #[.val (.int p0), .val (.int p1), .val (.int p2), .val (.int (1 : Int32)), .val (.int q0), .val (.int q1), .val (.int q2), .val (.int t0), .val (.int t1), .val (.int t2), .val (.ref b13), .val (.ref b48), .unset, .unset, .unset] [(.int t0), (.int (0 : Int32)), (.ref b52), (.ref b52)])) _
      refine st56 _ ?_
      show Steps p.tables e below (T56.setTop (mkF m 155 #[.val (.int p0), .val (.int p1), .val (.int p2), .val (.int (1 : Int32)), .val (.int q0), .val (.int q1), .val (.int q2), .val (.int t0), .val (.int t1), .val (.int t2), .val (.ref b13), .val (.ref b48), .unset, .unset, .unset] [(.ref b52)])) _
      refine XS.astore X56.here hx rfl (hb hby at_155) rfl rfl (l' := #[.val (.int p0), .val (.int p1), .val (.int p2), .val (.int (1 : Int32)), .val (.int q0), .val (.int q1), .val (.int q2), .val (.int t0), .val (.int t1), .val (.int t2), .val (.ref b13), .val (.ref b48), .val (.ref b52), .unset, .unset]) rfl ?_
      show Steps p.tables e below (T56.setTop (mkF m 157 #[.val (.int p0), .val (.int p1), .val (.int p2), .val (.int (1 : Int32)), .val (.int q0), .val (.int q1), .val (.int q2), .val (.int t0), .val (.int t1), .val (.int t2), .val (.ref b13), .val (.ref b48), .val (.ref b52), .unset, .unset] [])) _
      refine XS.goto X56.here hx rfl (pc0 := 157) (pc' := 238) rfl (hb hby at_157) (by decide) (by decide) ?_
      show Steps p.tables e below (T56.setTop (mkF m 238 #[.val (.int p0), .val (.int p1), .val (.int p2), .val (.int (1 : Int32)), .val (.int q0), .val (.int q1), .val (.int q2), .val (.int t0), .val (.int t1), .val (.int t2), .val (.ref b13), .val (.ref b48), .val (.ref b52), .unset, .unset] [])) _
      refine XS.iconst X56.here hx rfl (hb hby at_238) ?_
      show Steps p.tables e below (T56.setTop (mkF m 239 #[.val (.int p0), .val (.int p1), .val (.int p2), .val (.int (1 : Int32)), .val (.int q0), .val (.int q1), .val (.int q2), .val (.int t0), .val (.int t1), .val (.int t2), .val (.ref b13), .val (.ref b48), .val (.ref b52), .unset, .unset] [(.int (1 : Int32))])) _
      refine XS.istore X56.here hx rfl (hb hby at_239) rfl (l' := #[.val (.int p0), .val (.int p1), .val (.int p2), .val (.int (1 : Int32)), .val (.int q0), .val (.int q1), .val (.int q2), .val (.int t0), .val (.int t1), .val (.int t2), .val (.ref b13), .val (.ref b48), .val (.ref b52), .val (.int (1 : Int32)), .unset]) rfl ?_
      show Steps p.tables e below (T56.setTop (mkF m 241 #[.val (.int p0), .val (.int p1), .val (.int p2), .val (.int (1 : Int32)), .val (.int q0), .val (.int q1), .val (.int q2), .val (.int t0), .val (.int t1), .val (.int t2), .val (.ref b13), .val (.ref b48), .val (.ref b52), .val (.int (1 : Int32)), .unset] [])) _
      refine XS.iloadN X56.here hx rfl (hb hby at_241) rfl ?_
      show Steps p.tables e below (T56.setTop (mkF m 242 #[.val (.int p0), .val (.int p1), .val (.int p2), .val (.int (1 : Int32)), .val (.int q0), .val (.int q1), .val (.int q2), .val (.int t0), .val (.int t1), .val (.int t2), .val (.ref b13), .val (.ref b48), .val (.ref b52), .val (.int (1 : Int32)), .unset] [(.int (1 : Int32))])) _
      refine XS.iconst X56.here hx rfl (hb hby at_242) ?_
      show Steps p.tables e below (T56.setTop (mkF m 243 #[.val (.int p0), .val (.int p1), .val (.int p2), .val (.int (1 : Int32)), .val (.int q0), .val (.int q1), .val (.int q2), .val (.int t0), .val (.int t1), .val (.int t2), .val (.ref b13), .val (.ref b48), .val (.ref b52), .val (.int (1 : Int32)), .unset] [(.int (1 : Int32)), (.int (1 : Int32))])) _
      refine XS.icmpNo X56.here hx rfl (hb hby at_243) rfl (flt (by decide)).1 ?_
      show Steps p.tables e below (T56.setTop (mkF m 246 #[.val (.int p0), .val (.int p1), .val (.int p2), .val (.int (1 : Int32)), .val (.int q0), .val (.int q1), .val (.int q2), .val (.int t0), .val (.int t1), .val (.int t2), .val (.ref b13), .val (.ref b48), .val (.ref b52), .val (.int (1 : Int32)), .unset] [])) _
      refine XS.aload X56.here hx rfl (hb hby at_246) rfl rfl ?_
      show Steps p.tables e below (T56.setTop (mkF m 248 #[.val (.int p0), .val (.int p1), .val (.int p2), .val (.int (1 : Int32)), .val (.int q0), .val (.int q1), .val (.int q2), .val (.int t0), .val (.int t1), .val (.int t2), .val (.ref b13), .val (.ref b48), .val (.ref b52), .val (.int (1 : Int32)), .unset] [(.ref b13)])) _
      refine XS.iload X56.here hx rfl (hb hby at_248) rfl ?_
      show Steps p.tables e below (T56.setTop (mkF m 250 #[.val (.int p0), .val (.int p1), .val (.int p2), .val (.int (1 : Int32)), .val (.int q0), .val (.int q1), .val (.int q2), .val (.int t0), .val (.int t1), .val (.int t2), .val (.ref b13), .val (.ref b48), .val (.ref b52), .val (.int (1 : Int32)), .unset] [(.int q0), (.ref b13)])) _
      refine X56.iaload hx (j := q0) (v := (.int (own_at [(p2 &&& (3 : Int32)), ((p2 >>> ((2 : Int32) &&& 31)) &&& (3 : Int32)), ((p2 >>> ((4 : Int32) &&& 31)) &&& (3 : Int32)), ((p2 >>> ((6 : Int32) &&& 31)) &&& (3 : Int32)), ((p2 >>> ((8 : Int32) &&& 31)) &&& (3 : Int32)), ((p2 >>> ((10 : Int32) &&& 31)) &&& (3 : Int32))] q0))) (by rw [e56]; exact Ara58.1) (State.isArrayOf_alike hZ.alike Ara58.2.1) Ara58.2.2 hin59 hat60 (g := (mkF m 250 #[.val (.int p0), .val (.int p1), .val (.int p2), .val (.int (1 : Int32)), .val (.int q0), .val (.int q1), .val (.int q2), .val (.int t0), .val (.int t1), .val (.int t2), .val (.ref b13), .val (.ref b48), .val (.ref b52), .val (.int (1 : Int32)), .unset] [(.int q0), (.ref b13)])) rfl rfl (hb hby at_250) _ ?_
      show Steps p.tables e below (T56.setTop (mkF m 251 #[.val (.int p0), .val (.int p1), .val (.int p2), .val (.int (1 : Int32)), .val (.int q0), .val (.int q1), .val (.int q2), .val (.int t0), .val (.int t1), .val (.int t2), .val (.ref b13), .val (.ref b48), .val (.ref b52), .val (.int (1 : Int32)), .unset] [(.int (own_at [(p2 &&& (3 : Int32)), ((p2 >>> ((2 : Int32) &&& 31)) &&& (3 : Int32)), ((p2 >>> ((4 : Int32) &&& 31)) &&& (3 : Int32)), ((p2 >>> ((6 : Int32) &&& 31)) &&& (3 : Int32)), ((p2 >>> ((8 : Int32) &&& 31)) &&& (3 : Int32)), ((p2 >>> ((10 : Int32) &&& 31)) &&& (3 : Int32))] q0))])) _
      refine XS.iload X56.here hx rfl (hb hby at_251) rfl ?_
      exact Steps.refl _
    have s63 : Steps p.tables e below (s₁.setTop (entryFrame m #[(.int p0), (.int p1), (.int p2)] maxLocals)) (T56.setTop (mkF m 259 #[.val (.int p0), .val (.int p1), .val (.int p2), .val (.int (1 : Int32)), .val (.int q0), .val (.int q1), .val (.int q2), .val (.int t0), .val (.int t1), .val (.int t2), .val (.ref b13), .val (.ref b48), .val (.ref b52), .val (.int (if (own_at [(p2 &&& (3 : Int32)), ((p2 >>> ((2 : Int32) &&& 31)) &&& (3 : Int32)), ((p2 >>> ((4 : Int32) &&& 31)) &&& (3 : Int32)), ((p2 >>> ((6 : Int32) &&& 31)) &&& (3 : Int32)), ((p2 >>> ((8 : Int32) &&& 31)) &&& (3 : Int32)), ((p2 >>> ((10 : Int32) &&& 31)) &&& (3 : Int32))] q0) = t0 then (1 : Int32) else (0 : Int32))), .unset] [])) := by
      by_cases hm62 : (own_at [(p2 &&& (3 : Int32)), ((p2 >>> ((2 : Int32) &&& 31)) &&& (3 : Int32)), ((p2 >>> ((4 : Int32) &&& 31)) &&& (3 : Int32)), ((p2 >>> ((6 : Int32) &&& 31)) &&& (3 : Int32)), ((p2 >>> ((8 : Int32) &&& 31)) &&& (3 : Int32)), ((p2 >>> ((10 : Int32) &&& 31)) &&& (3 : Int32))] q0) = t0
      · simp only [if_pos hm62]
        refine s61.trans ?_
        show Steps p.tables e below (T56.setTop (mkF m 253 #[.val (.int p0), .val (.int p1), .val (.int p2), .val (.int (1 : Int32)), .val (.int q0), .val (.int q1), .val (.int q2), .val (.int t0), .val (.int t1), .val (.int t2), .val (.ref b13), .val (.ref b48), .val (.ref b52), .val (.int (1 : Int32)), .unset] [(.int t0), (.int (own_at [(p2 &&& (3 : Int32)), ((p2 >>> ((2 : Int32) &&& 31)) &&& (3 : Int32)), ((p2 >>> ((4 : Int32) &&& 31)) &&& (3 : Int32)), ((p2 >>> ((6 : Int32) &&& 31)) &&& (3 : Int32)), ((p2 >>> ((8 : Int32) &&& 31)) &&& (3 : Int32)), ((p2 >>> ((10 : Int32) &&& 31)) &&& (3 : Int32))] q0))])) _
        refine XS.icmpYes X56.here hx rfl (pc0 := 253) (pc' := 259) rfl (hb hby at_253) rfl (teq hm62).1 (by decide) (by decide) ?_
        exact Steps.refl _
      · simp only [if_neg hm62]
        refine s61.trans ?_
        show Steps p.tables e below (T56.setTop (mkF m 253 #[.val (.int p0), .val (.int p1), .val (.int p2), .val (.int (1 : Int32)), .val (.int q0), .val (.int q1), .val (.int q2), .val (.int t0), .val (.int t1), .val (.int t2), .val (.ref b13), .val (.ref b48), .val (.ref b52), .val (.int (1 : Int32)), .unset] [(.int t0), (.int (own_at [(p2 &&& (3 : Int32)), ((p2 >>> ((2 : Int32) &&& 31)) &&& (3 : Int32)), ((p2 >>> ((4 : Int32) &&& 31)) &&& (3 : Int32)), ((p2 >>> ((6 : Int32) &&& 31)) &&& (3 : Int32)), ((p2 >>> ((8 : Int32) &&& 31)) &&& (3 : Int32)), ((p2 >>> ((10 : Int32) &&& 31)) &&& (3 : Int32))] q0))])) _
        refine XS.icmpNo X56.here hx rfl (hb hby at_253) rfl (feq hm62).1 ?_
        show Steps p.tables e below (T56.setTop (mkF m 256 #[.val (.int p0), .val (.int p1), .val (.int p2), .val (.int (1 : Int32)), .val (.int q0), .val (.int q1), .val (.int q2), .val (.int t0), .val (.int t1), .val (.int t2), .val (.ref b13), .val (.ref b48), .val (.ref b52), .val (.int (1 : Int32)), .unset] [])) _
        refine XS.iconst X56.here hx rfl (hb hby at_256) ?_
        show Steps p.tables e below (T56.setTop (mkF m 257 #[.val (.int p0), .val (.int p1), .val (.int p2), .val (.int (1 : Int32)), .val (.int q0), .val (.int q1), .val (.int q2), .val (.int t0), .val (.int t1), .val (.int t2), .val (.ref b13), .val (.ref b48), .val (.ref b52), .val (.int (1 : Int32)), .unset] [(.int (0 : Int32))])) _
        refine XS.istore X56.here hx rfl (hb hby at_257) rfl (l' := #[.val (.int p0), .val (.int p1), .val (.int p2), .val (.int (1 : Int32)), .val (.int q0), .val (.int q1), .val (.int q2), .val (.int t0), .val (.int t1), .val (.int t2), .val (.ref b13), .val (.ref b48), .val (.ref b52), .val (.int (0 : Int32)), .unset]) rfl ?_
        exact Steps.refl _
    obtain ⟨z0, hz0⟩ : ∃ z, z = (if (own_at [(p2 &&& (3 : Int32)), ((p2 >>> ((2 : Int32) &&& 31)) &&& (3 : Int32)), ((p2 >>> ((4 : Int32) &&& 31)) &&& (3 : Int32)), ((p2 >>> ((6 : Int32) &&& 31)) &&& (3 : Int32)), ((p2 >>> ((8 : Int32) &&& 31)) &&& (3 : Int32)), ((p2 >>> ((10 : Int32) &&& 31)) &&& (3 : Int32))] q0) = t0 then (1 : Int32) else (0 : Int32)) := ⟨_, rfl⟩
    rw [← hz0] at s63
    obtain ⟨T64, h64, X64, e64, E64, A64, D64, -, st64⟩ := newO X56 hx hZ hown (hw _ (List.mem_of_getElem? (i := 1) rfl)) (hw _ (List.mem_of_getElem? (i := 2) rfl)) (hw _ (List.mem_of_getElem? (i := 3) rfl)) e56 (g := (mkF m 295 #[.val (.int p0), .val (.int p1), .val (.int p2), .val (.int (1 : Int32)), .val (.int q0), .val (.int q1), .val (.int q2), .val (.int t0), .val (.int t1), .val (.int t2), .val (.ref b13), .val (.ref b48), .val (.ref b52), .val (.int z0), .unset] [])) rfl (hb hby at_295) (by decide) (by decide)
    obtain ⟨b64, g64⟩ : ∃ z, z = h56.size := ⟨_, rfl⟩
    rw [← g64] at A64 D64 st64
    have ne_b13_b64 : b13 ≠ b64 := Nat.ne_of_lt (Nat.lt_of_lt_of_le c57.lt (Nat.le_of_eq g64.symm))
    have c65 : Arv Z h56 b48 k48 .int (1 : Int32) [(.int q0)] (.int (0 : Int32)) := ((V51.ext E52).other W56 ne_b48_b52)
    have ne_b48_b64 : b48 ≠ b64 := Nat.ne_of_lt (Nat.lt_of_lt_of_le c65.lt (Nat.le_of_eq g64.symm))
    have ne_b52_b64 : b52 ≠ b64 := Nat.ne_of_lt (Nat.lt_of_lt_of_le V56.lt (Nat.le_of_eq g64.symm))
    have g_b64 : n0 ≤ b64 := Nat.le_trans (Nat.le_of_eq O56.1.symm) (Nat.le_trans O56.2.1 (Nat.le_of_eq g64.symm))
    have O64 := O56.ext E64
    have F64_positions : Fld Z h64 b64 "com/example/odds_on_axioms/oddsonaxioms/network/Condition" "positions" "[I" .null := D64 (Or.inr (hw _ (List.mem_of_getElem? (i := 11) rfl))) (ty := (.array .int)) (by decide)
    have F64_states : Fld Z h64 b64 "com/example/odds_on_axioms/oddsonaxioms/network/Condition" "states" "[I" .null := D64 (Or.inr (hw _ (List.mem_of_getElem? (i := 13) rfl))) (ty := (.array .int)) (by decide)
    obtain ⟨_, _, ⟨T66, L66, k66, n66⟩, -, X66, ⟨Lc66, hQ66, l66, y66, z66⟩, st66⟩ := X64.specialBack hx (y := (⟨"com/example/odds_on_axioms/oddsonaxioms/network/Condition", "<init>", "([I[I)V"⟩ : MethodName)) rfl hown (mvT hZ (hw _ (List.mem_of_getElem? (i := 4) rfl))) (mvT hZ (hw _ (List.mem_of_getElem? (i := 5) rfl))) (mvT hZ (hw _ (List.mem_of_getElem? (i := 6) rfl))) (by decide) (backOf (W := 1) (rm1 l Z a0 hw [] b64 b48 b52 h64 n0 O64 A64 F64_positions F64_states g_b64) hZ (hw _ (List.mem_of_getElem? (i := 6) rfl)) (hw _ (List.mem_of_getElem? (i := 3) rfl)) (by decide) (by decide)) (g := (mkF m 303 #[.val (.int p0), .val (.int p1), .val (.int p2), .val (.int (1 : Int32)), .val (.int q0), .val (.int q1), .val (.int q2), .val (.int t0), .val (.int t1), .val (.int t2), .val (.ref b13), .val (.ref b48), .val (.ref b52), .val (.int z0), .unset] [(.ref b52), (.ref b48), (.ref b64), (.ref b64)])) rfl (by rw [hml]; rfl) (Steps.refl _) (a := b64) (argsL := [(.ref b48), (.ref b52)]) (rest := [(.ref b64)]) (lenOf pd_rm0_0 rfl) rfl (by show 2 * 0 + _ ≤ _; exact Nat.le_of_eq rfl) (hb hby at_303) (fun _ _ => ⟨rfl, e64, (by decide : 4 + 0 ≤ _), (by decide : 10 + 0 ≤ _)⟩)
    dsimp only [Pt.U, Pt.locs, Pt.cells, Pt.slots] at X66 l66 y66 z66 st66 hQ66
    subst l66 y66 z66
    obtain ⟨rfl, Nq66, Kc66, f66_0, f66_1, f66_2⟩ := hQ66
    have N66 := Fr.app N56 Nq66
    have O66 := O64.keep Kc66 (allS g_b64 all0)
    have c67 : Arv Z T66.heap b48 k48 .int (1 : Int32) [(.int q0)] (.int (0 : Int32)) := ((c65.ext E64).keep Kc66 (ninS ne_b48_b64 nin0))
    have c68 : Arv Z T66.heap b52 k52 .int (1 : Int32) [(.int t0)] (.int (0 : Int32)) := ((V56.ext E64).keep Kc66 (ninS ne_b52_b64 nin0))
    have c69 : Arv Z T66.heap b13 k13 .int (6 : Int32) [(.int (p2 &&& (3 : Int32))), (.int ((p2 >>> ((2 : Int32) &&& 31)) &&& (3 : Int32))), (.int ((p2 >>> ((4 : Int32) &&& 31)) &&& (3 : Int32))), (.int ((p2 >>> ((6 : Int32) &&& 31)) &&& (3 : Int32))), (.int ((p2 >>> ((8 : Int32) &&& 31)) &&& (3 : Int32))), (.int ((p2 >>> ((10 : Int32) &&& 31)) &&& (3 : Int32)))] (.int (0 : Int32)) := ((c57.ext E64).keep Kc66 (ninS ne_b13_b64 nin0))
    obtain ⟨cq70, kq70, q70a, q70b, q70c⟩ := isOf hZ (rfl : T66.heap = T66.heap) f66_0
    obtain ⟨_, _, ⟨T70, L70, k70, n70⟩, -, X70, ⟨Lc70, hQ70, l70, y70, z70⟩, st70⟩ := X66.virtualBack hx (y := (⟨"com/example/odds_on_axioms/oddsonaxioms/network/Condition", "holdsIn", "([I)Z"⟩ : MethodName)) (z := (⟨"com/example/odds_on_axioms/oddsonaxioms/network/Condition", "holdsIn", "([I)Z"⟩ : MethodName)) hown (mvT hZ (hw _ (List.mem_of_getElem? (i := 14) rfl))) (mvT hZ (hw _ (List.mem_of_getElem? (i := 15) rfl))) (notFace_of_selects (args := #[]) (mvT hZ (hw _ (List.mem_of_getElem? (i := 17) rfl)))) (mvT hZ (hw _ (List.mem_of_getElem? (i := 17) rfl))) (mvT hZ (hw _ (List.mem_of_getElem? (i := 16) rfl))) (by decide) (backOf (W := 0) (rmh1 l Z a0 hw [] b64 b13 b48 b52 k48 k52 k13 q0 t0 (p2 &&& (3 : Int32)) ((p2 >>> ((2 : Int32) &&& 31)) &&& (3 : Int32)) ((p2 >>> ((4 : Int32) &&& 31)) &&& (3 : Int32)) ((p2 >>> ((6 : Int32) &&& 31)) &&& (3 : Int32)) ((p2 >>> ((8 : Int32) &&& 31)) &&& (3 : Int32)) ((p2 >>> ((10 : Int32) &&& 31)) &&& (3 : Int32)) T66.heap n0 O66 f66_1 f66_2 c67 c68 c69 (own_rm0_2 p0 q0 hq0)) hZ (hw _ (List.mem_of_getElem? (i := 18) rfl)) (hw _ (List.mem_of_getElem? (i := 3) rfl)) (by decide) (by decide)) q70a q70c (g := (mkF m 312 #[.val (.int p0), .val (.int p1), .val (.int p2), .val (.int (1 : Int32)), .val (.int q0), .val (.int q1), .val (.int q2), .val (.int t0), .val (.int t1), .val (.int t2), .val (.ref b13), .val (.ref b48), .val (.ref b52), .val (.int z0), .val (.ref b64)] [(.ref b13), (.ref b64)])) rfl (by rw [hml]; rfl) (Steps.refl _) (argsL := [(.ref b13)]) (rest := []) (lenOf pd_rm0_1 rfl) rfl (by show 2 * 0 + _ ≤ _; exact Nat.le_of_eq rfl) (hb hby at_312) (fun _ _ => ⟨rfl, (rfl : T66.heap = T66.heap), (by decide : 4 + 0 ≤ _), (by decide : 10 + 0 ≤ _)⟩)
    dsimp only [Pt.U, Pt.locs, Pt.cells, Pt.slots] at X70 l70 y70 z70 st70 hQ70
    subst l70 y70 z70
    obtain ⟨rfl, Nq70, e70⟩ := hQ70
    have N70 := Fr.app N66 Nq70
    have s71 : Steps p.tables e below (s₁.setTop (entryFrame m #[(.int p0), (.int p1), (.int p2)] maxLocals)) (T70.setTop (mkF m 325 #[.val (.int p0), .val (.int p1), .val (.int p2), .val (.int (1 : Int32)), .val (.int q0), .val (.int q1), .val (.int q2), .val (.int t0), .val (.int t1), .val (.int t2), .val (.ref b13), .val (.ref b48), .val (.ref b52), .val (.int z0), .val (.ref b64)] [(.int (1 : Int32))])) := by
      refine s63.trans ?_
      show Steps p.tables e below (T56.setTop (mkF m 259 #[.val (.int p0), .val (.int p1), .val (.int p2), .val (.int (1 : Int32)), .val (.int q0), .val (.int q1), .val (.int q2), .val (.int t0), .val (.int t1), .val (.int t2), .val (.ref b13), .val (.ref b48), .val (.ref b52), .val (.int z0), .unset] [])) _
      refine XS.iloadN X56.here hx rfl (hb hby at_259) rfl ?_
      show Steps p.tables e below (T56.setTop (mkF m 260 #[.val (.int p0), .val (.int p1), .val (.int p2), .val (.int (1 : Int32)), .val (.int q0), .val (.int q1), .val (.int q2), .val (.int t0), .val (.int t1), .val (.int t2), .val (.ref b13), .val (.ref b48), .val (.ref b52), .val (.int z0), .unset] [(.int (1 : Int32))])) _
      refine XS.iconst X56.here hx rfl (hb hby at_260) ?_
      show Steps p.tables e below (T56.setTop (mkF m 261 #[.val (.int p0), .val (.int p1), .val (.int p2), .val (.int (1 : Int32)), .val (.int q0), .val (.int q1), .val (.int q2), .val (.int t0), .val (.int t1), .val (.int t2), .val (.ref b13), .val (.ref b48), .val (.ref b52), .val (.int z0), .unset] [(.int (2 : Int32)), (.int (1 : Int32))])) _
      refine XS.icmpYes X56.here hx rfl (pc0 := 261) (pc' := 277) rfl (hb hby at_261) rfl (tlt (by decide)).1 (by decide) (by decide) ?_
      show Steps p.tables e below (T56.setTop (mkF m 277 #[.val (.int p0), .val (.int p1), .val (.int p2), .val (.int (1 : Int32)), .val (.int q0), .val (.int q1), .val (.int q2), .val (.int t0), .val (.int t1), .val (.int t2), .val (.ref b13), .val (.ref b48), .val (.ref b52), .val (.int z0), .unset] [])) _
      refine XS.iloadN X56.here hx rfl (hb hby at_277) rfl ?_
      show Steps p.tables e below (T56.setTop (mkF m 278 #[.val (.int p0), .val (.int p1), .val (.int p2), .val (.int (1 : Int32)), .val (.int q0), .val (.int q1), .val (.int q2), .val (.int t0), .val (.int t1), .val (.int t2), .val (.ref b13), .val (.ref b48), .val (.ref b52), .val (.int z0), .unset] [(.int (1 : Int32))])) _
      refine XS.iconst X56.here hx rfl (hb hby at_278) ?_
      show Steps p.tables e below (T56.setTop (mkF m 279 #[.val (.int p0), .val (.int p1), .val (.int p2), .val (.int (1 : Int32)), .val (.int q0), .val (.int q1), .val (.int q2), .val (.int t0), .val (.int t1), .val (.int t2), .val (.ref b13), .val (.ref b48), .val (.ref b52), .val (.int z0), .unset] [(.int (3 : Int32)), (.int (1 : Int32))])) _
      refine XS.icmpYes X56.here hx rfl (pc0 := 279) (pc' := 295) rfl (hb hby at_279) rfl (tlt (by decide)).1 (by decide) (by decide) ?_
      show Steps p.tables e below (T56.setTop (mkF m 295 #[.val (.int p0), .val (.int p1), .val (.int p2), .val (.int (1 : Int32)), .val (.int q0), .val (.int q1), .val (.int q2), .val (.int t0), .val (.int t1), .val (.int t2), .val (.ref b13), .val (.ref b48), .val (.ref b52), .val (.int z0), .unset] [])) _
      refine st64 _ ?_
      show Steps p.tables e below (T64.setTop (mkF m 298 #[.val (.int p0), .val (.int p1), .val (.int p2), .val (.int (1 : Int32)), .val (.int q0), .val (.int q1), .val (.int q2), .val (.int t0), .val (.int t1), .val (.int t2), .val (.ref b13), .val (.ref b48), .val (.ref b52), .val (.int z0), .unset] [(.ref b64)])) _
      refine XS.dup X64.here hx rfl (hb hby at_298) rfl rfl ?_
      show Steps p.tables e below (T64.setTop (mkF m 299 #[.val (.int p0), .val (.int p1), .val (.int p2), .val (.int (1 : Int32)), .val (.int q0), .val (.int q1), .val (.int q2), .val (.int t0), .val (.int t1), .val (.int t2), .val (.ref b13), .val (.ref b48), .val (.ref b52), .val (.int z0), .unset] [(.ref b64), (.ref b64)])) _
      refine XS.aload X64.here hx rfl (hb hby at_299) rfl rfl ?_
      show Steps p.tables e below (T64.setTop (mkF m 301 #[.val (.int p0), .val (.int p1), .val (.int p2), .val (.int (1 : Int32)), .val (.int q0), .val (.int q1), .val (.int q2), .val (.int t0), .val (.int t1), .val (.int t2), .val (.ref b13), .val (.ref b48), .val (.ref b52), .val (.int z0), .unset] [(.ref b48), (.ref b64), (.ref b64)])) _
      refine XS.aload X64.here hx rfl (hb hby at_301) rfl rfl ?_
      show Steps p.tables e below (T64.setTop (mkF m 303 #[.val (.int p0), .val (.int p1), .val (.int p2), .val (.int (1 : Int32)), .val (.int q0), .val (.int q1), .val (.int q2), .val (.int t0), .val (.int t1), .val (.int t2), .val (.ref b13), .val (.ref b48), .val (.ref b52), .val (.int z0), .unset] [(.ref b52), (.ref b48), (.ref b64), (.ref b64)])) _
      refine st66.trans ?_
      show Steps p.tables e below (T66.setTop (mkF m 306 #[.val (.int p0), .val (.int p1), .val (.int p2), .val (.int (1 : Int32)), .val (.int q0), .val (.int q1), .val (.int q2), .val (.int t0), .val (.int t1), .val (.int t2), .val (.ref b13), .val (.ref b48), .val (.ref b52), .val (.int z0), .unset] [(.ref b64)])) _
      refine XS.astore X66.here hx rfl (hb hby at_306) rfl rfl (l' := #[.val (.int p0), .val (.int p1), .val (.int p2), .val (.int (1 : Int32)), .val (.int q0), .val (.int q1), .val (.int q2), .val (.int t0), .val (.int t1), .val (.int t2), .val (.ref b13), .val (.ref b48), .val (.ref b52), .val (.int z0), .val (.ref b64)]) rfl ?_
      show Steps p.tables e below (T66.setTop (mkF m 308 #[.val (.int p0), .val (.int p1), .val (.int p2), .val (.int (1 : Int32)), .val (.int q0), .val (.int q1), .val (.int q2), .val (.int t0), .val (.int t1), .val (.int t2), .val (.ref b13), .val (.ref b48), .val (.ref b52), .val (.int z0), .val (.ref b64)] [])) _
      refine XS.aload X66.here hx rfl (hb hby at_308) rfl rfl ?_
      show Steps p.tables e below (T66.setTop (mkF m 310 #[.val (.int p0), .val (.int p1), .val (.int p2), .val (.int (1 : Int32)), .val (.int q0), .val (.int q1), .val (.int q2), .val (.int t0), .val (.int t1), .val (.int t2), .val (.ref b13), .val (.ref b48), .val (.ref b52), .val (.int z0), .val (.ref b64)] [(.ref b64)])) _
      refine XS.aload X66.here hx rfl (hb hby at_310) rfl rfl ?_
      show Steps p.tables e below (T66.setTop (mkF m 312 #[.val (.int p0), .val (.int p1), .val (.int p2), .val (.int (1 : Int32)), .val (.int q0), .val (.int q1), .val (.int q2), .val (.int t0), .val (.int t1), .val (.int t2), .val (.ref b13), .val (.ref b48), .val (.ref b52), .val (.int z0), .val (.ref b64)] [(.ref b13), (.ref b64)])) _
      refine st70.trans ?_
      show Steps p.tables e below (T70.setTop (mkF m 315 #[.val (.int p0), .val (.int p1), .val (.int p2), .val (.int (1 : Int32)), .val (.int q0), .val (.int q1), .val (.int q2), .val (.int t0), .val (.int t1), .val (.int t2), .val (.ref b13), .val (.ref b48), .val (.ref b52), .val (.int z0), .val (.ref b64)] [(.int (if (own_at [(p2 &&& (3 : Int32)), ((p2 >>> ((2 : Int32) &&& 31)) &&& (3 : Int32)), ((p2 >>> ((4 : Int32) &&& 31)) &&& (3 : Int32)), ((p2 >>> ((6 : Int32) &&& 31)) &&& (3 : Int32)), ((p2 >>> ((8 : Int32) &&& 31)) &&& (3 : Int32)), ((p2 >>> ((10 : Int32) &&& 31)) &&& (3 : Int32))] q0) = t0 then (1 : Int32) else (0 : Int32)))])) _
      refine XS.iload X70.here hx rfl (hb hby at_315) rfl ?_
      show Steps p.tables e below (T70.setTop (mkF m 317 #[.val (.int p0), .val (.int p1), .val (.int p2), .val (.int (1 : Int32)), .val (.int q0), .val (.int q1), .val (.int q2), .val (.int t0), .val (.int t1), .val (.int t2), .val (.ref b13), .val (.ref b48), .val (.ref b52), .val (.int z0), .val (.ref b64)] [(.int z0), (.int (if (own_at [(p2 &&& (3 : Int32)), ((p2 >>> ((2 : Int32) &&& 31)) &&& (3 : Int32)), ((p2 >>> ((4 : Int32) &&& 31)) &&& (3 : Int32)), ((p2 >>> ((6 : Int32) &&& 31)) &&& (3 : Int32)), ((p2 >>> ((8 : Int32) &&& 31)) &&& (3 : Int32)), ((p2 >>> ((10 : Int32) &&& 31)) &&& (3 : Int32))] q0) = t0 then (1 : Int32) else (0 : Int32)))])) _
      refine XS.icmpNo X70.here hx rfl (hb hby at_317) rfl (teq (own_rm0_3 p2 q0 t0 z0 hz0)).2 ?_
      show Steps p.tables e below (T70.setTop (mkF m 320 #[.val (.int p0), .val (.int p1), .val (.int p2), .val (.int (1 : Int32)), .val (.int q0), .val (.int q1), .val (.int q2), .val (.int t0), .val (.int t1), .val (.int t2), .val (.ref b13), .val (.ref b48), .val (.ref b52), .val (.int z0), .val (.ref b64)] [])) _
      refine XS.iconst X70.here hx rfl (hb hby at_320) ?_
      show Steps p.tables e below (T70.setTop (mkF m 321 #[.val (.int p0), .val (.int p1), .val (.int p2), .val (.int (1 : Int32)), .val (.int q0), .val (.int q1), .val (.int q2), .val (.int t0), .val (.int t1), .val (.int t2), .val (.ref b13), .val (.ref b48), .val (.ref b52), .val (.int z0), .val (.ref b64)] [(.int (1 : Int32))])) _
      refine XS.goto X70.here hx rfl (pc0 := 321) (pc' := 325) rfl (hb hby at_321) (by decide) (by decide) ?_
      exact Steps.refl _
    obtain ⟨fs, hr, hrun, hended, hW, hsame⟩ := X70.leave (v := some (.int (1 : Int32))) (fun h => by rw [Bd.returns] at h; cases h)
    refine ⟨_, _, s71.trans ?_, hrun, hended, _, _, rfl, ?_, ⟨_, rfl⟩, hW, hsame.mono (by decide) (by decide)⟩
    · show Steps p.tables e below (T70.setTop (mkF m 325 #[.val (.int p0), .val (.int p1), .val (.int p2), .val (.int (1 : Int32)), .val (.int q0), .val (.int q1), .val (.int q2), .val (.int t0), .val (.int t1), .val (.int t2), .val (.ref b13), .val (.ref b48), .val (.ref b52), .val (.int z0), .val (.ref b64)] [(.int (1 : Int32))])) _
      exact retN X70 hx (t := .boolean) Bd.returns (by simp) (hb hby at_325) hr
    · show Q0 Z p0 p1 p2 h0 n0 _ T70.heap _
      rw [e70]
      exact ⟨rfl, N70⟩
  · have s72 := s32
    rw [hk33] at s72
    obtain ⟨T73, h73, k73, X73, e73, E73, A73, st73⟩ := newP X31 hx hZ (hw _ (List.mem_of_getElem? (i := 0) rfl)) e31 (g := (mkF m 166 #[.val (.int p0), .val (.int p1), .val (.int p2), .val (.int (2 : Int32)), .val (.int q0), .val (.int q1), .val (.int q2), .val (.int t0), .val (.int t1), .val (.int t2), .val (.ref b13), .unset, .unset, .unset, .unset] [(.int (2 : Int32))])) rfl (hb hby at_166) rfl (by decide) (cap := 2) (by decide) (by decide) (by decide) (by decide)
    obtain ⟨b73, g73⟩ : ∃ z, z = h31.size := ⟨_, rfl⟩
    rw [← g73] at A73 st73
    have ne_b13_b73 : b13 ≠ b73 := Nat.ne_of_lt (Nat.lt_of_lt_of_le V31.lt (Nat.le_of_eq g73.symm))
    have g_b73 : n0 ≤ b73 := Nat.le_trans (Nat.le_of_eq O31.1.symm) (Nat.le_trans O31.2.1 (Nat.le_of_eq g73.symm))
    have O73 := O31.ext E73
    have V73 : Arv Z h73 b73 k73 .int (2 : Int32) [(.int (0 : Int32)), (.int (0 : Int32))] (.int (0 : Int32)) := (Arv.new A73 (by decide)).pad (pad_rep [] (.int (0 : Int32)) 2)
    obtain ⟨cla74, Ara74, qa74, Sa74, Za74, Ha74, Ga74⟩ := id V73
    have hin75 : ¬ ((0 : Int32) < 0 ∨ cla74.slots.size ≤ ((0 : Int32)).toNatClampNeg) := inb_of Sa74 ⟨by decide, by decide⟩
    obtain ⟨T76, h76, X76, e76, W76, st76⟩ := stI X73 hx hZ e73 Ara74 (j := (0 : Int32)) hin75 (g := (mkF m 172 #[.val (.int p0), .val (.int p1), .val (.int p2), .val (.int (2 : Int32)), .val (.int q0), .val (.int q1), .val (.int q2), .val (.int t0), .val (.int t1), .val (.int t2), .val (.ref b13), .unset, .unset, .unset, .unset] [(.int q0), (.int (0 : Int32)), (.ref b73), (.ref b73)])) rfl rfl (hb hby at_172)
    have O76 := O73.wr W76 g_b73
    have N76 := Fr.snoc X76 N31 g_b73
    have V76 : Arv Z h76 b73 k73 .int (2 : Int32) [(.int q0), (.int (0 : Int32))] (.int (0 : Int32)) := Arv.set Ara74 qa74 Sa74 Za74 Ha74 Ga74 rfl W76 0 rfl (Nat.le_of_ble_eq_true rfl)
    obtain ⟨cla77, Ara77, qa77, Sa77, Za77, Ha77, Ga77⟩ := id V76
    have hin78 : ¬ ((1 : Int32) < 0 ∨ cla77.slots.size ≤ ((1 : Int32)).toNatClampNeg) := inb_of Sa77 ⟨by decide, by decide⟩
    obtain ⟨T79, h79, X79, e79, W79, st79⟩ := stI X76 hx hZ e76 Ara77 (j := (1 : Int32)) hin78 (g := (mkF m 177 #[.val (.int p0), .val (.int p1), .val (.int p2), .val (.int (2 : Int32)), .val (.int q0), .val (.int q1), .val (.int q2), .val (.int t0), .val (.int t1), .val (.int t2), .val (.ref b13), .unset, .unset, .unset, .unset] [(.int q1), (.int (1 : Int32)), (.ref b73), (.ref b73)])) rfl rfl (hb hby at_177)
    have O79 := O76.wr W79 g_b73
    have N79 := Fr.snoc X79 N76 g_b73
    have V79 : Arv Z h79 b73 k73 .int (2 : Int32) [(.int q0), (.int q1)] (.int (0 : Int32)) := Arv.set Ara77 qa77 Sa77 Za77 Ha77 Ga77 rfl W79 1 rfl (Nat.le_of_ble_eq_true rfl)
    obtain ⟨T80, h80, k80, X80, e80, E80, A80, st80⟩ := newP X79 hx hZ (hw _ (List.mem_of_getElem? (i := 0) rfl)) e79 (g := (mkF m 181 #[.val (.int p0), .val (.int p1), .val (.int p2), .val (.int (2 : Int32)), .val (.int q0), .val (.int q1), .val (.int q2), .val (.int t0), .val (.int t1), .val (.int t2), .val (.ref b13), .val (.ref b73), .unset, .unset, .unset] [(.int (2 : Int32))])) rfl (hb hby at_181) rfl (by decide) (cap := 2) (by decide) (by decide) (by decide) (by decide)
    obtain ⟨b80, g80⟩ : ∃ z, z = h79.size := ⟨_, rfl⟩
    rw [← g80] at A80 st80
    have c81 : Arv Z h79 b13 k13 .int (6 : Int32) [(.int (p2 &&& (3 : Int32))), (.int ((p2 >>> ((2 : Int32) &&& 31)) &&& (3 : Int32))), (.int ((p2 >>> ((4 : Int32) &&& 31)) &&& (3 : Int32))), (.int ((p2 >>> ((6 : Int32) &&& 31)) &&& (3 : Int32))), (.int ((p2 >>> ((8 : Int32) &&& 31)) &&& (3 : Int32))), (.int ((p2 >>> ((10 : Int32) &&& 31)) &&& (3 : Int32)))] (.int (0 : Int32)) := (((V31.ext E73).other W76 ne_b13_b73).other W79 ne_b13_b73)
    have ne_b13_b80 : b13 ≠ b80 := Nat.ne_of_lt (Nat.lt_of_lt_of_le c81.lt (Nat.le_of_eq g80.symm))
    have ne_b73_b80 : b73 ≠ b80 := Nat.ne_of_lt (Nat.lt_of_lt_of_le V79.lt (Nat.le_of_eq g80.symm))
    have g_b80 : n0 ≤ b80 := Nat.le_trans (Nat.le_of_eq O79.1.symm) (Nat.le_trans O79.2.1 (Nat.le_of_eq g80.symm))
    have O80 := O79.ext E80
    have V80 : Arv Z h80 b80 k80 .int (2 : Int32) [(.int (0 : Int32)), (.int (0 : Int32))] (.int (0 : Int32)) := (Arv.new A80 (by decide)).pad (pad_rep [] (.int (0 : Int32)) 2)
    obtain ⟨cla82, Ara82, qa82, Sa82, Za82, Ha82, Ga82⟩ := id V80
    have hin83 : ¬ ((0 : Int32) < 0 ∨ cla82.slots.size ≤ ((0 : Int32)).toNatClampNeg) := inb_of Sa82 ⟨by decide, by decide⟩
    obtain ⟨T84, h84, X84, e84, W84, st84⟩ := stI X80 hx hZ e80 Ara82 (j := (0 : Int32)) hin83 (g := (mkF m 187 #[.val (.int p0), .val (.int p1), .val (.int p2), .val (.int (2 : Int32)), .val (.int q0), .val (.int q1), .val (.int q2), .val (.int t0), .val (.int t1), .val (.int t2), .val (.ref b13), .val (.ref b73), .unset, .unset, .unset] [(.int t0), (.int (0 : Int32)), (.ref b80), (.ref b80)])) rfl rfl (hb hby at_187)
    have O84 := O80.wr W84 g_b80
    have N84 := Fr.snoc X84 N79 g_b80
    have V84 : Arv Z h84 b80 k80 .int (2 : Int32) [(.int t0), (.int (0 : Int32))] (.int (0 : Int32)) := Arv.set Ara82 qa82 Sa82 Za82 Ha82 Ga82 rfl W84 0 rfl (Nat.le_of_ble_eq_true rfl)
    obtain ⟨cla85, Ara85, qa85, Sa85, Za85, Ha85, Ga85⟩ := id V84
    have hin86 : ¬ ((1 : Int32) < 0 ∨ cla85.slots.size ≤ ((1 : Int32)).toNatClampNeg) := inb_of Sa85 ⟨by decide, by decide⟩
    obtain ⟨T87, h87, X87, e87, W87, st87⟩ := stI X84 hx hZ e84 Ara85 (j := (1 : Int32)) hin86 (g := (mkF m 192 #[.val (.int p0), .val (.int p1), .val (.int p2), .val (.int (2 : Int32)), .val (.int q0), .val (.int q1), .val (.int q2), .val (.int t0), .val (.int t1), .val (.int t2), .val (.ref b13), .val (.ref b73), .unset, .unset, .unset] [(.int t1), (.int (1 : Int32)), (.ref b80), (.ref b80)])) rfl rfl (hb hby at_192)
    have O87 := O84.wr W87 g_b80
    have N87 := Fr.snoc X87 N84 g_b80
    have V87 : Arv Z h87 b80 k80 .int (2 : Int32) [(.int t0), (.int t1)] (.int (0 : Int32)) := Arv.set Ara85 qa85 Sa85 Za85 Ha85 Ga85 rfl W87 1 rfl (Nat.le_of_ble_eq_true rfl)
    have c88 : Arv Z h87 b13 k13 .int (6 : Int32) [(.int (p2 &&& (3 : Int32))), (.int ((p2 >>> ((2 : Int32) &&& 31)) &&& (3 : Int32))), (.int ((p2 >>> ((4 : Int32) &&& 31)) &&& (3 : Int32))), (.int ((p2 >>> ((6 : Int32) &&& 31)) &&& (3 : Int32))), (.int ((p2 >>> ((8 : Int32) &&& 31)) &&& (3 : Int32))), (.int ((p2 >>> ((10 : Int32) &&& 31)) &&& (3 : Int32)))] (.int (0 : Int32)) := (((c81.ext E80).other W84 ne_b13_b80).other W87 ne_b13_b80)
    obtain ⟨cla89, Ara89, qa89, Sa89, Za89, Ha89, Ga89⟩ := id c88
    have hin90 : ¬ (q0 < 0 ∨ cla89.slots.size ≤ (q0).toNatClampNeg) := inb_of Sa89 (own_rm0_4 p0 q0 hq0)
    have hat91 : cla89.slots[(q0).toNatClampNeg]? = some (.int (own_at [(p2 &&& (3 : Int32)), ((p2 >>> ((2 : Int32) &&& 31)) &&& (3 : Int32)), ((p2 >>> ((4 : Int32) &&& 31)) &&& (3 : Int32)), ((p2 >>> ((6 : Int32) &&& 31)) &&& (3 : Int32)), ((p2 >>> ((8 : Int32) &&& 31)) &&& (3 : Int32)), ((p2 >>> ((10 : Int32) &&& 31)) &&& (3 : Int32))] q0)) := Has.at Ha89 hin90 (own_getD [(p2 &&& (3 : Int32)), ((p2 >>> ((2 : Int32) &&& 31)) &&& (3 : Int32)), ((p2 >>> ((4 : Int32) &&& 31)) &&& (3 : Int32)), ((p2 >>> ((6 : Int32) &&& 31)) &&& (3 : Int32)), ((p2 >>> ((8 : Int32) &&& 31)) &&& (3 : Int32)), ((p2 >>> ((10 : Int32) &&& 31)) &&& (3 : Int32))] _)
    have s92 : Steps p.tables e below (s₁.setTop (entryFrame m #[(.int p0), (.int p1), (.int p2)] maxLocals)) (T87.setTop (mkF m 253 #[.val (.int p0), .val (.int p1), .val (.int p2), .val (.int (2 : Int32)), .val (.int q0), .val (.int q1), .val (.int q2), .val (.int t0), .val (.int t1), .val (.int t2), .val (.ref b13), .val (.ref b73), .val (.ref b80), .val (.int (1 : Int32)), .unset] [(.int t0), (.int (own_at [(p2 &&& (3 : Int32)), ((p2 >>> ((2 : Int32) &&& 31)) &&& (3 : Int32)), ((p2 >>> ((4 : Int32) &&& 31)) &&& (3 : Int32)), ((p2 >>> ((6 : Int32) &&& 31)) &&& (3 : Int32)), ((p2 >>> ((8 : Int32) &&& 31)) &&& (3 : Int32)), ((p2 >>> ((10 : Int32) &&& 31)) &&& (3 : Int32))] q0))])) := by
      refine s72.trans ?_
      show Steps p.tables e below (T31.setTop (mkF m 116 #[.val (.int p0), .val (.int p1), .val (.int p2), .val (.int (2 : Int32)), .val (.int q0), .val (.int q1), .val (.int q2), .val (.int t0), .val (.int t1), .val (.int t2), .val (.ref b13), .unset, .unset, .unset, .unset] [(.int (2 : Int32))])) _
      refine XS.ifYes X31.here hx rfl (pc0 := 116) (pc' := 132) rfl (hb hby at_116) rfl ((if0 _ _).trans (feq (by decide)).2) (by decide) (by decide) ?_
      show Steps p.tables e below (T31.setTop (mkF m 132 #[.val (.int p0), .val (.int p1), .val (.int p2), .val (.int (2 : Int32)), .val (.int q0), .val (.int q1), .val (.int q2), .val (.int t0), .val (.int t1), .val (.int t2), .val (.ref b13), .unset, .unset, .unset, .unset] [])) _
      refine XS.iloadN X31.here hx rfl (hb hby at_132) rfl ?_
      show Steps p.tables e below (T31.setTop (mkF m 133 #[.val (.int p0), .val (.int p1), .val (.int p2), .val (.int (2 : Int32)), .val (.int q0), .val (.int q1), .val (.int q2), .val (.int t0), .val (.int t1), .val (.int t2), .val (.ref b13), .unset, .unset, .unset, .unset] [(.int (2 : Int32))])) _
      refine XS.iconst X31.here hx rfl (hb hby at_133) ?_
      show Steps p.tables e below (T31.setTop (mkF m 134 #[.val (.int p0), .val (.int p1), .val (.int p2), .val (.int (2 : Int32)), .val (.int q0), .val (.int q1), .val (.int q2), .val (.int t0), .val (.int t1), .val (.int t2), .val (.ref b13), .unset, .unset, .unset, .unset] [(.int (1 : Int32)), (.int (2 : Int32))])) _
      refine XS.icmpYes X31.here hx rfl (pc0 := 134) (pc' := 160) rfl (hb hby at_134) rfl (feq (by decide)).2 (by decide) (by decide) ?_
      show Steps p.tables e below (T31.setTop (mkF m 160 #[.val (.int p0), .val (.int p1), .val (.int p2), .val (.int (2 : Int32)), .val (.int q0), .val (.int q1), .val (.int q2), .val (.int t0), .val (.int t1), .val (.int t2), .val (.ref b13), .unset, .unset, .unset, .unset] [])) _
      refine XS.iloadN X31.here hx rfl (hb hby at_160) rfl ?_
      show Steps p.tables e below (T31.setTop (mkF m 161 #[.val (.int p0), .val (.int p1), .val (.int p2), .val (.int (2 : Int32)), .val (.int q0), .val (.int q1), .val (.int q2), .val (.int t0), .val (.int t1), .val (.int t2), .val (.ref b13), .unset, .unset, .unset, .unset] [(.int (2 : Int32))])) _
      refine XS.iconst X31.here hx rfl (hb hby at_161) ?_
      show Steps p.tables e below (T31.setTop (mkF m 162 #[.val (.int p0), .val (.int p1), .val (.int p2), .val (.int (2 : Int32)), .val (.int q0), .val (.int q1), .val (.int q2), .val (.int t0), .val (.int t1), .val (.int t2), .val (.ref b13), .unset, .unset, .unset, .unset] [(.int (2 : Int32)), (.int (2 : Int32))])) _
      refine XS.icmpNo X31.here hx rfl (hb hby at_162) rfl (teq (by decide)).2 ?_
      show Steps p.tables e below (T31.setTop (mkF m 165 #[.val (.int p0), .val (.int p1), .val (.int p2), .val (.int (2 : Int32)), .val (.int q0), .val (.int q1), .val (.int q2), .val (.int t0), .val (.int t1), .val (.int t2), .val (.ref b13), .unset, .unset, .unset, .unset] [])) _
      refine XS.iconst X31.here hx rfl (hb hby at_165) ?_
      show Steps p.tables e below (T31.setTop (mkF m 166 #[.val (.int p0), .val (.int p1), .val (.int p2), .val (.int (2 : Int32)), .val (.int q0), .val (.int q1), .val (.int q2), .val (.int t0), .val (.int t1), .val (.int t2), .val (.ref b13), .unset, .unset, .unset, .unset] [(.int (2 : Int32))])) _
      refine st73 _ ?_
      show Steps p.tables e below (T73.setTop (mkF m 168 #[.val (.int p0), .val (.int p1), .val (.int p2), .val (.int (2 : Int32)), .val (.int q0), .val (.int q1), .val (.int q2), .val (.int t0), .val (.int t1), .val (.int t2), .val (.ref b13), .unset, .unset, .unset, .unset] [(.ref b73)])) _
      refine XS.dup X73.here hx rfl (hb hby at_168) rfl rfl ?_
      show Steps p.tables e below (T73.setTop (mkF m 169 #[.val (.int p0), .val (.int p1), .val (.int p2), .val (.int (2 : Int32)), .val (.int q0), .val (.int q1), .val (.int q2), .val (.int t0), .val (.int t1), .val (.int t2), .val (.ref b13), .unset, .unset, .unset, .unset] [(.ref b73), (.ref b73)])) _
      refine XS.iconst X73.here hx rfl (hb hby at_169) ?_
      show Steps p.tables e below (T73.setTop (mkF m 170 #[.val (.int p0), .val (.int p1), .val (.int p2), .val (.int (2 : Int32)), .val (.int q0), .val (.int q1), .val (.int q2), .val (.int t0), .val (.int t1), .val (.int t2), .val (.ref b13), .unset, .unset, .unset, .unset] [(.int (0 : Int32)), (.ref b73), (.ref b73)])) _
      refine XS.iload X73.here hx rfl (hb hby at_170) rfl ?_
      show Steps p.tables e below (T73.setTop (mkF m 172 #[.val (.int p0), .val (.int p1), .val (.int p2), .val (.int (2 : Int32)), .val (.int q0), .val (.int q1), .val (.int q2), .val (.int t0), .val (.int t1), .val (.int t2), .val (.ref b13), .unset, .unset, .unset, .unset] [(.int q0), (.int (0 : Int32)), (.ref b73), (.ref b73)])) _
      refine st76 _ ?_
      show Steps p.tables e below (T76.setTop (mkF m 173 #[.val (.int p0), .val (.int p1), .val (.int p2), .val (.int (2 : Int32)), .val (.int q0), .val (.int q1), .val (.int q2), .val (.int t0), .val (.int t1), .val (.int t2), .val (.ref b13), .unset, .unset, .unset, .unset] [(.ref b73)])) _
      refine XS.dup X76.here hx rfl (hb hby at_173) rfl rfl ?_
      show Steps p.tables e below (T76.setTop (mkF m 174 #[.val (.int p0), .val (.int p1), .val (.int p2), .val (.int (2 : Int32)), .val (.int q0), .val (.int q1), .val (.int q2), .val (.int t0), .val (.int t1), .val (.int t2), .val (.ref b13), .unset, .unset, .unset, .unset] [(.ref b73), (.ref b73)])) _
      refine XS.iconst X76.here hx rfl (hb hby at_174) ?_
      show Steps p.tables e below (T76.setTop (mkF m 175 #[.val (.int p0), .val (.int p1), .val (.int p2), .val (.int (2 : Int32)), .val (.int q0), .val (.int q1), .val (.int q2), .val (.int t0), .val (.int t1), .val (.int t2), .val (.ref b13), .unset, .unset, .unset, .unset] [(.int (1 : Int32)), (.ref b73), (.ref b73)])) _
      refine XS.iload X76.here hx rfl (hb hby at_175) rfl ?_
      show Steps p.tables e below (T76.setTop (mkF m 177 #[.val (.int p0), .val (.int p1), .val (.int p2), .val (.int (2 : Int32)), .val (.int q0), .val (.int q1), .val (.int q2), .val (.int t0), .val (.int t1), .val (.int t2), .val (.ref b13), .unset, .unset, .unset, .unset] [(.int q1), (.int (1 : Int32)), (.ref b73), (.ref b73)])) _
      refine st79 _ ?_
      show Steps p.tables e below (T79.setTop (mkF m 178 #[.val (.int p0), .val (.int p1), .val (.int p2), .val (.int (2 : Int32)), .val (.int q0), .val (.int q1), .val (.int q2), .val (.int t0), .val (.int t1), .val (.int t2), .val (.ref b13), .unset, .unset, .unset, .unset] [(.ref b73)])) _
      refine XS.astore X79.here hx rfl (hb hby at_178) rfl rfl (l' := #[.val (.int p0), .val (.int p1), .val (.int p2), .val (.int (2 : Int32)), .val (.int q0), .val (.int q1), .val (.int q2), .val (.int t0), .val (.int t1), .val (.int t2), .val (.ref b13), .val (.ref b73), .unset, .unset, .unset]) rfl ?_
      show Steps p.tables e below (T79.setTop (mkF m 180 #[.val (.int p0), .val (.int p1), .val (.int p2), .val (.int (2 : Int32)), .val (.int q0), .val (.int q1), .val (.int q2), .val (.int t0), .val (.int t1), .val (.int t2), .val (.ref b13), .val (.ref b73), .unset, .unset, .unset] [])) _
      refine XS.iconst X79.here hx rfl (hb hby at_180) ?_
      show Steps p.tables e below (T79.setTop (mkF m 181 #[.val (.int p0), .val (.int p1), .val (.int p2), .val (.int (2 : Int32)), .val (.int q0), .val (.int q1), .val (.int q2), .val (.int t0), .val (.int t1), .val (.int t2), .val (.ref b13), .val (.ref b73), .unset, .unset, .unset] [(.int (2 : Int32))])) _
      refine st80 _ ?_
      show Steps p.tables e below (T80.setTop (mkF m 183 #[.val (.int p0), .val (.int p1), .val (.int p2), .val (.int (2 : Int32)), .val (.int q0), .val (.int q1), .val (.int q2), .val (.int t0), .val (.int t1), .val (.int t2), .val (.ref b13), .val (.ref b73), .unset, .unset, .unset] [(.ref b80)])) _
      refine XS.dup X80.here hx rfl (hb hby at_183) rfl rfl ?_
      show Steps p.tables e below (T80.setTop (mkF m 184 #[.val (.int p0), .val (.int p1), .val (.int p2), .val (.int (2 : Int32)), .val (.int q0), .val (.int q1), .val (.int q2), .val (.int t0), .val (.int t1), .val (.int t2), .val (.ref b13), .val (.ref b73), .unset, .unset, .unset] [(.ref b80), (.ref b80)])) _
      refine XS.iconst X80.here hx rfl (hb hby at_184) ?_
      show Steps p.tables e below (T80.setTop (mkF m 185 #[.val (.int p0), .val (.int p1), .val (.int p2), .val (.int (2 : Int32)), .val (.int q0), .val (.int q1), .val (.int q2), .val (.int t0), .val (.int t1), .val (.int t2), .val (.ref b13), .val (.ref b73), .unset, .unset, .unset] [(.int (0 : Int32)), (.ref b80), (.ref b80)])) _
      refine XS.iload X80.here hx rfl (hb hby at_185) rfl ?_
      show Steps p.tables e below (T80.setTop (mkF m 187 #[.val (.int p0), .val (.int p1), .val (.int p2), .val (.int (2 : Int32)), .val (.int q0), .val (.int q1), .val (.int q2), .val (.int t0), .val (.int t1), .val (.int t2), .val (.ref b13), .val (.ref b73), .unset, .unset, .unset] [(.int t0), (.int (0 : Int32)), (.ref b80), (.ref b80)])) _
      refine st84 _ ?_
      show Steps p.tables e below (T84.setTop (mkF m 188 #[.val (.int p0), .val (.int p1), .val (.int p2), .val (.int (2 : Int32)), .val (.int q0), .val (.int q1), .val (.int q2), .val (.int t0), .val (.int t1), .val (.int t2), .val (.ref b13), .val (.ref b73), .unset, .unset, .unset] [(.ref b80)])) _
      refine XS.dup X84.here hx rfl (hb hby at_188) rfl rfl ?_
      show Steps p.tables e below (T84.setTop (mkF m 189 #[.val (.int p0), .val (.int p1), .val (.int p2), .val (.int (2 : Int32)), .val (.int q0), .val (.int q1), .val (.int q2), .val (.int t0), .val (.int t1), .val (.int t2), .val (.ref b13), .val (.ref b73), .unset, .unset, .unset] [(.ref b80), (.ref b80)])) _
      refine XS.iconst X84.here hx rfl (hb hby at_189) ?_
      show Steps p.tables e below (T84.setTop (mkF m 190 #[.val (.int p0), .val (.int p1), .val (.int p2), .val (.int (2 : Int32)), .val (.int q0), .val (.int q1), .val (.int q2), .val (.int t0), .val (.int t1), .val (.int t2), .val (.ref b13), .val (.ref b73), .unset, .unset, .unset] [(.int (1 : Int32)), (.ref b80), (.ref b80)])) _
      refine XS.iload X84.here hx rfl (hb hby at_190) rfl ?_
      show Steps p.tables e below (T84.setTop (mkF m 192 #[.val (.int p0), .val (.int p1), .val (.int p2), .val (.int (2 : Int32)), .val (.int q0), .val (.int q1), .val (.int q2), .val (.int t0), .val (.int t1), .val (.int t2), .val (.ref b13), .val (.ref b73), .unset, .unset, .unset] [(.int t1), (.int (1 : Int32)), (.ref b80), (.ref b80)])) _
      refine st87 _ ?_
      show Steps p.tables e below (T87.setTop (mkF m 193 #[.val (.int p0), .val (.int p1), .val (.int p2), .val (.int (2 : Int32)), .val (.int q0), .val (.int q1), .val (.int q2), .val (.int t0), .val (.int t1), .val (.int t2), .val (.ref b13), .val (.ref b73), .unset, .unset, .unset] [(.ref b80)])) _
      refine XS.astore X87.here hx rfl (hb hby at_193) rfl rfl (l' := #[.val (.int p0), .val (.int p1), .val (.int p2), .val (.int (2 : Int32)), .val (.int q0), .val (.int q1), .val (.int q2), .val (.int t0), .val (.int t1), .val (.int t2), .val (.ref b13), .val (.ref b73), .val (.ref b80), .unset, .unset]) rfl ?_
      show Steps p.tables e below (T87.setTop (mkF m 195 #[.val (.int p0), .val (.int p1), .val (.int p2), .val (.int (2 : Int32)), .val (.int q0), .val (.int q1), .val (.int q2), .val (.int t0), .val (.int t1), .val (.int t2), .val (.ref b13), .val (.ref b73), .val (.ref b80), .unset, .unset] [])) _
      refine XS.goto X87.here hx rfl (pc0 := 195) (pc' := 238) rfl (hb hby at_195) (by decide) (by decide) ?_
      show Steps p.tables e below (T87.setTop (mkF m 238 #[.val (.int p0), .val (.int p1), .val (.int p2), .val (.int (2 : Int32)), .val (.int q0), .val (.int q1), .val (.int q2), .val (.int t0), .val (.int t1), .val (.int t2), .val (.ref b13), .val (.ref b73), .val (.ref b80), .unset, .unset] [])) _
      refine XS.iconst X87.here hx rfl (hb hby at_238) ?_
      show Steps p.tables e below (T87.setTop (mkF m 239 #[.val (.int p0), .val (.int p1), .val (.int p2), .val (.int (2 : Int32)), .val (.int q0), .val (.int q1), .val (.int q2), .val (.int t0), .val (.int t1), .val (.int t2), .val (.ref b13), .val (.ref b73), .val (.ref b80), .unset, .unset] [(.int (1 : Int32))])) _
      refine XS.istore X87.here hx rfl (hb hby at_239) rfl (l' := #[.val (.int p0), .val (.int p1), .val (.int p2), .val (.int (2 : Int32)), .val (.int q0), .val (.int q1), .val (.int q2), .val (.int t0), .val (.int t1), .val (.int t2), .val (.ref b13), .val (.ref b73), .val (.ref b80), .val (.int (1 : Int32)), .unset]) rfl ?_
      show Steps p.tables e below (T87.setTop (mkF m 241 #[.val (.int p0), .val (.int p1), .val (.int p2), .val (.int (2 : Int32)), .val (.int q0), .val (.int q1), .val (.int q2), .val (.int t0), .val (.int t1), .val (.int t2), .val (.ref b13), .val (.ref b73), .val (.ref b80), .val (.int (1 : Int32)), .unset] [])) _
      refine XS.iloadN X87.here hx rfl (hb hby at_241) rfl ?_
      show Steps p.tables e below (T87.setTop (mkF m 242 #[.val (.int p0), .val (.int p1), .val (.int p2), .val (.int (2 : Int32)), .val (.int q0), .val (.int q1), .val (.int q2), .val (.int t0), .val (.int t1), .val (.int t2), .val (.ref b13), .val (.ref b73), .val (.ref b80), .val (.int (1 : Int32)), .unset] [(.int (2 : Int32))])) _
      refine XS.iconst X87.here hx rfl (hb hby at_242) ?_
      show Steps p.tables e below (T87.setTop (mkF m 243 #[.val (.int p0), .val (.int p1), .val (.int p2), .val (.int (2 : Int32)), .val (.int q0), .val (.int q1), .val (.int q2), .val (.int t0), .val (.int t1), .val (.int t2), .val (.ref b13), .val (.ref b73), .val (.ref b80), .val (.int (1 : Int32)), .unset] [(.int (1 : Int32)), (.int (2 : Int32))])) _
      refine XS.icmpNo X87.here hx rfl (hb hby at_243) rfl (flt (by decide)).1 ?_
      show Steps p.tables e below (T87.setTop (mkF m 246 #[.val (.int p0), .val (.int p1), .val (.int p2), .val (.int (2 : Int32)), .val (.int q0), .val (.int q1), .val (.int q2), .val (.int t0), .val (.int t1), .val (.int t2), .val (.ref b13), .val (.ref b73), .val (.ref b80), .val (.int (1 : Int32)), .unset] [])) _
      refine XS.aload X87.here hx rfl (hb hby at_246) rfl rfl ?_
      show Steps p.tables e below (T87.setTop (mkF m 248 #[.val (.int p0), .val (.int p1), .val (.int p2), .val (.int (2 : Int32)), .val (.int q0), .val (.int q1), .val (.int q2), .val (.int t0), .val (.int t1), .val (.int t2), .val (.ref b13), .val (.ref b73), .val (.ref b80), .val (.int (1 : Int32)), .unset] [(.ref b13)])) _
      refine XS.iload X87.here hx rfl (hb hby at_248) rfl ?_
      show Steps p.tables e below (T87.setTop (mkF m 250 #[.val (.int p0), .val (.int p1), .val (.int p2), .val (.int (2 : Int32)), .val (.int q0), .val (.int q1), .val (.int q2), .val (.int t0), .val (.int t1), .val (.int t2), .val (.ref b13), .val (.ref b73), .val (.ref b80), .val (.int (1 : Int32)), .unset] [(.int q0), (.ref b13)])) _
      refine X87.iaload hx (j := q0) (v := (.int (own_at [(p2 &&& (3 : Int32)), ((p2 >>> ((2 : Int32) &&& 31)) &&& (3 : Int32)), ((p2 >>> ((4 : Int32) &&& 31)) &&& (3 : Int32)), ((p2 >>> ((6 : Int32) &&& 31)) &&& (3 : Int32)), ((p2 >>> ((8 : Int32) &&& 31)) &&& (3 : Int32)), ((p2 >>> ((10 : Int32) &&& 31)) &&& (3 : Int32))] q0))) (by rw [e87]; exact Ara89.1) (State.isArrayOf_alike hZ.alike Ara89.2.1) Ara89.2.2 hin90 hat91 (g := (mkF m 250 #[.val (.int p0), .val (.int p1), .val (.int p2), .val (.int (2 : Int32)), .val (.int q0), .val (.int q1), .val (.int q2), .val (.int t0), .val (.int t1), .val (.int t2), .val (.ref b13), .val (.ref b73), .val (.ref b80), .val (.int (1 : Int32)), .unset] [(.int q0), (.ref b13)])) rfl rfl (hb hby at_250) _ ?_
      show Steps p.tables e below (T87.setTop (mkF m 251 #[.val (.int p0), .val (.int p1), .val (.int p2), .val (.int (2 : Int32)), .val (.int q0), .val (.int q1), .val (.int q2), .val (.int t0), .val (.int t1), .val (.int t2), .val (.ref b13), .val (.ref b73), .val (.ref b80), .val (.int (1 : Int32)), .unset] [(.int (own_at [(p2 &&& (3 : Int32)), ((p2 >>> ((2 : Int32) &&& 31)) &&& (3 : Int32)), ((p2 >>> ((4 : Int32) &&& 31)) &&& (3 : Int32)), ((p2 >>> ((6 : Int32) &&& 31)) &&& (3 : Int32)), ((p2 >>> ((8 : Int32) &&& 31)) &&& (3 : Int32)), ((p2 >>> ((10 : Int32) &&& 31)) &&& (3 : Int32))] q0))])) _
      refine XS.iload X87.here hx rfl (hb hby at_251) rfl ?_
      exact Steps.refl _
    have s94 : Steps p.tables e below (s₁.setTop (entryFrame m #[(.int p0), (.int p1), (.int p2)] maxLocals)) (T87.setTop (mkF m 259 #[.val (.int p0), .val (.int p1), .val (.int p2), .val (.int (2 : Int32)), .val (.int q0), .val (.int q1), .val (.int q2), .val (.int t0), .val (.int t1), .val (.int t2), .val (.ref b13), .val (.ref b73), .val (.ref b80), .val (.int (if (own_at [(p2 &&& (3 : Int32)), ((p2 >>> ((2 : Int32) &&& 31)) &&& (3 : Int32)), ((p2 >>> ((4 : Int32) &&& 31)) &&& (3 : Int32)), ((p2 >>> ((6 : Int32) &&& 31)) &&& (3 : Int32)), ((p2 >>> ((8 : Int32) &&& 31)) &&& (3 : Int32)), ((p2 >>> ((10 : Int32) &&& 31)) &&& (3 : Int32))] q0) = t0 then (1 : Int32) else (0 : Int32))), .unset] [])) := by
      by_cases hm93 : (own_at [(p2 &&& (3 : Int32)), ((p2 >>> ((2 : Int32) &&& 31)) &&& (3 : Int32)), ((p2 >>> ((4 : Int32) &&& 31)) &&& (3 : Int32)), ((p2 >>> ((6 : Int32) &&& 31)) &&& (3 : Int32)), ((p2 >>> ((8 : Int32) &&& 31)) &&& (3 : Int32)), ((p2 >>> ((10 : Int32) &&& 31)) &&& (3 : Int32))] q0) = t0
      · simp only [if_pos hm93]
        refine s92.trans ?_
        show Steps p.tables e below (T87.setTop (mkF m 253 #[.val (.int p0), .val (.int p1), .val (.int p2), .val (.int (2 : Int32)), .val (.int q0), .val (.int q1), .val (.int q2), .val (.int t0), .val (.int t1), .val (.int t2), .val (.ref b13), .val (.ref b73), .val (.ref b80), .val (.int (1 : Int32)), .unset] [(.int t0), (.int (own_at [(p2 &&& (3 : Int32)), ((p2 >>> ((2 : Int32) &&& 31)) &&& (3 : Int32)), ((p2 >>> ((4 : Int32) &&& 31)) &&& (3 : Int32)), ((p2 >>> ((6 : Int32) &&& 31)) &&& (3 : Int32)), ((p2 >>> ((8 : Int32) &&& 31)) &&& (3 : Int32)), ((p2 >>> ((10 : Int32) &&& 31)) &&& (3 : Int32))] q0))])) _
        refine XS.icmpYes X87.here hx rfl (pc0 := 253) (pc' := 259) rfl (hb hby at_253) rfl (teq hm93).1 (by decide) (by decide) ?_
        exact Steps.refl _
      · simp only [if_neg hm93]
        refine s92.trans ?_
        show Steps p.tables e below (T87.setTop (mkF m 253 #[.val (.int p0), .val (.int p1), .val (.int p2), .val (.int (2 : Int32)), .val (.int q0), .val (.int q1), .val (.int q2), .val (.int t0), .val (.int t1), .val (.int t2), .val (.ref b13), .val (.ref b73), .val (.ref b80), .val (.int (1 : Int32)), .unset] [(.int t0), (.int (own_at [(p2 &&& (3 : Int32)), ((p2 >>> ((2 : Int32) &&& 31)) &&& (3 : Int32)), ((p2 >>> ((4 : Int32) &&& 31)) &&& (3 : Int32)), ((p2 >>> ((6 : Int32) &&& 31)) &&& (3 : Int32)), ((p2 >>> ((8 : Int32) &&& 31)) &&& (3 : Int32)), ((p2 >>> ((10 : Int32) &&& 31)) &&& (3 : Int32))] q0))])) _
        refine XS.icmpNo X87.here hx rfl (hb hby at_253) rfl (feq hm93).1 ?_
        show Steps p.tables e below (T87.setTop (mkF m 256 #[.val (.int p0), .val (.int p1), .val (.int p2), .val (.int (2 : Int32)), .val (.int q0), .val (.int q1), .val (.int q2), .val (.int t0), .val (.int t1), .val (.int t2), .val (.ref b13), .val (.ref b73), .val (.ref b80), .val (.int (1 : Int32)), .unset] [])) _
        refine XS.iconst X87.here hx rfl (hb hby at_256) ?_
        show Steps p.tables e below (T87.setTop (mkF m 257 #[.val (.int p0), .val (.int p1), .val (.int p2), .val (.int (2 : Int32)), .val (.int q0), .val (.int q1), .val (.int q2), .val (.int t0), .val (.int t1), .val (.int t2), .val (.ref b13), .val (.ref b73), .val (.ref b80), .val (.int (1 : Int32)), .unset] [(.int (0 : Int32))])) _
        refine XS.istore X87.here hx rfl (hb hby at_257) rfl (l' := #[.val (.int p0), .val (.int p1), .val (.int p2), .val (.int (2 : Int32)), .val (.int q0), .val (.int q1), .val (.int q2), .val (.int t0), .val (.int t1), .val (.int t2), .val (.ref b13), .val (.ref b73), .val (.ref b80), .val (.int (0 : Int32)), .unset]) rfl ?_
        exact Steps.refl _
    obtain ⟨z0, hz0⟩ : ∃ z, z = (if (own_at [(p2 &&& (3 : Int32)), ((p2 >>> ((2 : Int32) &&& 31)) &&& (3 : Int32)), ((p2 >>> ((4 : Int32) &&& 31)) &&& (3 : Int32)), ((p2 >>> ((6 : Int32) &&& 31)) &&& (3 : Int32)), ((p2 >>> ((8 : Int32) &&& 31)) &&& (3 : Int32)), ((p2 >>> ((10 : Int32) &&& 31)) &&& (3 : Int32))] q0) = t0 then (1 : Int32) else (0 : Int32)) := ⟨_, rfl⟩
    rw [← hz0] at s94
    have hin95 : ¬ (q1 < 0 ∨ cla89.slots.size ≤ (q1).toNatClampNeg) := inb_of Sa89 (own_rm0_5 p0 q0 q1 hq0 hq1)
    have hat96 : cla89.slots[(q1).toNatClampNeg]? = some (.int (own_at [(p2 &&& (3 : Int32)), ((p2 >>> ((2 : Int32) &&& 31)) &&& (3 : Int32)), ((p2 >>> ((4 : Int32) &&& 31)) &&& (3 : Int32)), ((p2 >>> ((6 : Int32) &&& 31)) &&& (3 : Int32)), ((p2 >>> ((8 : Int32) &&& 31)) &&& (3 : Int32)), ((p2 >>> ((10 : Int32) &&& 31)) &&& (3 : Int32))] q1)) := Has.at Ha89 hin95 (own_getD [(p2 &&& (3 : Int32)), ((p2 >>> ((2 : Int32) &&& 31)) &&& (3 : Int32)), ((p2 >>> ((4 : Int32) &&& 31)) &&& (3 : Int32)), ((p2 >>> ((6 : Int32) &&& 31)) &&& (3 : Int32)), ((p2 >>> ((8 : Int32) &&& 31)) &&& (3 : Int32)), ((p2 >>> ((10 : Int32) &&& 31)) &&& (3 : Int32))] _)
    have s97 : Steps p.tables e below (s₁.setTop (entryFrame m #[(.int p0), (.int p1), (.int p2)] maxLocals)) (T87.setTop (mkF m 271 #[.val (.int p0), .val (.int p1), .val (.int p2), .val (.int (2 : Int32)), .val (.int q0), .val (.int q1), .val (.int q2), .val (.int t0), .val (.int t1), .val (.int t2), .val (.ref b13), .val (.ref b73), .val (.ref b80), .val (.int z0), .unset] [(.int t1), (.int (own_at [(p2 &&& (3 : Int32)), ((p2 >>> ((2 : Int32) &&& 31)) &&& (3 : Int32)), ((p2 >>> ((4 : Int32) &&& 31)) &&& (3 : Int32)), ((p2 >>> ((6 : Int32) &&& 31)) &&& (3 : Int32)), ((p2 >>> ((8 : Int32) &&& 31)) &&& (3 : Int32)), ((p2 >>> ((10 : Int32) &&& 31)) &&& (3 : Int32))] q1))])) := by
      refine s94.trans ?_
      show Steps p.tables e below (T87.setTop (mkF m 259 #[.val (.int p0), .val (.int p1), .val (.int p2), .val (.int (2 : Int32)), .val (.int q0), .val (.int q1), .val (.int q2), .val (.int t0), .val (.int t1), .val (.int t2), .val (.ref b13), .val (.ref b73), .val (.ref b80), .val (.int z0), .unset] [])) _
      refine XS.iloadN X87.here hx rfl (hb hby at_259) rfl ?_
      show Steps p.tables e below (T87.setTop (mkF m 260 #[.val (.int p0), .val (.int p1), .val (.int p2), .val (.int (2 : Int32)), .val (.int q0), .val (.int q1), .val (.int q2), .val (.int t0), .val (.int t1), .val (.int t2), .val (.ref b13), .val (.ref b73), .val (.ref b80), .val (.int z0), .unset] [(.int (2 : Int32))])) _
      refine XS.iconst X87.here hx rfl (hb hby at_260) ?_
      show Steps p.tables e below (T87.setTop (mkF m 261 #[.val (.int p0), .val (.int p1), .val (.int p2), .val (.int (2 : Int32)), .val (.int q0), .val (.int q1), .val (.int q2), .val (.int t0), .val (.int t1), .val (.int t2), .val (.ref b13), .val (.ref b73), .val (.ref b80), .val (.int z0), .unset] [(.int (2 : Int32)), (.int (2 : Int32))])) _
      refine XS.icmpNo X87.here hx rfl (hb hby at_261) rfl (flt (by decide)).1 ?_
      show Steps p.tables e below (T87.setTop (mkF m 264 #[.val (.int p0), .val (.int p1), .val (.int p2), .val (.int (2 : Int32)), .val (.int q0), .val (.int q1), .val (.int q2), .val (.int t0), .val (.int t1), .val (.int t2), .val (.ref b13), .val (.ref b73), .val (.ref b80), .val (.int z0), .unset] [])) _
      refine XS.aload X87.here hx rfl (hb hby at_264) rfl rfl ?_
      show Steps p.tables e below (T87.setTop (mkF m 266 #[.val (.int p0), .val (.int p1), .val (.int p2), .val (.int (2 : Int32)), .val (.int q0), .val (.int q1), .val (.int q2), .val (.int t0), .val (.int t1), .val (.int t2), .val (.ref b13), .val (.ref b73), .val (.ref b80), .val (.int z0), .unset] [(.ref b13)])) _
      refine XS.iload X87.here hx rfl (hb hby at_266) rfl ?_
      show Steps p.tables e below (T87.setTop (mkF m 268 #[.val (.int p0), .val (.int p1), .val (.int p2), .val (.int (2 : Int32)), .val (.int q0), .val (.int q1), .val (.int q2), .val (.int t0), .val (.int t1), .val (.int t2), .val (.ref b13), .val (.ref b73), .val (.ref b80), .val (.int z0), .unset] [(.int q1), (.ref b13)])) _
      refine X87.iaload hx (j := q1) (v := (.int (own_at [(p2 &&& (3 : Int32)), ((p2 >>> ((2 : Int32) &&& 31)) &&& (3 : Int32)), ((p2 >>> ((4 : Int32) &&& 31)) &&& (3 : Int32)), ((p2 >>> ((6 : Int32) &&& 31)) &&& (3 : Int32)), ((p2 >>> ((8 : Int32) &&& 31)) &&& (3 : Int32)), ((p2 >>> ((10 : Int32) &&& 31)) &&& (3 : Int32))] q1))) (by rw [e87]; exact Ara89.1) (State.isArrayOf_alike hZ.alike Ara89.2.1) Ara89.2.2 hin95 hat96 (g := (mkF m 268 #[.val (.int p0), .val (.int p1), .val (.int p2), .val (.int (2 : Int32)), .val (.int q0), .val (.int q1), .val (.int q2), .val (.int t0), .val (.int t1), .val (.int t2), .val (.ref b13), .val (.ref b73), .val (.ref b80), .val (.int z0), .unset] [(.int q1), (.ref b13)])) rfl rfl (hb hby at_268) _ ?_
      show Steps p.tables e below (T87.setTop (mkF m 269 #[.val (.int p0), .val (.int p1), .val (.int p2), .val (.int (2 : Int32)), .val (.int q0), .val (.int q1), .val (.int q2), .val (.int t0), .val (.int t1), .val (.int t2), .val (.ref b13), .val (.ref b73), .val (.ref b80), .val (.int z0), .unset] [(.int (own_at [(p2 &&& (3 : Int32)), ((p2 >>> ((2 : Int32) &&& 31)) &&& (3 : Int32)), ((p2 >>> ((4 : Int32) &&& 31)) &&& (3 : Int32)), ((p2 >>> ((6 : Int32) &&& 31)) &&& (3 : Int32)), ((p2 >>> ((8 : Int32) &&& 31)) &&& (3 : Int32)), ((p2 >>> ((10 : Int32) &&& 31)) &&& (3 : Int32))] q1))])) _
      refine XS.iload X87.here hx rfl (hb hby at_269) rfl ?_
      exact Steps.refl _
    have s99 : Steps p.tables e below (s₁.setTop (entryFrame m #[(.int p0), (.int p1), (.int p2)] maxLocals)) (T87.setTop (mkF m 277 #[.val (.int p0), .val (.int p1), .val (.int p2), .val (.int (2 : Int32)), .val (.int q0), .val (.int q1), .val (.int q2), .val (.int t0), .val (.int t1), .val (.int t2), .val (.ref b13), .val (.ref b73), .val (.ref b80), .val (.int (if (own_at [(p2 &&& (3 : Int32)), ((p2 >>> ((2 : Int32) &&& 31)) &&& (3 : Int32)), ((p2 >>> ((4 : Int32) &&& 31)) &&& (3 : Int32)), ((p2 >>> ((6 : Int32) &&& 31)) &&& (3 : Int32)), ((p2 >>> ((8 : Int32) &&& 31)) &&& (3 : Int32)), ((p2 >>> ((10 : Int32) &&& 31)) &&& (3 : Int32))] q1) = t1 then z0 else (0 : Int32))), .unset] [])) := by
      by_cases hm98 : (own_at [(p2 &&& (3 : Int32)), ((p2 >>> ((2 : Int32) &&& 31)) &&& (3 : Int32)), ((p2 >>> ((4 : Int32) &&& 31)) &&& (3 : Int32)), ((p2 >>> ((6 : Int32) &&& 31)) &&& (3 : Int32)), ((p2 >>> ((8 : Int32) &&& 31)) &&& (3 : Int32)), ((p2 >>> ((10 : Int32) &&& 31)) &&& (3 : Int32))] q1) = t1
      · simp only [if_pos hm98]
        refine s97.trans ?_
        show Steps p.tables e below (T87.setTop (mkF m 271 #[.val (.int p0), .val (.int p1), .val (.int p2), .val (.int (2 : Int32)), .val (.int q0), .val (.int q1), .val (.int q2), .val (.int t0), .val (.int t1), .val (.int t2), .val (.ref b13), .val (.ref b73), .val (.ref b80), .val (.int z0), .unset] [(.int t1), (.int (own_at [(p2 &&& (3 : Int32)), ((p2 >>> ((2 : Int32) &&& 31)) &&& (3 : Int32)), ((p2 >>> ((4 : Int32) &&& 31)) &&& (3 : Int32)), ((p2 >>> ((6 : Int32) &&& 31)) &&& (3 : Int32)), ((p2 >>> ((8 : Int32) &&& 31)) &&& (3 : Int32)), ((p2 >>> ((10 : Int32) &&& 31)) &&& (3 : Int32))] q1))])) _
        refine XS.icmpYes X87.here hx rfl (pc0 := 271) (pc' := 277) rfl (hb hby at_271) rfl (teq hm98).1 (by decide) (by decide) ?_
        exact Steps.refl _
      · simp only [if_neg hm98]
        refine s97.trans ?_
        show Steps p.tables e below (T87.setTop (mkF m 271 #[.val (.int p0), .val (.int p1), .val (.int p2), .val (.int (2 : Int32)), .val (.int q0), .val (.int q1), .val (.int q2), .val (.int t0), .val (.int t1), .val (.int t2), .val (.ref b13), .val (.ref b73), .val (.ref b80), .val (.int z0), .unset] [(.int t1), (.int (own_at [(p2 &&& (3 : Int32)), ((p2 >>> ((2 : Int32) &&& 31)) &&& (3 : Int32)), ((p2 >>> ((4 : Int32) &&& 31)) &&& (3 : Int32)), ((p2 >>> ((6 : Int32) &&& 31)) &&& (3 : Int32)), ((p2 >>> ((8 : Int32) &&& 31)) &&& (3 : Int32)), ((p2 >>> ((10 : Int32) &&& 31)) &&& (3 : Int32))] q1))])) _
        refine XS.icmpNo X87.here hx rfl (hb hby at_271) rfl (feq hm98).1 ?_
        show Steps p.tables e below (T87.setTop (mkF m 274 #[.val (.int p0), .val (.int p1), .val (.int p2), .val (.int (2 : Int32)), .val (.int q0), .val (.int q1), .val (.int q2), .val (.int t0), .val (.int t1), .val (.int t2), .val (.ref b13), .val (.ref b73), .val (.ref b80), .val (.int z0), .unset] [])) _
        refine XS.iconst X87.here hx rfl (hb hby at_274) ?_
        show Steps p.tables e below (T87.setTop (mkF m 275 #[.val (.int p0), .val (.int p1), .val (.int p2), .val (.int (2 : Int32)), .val (.int q0), .val (.int q1), .val (.int q2), .val (.int t0), .val (.int t1), .val (.int t2), .val (.ref b13), .val (.ref b73), .val (.ref b80), .val (.int z0), .unset] [(.int (0 : Int32))])) _
        refine XS.istore X87.here hx rfl (hb hby at_275) rfl (l' := #[.val (.int p0), .val (.int p1), .val (.int p2), .val (.int (2 : Int32)), .val (.int q0), .val (.int q1), .val (.int q2), .val (.int t0), .val (.int t1), .val (.int t2), .val (.ref b13), .val (.ref b73), .val (.ref b80), .val (.int (0 : Int32)), .unset]) rfl ?_
        exact Steps.refl _
    obtain ⟨z1, hz1⟩ : ∃ z, z = (if (own_at [(p2 &&& (3 : Int32)), ((p2 >>> ((2 : Int32) &&& 31)) &&& (3 : Int32)), ((p2 >>> ((4 : Int32) &&& 31)) &&& (3 : Int32)), ((p2 >>> ((6 : Int32) &&& 31)) &&& (3 : Int32)), ((p2 >>> ((8 : Int32) &&& 31)) &&& (3 : Int32)), ((p2 >>> ((10 : Int32) &&& 31)) &&& (3 : Int32))] q1) = t1 then z0 else (0 : Int32)) := ⟨_, rfl⟩
    rw [← hz1] at s99
    obtain ⟨T100, h100, X100, e100, E100, A100, D100, -, st100⟩ := newO X87 hx hZ hown (hw _ (List.mem_of_getElem? (i := 1) rfl)) (hw _ (List.mem_of_getElem? (i := 2) rfl)) (hw _ (List.mem_of_getElem? (i := 3) rfl)) e87 (g := (mkF m 295 #[.val (.int p0), .val (.int p1), .val (.int p2), .val (.int (2 : Int32)), .val (.int q0), .val (.int q1), .val (.int q2), .val (.int t0), .val (.int t1), .val (.int t2), .val (.ref b13), .val (.ref b73), .val (.ref b80), .val (.int z1), .unset] [])) rfl (hb hby at_295) (by decide) (by decide)
    obtain ⟨b100, g100⟩ : ∃ z, z = h87.size := ⟨_, rfl⟩
    rw [← g100] at A100 D100 st100
    have ne_b13_b100 : b13 ≠ b100 := Nat.ne_of_lt (Nat.lt_of_lt_of_le c88.lt (Nat.le_of_eq g100.symm))
    have c101 : Arv Z h87 b73 k73 .int (2 : Int32) [(.int q0), (.int q1)] (.int (0 : Int32)) := (((V79.ext E80).other W84 ne_b73_b80).other W87 ne_b73_b80)
    have ne_b73_b100 : b73 ≠ b100 := Nat.ne_of_lt (Nat.lt_of_lt_of_le c101.lt (Nat.le_of_eq g100.symm))
    have ne_b80_b100 : b80 ≠ b100 := Nat.ne_of_lt (Nat.lt_of_lt_of_le V87.lt (Nat.le_of_eq g100.symm))
    have g_b100 : n0 ≤ b100 := Nat.le_trans (Nat.le_of_eq O87.1.symm) (Nat.le_trans O87.2.1 (Nat.le_of_eq g100.symm))
    have O100 := O87.ext E100
    have F100_positions : Fld Z h100 b100 "com/example/odds_on_axioms/oddsonaxioms/network/Condition" "positions" "[I" .null := D100 (Or.inr (hw _ (List.mem_of_getElem? (i := 11) rfl))) (ty := (.array .int)) (by decide)
    have F100_states : Fld Z h100 b100 "com/example/odds_on_axioms/oddsonaxioms/network/Condition" "states" "[I" .null := D100 (Or.inr (hw _ (List.mem_of_getElem? (i := 13) rfl))) (ty := (.array .int)) (by decide)
    obtain ⟨_, _, ⟨T102, L102, k102, n102⟩, -, X102, ⟨Lc102, hQ102, l102, y102, z102⟩, st102⟩ := X100.specialBack hx (y := (⟨"com/example/odds_on_axioms/oddsonaxioms/network/Condition", "<init>", "([I[I)V"⟩ : MethodName)) rfl hown (mvT hZ (hw _ (List.mem_of_getElem? (i := 4) rfl))) (mvT hZ (hw _ (List.mem_of_getElem? (i := 5) rfl))) (mvT hZ (hw _ (List.mem_of_getElem? (i := 6) rfl))) (by decide) (backOf (W := 1) (rm1 l Z a0 hw [] b100 b73 b80 h100 n0 O100 A100 F100_positions F100_states g_b100) hZ (hw _ (List.mem_of_getElem? (i := 6) rfl)) (hw _ (List.mem_of_getElem? (i := 3) rfl)) (by decide) (by decide)) (g := (mkF m 303 #[.val (.int p0), .val (.int p1), .val (.int p2), .val (.int (2 : Int32)), .val (.int q0), .val (.int q1), .val (.int q2), .val (.int t0), .val (.int t1), .val (.int t2), .val (.ref b13), .val (.ref b73), .val (.ref b80), .val (.int z1), .unset] [(.ref b80), (.ref b73), (.ref b100), (.ref b100)])) rfl (by rw [hml]; rfl) (Steps.refl _) (a := b100) (argsL := [(.ref b73), (.ref b80)]) (rest := [(.ref b100)]) (lenOf pd_rm0_0 rfl) rfl (by show 2 * 0 + _ ≤ _; exact Nat.le_of_eq rfl) (hb hby at_303) (fun _ _ => ⟨rfl, e100, (by decide : 4 + 0 ≤ _), (by decide : 12 + 0 ≤ _)⟩)
    dsimp only [Pt.U, Pt.locs, Pt.cells, Pt.slots] at X102 l102 y102 z102 st102 hQ102
    subst l102 y102 z102
    obtain ⟨rfl, Nq102, Kc102, f102_0, f102_1, f102_2⟩ := hQ102
    have N102 := Fr.app N87 Nq102
    have O102 := O100.keep Kc102 (allS g_b100 all0)
    have c103 : Arv Z T102.heap b73 k73 .int (2 : Int32) [(.int q0), (.int q1)] (.int (0 : Int32)) := ((c101.ext E100).keep Kc102 (ninS ne_b73_b100 nin0))
    have c104 : Arv Z T102.heap b80 k80 .int (2 : Int32) [(.int t0), (.int t1)] (.int (0 : Int32)) := ((V87.ext E100).keep Kc102 (ninS ne_b80_b100 nin0))
    have c105 : Arv Z T102.heap b13 k13 .int (6 : Int32) [(.int (p2 &&& (3 : Int32))), (.int ((p2 >>> ((2 : Int32) &&& 31)) &&& (3 : Int32))), (.int ((p2 >>> ((4 : Int32) &&& 31)) &&& (3 : Int32))), (.int ((p2 >>> ((6 : Int32) &&& 31)) &&& (3 : Int32))), (.int ((p2 >>> ((8 : Int32) &&& 31)) &&& (3 : Int32))), (.int ((p2 >>> ((10 : Int32) &&& 31)) &&& (3 : Int32)))] (.int (0 : Int32)) := ((c88.ext E100).keep Kc102 (ninS ne_b13_b100 nin0))
    obtain ⟨cq106, kq106, q106a, q106b, q106c⟩ := isOf hZ (rfl : T102.heap = T102.heap) f102_0
    obtain ⟨_, _, ⟨T106, L106, k106, n106⟩, -, X106, ⟨Lc106, hQ106, l106, y106, z106⟩, st106⟩ := X102.virtualBack hx (y := (⟨"com/example/odds_on_axioms/oddsonaxioms/network/Condition", "holdsIn", "([I)Z"⟩ : MethodName)) (z := (⟨"com/example/odds_on_axioms/oddsonaxioms/network/Condition", "holdsIn", "([I)Z"⟩ : MethodName)) hown (mvT hZ (hw _ (List.mem_of_getElem? (i := 14) rfl))) (mvT hZ (hw _ (List.mem_of_getElem? (i := 15) rfl))) (notFace_of_selects (args := #[]) (mvT hZ (hw _ (List.mem_of_getElem? (i := 17) rfl)))) (mvT hZ (hw _ (List.mem_of_getElem? (i := 17) rfl))) (mvT hZ (hw _ (List.mem_of_getElem? (i := 16) rfl))) (by decide) (backOf (W := 0) (rmh2 l Z a0 hw [] b100 b13 b73 b80 k73 k80 k13 q0 q1 t0 t1 (p2 &&& (3 : Int32)) ((p2 >>> ((2 : Int32) &&& 31)) &&& (3 : Int32)) ((p2 >>> ((4 : Int32) &&& 31)) &&& (3 : Int32)) ((p2 >>> ((6 : Int32) &&& 31)) &&& (3 : Int32)) ((p2 >>> ((8 : Int32) &&& 31)) &&& (3 : Int32)) ((p2 >>> ((10 : Int32) &&& 31)) &&& (3 : Int32)) T102.heap n0 O102 f102_1 f102_2 c103 c104 c105 (own_rm0_6 p0 q0 hq0) (own_rm0_7 p0 q0 q1 hq0 hq1)) hZ (hw _ (List.mem_of_getElem? (i := 18) rfl)) (hw _ (List.mem_of_getElem? (i := 3) rfl)) (by decide) (by decide)) q106a q106c (g := (mkF m 312 #[.val (.int p0), .val (.int p1), .val (.int p2), .val (.int (2 : Int32)), .val (.int q0), .val (.int q1), .val (.int q2), .val (.int t0), .val (.int t1), .val (.int t2), .val (.ref b13), .val (.ref b73), .val (.ref b80), .val (.int z1), .val (.ref b100)] [(.ref b13), (.ref b100)])) rfl (by rw [hml]; rfl) (Steps.refl _) (argsL := [(.ref b13)]) (rest := []) (lenOf pd_rm0_1 rfl) rfl (by show 2 * 0 + _ ≤ _; exact Nat.le_of_eq rfl) (hb hby at_312) (fun _ _ => ⟨rfl, (rfl : T102.heap = T102.heap), (by decide : 4 + 0 ≤ _), (by decide : 12 + 0 ≤ _)⟩)
    dsimp only [Pt.U, Pt.locs, Pt.cells, Pt.slots] at X106 l106 y106 z106 st106 hQ106
    subst l106 y106 z106
    obtain ⟨rfl, Nq106, e106⟩ := hQ106
    have N106 := Fr.app N102 Nq106
    have s107 : Steps p.tables e below (s₁.setTop (entryFrame m #[(.int p0), (.int p1), (.int p2)] maxLocals)) (T106.setTop (mkF m 325 #[.val (.int p0), .val (.int p1), .val (.int p2), .val (.int (2 : Int32)), .val (.int q0), .val (.int q1), .val (.int q2), .val (.int t0), .val (.int t1), .val (.int t2), .val (.ref b13), .val (.ref b73), .val (.ref b80), .val (.int z1), .val (.ref b100)] [(.int (1 : Int32))])) := by
      refine s99.trans ?_
      show Steps p.tables e below (T87.setTop (mkF m 277 #[.val (.int p0), .val (.int p1), .val (.int p2), .val (.int (2 : Int32)), .val (.int q0), .val (.int q1), .val (.int q2), .val (.int t0), .val (.int t1), .val (.int t2), .val (.ref b13), .val (.ref b73), .val (.ref b80), .val (.int z1), .unset] [])) _
      refine XS.iloadN X87.here hx rfl (hb hby at_277) rfl ?_
      show Steps p.tables e below (T87.setTop (mkF m 278 #[.val (.int p0), .val (.int p1), .val (.int p2), .val (.int (2 : Int32)), .val (.int q0), .val (.int q1), .val (.int q2), .val (.int t0), .val (.int t1), .val (.int t2), .val (.ref b13), .val (.ref b73), .val (.ref b80), .val (.int z1), .unset] [(.int (2 : Int32))])) _
      refine XS.iconst X87.here hx rfl (hb hby at_278) ?_
      show Steps p.tables e below (T87.setTop (mkF m 279 #[.val (.int p0), .val (.int p1), .val (.int p2), .val (.int (2 : Int32)), .val (.int q0), .val (.int q1), .val (.int q2), .val (.int t0), .val (.int t1), .val (.int t2), .val (.ref b13), .val (.ref b73), .val (.ref b80), .val (.int z1), .unset] [(.int (3 : Int32)), (.int (2 : Int32))])) _
      refine XS.icmpYes X87.here hx rfl (pc0 := 279) (pc' := 295) rfl (hb hby at_279) rfl (tlt (by decide)).1 (by decide) (by decide) ?_
      show Steps p.tables e below (T87.setTop (mkF m 295 #[.val (.int p0), .val (.int p1), .val (.int p2), .val (.int (2 : Int32)), .val (.int q0), .val (.int q1), .val (.int q2), .val (.int t0), .val (.int t1), .val (.int t2), .val (.ref b13), .val (.ref b73), .val (.ref b80), .val (.int z1), .unset] [])) _
      refine st100 _ ?_
      show Steps p.tables e below (T100.setTop (mkF m 298 #[.val (.int p0), .val (.int p1), .val (.int p2), .val (.int (2 : Int32)), .val (.int q0), .val (.int q1), .val (.int q2), .val (.int t0), .val (.int t1), .val (.int t2), .val (.ref b13), .val (.ref b73), .val (.ref b80), .val (.int z1), .unset] [(.ref b100)])) _
      refine XS.dup X100.here hx rfl (hb hby at_298) rfl rfl ?_
      show Steps p.tables e below (T100.setTop (mkF m 299 #[.val (.int p0), .val (.int p1), .val (.int p2), .val (.int (2 : Int32)), .val (.int q0), .val (.int q1), .val (.int q2), .val (.int t0), .val (.int t1), .val (.int t2), .val (.ref b13), .val (.ref b73), .val (.ref b80), .val (.int z1), .unset] [(.ref b100), (.ref b100)])) _
      refine XS.aload X100.here hx rfl (hb hby at_299) rfl rfl ?_
      show Steps p.tables e below (T100.setTop (mkF m 301 #[.val (.int p0), .val (.int p1), .val (.int p2), .val (.int (2 : Int32)), .val (.int q0), .val (.int q1), .val (.int q2), .val (.int t0), .val (.int t1), .val (.int t2), .val (.ref b13), .val (.ref b73), .val (.ref b80), .val (.int z1), .unset] [(.ref b73), (.ref b100), (.ref b100)])) _
      refine XS.aload X100.here hx rfl (hb hby at_301) rfl rfl ?_
      show Steps p.tables e below (T100.setTop (mkF m 303 #[.val (.int p0), .val (.int p1), .val (.int p2), .val (.int (2 : Int32)), .val (.int q0), .val (.int q1), .val (.int q2), .val (.int t0), .val (.int t1), .val (.int t2), .val (.ref b13), .val (.ref b73), .val (.ref b80), .val (.int z1), .unset] [(.ref b80), (.ref b73), (.ref b100), (.ref b100)])) _
      refine st102.trans ?_
      show Steps p.tables e below (T102.setTop (mkF m 306 #[.val (.int p0), .val (.int p1), .val (.int p2), .val (.int (2 : Int32)), .val (.int q0), .val (.int q1), .val (.int q2), .val (.int t0), .val (.int t1), .val (.int t2), .val (.ref b13), .val (.ref b73), .val (.ref b80), .val (.int z1), .unset] [(.ref b100)])) _
      refine XS.astore X102.here hx rfl (hb hby at_306) rfl rfl (l' := #[.val (.int p0), .val (.int p1), .val (.int p2), .val (.int (2 : Int32)), .val (.int q0), .val (.int q1), .val (.int q2), .val (.int t0), .val (.int t1), .val (.int t2), .val (.ref b13), .val (.ref b73), .val (.ref b80), .val (.int z1), .val (.ref b100)]) rfl ?_
      show Steps p.tables e below (T102.setTop (mkF m 308 #[.val (.int p0), .val (.int p1), .val (.int p2), .val (.int (2 : Int32)), .val (.int q0), .val (.int q1), .val (.int q2), .val (.int t0), .val (.int t1), .val (.int t2), .val (.ref b13), .val (.ref b73), .val (.ref b80), .val (.int z1), .val (.ref b100)] [])) _
      refine XS.aload X102.here hx rfl (hb hby at_308) rfl rfl ?_
      show Steps p.tables e below (T102.setTop (mkF m 310 #[.val (.int p0), .val (.int p1), .val (.int p2), .val (.int (2 : Int32)), .val (.int q0), .val (.int q1), .val (.int q2), .val (.int t0), .val (.int t1), .val (.int t2), .val (.ref b13), .val (.ref b73), .val (.ref b80), .val (.int z1), .val (.ref b100)] [(.ref b100)])) _
      refine XS.aload X102.here hx rfl (hb hby at_310) rfl rfl ?_
      show Steps p.tables e below (T102.setTop (mkF m 312 #[.val (.int p0), .val (.int p1), .val (.int p2), .val (.int (2 : Int32)), .val (.int q0), .val (.int q1), .val (.int q2), .val (.int t0), .val (.int t1), .val (.int t2), .val (.ref b13), .val (.ref b73), .val (.ref b80), .val (.int z1), .val (.ref b100)] [(.ref b13), (.ref b100)])) _
      refine st106.trans ?_
      show Steps p.tables e below (T106.setTop (mkF m 315 #[.val (.int p0), .val (.int p1), .val (.int p2), .val (.int (2 : Int32)), .val (.int q0), .val (.int q1), .val (.int q2), .val (.int t0), .val (.int t1), .val (.int t2), .val (.ref b13), .val (.ref b73), .val (.ref b80), .val (.int z1), .val (.ref b100)] [(.int (if (own_at [(p2 &&& (3 : Int32)), ((p2 >>> ((2 : Int32) &&& 31)) &&& (3 : Int32)), ((p2 >>> ((4 : Int32) &&& 31)) &&& (3 : Int32)), ((p2 >>> ((6 : Int32) &&& 31)) &&& (3 : Int32)), ((p2 >>> ((8 : Int32) &&& 31)) &&& (3 : Int32)), ((p2 >>> ((10 : Int32) &&& 31)) &&& (3 : Int32))] q0) = t0 then (if (own_at [(p2 &&& (3 : Int32)), ((p2 >>> ((2 : Int32) &&& 31)) &&& (3 : Int32)), ((p2 >>> ((4 : Int32) &&& 31)) &&& (3 : Int32)), ((p2 >>> ((6 : Int32) &&& 31)) &&& (3 : Int32)), ((p2 >>> ((8 : Int32) &&& 31)) &&& (3 : Int32)), ((p2 >>> ((10 : Int32) &&& 31)) &&& (3 : Int32))] q1) = t1 then (1 : Int32) else (0 : Int32)) else (0 : Int32)))])) _
      refine XS.iload X106.here hx rfl (hb hby at_315) rfl ?_
      show Steps p.tables e below (T106.setTop (mkF m 317 #[.val (.int p0), .val (.int p1), .val (.int p2), .val (.int (2 : Int32)), .val (.int q0), .val (.int q1), .val (.int q2), .val (.int t0), .val (.int t1), .val (.int t2), .val (.ref b13), .val (.ref b73), .val (.ref b80), .val (.int z1), .val (.ref b100)] [(.int z1), (.int (if (own_at [(p2 &&& (3 : Int32)), ((p2 >>> ((2 : Int32) &&& 31)) &&& (3 : Int32)), ((p2 >>> ((4 : Int32) &&& 31)) &&& (3 : Int32)), ((p2 >>> ((6 : Int32) &&& 31)) &&& (3 : Int32)), ((p2 >>> ((8 : Int32) &&& 31)) &&& (3 : Int32)), ((p2 >>> ((10 : Int32) &&& 31)) &&& (3 : Int32))] q0) = t0 then (if (own_at [(p2 &&& (3 : Int32)), ((p2 >>> ((2 : Int32) &&& 31)) &&& (3 : Int32)), ((p2 >>> ((4 : Int32) &&& 31)) &&& (3 : Int32)), ((p2 >>> ((6 : Int32) &&& 31)) &&& (3 : Int32)), ((p2 >>> ((8 : Int32) &&& 31)) &&& (3 : Int32)), ((p2 >>> ((10 : Int32) &&& 31)) &&& (3 : Int32))] q1) = t1 then (1 : Int32) else (0 : Int32)) else (0 : Int32)))])) _
      refine XS.icmpNo X106.here hx rfl (hb hby at_317) rfl (teq (own_rm0_8 p2 q0 q1 t0 t1 z0 z1 hz0 hz1)).2 ?_
      show Steps p.tables e below (T106.setTop (mkF m 320 #[.val (.int p0), .val (.int p1), .val (.int p2), .val (.int (2 : Int32)), .val (.int q0), .val (.int q1), .val (.int q2), .val (.int t0), .val (.int t1), .val (.int t2), .val (.ref b13), .val (.ref b73), .val (.ref b80), .val (.int z1), .val (.ref b100)] [])) _
      refine XS.iconst X106.here hx rfl (hb hby at_320) ?_
      show Steps p.tables e below (T106.setTop (mkF m 321 #[.val (.int p0), .val (.int p1), .val (.int p2), .val (.int (2 : Int32)), .val (.int q0), .val (.int q1), .val (.int q2), .val (.int t0), .val (.int t1), .val (.int t2), .val (.ref b13), .val (.ref b73), .val (.ref b80), .val (.int z1), .val (.ref b100)] [(.int (1 : Int32))])) _
      refine XS.goto X106.here hx rfl (pc0 := 321) (pc' := 325) rfl (hb hby at_321) (by decide) (by decide) ?_
      exact Steps.refl _
    obtain ⟨fs, hr, hrun, hended, hW, hsame⟩ := X106.leave (v := some (.int (1 : Int32))) (fun h => by rw [Bd.returns] at h; cases h)
    refine ⟨_, _, s107.trans ?_, hrun, hended, _, _, rfl, ?_, ⟨_, rfl⟩, hW, hsame.mono (by decide) (by decide)⟩
    · show Steps p.tables e below (T106.setTop (mkF m 325 #[.val (.int p0), .val (.int p1), .val (.int p2), .val (.int (2 : Int32)), .val (.int q0), .val (.int q1), .val (.int q2), .val (.int t0), .val (.int t1), .val (.int t2), .val (.ref b13), .val (.ref b73), .val (.ref b80), .val (.int z1), .val (.ref b100)] [(.int (1 : Int32))])) _
      exact retN X106 hx (t := .boolean) Bd.returns (by simp) (hb hby at_325) hr
    · show Q0 Z p0 p1 p2 h0 n0 _ T106.heap _
      rw [e106]
      exact ⟨rfl, N106⟩
  · have s108 := s32
    rw [hk33] at s108
    obtain ⟨T109, h109, k109, X109, e109, E109, A109, st109⟩ := newP X31 hx hZ (hw _ (List.mem_of_getElem? (i := 0) rfl)) e31 (g := (mkF m 199 #[.val (.int p0), .val (.int p1), .val (.int p2), .val (.int (3 : Int32)), .val (.int q0), .val (.int q1), .val (.int q2), .val (.int t0), .val (.int t1), .val (.int t2), .val (.ref b13), .unset, .unset, .unset, .unset] [(.int (3 : Int32))])) rfl (hb hby at_199) rfl (by decide) (cap := 3) (by decide) (by decide) (by decide) (by decide)
    obtain ⟨b109, g109⟩ : ∃ z, z = h31.size := ⟨_, rfl⟩
    rw [← g109] at A109 st109
    have ne_b13_b109 : b13 ≠ b109 := Nat.ne_of_lt (Nat.lt_of_lt_of_le V31.lt (Nat.le_of_eq g109.symm))
    have g_b109 : n0 ≤ b109 := Nat.le_trans (Nat.le_of_eq O31.1.symm) (Nat.le_trans O31.2.1 (Nat.le_of_eq g109.symm))
    have O109 := O31.ext E109
    have V109 : Arv Z h109 b109 k109 .int (3 : Int32) [(.int (0 : Int32)), (.int (0 : Int32)), (.int (0 : Int32))] (.int (0 : Int32)) := (Arv.new A109 (by decide)).pad (pad_rep [] (.int (0 : Int32)) 3)
    obtain ⟨cla110, Ara110, qa110, Sa110, Za110, Ha110, Ga110⟩ := id V109
    have hin111 : ¬ ((0 : Int32) < 0 ∨ cla110.slots.size ≤ ((0 : Int32)).toNatClampNeg) := inb_of Sa110 ⟨by decide, by decide⟩
    obtain ⟨T112, h112, X112, e112, W112, st112⟩ := stI X109 hx hZ e109 Ara110 (j := (0 : Int32)) hin111 (g := (mkF m 205 #[.val (.int p0), .val (.int p1), .val (.int p2), .val (.int (3 : Int32)), .val (.int q0), .val (.int q1), .val (.int q2), .val (.int t0), .val (.int t1), .val (.int t2), .val (.ref b13), .unset, .unset, .unset, .unset] [(.int q0), (.int (0 : Int32)), (.ref b109), (.ref b109)])) rfl rfl (hb hby at_205)
    have O112 := O109.wr W112 g_b109
    have N112 := Fr.snoc X112 N31 g_b109
    have V112 : Arv Z h112 b109 k109 .int (3 : Int32) [(.int q0), (.int (0 : Int32)), (.int (0 : Int32))] (.int (0 : Int32)) := Arv.set Ara110 qa110 Sa110 Za110 Ha110 Ga110 rfl W112 0 rfl (Nat.le_of_ble_eq_true rfl)
    obtain ⟨cla113, Ara113, qa113, Sa113, Za113, Ha113, Ga113⟩ := id V112
    have hin114 : ¬ ((1 : Int32) < 0 ∨ cla113.slots.size ≤ ((1 : Int32)).toNatClampNeg) := inb_of Sa113 ⟨by decide, by decide⟩
    obtain ⟨T115, h115, X115, e115, W115, st115⟩ := stI X112 hx hZ e112 Ara113 (j := (1 : Int32)) hin114 (g := (mkF m 210 #[.val (.int p0), .val (.int p1), .val (.int p2), .val (.int (3 : Int32)), .val (.int q0), .val (.int q1), .val (.int q2), .val (.int t0), .val (.int t1), .val (.int t2), .val (.ref b13), .unset, .unset, .unset, .unset] [(.int q1), (.int (1 : Int32)), (.ref b109), (.ref b109)])) rfl rfl (hb hby at_210)
    have O115 := O112.wr W115 g_b109
    have N115 := Fr.snoc X115 N112 g_b109
    have V115 : Arv Z h115 b109 k109 .int (3 : Int32) [(.int q0), (.int q1), (.int (0 : Int32))] (.int (0 : Int32)) := Arv.set Ara113 qa113 Sa113 Za113 Ha113 Ga113 rfl W115 1 rfl (Nat.le_of_ble_eq_true rfl)
    obtain ⟨cla116, Ara116, qa116, Sa116, Za116, Ha116, Ga116⟩ := id V115
    have hin117 : ¬ ((2 : Int32) < 0 ∨ cla116.slots.size ≤ ((2 : Int32)).toNatClampNeg) := inb_of Sa116 ⟨by decide, by decide⟩
    obtain ⟨T118, h118, X118, e118, W118, st118⟩ := stI X115 hx hZ e115 Ara116 (j := (2 : Int32)) hin117 (g := (mkF m 215 #[.val (.int p0), .val (.int p1), .val (.int p2), .val (.int (3 : Int32)), .val (.int q0), .val (.int q1), .val (.int q2), .val (.int t0), .val (.int t1), .val (.int t2), .val (.ref b13), .unset, .unset, .unset, .unset] [(.int q2), (.int (2 : Int32)), (.ref b109), (.ref b109)])) rfl rfl (hb hby at_215)
    have O118 := O115.wr W118 g_b109
    have N118 := Fr.snoc X118 N115 g_b109
    have V118 : Arv Z h118 b109 k109 .int (3 : Int32) [(.int q0), (.int q1), (.int q2)] (.int (0 : Int32)) := Arv.set Ara116 qa116 Sa116 Za116 Ha116 Ga116 rfl W118 2 rfl (Nat.le_of_ble_eq_true rfl)
    obtain ⟨T119, h119, k119, X119, e119, E119, A119, st119⟩ := newP X118 hx hZ (hw _ (List.mem_of_getElem? (i := 0) rfl)) e118 (g := (mkF m 219 #[.val (.int p0), .val (.int p1), .val (.int p2), .val (.int (3 : Int32)), .val (.int q0), .val (.int q1), .val (.int q2), .val (.int t0), .val (.int t1), .val (.int t2), .val (.ref b13), .val (.ref b109), .unset, .unset, .unset] [(.int (3 : Int32))])) rfl (hb hby at_219) rfl (by decide) (cap := 3) (by decide) (by decide) (by decide) (by decide)
    obtain ⟨b119, g119⟩ : ∃ z, z = h118.size := ⟨_, rfl⟩
    rw [← g119] at A119 st119
    have c120 : Arv Z h118 b13 k13 .int (6 : Int32) [(.int (p2 &&& (3 : Int32))), (.int ((p2 >>> ((2 : Int32) &&& 31)) &&& (3 : Int32))), (.int ((p2 >>> ((4 : Int32) &&& 31)) &&& (3 : Int32))), (.int ((p2 >>> ((6 : Int32) &&& 31)) &&& (3 : Int32))), (.int ((p2 >>> ((8 : Int32) &&& 31)) &&& (3 : Int32))), (.int ((p2 >>> ((10 : Int32) &&& 31)) &&& (3 : Int32)))] (.int (0 : Int32)) := ((((V31.ext E109).other W112 ne_b13_b109).other W115 ne_b13_b109).other W118 ne_b13_b109)
    have ne_b13_b119 : b13 ≠ b119 := Nat.ne_of_lt (Nat.lt_of_lt_of_le c120.lt (Nat.le_of_eq g119.symm))
    have ne_b109_b119 : b109 ≠ b119 := Nat.ne_of_lt (Nat.lt_of_lt_of_le V118.lt (Nat.le_of_eq g119.symm))
    have g_b119 : n0 ≤ b119 := Nat.le_trans (Nat.le_of_eq O118.1.symm) (Nat.le_trans O118.2.1 (Nat.le_of_eq g119.symm))
    have O119 := O118.ext E119
    have V119 : Arv Z h119 b119 k119 .int (3 : Int32) [(.int (0 : Int32)), (.int (0 : Int32)), (.int (0 : Int32))] (.int (0 : Int32)) := (Arv.new A119 (by decide)).pad (pad_rep [] (.int (0 : Int32)) 3)
    obtain ⟨cla121, Ara121, qa121, Sa121, Za121, Ha121, Ga121⟩ := id V119
    have hin122 : ¬ ((0 : Int32) < 0 ∨ cla121.slots.size ≤ ((0 : Int32)).toNatClampNeg) := inb_of Sa121 ⟨by decide, by decide⟩
    obtain ⟨T123, h123, X123, e123, W123, st123⟩ := stI X119 hx hZ e119 Ara121 (j := (0 : Int32)) hin122 (g := (mkF m 225 #[.val (.int p0), .val (.int p1), .val (.int p2), .val (.int (3 : Int32)), .val (.int q0), .val (.int q1), .val (.int q2), .val (.int t0), .val (.int t1), .val (.int t2), .val (.ref b13), .val (.ref b109), .unset, .unset, .unset] [(.int t0), (.int (0 : Int32)), (.ref b119), (.ref b119)])) rfl rfl (hb hby at_225)
    have O123 := O119.wr W123 g_b119
    have N123 := Fr.snoc X123 N118 g_b119
    have V123 : Arv Z h123 b119 k119 .int (3 : Int32) [(.int t0), (.int (0 : Int32)), (.int (0 : Int32))] (.int (0 : Int32)) := Arv.set Ara121 qa121 Sa121 Za121 Ha121 Ga121 rfl W123 0 rfl (Nat.le_of_ble_eq_true rfl)
    obtain ⟨cla124, Ara124, qa124, Sa124, Za124, Ha124, Ga124⟩ := id V123
    have hin125 : ¬ ((1 : Int32) < 0 ∨ cla124.slots.size ≤ ((1 : Int32)).toNatClampNeg) := inb_of Sa124 ⟨by decide, by decide⟩
    obtain ⟨T126, h126, X126, e126, W126, st126⟩ := stI X123 hx hZ e123 Ara124 (j := (1 : Int32)) hin125 (g := (mkF m 230 #[.val (.int p0), .val (.int p1), .val (.int p2), .val (.int (3 : Int32)), .val (.int q0), .val (.int q1), .val (.int q2), .val (.int t0), .val (.int t1), .val (.int t2), .val (.ref b13), .val (.ref b109), .unset, .unset, .unset] [(.int t1), (.int (1 : Int32)), (.ref b119), (.ref b119)])) rfl rfl (hb hby at_230)
    have O126 := O123.wr W126 g_b119
    have N126 := Fr.snoc X126 N123 g_b119
    have V126 : Arv Z h126 b119 k119 .int (3 : Int32) [(.int t0), (.int t1), (.int (0 : Int32))] (.int (0 : Int32)) := Arv.set Ara124 qa124 Sa124 Za124 Ha124 Ga124 rfl W126 1 rfl (Nat.le_of_ble_eq_true rfl)
    obtain ⟨cla127, Ara127, qa127, Sa127, Za127, Ha127, Ga127⟩ := id V126
    have hin128 : ¬ ((2 : Int32) < 0 ∨ cla127.slots.size ≤ ((2 : Int32)).toNatClampNeg) := inb_of Sa127 ⟨by decide, by decide⟩
    obtain ⟨T129, h129, X129, e129, W129, st129⟩ := stI X126 hx hZ e126 Ara127 (j := (2 : Int32)) hin128 (g := (mkF m 235 #[.val (.int p0), .val (.int p1), .val (.int p2), .val (.int (3 : Int32)), .val (.int q0), .val (.int q1), .val (.int q2), .val (.int t0), .val (.int t1), .val (.int t2), .val (.ref b13), .val (.ref b109), .unset, .unset, .unset] [(.int t2), (.int (2 : Int32)), (.ref b119), (.ref b119)])) rfl rfl (hb hby at_235)
    have O129 := O126.wr W129 g_b119
    have N129 := Fr.snoc X129 N126 g_b119
    have V129 : Arv Z h129 b119 k119 .int (3 : Int32) [(.int t0), (.int t1), (.int t2)] (.int (0 : Int32)) := Arv.set Ara127 qa127 Sa127 Za127 Ha127 Ga127 rfl W129 2 rfl (Nat.le_of_ble_eq_true rfl)
    have c130 : Arv Z h129 b13 k13 .int (6 : Int32) [(.int (p2 &&& (3 : Int32))), (.int ((p2 >>> ((2 : Int32) &&& 31)) &&& (3 : Int32))), (.int ((p2 >>> ((4 : Int32) &&& 31)) &&& (3 : Int32))), (.int ((p2 >>> ((6 : Int32) &&& 31)) &&& (3 : Int32))), (.int ((p2 >>> ((8 : Int32) &&& 31)) &&& (3 : Int32))), (.int ((p2 >>> ((10 : Int32) &&& 31)) &&& (3 : Int32)))] (.int (0 : Int32)) := ((((c120.ext E119).other W123 ne_b13_b119).other W126 ne_b13_b119).other W129 ne_b13_b119)
    obtain ⟨cla131, Ara131, qa131, Sa131, Za131, Ha131, Ga131⟩ := id c130
    have hin132 : ¬ (q0 < 0 ∨ cla131.slots.size ≤ (q0).toNatClampNeg) := inb_of Sa131 (own_rm0_9 p0 q0 hq0)
    have hat133 : cla131.slots[(q0).toNatClampNeg]? = some (.int (own_at [(p2 &&& (3 : Int32)), ((p2 >>> ((2 : Int32) &&& 31)) &&& (3 : Int32)), ((p2 >>> ((4 : Int32) &&& 31)) &&& (3 : Int32)), ((p2 >>> ((6 : Int32) &&& 31)) &&& (3 : Int32)), ((p2 >>> ((8 : Int32) &&& 31)) &&& (3 : Int32)), ((p2 >>> ((10 : Int32) &&& 31)) &&& (3 : Int32))] q0)) := Has.at Ha131 hin132 (own_getD [(p2 &&& (3 : Int32)), ((p2 >>> ((2 : Int32) &&& 31)) &&& (3 : Int32)), ((p2 >>> ((4 : Int32) &&& 31)) &&& (3 : Int32)), ((p2 >>> ((6 : Int32) &&& 31)) &&& (3 : Int32)), ((p2 >>> ((8 : Int32) &&& 31)) &&& (3 : Int32)), ((p2 >>> ((10 : Int32) &&& 31)) &&& (3 : Int32))] _)
    have s134 : Steps p.tables e below (s₁.setTop (entryFrame m #[(.int p0), (.int p1), (.int p2)] maxLocals)) (T129.setTop (mkF m 253 #[.val (.int p0), .val (.int p1), .val (.int p2), .val (.int (3 : Int32)), .val (.int q0), .val (.int q1), .val (.int q2), .val (.int t0), .val (.int t1), .val (.int t2), .val (.ref b13), .val (.ref b109), .val (.ref b119), .val (.int (1 : Int32)), .unset] [(.int t0), (.int (own_at [(p2 &&& (3 : Int32)), ((p2 >>> ((2 : Int32) &&& 31)) &&& (3 : Int32)), ((p2 >>> ((4 : Int32) &&& 31)) &&& (3 : Int32)), ((p2 >>> ((6 : Int32) &&& 31)) &&& (3 : Int32)), ((p2 >>> ((8 : Int32) &&& 31)) &&& (3 : Int32)), ((p2 >>> ((10 : Int32) &&& 31)) &&& (3 : Int32))] q0))])) := by
      refine s108.trans ?_
      show Steps p.tables e below (T31.setTop (mkF m 116 #[.val (.int p0), .val (.int p1), .val (.int p2), .val (.int (3 : Int32)), .val (.int q0), .val (.int q1), .val (.int q2), .val (.int t0), .val (.int t1), .val (.int t2), .val (.ref b13), .unset, .unset, .unset, .unset] [(.int (3 : Int32))])) _
      refine XS.ifYes X31.here hx rfl (pc0 := 116) (pc' := 132) rfl (hb hby at_116) rfl ((if0 _ _).trans (feq (by decide)).2) (by decide) (by decide) ?_
      show Steps p.tables e below (T31.setTop (mkF m 132 #[.val (.int p0), .val (.int p1), .val (.int p2), .val (.int (3 : Int32)), .val (.int q0), .val (.int q1), .val (.int q2), .val (.int t0), .val (.int t1), .val (.int t2), .val (.ref b13), .unset, .unset, .unset, .unset] [])) _
      refine XS.iloadN X31.here hx rfl (hb hby at_132) rfl ?_
      show Steps p.tables e below (T31.setTop (mkF m 133 #[.val (.int p0), .val (.int p1), .val (.int p2), .val (.int (3 : Int32)), .val (.int q0), .val (.int q1), .val (.int q2), .val (.int t0), .val (.int t1), .val (.int t2), .val (.ref b13), .unset, .unset, .unset, .unset] [(.int (3 : Int32))])) _
      refine XS.iconst X31.here hx rfl (hb hby at_133) ?_
      show Steps p.tables e below (T31.setTop (mkF m 134 #[.val (.int p0), .val (.int p1), .val (.int p2), .val (.int (3 : Int32)), .val (.int q0), .val (.int q1), .val (.int q2), .val (.int t0), .val (.int t1), .val (.int t2), .val (.ref b13), .unset, .unset, .unset, .unset] [(.int (1 : Int32)), (.int (3 : Int32))])) _
      refine XS.icmpYes X31.here hx rfl (pc0 := 134) (pc' := 160) rfl (hb hby at_134) rfl (feq (by decide)).2 (by decide) (by decide) ?_
      show Steps p.tables e below (T31.setTop (mkF m 160 #[.val (.int p0), .val (.int p1), .val (.int p2), .val (.int (3 : Int32)), .val (.int q0), .val (.int q1), .val (.int q2), .val (.int t0), .val (.int t1), .val (.int t2), .val (.ref b13), .unset, .unset, .unset, .unset] [])) _
      refine XS.iloadN X31.here hx rfl (hb hby at_160) rfl ?_
      show Steps p.tables e below (T31.setTop (mkF m 161 #[.val (.int p0), .val (.int p1), .val (.int p2), .val (.int (3 : Int32)), .val (.int q0), .val (.int q1), .val (.int q2), .val (.int t0), .val (.int t1), .val (.int t2), .val (.ref b13), .unset, .unset, .unset, .unset] [(.int (3 : Int32))])) _
      refine XS.iconst X31.here hx rfl (hb hby at_161) ?_
      show Steps p.tables e below (T31.setTop (mkF m 162 #[.val (.int p0), .val (.int p1), .val (.int p2), .val (.int (3 : Int32)), .val (.int q0), .val (.int q1), .val (.int q2), .val (.int t0), .val (.int t1), .val (.int t2), .val (.ref b13), .unset, .unset, .unset, .unset] [(.int (2 : Int32)), (.int (3 : Int32))])) _
      refine XS.icmpYes X31.here hx rfl (pc0 := 162) (pc' := 198) rfl (hb hby at_162) rfl (feq (by decide)).2 (by decide) (by decide) ?_
      show Steps p.tables e below (T31.setTop (mkF m 198 #[.val (.int p0), .val (.int p1), .val (.int p2), .val (.int (3 : Int32)), .val (.int q0), .val (.int q1), .val (.int q2), .val (.int t0), .val (.int t1), .val (.int t2), .val (.ref b13), .unset, .unset, .unset, .unset] [])) _
      refine XS.iconst X31.here hx rfl (hb hby at_198) ?_
      show Steps p.tables e below (T31.setTop (mkF m 199 #[.val (.int p0), .val (.int p1), .val (.int p2), .val (.int (3 : Int32)), .val (.int q0), .val (.int q1), .val (.int q2), .val (.int t0), .val (.int t1), .val (.int t2), .val (.ref b13), .unset, .unset, .unset, .unset] [(.int (3 : Int32))])) _
      refine st109 _ ?_
      show Steps p.tables e below (T109.setTop (mkF m 201 #[.val (.int p0), .val (.int p1), .val (.int p2), .val (.int (3 : Int32)), .val (.int q0), .val (.int q1), .val (.int q2), .val (.int t0), .val (.int t1), .val (.int t2), .val (.ref b13), .unset, .unset, .unset, .unset] [(.ref b109)])) _
      refine XS.dup X109.here hx rfl (hb hby at_201) rfl rfl ?_
      show Steps p.tables e below (T109.setTop (mkF m 202 #[.val (.int p0), .val (.int p1), .val (.int p2), .val (.int (3 : Int32)), .val (.int q0), .val (.int q1), .val (.int q2), .val (.int t0), .val (.int t1), .val (.int t2), .val (.ref b13), .unset, .unset, .unset, .unset] [(.ref b109), (.ref b109)])) _
      refine XS.iconst X109.here hx rfl (hb hby at_202) ?_
      show Steps p.tables e below (T109.setTop (mkF m 203 #[.val (.int p0), .val (.int p1), .val (.int p2), .val (.int (3 : Int32)), .val (.int q0), .val (.int q1), .val (.int q2), .val (.int t0), .val (.int t1), .val (.int t2), .val (.ref b13), .unset, .unset, .unset, .unset] [(.int (0 : Int32)), (.ref b109), (.ref b109)])) _
      refine XS.iload X109.here hx rfl (hb hby at_203) rfl ?_
      show Steps p.tables e below (T109.setTop (mkF m 205 #[.val (.int p0), .val (.int p1), .val (.int p2), .val (.int (3 : Int32)), .val (.int q0), .val (.int q1), .val (.int q2), .val (.int t0), .val (.int t1), .val (.int t2), .val (.ref b13), .unset, .unset, .unset, .unset] [(.int q0), (.int (0 : Int32)), (.ref b109), (.ref b109)])) _
      refine st112 _ ?_
      show Steps p.tables e below (T112.setTop (mkF m 206 #[.val (.int p0), .val (.int p1), .val (.int p2), .val (.int (3 : Int32)), .val (.int q0), .val (.int q1), .val (.int q2), .val (.int t0), .val (.int t1), .val (.int t2), .val (.ref b13), .unset, .unset, .unset, .unset] [(.ref b109)])) _
      refine XS.dup X112.here hx rfl (hb hby at_206) rfl rfl ?_
      show Steps p.tables e below (T112.setTop (mkF m 207 #[.val (.int p0), .val (.int p1), .val (.int p2), .val (.int (3 : Int32)), .val (.int q0), .val (.int q1), .val (.int q2), .val (.int t0), .val (.int t1), .val (.int t2), .val (.ref b13), .unset, .unset, .unset, .unset] [(.ref b109), (.ref b109)])) _
      refine XS.iconst X112.here hx rfl (hb hby at_207) ?_
      show Steps p.tables e below (T112.setTop (mkF m 208 #[.val (.int p0), .val (.int p1), .val (.int p2), .val (.int (3 : Int32)), .val (.int q0), .val (.int q1), .val (.int q2), .val (.int t0), .val (.int t1), .val (.int t2), .val (.ref b13), .unset, .unset, .unset, .unset] [(.int (1 : Int32)), (.ref b109), (.ref b109)])) _
      refine XS.iload X112.here hx rfl (hb hby at_208) rfl ?_
      show Steps p.tables e below (T112.setTop (mkF m 210 #[.val (.int p0), .val (.int p1), .val (.int p2), .val (.int (3 : Int32)), .val (.int q0), .val (.int q1), .val (.int q2), .val (.int t0), .val (.int t1), .val (.int t2), .val (.ref b13), .unset, .unset, .unset, .unset] [(.int q1), (.int (1 : Int32)), (.ref b109), (.ref b109)])) _
      refine st115 _ ?_
      show Steps p.tables e below (T115.setTop (mkF m 211 #[.val (.int p0), .val (.int p1), .val (.int p2), .val (.int (3 : Int32)), .val (.int q0), .val (.int q1), .val (.int q2), .val (.int t0), .val (.int t1), .val (.int t2), .val (.ref b13), .unset, .unset, .unset, .unset] [(.ref b109)])) _
      refine XS.dup X115.here hx rfl (hb hby at_211) rfl rfl ?_
      show Steps p.tables e below (T115.setTop (mkF m 212 #[.val (.int p0), .val (.int p1), .val (.int p2), .val (.int (3 : Int32)), .val (.int q0), .val (.int q1), .val (.int q2), .val (.int t0), .val (.int t1), .val (.int t2), .val (.ref b13), .unset, .unset, .unset, .unset] [(.ref b109), (.ref b109)])) _
      refine XS.iconst X115.here hx rfl (hb hby at_212) ?_
      show Steps p.tables e below (T115.setTop (mkF m 213 #[.val (.int p0), .val (.int p1), .val (.int p2), .val (.int (3 : Int32)), .val (.int q0), .val (.int q1), .val (.int q2), .val (.int t0), .val (.int t1), .val (.int t2), .val (.ref b13), .unset, .unset, .unset, .unset] [(.int (2 : Int32)), (.ref b109), (.ref b109)])) _
      refine XS.iload X115.here hx rfl (hb hby at_213) rfl ?_
      show Steps p.tables e below (T115.setTop (mkF m 215 #[.val (.int p0), .val (.int p1), .val (.int p2), .val (.int (3 : Int32)), .val (.int q0), .val (.int q1), .val (.int q2), .val (.int t0), .val (.int t1), .val (.int t2), .val (.ref b13), .unset, .unset, .unset, .unset] [(.int q2), (.int (2 : Int32)), (.ref b109), (.ref b109)])) _
      refine st118 _ ?_
      show Steps p.tables e below (T118.setTop (mkF m 216 #[.val (.int p0), .val (.int p1), .val (.int p2), .val (.int (3 : Int32)), .val (.int q0), .val (.int q1), .val (.int q2), .val (.int t0), .val (.int t1), .val (.int t2), .val (.ref b13), .unset, .unset, .unset, .unset] [(.ref b109)])) _
      refine XS.astore X118.here hx rfl (hb hby at_216) rfl rfl (l' := #[.val (.int p0), .val (.int p1), .val (.int p2), .val (.int (3 : Int32)), .val (.int q0), .val (.int q1), .val (.int q2), .val (.int t0), .val (.int t1), .val (.int t2), .val (.ref b13), .val (.ref b109), .unset, .unset, .unset]) rfl ?_
      show Steps p.tables e below (T118.setTop (mkF m 218 #[.val (.int p0), .val (.int p1), .val (.int p2), .val (.int (3 : Int32)), .val (.int q0), .val (.int q1), .val (.int q2), .val (.int t0), .val (.int t1), .val (.int t2), .val (.ref b13), .val (.ref b109), .unset, .unset, .unset] [])) _
      refine XS.iconst X118.here hx rfl (hb hby at_218) ?_
      show Steps p.tables e below (T118.setTop (mkF m 219 #[.val (.int p0), .val (.int p1), .val (.int p2), .val (.int (3 : Int32)), .val (.int q0), .val (.int q1), .val (.int q2), .val (.int t0), .val (.int t1), .val (.int t2), .val (.ref b13), .val (.ref b109), .unset, .unset, .unset] [(.int (3 : Int32))])) _
      refine st119 _ ?_
      show Steps p.tables e below (T119.setTop (mkF m 221 #[.val (.int p0), .val (.int p1), .val (.int p2), .val (.int (3 : Int32)), .val (.int q0), .val (.int q1), .val (.int q2), .val (.int t0), .val (.int t1), .val (.int t2), .val (.ref b13), .val (.ref b109), .unset, .unset, .unset] [(.ref b119)])) _
      refine XS.dup X119.here hx rfl (hb hby at_221) rfl rfl ?_
      show Steps p.tables e below (T119.setTop (mkF m 222 #[.val (.int p0), .val (.int p1), .val (.int p2), .val (.int (3 : Int32)), .val (.int q0), .val (.int q1), .val (.int q2), .val (.int t0), .val (.int t1), .val (.int t2), .val (.ref b13), .val (.ref b109), .unset, .unset, .unset] [(.ref b119), (.ref b119)])) _
      refine XS.iconst X119.here hx rfl (hb hby at_222) ?_
      show Steps p.tables e below (T119.setTop (mkF m 223 #[.val (.int p0), .val (.int p1), .val (.int p2), .val (.int (3 : Int32)), .val (.int q0), .val (.int q1), .val (.int q2), .val (.int t0), .val (.int t1), .val (.int t2), .val (.ref b13), .val (.ref b109), .unset, .unset, .unset] [(.int (0 : Int32)), (.ref b119), (.ref b119)])) _
      refine XS.iload X119.here hx rfl (hb hby at_223) rfl ?_
      show Steps p.tables e below (T119.setTop (mkF m 225 #[.val (.int p0), .val (.int p1), .val (.int p2), .val (.int (3 : Int32)), .val (.int q0), .val (.int q1), .val (.int q2), .val (.int t0), .val (.int t1), .val (.int t2), .val (.ref b13), .val (.ref b109), .unset, .unset, .unset] [(.int t0), (.int (0 : Int32)), (.ref b119), (.ref b119)])) _
      refine st123 _ ?_
      show Steps p.tables e below (T123.setTop (mkF m 226 #[.val (.int p0), .val (.int p1), .val (.int p2), .val (.int (3 : Int32)), .val (.int q0), .val (.int q1), .val (.int q2), .val (.int t0), .val (.int t1), .val (.int t2), .val (.ref b13), .val (.ref b109), .unset, .unset, .unset] [(.ref b119)])) _
      refine XS.dup X123.here hx rfl (hb hby at_226) rfl rfl ?_
      show Steps p.tables e below (T123.setTop (mkF m 227 #[.val (.int p0), .val (.int p1), .val (.int p2), .val (.int (3 : Int32)), .val (.int q0), .val (.int q1), .val (.int q2), .val (.int t0), .val (.int t1), .val (.int t2), .val (.ref b13), .val (.ref b109), .unset, .unset, .unset] [(.ref b119), (.ref b119)])) _
      refine XS.iconst X123.here hx rfl (hb hby at_227) ?_
      show Steps p.tables e below (T123.setTop (mkF m 228 #[.val (.int p0), .val (.int p1), .val (.int p2), .val (.int (3 : Int32)), .val (.int q0), .val (.int q1), .val (.int q2), .val (.int t0), .val (.int t1), .val (.int t2), .val (.ref b13), .val (.ref b109), .unset, .unset, .unset] [(.int (1 : Int32)), (.ref b119), (.ref b119)])) _
      refine XS.iload X123.here hx rfl (hb hby at_228) rfl ?_
      show Steps p.tables e below (T123.setTop (mkF m 230 #[.val (.int p0), .val (.int p1), .val (.int p2), .val (.int (3 : Int32)), .val (.int q0), .val (.int q1), .val (.int q2), .val (.int t0), .val (.int t1), .val (.int t2), .val (.ref b13), .val (.ref b109), .unset, .unset, .unset] [(.int t1), (.int (1 : Int32)), (.ref b119), (.ref b119)])) _
      refine st126 _ ?_
      show Steps p.tables e below (T126.setTop (mkF m 231 #[.val (.int p0), .val (.int p1), .val (.int p2), .val (.int (3 : Int32)), .val (.int q0), .val (.int q1), .val (.int q2), .val (.int t0), .val (.int t1), .val (.int t2), .val (.ref b13), .val (.ref b109), .unset, .unset, .unset] [(.ref b119)])) _
      refine XS.dup X126.here hx rfl (hb hby at_231) rfl rfl ?_
      show Steps p.tables e below (T126.setTop (mkF m 232 #[.val (.int p0), .val (.int p1), .val (.int p2), .val (.int (3 : Int32)), .val (.int q0), .val (.int q1), .val (.int q2), .val (.int t0), .val (.int t1), .val (.int t2), .val (.ref b13), .val (.ref b109), .unset, .unset, .unset] [(.ref b119), (.ref b119)])) _
      refine XS.iconst X126.here hx rfl (hb hby at_232) ?_
      show Steps p.tables e below (T126.setTop (mkF m 233 #[.val (.int p0), .val (.int p1), .val (.int p2), .val (.int (3 : Int32)), .val (.int q0), .val (.int q1), .val (.int q2), .val (.int t0), .val (.int t1), .val (.int t2), .val (.ref b13), .val (.ref b109), .unset, .unset, .unset] [(.int (2 : Int32)), (.ref b119), (.ref b119)])) _
      refine XS.iload X126.here hx rfl (hb hby at_233) rfl ?_
      show Steps p.tables e below (T126.setTop (mkF m 235 #[.val (.int p0), .val (.int p1), .val (.int p2), .val (.int (3 : Int32)), .val (.int q0), .val (.int q1), .val (.int q2), .val (.int t0), .val (.int t1), .val (.int t2), .val (.ref b13), .val (.ref b109), .unset, .unset, .unset] [(.int t2), (.int (2 : Int32)), (.ref b119), (.ref b119)])) _
      refine st129 _ ?_
      show Steps p.tables e below (T129.setTop (mkF m 236 #[.val (.int p0), .val (.int p1), .val (.int p2), .val (.int (3 : Int32)), .val (.int q0), .val (.int q1), .val (.int q2), .val (.int t0), .val (.int t1), .val (.int t2), .val (.ref b13), .val (.ref b109), .unset, .unset, .unset] [(.ref b119)])) _
      refine XS.astore X129.here hx rfl (hb hby at_236) rfl rfl (l' := #[.val (.int p0), .val (.int p1), .val (.int p2), .val (.int (3 : Int32)), .val (.int q0), .val (.int q1), .val (.int q2), .val (.int t0), .val (.int t1), .val (.int t2), .val (.ref b13), .val (.ref b109), .val (.ref b119), .unset, .unset]) rfl ?_
      show Steps p.tables e below (T129.setTop (mkF m 238 #[.val (.int p0), .val (.int p1), .val (.int p2), .val (.int (3 : Int32)), .val (.int q0), .val (.int q1), .val (.int q2), .val (.int t0), .val (.int t1), .val (.int t2), .val (.ref b13), .val (.ref b109), .val (.ref b119), .unset, .unset] [])) _
      refine XS.iconst X129.here hx rfl (hb hby at_238) ?_
      show Steps p.tables e below (T129.setTop (mkF m 239 #[.val (.int p0), .val (.int p1), .val (.int p2), .val (.int (3 : Int32)), .val (.int q0), .val (.int q1), .val (.int q2), .val (.int t0), .val (.int t1), .val (.int t2), .val (.ref b13), .val (.ref b109), .val (.ref b119), .unset, .unset] [(.int (1 : Int32))])) _
      refine XS.istore X129.here hx rfl (hb hby at_239) rfl (l' := #[.val (.int p0), .val (.int p1), .val (.int p2), .val (.int (3 : Int32)), .val (.int q0), .val (.int q1), .val (.int q2), .val (.int t0), .val (.int t1), .val (.int t2), .val (.ref b13), .val (.ref b109), .val (.ref b119), .val (.int (1 : Int32)), .unset]) rfl ?_
      show Steps p.tables e below (T129.setTop (mkF m 241 #[.val (.int p0), .val (.int p1), .val (.int p2), .val (.int (3 : Int32)), .val (.int q0), .val (.int q1), .val (.int q2), .val (.int t0), .val (.int t1), .val (.int t2), .val (.ref b13), .val (.ref b109), .val (.ref b119), .val (.int (1 : Int32)), .unset] [])) _
      refine XS.iloadN X129.here hx rfl (hb hby at_241) rfl ?_
      show Steps p.tables e below (T129.setTop (mkF m 242 #[.val (.int p0), .val (.int p1), .val (.int p2), .val (.int (3 : Int32)), .val (.int q0), .val (.int q1), .val (.int q2), .val (.int t0), .val (.int t1), .val (.int t2), .val (.ref b13), .val (.ref b109), .val (.ref b119), .val (.int (1 : Int32)), .unset] [(.int (3 : Int32))])) _
      refine XS.iconst X129.here hx rfl (hb hby at_242) ?_
      show Steps p.tables e below (T129.setTop (mkF m 243 #[.val (.int p0), .val (.int p1), .val (.int p2), .val (.int (3 : Int32)), .val (.int q0), .val (.int q1), .val (.int q2), .val (.int t0), .val (.int t1), .val (.int t2), .val (.ref b13), .val (.ref b109), .val (.ref b119), .val (.int (1 : Int32)), .unset] [(.int (1 : Int32)), (.int (3 : Int32))])) _
      refine XS.icmpNo X129.here hx rfl (hb hby at_243) rfl (flt (by decide)).1 ?_
      show Steps p.tables e below (T129.setTop (mkF m 246 #[.val (.int p0), .val (.int p1), .val (.int p2), .val (.int (3 : Int32)), .val (.int q0), .val (.int q1), .val (.int q2), .val (.int t0), .val (.int t1), .val (.int t2), .val (.ref b13), .val (.ref b109), .val (.ref b119), .val (.int (1 : Int32)), .unset] [])) _
      refine XS.aload X129.here hx rfl (hb hby at_246) rfl rfl ?_
      show Steps p.tables e below (T129.setTop (mkF m 248 #[.val (.int p0), .val (.int p1), .val (.int p2), .val (.int (3 : Int32)), .val (.int q0), .val (.int q1), .val (.int q2), .val (.int t0), .val (.int t1), .val (.int t2), .val (.ref b13), .val (.ref b109), .val (.ref b119), .val (.int (1 : Int32)), .unset] [(.ref b13)])) _
      refine XS.iload X129.here hx rfl (hb hby at_248) rfl ?_
      show Steps p.tables e below (T129.setTop (mkF m 250 #[.val (.int p0), .val (.int p1), .val (.int p2), .val (.int (3 : Int32)), .val (.int q0), .val (.int q1), .val (.int q2), .val (.int t0), .val (.int t1), .val (.int t2), .val (.ref b13), .val (.ref b109), .val (.ref b119), .val (.int (1 : Int32)), .unset] [(.int q0), (.ref b13)])) _
      refine X129.iaload hx (j := q0) (v := (.int (own_at [(p2 &&& (3 : Int32)), ((p2 >>> ((2 : Int32) &&& 31)) &&& (3 : Int32)), ((p2 >>> ((4 : Int32) &&& 31)) &&& (3 : Int32)), ((p2 >>> ((6 : Int32) &&& 31)) &&& (3 : Int32)), ((p2 >>> ((8 : Int32) &&& 31)) &&& (3 : Int32)), ((p2 >>> ((10 : Int32) &&& 31)) &&& (3 : Int32))] q0))) (by rw [e129]; exact Ara131.1) (State.isArrayOf_alike hZ.alike Ara131.2.1) Ara131.2.2 hin132 hat133 (g := (mkF m 250 #[.val (.int p0), .val (.int p1), .val (.int p2), .val (.int (3 : Int32)), .val (.int q0), .val (.int q1), .val (.int q2), .val (.int t0), .val (.int t1), .val (.int t2), .val (.ref b13), .val (.ref b109), .val (.ref b119), .val (.int (1 : Int32)), .unset] [(.int q0), (.ref b13)])) rfl rfl (hb hby at_250) _ ?_
      show Steps p.tables e below (T129.setTop (mkF m 251 #[.val (.int p0), .val (.int p1), .val (.int p2), .val (.int (3 : Int32)), .val (.int q0), .val (.int q1), .val (.int q2), .val (.int t0), .val (.int t1), .val (.int t2), .val (.ref b13), .val (.ref b109), .val (.ref b119), .val (.int (1 : Int32)), .unset] [(.int (own_at [(p2 &&& (3 : Int32)), ((p2 >>> ((2 : Int32) &&& 31)) &&& (3 : Int32)), ((p2 >>> ((4 : Int32) &&& 31)) &&& (3 : Int32)), ((p2 >>> ((6 : Int32) &&& 31)) &&& (3 : Int32)), ((p2 >>> ((8 : Int32) &&& 31)) &&& (3 : Int32)), ((p2 >>> ((10 : Int32) &&& 31)) &&& (3 : Int32))] q0))])) _
      refine XS.iload X129.here hx rfl (hb hby at_251) rfl ?_
      exact Steps.refl _
    have s136 : Steps p.tables e below (s₁.setTop (entryFrame m #[(.int p0), (.int p1), (.int p2)] maxLocals)) (T129.setTop (mkF m 259 #[.val (.int p0), .val (.int p1), .val (.int p2), .val (.int (3 : Int32)), .val (.int q0), .val (.int q1), .val (.int q2), .val (.int t0), .val (.int t1), .val (.int t2), .val (.ref b13), .val (.ref b109), .val (.ref b119), .val (.int (if (own_at [(p2 &&& (3 : Int32)), ((p2 >>> ((2 : Int32) &&& 31)) &&& (3 : Int32)), ((p2 >>> ((4 : Int32) &&& 31)) &&& (3 : Int32)), ((p2 >>> ((6 : Int32) &&& 31)) &&& (3 : Int32)), ((p2 >>> ((8 : Int32) &&& 31)) &&& (3 : Int32)), ((p2 >>> ((10 : Int32) &&& 31)) &&& (3 : Int32))] q0) = t0 then (1 : Int32) else (0 : Int32))), .unset] [])) := by
      by_cases hm135 : (own_at [(p2 &&& (3 : Int32)), ((p2 >>> ((2 : Int32) &&& 31)) &&& (3 : Int32)), ((p2 >>> ((4 : Int32) &&& 31)) &&& (3 : Int32)), ((p2 >>> ((6 : Int32) &&& 31)) &&& (3 : Int32)), ((p2 >>> ((8 : Int32) &&& 31)) &&& (3 : Int32)), ((p2 >>> ((10 : Int32) &&& 31)) &&& (3 : Int32))] q0) = t0
      · simp only [if_pos hm135]
        refine s134.trans ?_
        show Steps p.tables e below (T129.setTop (mkF m 253 #[.val (.int p0), .val (.int p1), .val (.int p2), .val (.int (3 : Int32)), .val (.int q0), .val (.int q1), .val (.int q2), .val (.int t0), .val (.int t1), .val (.int t2), .val (.ref b13), .val (.ref b109), .val (.ref b119), .val (.int (1 : Int32)), .unset] [(.int t0), (.int (own_at [(p2 &&& (3 : Int32)), ((p2 >>> ((2 : Int32) &&& 31)) &&& (3 : Int32)), ((p2 >>> ((4 : Int32) &&& 31)) &&& (3 : Int32)), ((p2 >>> ((6 : Int32) &&& 31)) &&& (3 : Int32)), ((p2 >>> ((8 : Int32) &&& 31)) &&& (3 : Int32)), ((p2 >>> ((10 : Int32) &&& 31)) &&& (3 : Int32))] q0))])) _
        refine XS.icmpYes X129.here hx rfl (pc0 := 253) (pc' := 259) rfl (hb hby at_253) rfl (teq hm135).1 (by decide) (by decide) ?_
        exact Steps.refl _
      · simp only [if_neg hm135]
        refine s134.trans ?_
        show Steps p.tables e below (T129.setTop (mkF m 253 #[.val (.int p0), .val (.int p1), .val (.int p2), .val (.int (3 : Int32)), .val (.int q0), .val (.int q1), .val (.int q2), .val (.int t0), .val (.int t1), .val (.int t2), .val (.ref b13), .val (.ref b109), .val (.ref b119), .val (.int (1 : Int32)), .unset] [(.int t0), (.int (own_at [(p2 &&& (3 : Int32)), ((p2 >>> ((2 : Int32) &&& 31)) &&& (3 : Int32)), ((p2 >>> ((4 : Int32) &&& 31)) &&& (3 : Int32)), ((p2 >>> ((6 : Int32) &&& 31)) &&& (3 : Int32)), ((p2 >>> ((8 : Int32) &&& 31)) &&& (3 : Int32)), ((p2 >>> ((10 : Int32) &&& 31)) &&& (3 : Int32))] q0))])) _
        refine XS.icmpNo X129.here hx rfl (hb hby at_253) rfl (feq hm135).1 ?_
        show Steps p.tables e below (T129.setTop (mkF m 256 #[.val (.int p0), .val (.int p1), .val (.int p2), .val (.int (3 : Int32)), .val (.int q0), .val (.int q1), .val (.int q2), .val (.int t0), .val (.int t1), .val (.int t2), .val (.ref b13), .val (.ref b109), .val (.ref b119), .val (.int (1 : Int32)), .unset] [])) _
        refine XS.iconst X129.here hx rfl (hb hby at_256) ?_
        show Steps p.tables e below (T129.setTop (mkF m 257 #[.val (.int p0), .val (.int p1), .val (.int p2), .val (.int (3 : Int32)), .val (.int q0), .val (.int q1), .val (.int q2), .val (.int t0), .val (.int t1), .val (.int t2), .val (.ref b13), .val (.ref b109), .val (.ref b119), .val (.int (1 : Int32)), .unset] [(.int (0 : Int32))])) _
        refine XS.istore X129.here hx rfl (hb hby at_257) rfl (l' := #[.val (.int p0), .val (.int p1), .val (.int p2), .val (.int (3 : Int32)), .val (.int q0), .val (.int q1), .val (.int q2), .val (.int t0), .val (.int t1), .val (.int t2), .val (.ref b13), .val (.ref b109), .val (.ref b119), .val (.int (0 : Int32)), .unset]) rfl ?_
        exact Steps.refl _
    obtain ⟨z0, hz0⟩ : ∃ z, z = (if (own_at [(p2 &&& (3 : Int32)), ((p2 >>> ((2 : Int32) &&& 31)) &&& (3 : Int32)), ((p2 >>> ((4 : Int32) &&& 31)) &&& (3 : Int32)), ((p2 >>> ((6 : Int32) &&& 31)) &&& (3 : Int32)), ((p2 >>> ((8 : Int32) &&& 31)) &&& (3 : Int32)), ((p2 >>> ((10 : Int32) &&& 31)) &&& (3 : Int32))] q0) = t0 then (1 : Int32) else (0 : Int32)) := ⟨_, rfl⟩
    rw [← hz0] at s136
    have hin137 : ¬ (q1 < 0 ∨ cla131.slots.size ≤ (q1).toNatClampNeg) := inb_of Sa131 (own_rm0_10 p0 q0 q1 hq0 hq1)
    have hat138 : cla131.slots[(q1).toNatClampNeg]? = some (.int (own_at [(p2 &&& (3 : Int32)), ((p2 >>> ((2 : Int32) &&& 31)) &&& (3 : Int32)), ((p2 >>> ((4 : Int32) &&& 31)) &&& (3 : Int32)), ((p2 >>> ((6 : Int32) &&& 31)) &&& (3 : Int32)), ((p2 >>> ((8 : Int32) &&& 31)) &&& (3 : Int32)), ((p2 >>> ((10 : Int32) &&& 31)) &&& (3 : Int32))] q1)) := Has.at Ha131 hin137 (own_getD [(p2 &&& (3 : Int32)), ((p2 >>> ((2 : Int32) &&& 31)) &&& (3 : Int32)), ((p2 >>> ((4 : Int32) &&& 31)) &&& (3 : Int32)), ((p2 >>> ((6 : Int32) &&& 31)) &&& (3 : Int32)), ((p2 >>> ((8 : Int32) &&& 31)) &&& (3 : Int32)), ((p2 >>> ((10 : Int32) &&& 31)) &&& (3 : Int32))] _)
    have s139 : Steps p.tables e below (s₁.setTop (entryFrame m #[(.int p0), (.int p1), (.int p2)] maxLocals)) (T129.setTop (mkF m 271 #[.val (.int p0), .val (.int p1), .val (.int p2), .val (.int (3 : Int32)), .val (.int q0), .val (.int q1), .val (.int q2), .val (.int t0), .val (.int t1), .val (.int t2), .val (.ref b13), .val (.ref b109), .val (.ref b119), .val (.int z0), .unset] [(.int t1), (.int (own_at [(p2 &&& (3 : Int32)), ((p2 >>> ((2 : Int32) &&& 31)) &&& (3 : Int32)), ((p2 >>> ((4 : Int32) &&& 31)) &&& (3 : Int32)), ((p2 >>> ((6 : Int32) &&& 31)) &&& (3 : Int32)), ((p2 >>> ((8 : Int32) &&& 31)) &&& (3 : Int32)), ((p2 >>> ((10 : Int32) &&& 31)) &&& (3 : Int32))] q1))])) := by
      refine s136.trans ?_
      show Steps p.tables e below (T129.setTop (mkF m 259 #[.val (.int p0), .val (.int p1), .val (.int p2), .val (.int (3 : Int32)), .val (.int q0), .val (.int q1), .val (.int q2), .val (.int t0), .val (.int t1), .val (.int t2), .val (.ref b13), .val (.ref b109), .val (.ref b119), .val (.int z0), .unset] [])) _
      refine XS.iloadN X129.here hx rfl (hb hby at_259) rfl ?_
      show Steps p.tables e below (T129.setTop (mkF m 260 #[.val (.int p0), .val (.int p1), .val (.int p2), .val (.int (3 : Int32)), .val (.int q0), .val (.int q1), .val (.int q2), .val (.int t0), .val (.int t1), .val (.int t2), .val (.ref b13), .val (.ref b109), .val (.ref b119), .val (.int z0), .unset] [(.int (3 : Int32))])) _
      refine XS.iconst X129.here hx rfl (hb hby at_260) ?_
      show Steps p.tables e below (T129.setTop (mkF m 261 #[.val (.int p0), .val (.int p1), .val (.int p2), .val (.int (3 : Int32)), .val (.int q0), .val (.int q1), .val (.int q2), .val (.int t0), .val (.int t1), .val (.int t2), .val (.ref b13), .val (.ref b109), .val (.ref b119), .val (.int z0), .unset] [(.int (2 : Int32)), (.int (3 : Int32))])) _
      refine XS.icmpNo X129.here hx rfl (hb hby at_261) rfl (flt (by decide)).1 ?_
      show Steps p.tables e below (T129.setTop (mkF m 264 #[.val (.int p0), .val (.int p1), .val (.int p2), .val (.int (3 : Int32)), .val (.int q0), .val (.int q1), .val (.int q2), .val (.int t0), .val (.int t1), .val (.int t2), .val (.ref b13), .val (.ref b109), .val (.ref b119), .val (.int z0), .unset] [])) _
      refine XS.aload X129.here hx rfl (hb hby at_264) rfl rfl ?_
      show Steps p.tables e below (T129.setTop (mkF m 266 #[.val (.int p0), .val (.int p1), .val (.int p2), .val (.int (3 : Int32)), .val (.int q0), .val (.int q1), .val (.int q2), .val (.int t0), .val (.int t1), .val (.int t2), .val (.ref b13), .val (.ref b109), .val (.ref b119), .val (.int z0), .unset] [(.ref b13)])) _
      refine XS.iload X129.here hx rfl (hb hby at_266) rfl ?_
      show Steps p.tables e below (T129.setTop (mkF m 268 #[.val (.int p0), .val (.int p1), .val (.int p2), .val (.int (3 : Int32)), .val (.int q0), .val (.int q1), .val (.int q2), .val (.int t0), .val (.int t1), .val (.int t2), .val (.ref b13), .val (.ref b109), .val (.ref b119), .val (.int z0), .unset] [(.int q1), (.ref b13)])) _
      refine X129.iaload hx (j := q1) (v := (.int (own_at [(p2 &&& (3 : Int32)), ((p2 >>> ((2 : Int32) &&& 31)) &&& (3 : Int32)), ((p2 >>> ((4 : Int32) &&& 31)) &&& (3 : Int32)), ((p2 >>> ((6 : Int32) &&& 31)) &&& (3 : Int32)), ((p2 >>> ((8 : Int32) &&& 31)) &&& (3 : Int32)), ((p2 >>> ((10 : Int32) &&& 31)) &&& (3 : Int32))] q1))) (by rw [e129]; exact Ara131.1) (State.isArrayOf_alike hZ.alike Ara131.2.1) Ara131.2.2 hin137 hat138 (g := (mkF m 268 #[.val (.int p0), .val (.int p1), .val (.int p2), .val (.int (3 : Int32)), .val (.int q0), .val (.int q1), .val (.int q2), .val (.int t0), .val (.int t1), .val (.int t2), .val (.ref b13), .val (.ref b109), .val (.ref b119), .val (.int z0), .unset] [(.int q1), (.ref b13)])) rfl rfl (hb hby at_268) _ ?_
      show Steps p.tables e below (T129.setTop (mkF m 269 #[.val (.int p0), .val (.int p1), .val (.int p2), .val (.int (3 : Int32)), .val (.int q0), .val (.int q1), .val (.int q2), .val (.int t0), .val (.int t1), .val (.int t2), .val (.ref b13), .val (.ref b109), .val (.ref b119), .val (.int z0), .unset] [(.int (own_at [(p2 &&& (3 : Int32)), ((p2 >>> ((2 : Int32) &&& 31)) &&& (3 : Int32)), ((p2 >>> ((4 : Int32) &&& 31)) &&& (3 : Int32)), ((p2 >>> ((6 : Int32) &&& 31)) &&& (3 : Int32)), ((p2 >>> ((8 : Int32) &&& 31)) &&& (3 : Int32)), ((p2 >>> ((10 : Int32) &&& 31)) &&& (3 : Int32))] q1))])) _
      refine XS.iload X129.here hx rfl (hb hby at_269) rfl ?_
      exact Steps.refl _
    have s141 : Steps p.tables e below (s₁.setTop (entryFrame m #[(.int p0), (.int p1), (.int p2)] maxLocals)) (T129.setTop (mkF m 277 #[.val (.int p0), .val (.int p1), .val (.int p2), .val (.int (3 : Int32)), .val (.int q0), .val (.int q1), .val (.int q2), .val (.int t0), .val (.int t1), .val (.int t2), .val (.ref b13), .val (.ref b109), .val (.ref b119), .val (.int (if (own_at [(p2 &&& (3 : Int32)), ((p2 >>> ((2 : Int32) &&& 31)) &&& (3 : Int32)), ((p2 >>> ((4 : Int32) &&& 31)) &&& (3 : Int32)), ((p2 >>> ((6 : Int32) &&& 31)) &&& (3 : Int32)), ((p2 >>> ((8 : Int32) &&& 31)) &&& (3 : Int32)), ((p2 >>> ((10 : Int32) &&& 31)) &&& (3 : Int32))] q1) = t1 then z0 else (0 : Int32))), .unset] [])) := by
      by_cases hm140 : (own_at [(p2 &&& (3 : Int32)), ((p2 >>> ((2 : Int32) &&& 31)) &&& (3 : Int32)), ((p2 >>> ((4 : Int32) &&& 31)) &&& (3 : Int32)), ((p2 >>> ((6 : Int32) &&& 31)) &&& (3 : Int32)), ((p2 >>> ((8 : Int32) &&& 31)) &&& (3 : Int32)), ((p2 >>> ((10 : Int32) &&& 31)) &&& (3 : Int32))] q1) = t1
      · simp only [if_pos hm140]
        refine s139.trans ?_
        show Steps p.tables e below (T129.setTop (mkF m 271 #[.val (.int p0), .val (.int p1), .val (.int p2), .val (.int (3 : Int32)), .val (.int q0), .val (.int q1), .val (.int q2), .val (.int t0), .val (.int t1), .val (.int t2), .val (.ref b13), .val (.ref b109), .val (.ref b119), .val (.int z0), .unset] [(.int t1), (.int (own_at [(p2 &&& (3 : Int32)), ((p2 >>> ((2 : Int32) &&& 31)) &&& (3 : Int32)), ((p2 >>> ((4 : Int32) &&& 31)) &&& (3 : Int32)), ((p2 >>> ((6 : Int32) &&& 31)) &&& (3 : Int32)), ((p2 >>> ((8 : Int32) &&& 31)) &&& (3 : Int32)), ((p2 >>> ((10 : Int32) &&& 31)) &&& (3 : Int32))] q1))])) _
        refine XS.icmpYes X129.here hx rfl (pc0 := 271) (pc' := 277) rfl (hb hby at_271) rfl (teq hm140).1 (by decide) (by decide) ?_
        exact Steps.refl _
      · simp only [if_neg hm140]
        refine s139.trans ?_
        show Steps p.tables e below (T129.setTop (mkF m 271 #[.val (.int p0), .val (.int p1), .val (.int p2), .val (.int (3 : Int32)), .val (.int q0), .val (.int q1), .val (.int q2), .val (.int t0), .val (.int t1), .val (.int t2), .val (.ref b13), .val (.ref b109), .val (.ref b119), .val (.int z0), .unset] [(.int t1), (.int (own_at [(p2 &&& (3 : Int32)), ((p2 >>> ((2 : Int32) &&& 31)) &&& (3 : Int32)), ((p2 >>> ((4 : Int32) &&& 31)) &&& (3 : Int32)), ((p2 >>> ((6 : Int32) &&& 31)) &&& (3 : Int32)), ((p2 >>> ((8 : Int32) &&& 31)) &&& (3 : Int32)), ((p2 >>> ((10 : Int32) &&& 31)) &&& (3 : Int32))] q1))])) _
        refine XS.icmpNo X129.here hx rfl (hb hby at_271) rfl (feq hm140).1 ?_
        show Steps p.tables e below (T129.setTop (mkF m 274 #[.val (.int p0), .val (.int p1), .val (.int p2), .val (.int (3 : Int32)), .val (.int q0), .val (.int q1), .val (.int q2), .val (.int t0), .val (.int t1), .val (.int t2), .val (.ref b13), .val (.ref b109), .val (.ref b119), .val (.int z0), .unset] [])) _
        refine XS.iconst X129.here hx rfl (hb hby at_274) ?_
        show Steps p.tables e below (T129.setTop (mkF m 275 #[.val (.int p0), .val (.int p1), .val (.int p2), .val (.int (3 : Int32)), .val (.int q0), .val (.int q1), .val (.int q2), .val (.int t0), .val (.int t1), .val (.int t2), .val (.ref b13), .val (.ref b109), .val (.ref b119), .val (.int z0), .unset] [(.int (0 : Int32))])) _
        refine XS.istore X129.here hx rfl (hb hby at_275) rfl (l' := #[.val (.int p0), .val (.int p1), .val (.int p2), .val (.int (3 : Int32)), .val (.int q0), .val (.int q1), .val (.int q2), .val (.int t0), .val (.int t1), .val (.int t2), .val (.ref b13), .val (.ref b109), .val (.ref b119), .val (.int (0 : Int32)), .unset]) rfl ?_
        exact Steps.refl _
    obtain ⟨z1, hz1⟩ : ∃ z, z = (if (own_at [(p2 &&& (3 : Int32)), ((p2 >>> ((2 : Int32) &&& 31)) &&& (3 : Int32)), ((p2 >>> ((4 : Int32) &&& 31)) &&& (3 : Int32)), ((p2 >>> ((6 : Int32) &&& 31)) &&& (3 : Int32)), ((p2 >>> ((8 : Int32) &&& 31)) &&& (3 : Int32)), ((p2 >>> ((10 : Int32) &&& 31)) &&& (3 : Int32))] q1) = t1 then z0 else (0 : Int32)) := ⟨_, rfl⟩
    rw [← hz1] at s141
    have hin142 : ¬ (q2 < 0 ∨ cla131.slots.size ≤ (q2).toNatClampNeg) := inb_of Sa131 (own_rm0_11 p0 q0 q1 q2 hq0 hq1 hq2)
    have hat143 : cla131.slots[(q2).toNatClampNeg]? = some (.int (own_at [(p2 &&& (3 : Int32)), ((p2 >>> ((2 : Int32) &&& 31)) &&& (3 : Int32)), ((p2 >>> ((4 : Int32) &&& 31)) &&& (3 : Int32)), ((p2 >>> ((6 : Int32) &&& 31)) &&& (3 : Int32)), ((p2 >>> ((8 : Int32) &&& 31)) &&& (3 : Int32)), ((p2 >>> ((10 : Int32) &&& 31)) &&& (3 : Int32))] q2)) := Has.at Ha131 hin142 (own_getD [(p2 &&& (3 : Int32)), ((p2 >>> ((2 : Int32) &&& 31)) &&& (3 : Int32)), ((p2 >>> ((4 : Int32) &&& 31)) &&& (3 : Int32)), ((p2 >>> ((6 : Int32) &&& 31)) &&& (3 : Int32)), ((p2 >>> ((8 : Int32) &&& 31)) &&& (3 : Int32)), ((p2 >>> ((10 : Int32) &&& 31)) &&& (3 : Int32))] _)
    have s144 : Steps p.tables e below (s₁.setTop (entryFrame m #[(.int p0), (.int p1), (.int p2)] maxLocals)) (T129.setTop (mkF m 289 #[.val (.int p0), .val (.int p1), .val (.int p2), .val (.int (3 : Int32)), .val (.int q0), .val (.int q1), .val (.int q2), .val (.int t0), .val (.int t1), .val (.int t2), .val (.ref b13), .val (.ref b109), .val (.ref b119), .val (.int z1), .unset] [(.int t2), (.int (own_at [(p2 &&& (3 : Int32)), ((p2 >>> ((2 : Int32) &&& 31)) &&& (3 : Int32)), ((p2 >>> ((4 : Int32) &&& 31)) &&& (3 : Int32)), ((p2 >>> ((6 : Int32) &&& 31)) &&& (3 : Int32)), ((p2 >>> ((8 : Int32) &&& 31)) &&& (3 : Int32)), ((p2 >>> ((10 : Int32) &&& 31)) &&& (3 : Int32))] q2))])) := by
      refine s141.trans ?_
      show Steps p.tables e below (T129.setTop (mkF m 277 #[.val (.int p0), .val (.int p1), .val (.int p2), .val (.int (3 : Int32)), .val (.int q0), .val (.int q1), .val (.int q2), .val (.int t0), .val (.int t1), .val (.int t2), .val (.ref b13), .val (.ref b109), .val (.ref b119), .val (.int z1), .unset] [])) _
      refine XS.iloadN X129.here hx rfl (hb hby at_277) rfl ?_
      show Steps p.tables e below (T129.setTop (mkF m 278 #[.val (.int p0), .val (.int p1), .val (.int p2), .val (.int (3 : Int32)), .val (.int q0), .val (.int q1), .val (.int q2), .val (.int t0), .val (.int t1), .val (.int t2), .val (.ref b13), .val (.ref b109), .val (.ref b119), .val (.int z1), .unset] [(.int (3 : Int32))])) _
      refine XS.iconst X129.here hx rfl (hb hby at_278) ?_
      show Steps p.tables e below (T129.setTop (mkF m 279 #[.val (.int p0), .val (.int p1), .val (.int p2), .val (.int (3 : Int32)), .val (.int q0), .val (.int q1), .val (.int q2), .val (.int t0), .val (.int t1), .val (.int t2), .val (.ref b13), .val (.ref b109), .val (.ref b119), .val (.int z1), .unset] [(.int (3 : Int32)), (.int (3 : Int32))])) _
      refine XS.icmpNo X129.here hx rfl (hb hby at_279) rfl (flt (by decide)).1 ?_
      show Steps p.tables e below (T129.setTop (mkF m 282 #[.val (.int p0), .val (.int p1), .val (.int p2), .val (.int (3 : Int32)), .val (.int q0), .val (.int q1), .val (.int q2), .val (.int t0), .val (.int t1), .val (.int t2), .val (.ref b13), .val (.ref b109), .val (.ref b119), .val (.int z1), .unset] [])) _
      refine XS.aload X129.here hx rfl (hb hby at_282) rfl rfl ?_
      show Steps p.tables e below (T129.setTop (mkF m 284 #[.val (.int p0), .val (.int p1), .val (.int p2), .val (.int (3 : Int32)), .val (.int q0), .val (.int q1), .val (.int q2), .val (.int t0), .val (.int t1), .val (.int t2), .val (.ref b13), .val (.ref b109), .val (.ref b119), .val (.int z1), .unset] [(.ref b13)])) _
      refine XS.iload X129.here hx rfl (hb hby at_284) rfl ?_
      show Steps p.tables e below (T129.setTop (mkF m 286 #[.val (.int p0), .val (.int p1), .val (.int p2), .val (.int (3 : Int32)), .val (.int q0), .val (.int q1), .val (.int q2), .val (.int t0), .val (.int t1), .val (.int t2), .val (.ref b13), .val (.ref b109), .val (.ref b119), .val (.int z1), .unset] [(.int q2), (.ref b13)])) _
      refine X129.iaload hx (j := q2) (v := (.int (own_at [(p2 &&& (3 : Int32)), ((p2 >>> ((2 : Int32) &&& 31)) &&& (3 : Int32)), ((p2 >>> ((4 : Int32) &&& 31)) &&& (3 : Int32)), ((p2 >>> ((6 : Int32) &&& 31)) &&& (3 : Int32)), ((p2 >>> ((8 : Int32) &&& 31)) &&& (3 : Int32)), ((p2 >>> ((10 : Int32) &&& 31)) &&& (3 : Int32))] q2))) (by rw [e129]; exact Ara131.1) (State.isArrayOf_alike hZ.alike Ara131.2.1) Ara131.2.2 hin142 hat143 (g := (mkF m 286 #[.val (.int p0), .val (.int p1), .val (.int p2), .val (.int (3 : Int32)), .val (.int q0), .val (.int q1), .val (.int q2), .val (.int t0), .val (.int t1), .val (.int t2), .val (.ref b13), .val (.ref b109), .val (.ref b119), .val (.int z1), .unset] [(.int q2), (.ref b13)])) rfl rfl (hb hby at_286) _ ?_
      show Steps p.tables e below (T129.setTop (mkF m 287 #[.val (.int p0), .val (.int p1), .val (.int p2), .val (.int (3 : Int32)), .val (.int q0), .val (.int q1), .val (.int q2), .val (.int t0), .val (.int t1), .val (.int t2), .val (.ref b13), .val (.ref b109), .val (.ref b119), .val (.int z1), .unset] [(.int (own_at [(p2 &&& (3 : Int32)), ((p2 >>> ((2 : Int32) &&& 31)) &&& (3 : Int32)), ((p2 >>> ((4 : Int32) &&& 31)) &&& (3 : Int32)), ((p2 >>> ((6 : Int32) &&& 31)) &&& (3 : Int32)), ((p2 >>> ((8 : Int32) &&& 31)) &&& (3 : Int32)), ((p2 >>> ((10 : Int32) &&& 31)) &&& (3 : Int32))] q2))])) _
      refine XS.iload X129.here hx rfl (hb hby at_287) rfl ?_
      exact Steps.refl _
    have s146 : Steps p.tables e below (s₁.setTop (entryFrame m #[(.int p0), (.int p1), (.int p2)] maxLocals)) (T129.setTop (mkF m 295 #[.val (.int p0), .val (.int p1), .val (.int p2), .val (.int (3 : Int32)), .val (.int q0), .val (.int q1), .val (.int q2), .val (.int t0), .val (.int t1), .val (.int t2), .val (.ref b13), .val (.ref b109), .val (.ref b119), .val (.int (if (own_at [(p2 &&& (3 : Int32)), ((p2 >>> ((2 : Int32) &&& 31)) &&& (3 : Int32)), ((p2 >>> ((4 : Int32) &&& 31)) &&& (3 : Int32)), ((p2 >>> ((6 : Int32) &&& 31)) &&& (3 : Int32)), ((p2 >>> ((8 : Int32) &&& 31)) &&& (3 : Int32)), ((p2 >>> ((10 : Int32) &&& 31)) &&& (3 : Int32))] q2) = t2 then z1 else (0 : Int32))), .unset] [])) := by
      by_cases hm145 : (own_at [(p2 &&& (3 : Int32)), ((p2 >>> ((2 : Int32) &&& 31)) &&& (3 : Int32)), ((p2 >>> ((4 : Int32) &&& 31)) &&& (3 : Int32)), ((p2 >>> ((6 : Int32) &&& 31)) &&& (3 : Int32)), ((p2 >>> ((8 : Int32) &&& 31)) &&& (3 : Int32)), ((p2 >>> ((10 : Int32) &&& 31)) &&& (3 : Int32))] q2) = t2
      · simp only [if_pos hm145]
        refine s144.trans ?_
        show Steps p.tables e below (T129.setTop (mkF m 289 #[.val (.int p0), .val (.int p1), .val (.int p2), .val (.int (3 : Int32)), .val (.int q0), .val (.int q1), .val (.int q2), .val (.int t0), .val (.int t1), .val (.int t2), .val (.ref b13), .val (.ref b109), .val (.ref b119), .val (.int z1), .unset] [(.int t2), (.int (own_at [(p2 &&& (3 : Int32)), ((p2 >>> ((2 : Int32) &&& 31)) &&& (3 : Int32)), ((p2 >>> ((4 : Int32) &&& 31)) &&& (3 : Int32)), ((p2 >>> ((6 : Int32) &&& 31)) &&& (3 : Int32)), ((p2 >>> ((8 : Int32) &&& 31)) &&& (3 : Int32)), ((p2 >>> ((10 : Int32) &&& 31)) &&& (3 : Int32))] q2))])) _
        refine XS.icmpYes X129.here hx rfl (pc0 := 289) (pc' := 295) rfl (hb hby at_289) rfl (teq hm145).1 (by decide) (by decide) ?_
        exact Steps.refl _
      · simp only [if_neg hm145]
        refine s144.trans ?_
        show Steps p.tables e below (T129.setTop (mkF m 289 #[.val (.int p0), .val (.int p1), .val (.int p2), .val (.int (3 : Int32)), .val (.int q0), .val (.int q1), .val (.int q2), .val (.int t0), .val (.int t1), .val (.int t2), .val (.ref b13), .val (.ref b109), .val (.ref b119), .val (.int z1), .unset] [(.int t2), (.int (own_at [(p2 &&& (3 : Int32)), ((p2 >>> ((2 : Int32) &&& 31)) &&& (3 : Int32)), ((p2 >>> ((4 : Int32) &&& 31)) &&& (3 : Int32)), ((p2 >>> ((6 : Int32) &&& 31)) &&& (3 : Int32)), ((p2 >>> ((8 : Int32) &&& 31)) &&& (3 : Int32)), ((p2 >>> ((10 : Int32) &&& 31)) &&& (3 : Int32))] q2))])) _
        refine XS.icmpNo X129.here hx rfl (hb hby at_289) rfl (feq hm145).1 ?_
        show Steps p.tables e below (T129.setTop (mkF m 292 #[.val (.int p0), .val (.int p1), .val (.int p2), .val (.int (3 : Int32)), .val (.int q0), .val (.int q1), .val (.int q2), .val (.int t0), .val (.int t1), .val (.int t2), .val (.ref b13), .val (.ref b109), .val (.ref b119), .val (.int z1), .unset] [])) _
        refine XS.iconst X129.here hx rfl (hb hby at_292) ?_
        show Steps p.tables e below (T129.setTop (mkF m 293 #[.val (.int p0), .val (.int p1), .val (.int p2), .val (.int (3 : Int32)), .val (.int q0), .val (.int q1), .val (.int q2), .val (.int t0), .val (.int t1), .val (.int t2), .val (.ref b13), .val (.ref b109), .val (.ref b119), .val (.int z1), .unset] [(.int (0 : Int32))])) _
        refine XS.istore X129.here hx rfl (hb hby at_293) rfl (l' := #[.val (.int p0), .val (.int p1), .val (.int p2), .val (.int (3 : Int32)), .val (.int q0), .val (.int q1), .val (.int q2), .val (.int t0), .val (.int t1), .val (.int t2), .val (.ref b13), .val (.ref b109), .val (.ref b119), .val (.int (0 : Int32)), .unset]) rfl ?_
        exact Steps.refl _
    obtain ⟨z2, hz2⟩ : ∃ z, z = (if (own_at [(p2 &&& (3 : Int32)), ((p2 >>> ((2 : Int32) &&& 31)) &&& (3 : Int32)), ((p2 >>> ((4 : Int32) &&& 31)) &&& (3 : Int32)), ((p2 >>> ((6 : Int32) &&& 31)) &&& (3 : Int32)), ((p2 >>> ((8 : Int32) &&& 31)) &&& (3 : Int32)), ((p2 >>> ((10 : Int32) &&& 31)) &&& (3 : Int32))] q2) = t2 then z1 else (0 : Int32)) := ⟨_, rfl⟩
    rw [← hz2] at s146
    obtain ⟨T147, h147, X147, e147, E147, A147, D147, -, st147⟩ := newO X129 hx hZ hown (hw _ (List.mem_of_getElem? (i := 1) rfl)) (hw _ (List.mem_of_getElem? (i := 2) rfl)) (hw _ (List.mem_of_getElem? (i := 3) rfl)) e129 (g := (mkF m 295 #[.val (.int p0), .val (.int p1), .val (.int p2), .val (.int (3 : Int32)), .val (.int q0), .val (.int q1), .val (.int q2), .val (.int t0), .val (.int t1), .val (.int t2), .val (.ref b13), .val (.ref b109), .val (.ref b119), .val (.int z2), .unset] [])) rfl (hb hby at_295) (by decide) (by decide)
    obtain ⟨b147, g147⟩ : ∃ z, z = h129.size := ⟨_, rfl⟩
    rw [← g147] at A147 D147 st147
    have ne_b13_b147 : b13 ≠ b147 := Nat.ne_of_lt (Nat.lt_of_lt_of_le c130.lt (Nat.le_of_eq g147.symm))
    have c148 : Arv Z h129 b109 k109 .int (3 : Int32) [(.int q0), (.int q1), (.int q2)] (.int (0 : Int32)) := ((((V118.ext E119).other W123 ne_b109_b119).other W126 ne_b109_b119).other W129 ne_b109_b119)
    have ne_b109_b147 : b109 ≠ b147 := Nat.ne_of_lt (Nat.lt_of_lt_of_le c148.lt (Nat.le_of_eq g147.symm))
    have ne_b119_b147 : b119 ≠ b147 := Nat.ne_of_lt (Nat.lt_of_lt_of_le V129.lt (Nat.le_of_eq g147.symm))
    have g_b147 : n0 ≤ b147 := Nat.le_trans (Nat.le_of_eq O129.1.symm) (Nat.le_trans O129.2.1 (Nat.le_of_eq g147.symm))
    have O147 := O129.ext E147
    have F147_positions : Fld Z h147 b147 "com/example/odds_on_axioms/oddsonaxioms/network/Condition" "positions" "[I" .null := D147 (Or.inr (hw _ (List.mem_of_getElem? (i := 11) rfl))) (ty := (.array .int)) (by decide)
    have F147_states : Fld Z h147 b147 "com/example/odds_on_axioms/oddsonaxioms/network/Condition" "states" "[I" .null := D147 (Or.inr (hw _ (List.mem_of_getElem? (i := 13) rfl))) (ty := (.array .int)) (by decide)
    obtain ⟨_, _, ⟨T149, L149, k149, n149⟩, -, X149, ⟨Lc149, hQ149, l149, y149, z149⟩, st149⟩ := X147.specialBack hx (y := (⟨"com/example/odds_on_axioms/oddsonaxioms/network/Condition", "<init>", "([I[I)V"⟩ : MethodName)) rfl hown (mvT hZ (hw _ (List.mem_of_getElem? (i := 4) rfl))) (mvT hZ (hw _ (List.mem_of_getElem? (i := 5) rfl))) (mvT hZ (hw _ (List.mem_of_getElem? (i := 6) rfl))) (by decide) (backOf (W := 1) (rm1 l Z a0 hw [] b147 b109 b119 h147 n0 O147 A147 F147_positions F147_states g_b147) hZ (hw _ (List.mem_of_getElem? (i := 6) rfl)) (hw _ (List.mem_of_getElem? (i := 3) rfl)) (by decide) (by decide)) (g := (mkF m 303 #[.val (.int p0), .val (.int p1), .val (.int p2), .val (.int (3 : Int32)), .val (.int q0), .val (.int q1), .val (.int q2), .val (.int t0), .val (.int t1), .val (.int t2), .val (.ref b13), .val (.ref b109), .val (.ref b119), .val (.int z2), .unset] [(.ref b119), (.ref b109), (.ref b147), (.ref b147)])) rfl (by rw [hml]; rfl) (Steps.refl _) (a := b147) (argsL := [(.ref b109), (.ref b119)]) (rest := [(.ref b147)]) (lenOf pd_rm0_0 rfl) rfl (by show 2 * 0 + _ ≤ _; exact Nat.le_of_eq rfl) (hb hby at_303) (fun _ _ => ⟨rfl, e147, (by decide : 4 + 0 ≤ _), (by decide : 14 + 0 ≤ _)⟩)
    dsimp only [Pt.U, Pt.locs, Pt.cells, Pt.slots] at X149 l149 y149 z149 st149 hQ149
    subst l149 y149 z149
    obtain ⟨rfl, Nq149, Kc149, f149_0, f149_1, f149_2⟩ := hQ149
    have N149 := Fr.app N129 Nq149
    have O149 := O147.keep Kc149 (allS g_b147 all0)
    have c150 : Arv Z T149.heap b109 k109 .int (3 : Int32) [(.int q0), (.int q1), (.int q2)] (.int (0 : Int32)) := ((c148.ext E147).keep Kc149 (ninS ne_b109_b147 nin0))
    have c151 : Arv Z T149.heap b119 k119 .int (3 : Int32) [(.int t0), (.int t1), (.int t2)] (.int (0 : Int32)) := ((V129.ext E147).keep Kc149 (ninS ne_b119_b147 nin0))
    have c152 : Arv Z T149.heap b13 k13 .int (6 : Int32) [(.int (p2 &&& (3 : Int32))), (.int ((p2 >>> ((2 : Int32) &&& 31)) &&& (3 : Int32))), (.int ((p2 >>> ((4 : Int32) &&& 31)) &&& (3 : Int32))), (.int ((p2 >>> ((6 : Int32) &&& 31)) &&& (3 : Int32))), (.int ((p2 >>> ((8 : Int32) &&& 31)) &&& (3 : Int32))), (.int ((p2 >>> ((10 : Int32) &&& 31)) &&& (3 : Int32)))] (.int (0 : Int32)) := ((c130.ext E147).keep Kc149 (ninS ne_b13_b147 nin0))
    obtain ⟨cq153, kq153, q153a, q153b, q153c⟩ := isOf hZ (rfl : T149.heap = T149.heap) f149_0
    obtain ⟨_, _, ⟨T153, L153, k153, n153⟩, -, X153, ⟨Lc153, hQ153, l153, y153, z153⟩, st153⟩ := X149.virtualBack hx (y := (⟨"com/example/odds_on_axioms/oddsonaxioms/network/Condition", "holdsIn", "([I)Z"⟩ : MethodName)) (z := (⟨"com/example/odds_on_axioms/oddsonaxioms/network/Condition", "holdsIn", "([I)Z"⟩ : MethodName)) hown (mvT hZ (hw _ (List.mem_of_getElem? (i := 14) rfl))) (mvT hZ (hw _ (List.mem_of_getElem? (i := 15) rfl))) (notFace_of_selects (args := #[]) (mvT hZ (hw _ (List.mem_of_getElem? (i := 17) rfl)))) (mvT hZ (hw _ (List.mem_of_getElem? (i := 17) rfl))) (mvT hZ (hw _ (List.mem_of_getElem? (i := 16) rfl))) (by decide) (backOf (W := 0) (rmh3 l Z a0 hw [] b147 b13 b109 b119 k109 k119 k13 q0 q1 q2 t0 t1 t2 (p2 &&& (3 : Int32)) ((p2 >>> ((2 : Int32) &&& 31)) &&& (3 : Int32)) ((p2 >>> ((4 : Int32) &&& 31)) &&& (3 : Int32)) ((p2 >>> ((6 : Int32) &&& 31)) &&& (3 : Int32)) ((p2 >>> ((8 : Int32) &&& 31)) &&& (3 : Int32)) ((p2 >>> ((10 : Int32) &&& 31)) &&& (3 : Int32)) T149.heap n0 O149 f149_1 f149_2 c150 c151 c152 (own_rm0_12 p0 q0 hq0) (own_rm0_13 p0 q0 q1 hq0 hq1) (own_rm0_14 p0 q0 q1 q2 hq0 hq1 hq2)) hZ (hw _ (List.mem_of_getElem? (i := 18) rfl)) (hw _ (List.mem_of_getElem? (i := 3) rfl)) (by decide) (by decide)) q153a q153c (g := (mkF m 312 #[.val (.int p0), .val (.int p1), .val (.int p2), .val (.int (3 : Int32)), .val (.int q0), .val (.int q1), .val (.int q2), .val (.int t0), .val (.int t1), .val (.int t2), .val (.ref b13), .val (.ref b109), .val (.ref b119), .val (.int z2), .val (.ref b147)] [(.ref b13), (.ref b147)])) rfl (by rw [hml]; rfl) (Steps.refl _) (argsL := [(.ref b13)]) (rest := []) (lenOf pd_rm0_1 rfl) rfl (by show 2 * 0 + _ ≤ _; exact Nat.le_of_eq rfl) (hb hby at_312) (fun _ _ => ⟨rfl, (rfl : T149.heap = T149.heap), (by decide : 4 + 0 ≤ _), (by decide : 14 + 0 ≤ _)⟩)
    dsimp only [Pt.U, Pt.locs, Pt.cells, Pt.slots] at X153 l153 y153 z153 st153 hQ153
    subst l153 y153 z153
    obtain ⟨rfl, Nq153, e153⟩ := hQ153
    have N153 := Fr.app N149 Nq153
    have s154 : Steps p.tables e below (s₁.setTop (entryFrame m #[(.int p0), (.int p1), (.int p2)] maxLocals)) (T153.setTop (mkF m 325 #[.val (.int p0), .val (.int p1), .val (.int p2), .val (.int (3 : Int32)), .val (.int q0), .val (.int q1), .val (.int q2), .val (.int t0), .val (.int t1), .val (.int t2), .val (.ref b13), .val (.ref b109), .val (.ref b119), .val (.int z2), .val (.ref b147)] [(.int (1 : Int32))])) := by
      refine s146.trans ?_
      show Steps p.tables e below (T129.setTop (mkF m 295 #[.val (.int p0), .val (.int p1), .val (.int p2), .val (.int (3 : Int32)), .val (.int q0), .val (.int q1), .val (.int q2), .val (.int t0), .val (.int t1), .val (.int t2), .val (.ref b13), .val (.ref b109), .val (.ref b119), .val (.int z2), .unset] [])) _
      refine st147 _ ?_
      show Steps p.tables e below (T147.setTop (mkF m 298 #[.val (.int p0), .val (.int p1), .val (.int p2), .val (.int (3 : Int32)), .val (.int q0), .val (.int q1), .val (.int q2), .val (.int t0), .val (.int t1), .val (.int t2), .val (.ref b13), .val (.ref b109), .val (.ref b119), .val (.int z2), .unset] [(.ref b147)])) _
      refine XS.dup X147.here hx rfl (hb hby at_298) rfl rfl ?_
      show Steps p.tables e below (T147.setTop (mkF m 299 #[.val (.int p0), .val (.int p1), .val (.int p2), .val (.int (3 : Int32)), .val (.int q0), .val (.int q1), .val (.int q2), .val (.int t0), .val (.int t1), .val (.int t2), .val (.ref b13), .val (.ref b109), .val (.ref b119), .val (.int z2), .unset] [(.ref b147), (.ref b147)])) _
      refine XS.aload X147.here hx rfl (hb hby at_299) rfl rfl ?_
      show Steps p.tables e below (T147.setTop (mkF m 301 #[.val (.int p0), .val (.int p1), .val (.int p2), .val (.int (3 : Int32)), .val (.int q0), .val (.int q1), .val (.int q2), .val (.int t0), .val (.int t1), .val (.int t2), .val (.ref b13), .val (.ref b109), .val (.ref b119), .val (.int z2), .unset] [(.ref b109), (.ref b147), (.ref b147)])) _
      refine XS.aload X147.here hx rfl (hb hby at_301) rfl rfl ?_
      show Steps p.tables e below (T147.setTop (mkF m 303 #[.val (.int p0), .val (.int p1), .val (.int p2), .val (.int (3 : Int32)), .val (.int q0), .val (.int q1), .val (.int q2), .val (.int t0), .val (.int t1), .val (.int t2), .val (.ref b13), .val (.ref b109), .val (.ref b119), .val (.int z2), .unset] [(.ref b119), (.ref b109), (.ref b147), (.ref b147)])) _
      refine st149.trans ?_
      show Steps p.tables e below (T149.setTop (mkF m 306 #[.val (.int p0), .val (.int p1), .val (.int p2), .val (.int (3 : Int32)), .val (.int q0), .val (.int q1), .val (.int q2), .val (.int t0), .val (.int t1), .val (.int t2), .val (.ref b13), .val (.ref b109), .val (.ref b119), .val (.int z2), .unset] [(.ref b147)])) _
      refine XS.astore X149.here hx rfl (hb hby at_306) rfl rfl (l' := #[.val (.int p0), .val (.int p1), .val (.int p2), .val (.int (3 : Int32)), .val (.int q0), .val (.int q1), .val (.int q2), .val (.int t0), .val (.int t1), .val (.int t2), .val (.ref b13), .val (.ref b109), .val (.ref b119), .val (.int z2), .val (.ref b147)]) rfl ?_
      show Steps p.tables e below (T149.setTop (mkF m 308 #[.val (.int p0), .val (.int p1), .val (.int p2), .val (.int (3 : Int32)), .val (.int q0), .val (.int q1), .val (.int q2), .val (.int t0), .val (.int t1), .val (.int t2), .val (.ref b13), .val (.ref b109), .val (.ref b119), .val (.int z2), .val (.ref b147)] [])) _
      refine XS.aload X149.here hx rfl (hb hby at_308) rfl rfl ?_
      show Steps p.tables e below (T149.setTop (mkF m 310 #[.val (.int p0), .val (.int p1), .val (.int p2), .val (.int (3 : Int32)), .val (.int q0), .val (.int q1), .val (.int q2), .val (.int t0), .val (.int t1), .val (.int t2), .val (.ref b13), .val (.ref b109), .val (.ref b119), .val (.int z2), .val (.ref b147)] [(.ref b147)])) _
      refine XS.aload X149.here hx rfl (hb hby at_310) rfl rfl ?_
      show Steps p.tables e below (T149.setTop (mkF m 312 #[.val (.int p0), .val (.int p1), .val (.int p2), .val (.int (3 : Int32)), .val (.int q0), .val (.int q1), .val (.int q2), .val (.int t0), .val (.int t1), .val (.int t2), .val (.ref b13), .val (.ref b109), .val (.ref b119), .val (.int z2), .val (.ref b147)] [(.ref b13), (.ref b147)])) _
      refine st153.trans ?_
      show Steps p.tables e below (T153.setTop (mkF m 315 #[.val (.int p0), .val (.int p1), .val (.int p2), .val (.int (3 : Int32)), .val (.int q0), .val (.int q1), .val (.int q2), .val (.int t0), .val (.int t1), .val (.int t2), .val (.ref b13), .val (.ref b109), .val (.ref b119), .val (.int z2), .val (.ref b147)] [(.int (if (own_at [(p2 &&& (3 : Int32)), ((p2 >>> ((2 : Int32) &&& 31)) &&& (3 : Int32)), ((p2 >>> ((4 : Int32) &&& 31)) &&& (3 : Int32)), ((p2 >>> ((6 : Int32) &&& 31)) &&& (3 : Int32)), ((p2 >>> ((8 : Int32) &&& 31)) &&& (3 : Int32)), ((p2 >>> ((10 : Int32) &&& 31)) &&& (3 : Int32))] q0) = t0 then (if (own_at [(p2 &&& (3 : Int32)), ((p2 >>> ((2 : Int32) &&& 31)) &&& (3 : Int32)), ((p2 >>> ((4 : Int32) &&& 31)) &&& (3 : Int32)), ((p2 >>> ((6 : Int32) &&& 31)) &&& (3 : Int32)), ((p2 >>> ((8 : Int32) &&& 31)) &&& (3 : Int32)), ((p2 >>> ((10 : Int32) &&& 31)) &&& (3 : Int32))] q1) = t1 then (if (own_at [(p2 &&& (3 : Int32)), ((p2 >>> ((2 : Int32) &&& 31)) &&& (3 : Int32)), ((p2 >>> ((4 : Int32) &&& 31)) &&& (3 : Int32)), ((p2 >>> ((6 : Int32) &&& 31)) &&& (3 : Int32)), ((p2 >>> ((8 : Int32) &&& 31)) &&& (3 : Int32)), ((p2 >>> ((10 : Int32) &&& 31)) &&& (3 : Int32))] q2) = t2 then (1 : Int32) else (0 : Int32)) else (0 : Int32)) else (0 : Int32)))])) _
      refine XS.iload X153.here hx rfl (hb hby at_315) rfl ?_
      show Steps p.tables e below (T153.setTop (mkF m 317 #[.val (.int p0), .val (.int p1), .val (.int p2), .val (.int (3 : Int32)), .val (.int q0), .val (.int q1), .val (.int q2), .val (.int t0), .val (.int t1), .val (.int t2), .val (.ref b13), .val (.ref b109), .val (.ref b119), .val (.int z2), .val (.ref b147)] [(.int z2), (.int (if (own_at [(p2 &&& (3 : Int32)), ((p2 >>> ((2 : Int32) &&& 31)) &&& (3 : Int32)), ((p2 >>> ((4 : Int32) &&& 31)) &&& (3 : Int32)), ((p2 >>> ((6 : Int32) &&& 31)) &&& (3 : Int32)), ((p2 >>> ((8 : Int32) &&& 31)) &&& (3 : Int32)), ((p2 >>> ((10 : Int32) &&& 31)) &&& (3 : Int32))] q0) = t0 then (if (own_at [(p2 &&& (3 : Int32)), ((p2 >>> ((2 : Int32) &&& 31)) &&& (3 : Int32)), ((p2 >>> ((4 : Int32) &&& 31)) &&& (3 : Int32)), ((p2 >>> ((6 : Int32) &&& 31)) &&& (3 : Int32)), ((p2 >>> ((8 : Int32) &&& 31)) &&& (3 : Int32)), ((p2 >>> ((10 : Int32) &&& 31)) &&& (3 : Int32))] q1) = t1 then (if (own_at [(p2 &&& (3 : Int32)), ((p2 >>> ((2 : Int32) &&& 31)) &&& (3 : Int32)), ((p2 >>> ((4 : Int32) &&& 31)) &&& (3 : Int32)), ((p2 >>> ((6 : Int32) &&& 31)) &&& (3 : Int32)), ((p2 >>> ((8 : Int32) &&& 31)) &&& (3 : Int32)), ((p2 >>> ((10 : Int32) &&& 31)) &&& (3 : Int32))] q2) = t2 then (1 : Int32) else (0 : Int32)) else (0 : Int32)) else (0 : Int32)))])) _
      refine XS.icmpNo X153.here hx rfl (hb hby at_317) rfl (teq (own_rm0_15 p2 q0 q1 q2 t0 t1 t2 z0 z1 z2 hz0 hz1 hz2)).2 ?_
      show Steps p.tables e below (T153.setTop (mkF m 320 #[.val (.int p0), .val (.int p1), .val (.int p2), .val (.int (3 : Int32)), .val (.int q0), .val (.int q1), .val (.int q2), .val (.int t0), .val (.int t1), .val (.int t2), .val (.ref b13), .val (.ref b109), .val (.ref b119), .val (.int z2), .val (.ref b147)] [])) _
      refine XS.iconst X153.here hx rfl (hb hby at_320) ?_
      show Steps p.tables e below (T153.setTop (mkF m 321 #[.val (.int p0), .val (.int p1), .val (.int p2), .val (.int (3 : Int32)), .val (.int q0), .val (.int q1), .val (.int q2), .val (.int t0), .val (.int t1), .val (.int t2), .val (.ref b13), .val (.ref b109), .val (.ref b119), .val (.int z2), .val (.ref b147)] [(.int (1 : Int32))])) _
      refine XS.goto X153.here hx rfl (pc0 := 321) (pc' := 325) rfl (hb hby at_321) (by decide) (by decide) ?_
      exact Steps.refl _
    obtain ⟨fs, hr, hrun, hended, hW, hsame⟩ := X153.leave (v := some (.int (1 : Int32))) (fun h => by rw [Bd.returns] at h; cases h)
    refine ⟨_, _, s154.trans ?_, hrun, hended, _, _, rfl, ?_, ⟨_, rfl⟩, hW, hsame.mono (by decide) (by decide)⟩
    · show Steps p.tables e below (T153.setTop (mkF m 325 #[.val (.int p0), .val (.int p1), .val (.int p2), .val (.int (3 : Int32)), .val (.int q0), .val (.int q1), .val (.int q2), .val (.int t0), .val (.int t1), .val (.int t2), .val (.ref b13), .val (.ref b109), .val (.ref b119), .val (.int z2), .val (.ref b147)] [(.int (1 : Int32))])) _
      exact retN X153 hx (t := .boolean) Bd.returns (by simp) (hb hby at_325) hr
    · show Q0 Z p0 p1 p2 h0 n0 _ T153.heap _
      rw [e153]
      exact ⟨rfl, N153⟩
set_option maxRecDepth 65536 in
set_option maxHeartbeats 40000000 in
theorem comes_1 {Post : Tables → Env → Array Value → State → Outcome → State → Prop} (hpost : ∀ tb e args s v u, (limb_1_1.after args s (.returned v) u = true ∧ limb_1_2.after args s (.returned v) u = true ∧ True) → FrameEnd s (.returned v) u (Jvm.fieldLocs frame_1_writes args s ++ Jvm.arrayLocs frame_1_arrays args s ++ Jvm.staticLocs frame_1_statics s) 16 128 → Post tb e args s (.returned v) u) :
    ArmFor flags0 classFile x code maxLocals ret World_1 tables_1 room_1 Calls_1 rest_1 Pre_1 Post := by
  intro l hfl _ _ p e ha hc hk s m args below hf hA hF happ hP
  obtain ⟨hcalls, hrest, hpre⟩ := hP
  obtain ⟨-, -, -, hnamed, -, -, -, hat⟩ := (Spec.applies_iff hf).mp happ
  obtain ⟨hg, hn⟩ := and_e (Cond.before_iff.mp (show (Jvm.Cond.and given_1 narrow_1).before args s = true from hpre))
  obtain ⟨gc, gk0⟩ := and_e hg
  obtain ⟨ga0, gk1⟩ := and_e gk0
  obtain ⟨ga1, gk2⟩ := and_e gk1
  obtain ⟨w0, w1, w2, rfl⟩ : ∃ w0 w1 w2 : Value, args = #[w0, w1, w2] := by
    have hs : args.size = 3 := by simpa [Cond.value, given_1] using gc
    obtain ⟨L⟩ := args
    match L, hs with
    | [w0, w1, w2], _ => exact ⟨w0, w1, w2, rfl⟩
  have hw := fun d (hd : d ∈ tables_1) => atoms_spec (ws := Jvm.Cond.code x code maxLocals ret :: tables_1) hat d (List.mem_cons_of_mem _ hd)
  have hfit : Fit s := fun {y c} hc i hi => by
    obtain ⟨ha, rfl⟩ := Array.getElem?_eq_some_iff.mp hc
    have q := List.all_eq_true.mp ((Array.all_eq_true_iff_forall_mem.mp hF) _ (Array.getElem_mem ha)) i (List.mem_range.mpr hi)
    simpa [Array.getElem?_eq_getElem hi] using q
  obtain ⟨i0, ei0⟩ := is_v ga0
  obtain rfl : w0 = (.int i0) := Option.some.inj ei0
  obtain ⟨i1, ei1⟩ := is_v ga1
  obtain rfl : w1 = (.int i1) := Option.some.inj ei1
  obtain ⟨i2, ei2⟩ := is_v gk2
  obtain rfl : w2 = (.int i2) := Option.some.inj ei2
  obtain ⟨n, o, h1, h2, h3, _, L, rfl, ⟨rfl, N⟩, hq⟩ := rm0 l s _ hw tables_1 i0 i1 i2 s.heap s.heap.size (Old.start s) p e ha hc hk s m _ below hf ((Spec.applies_iff_loose hf).mp happ).1 ⟨rfl, State.Warmed39.refl s, rfl⟩ trivial
  refine ⟨n, _, h1, h2, h3, hpost _ _ _ _ _ _ ⟨Cond.after_iff.mpr rfl, Cond.after_iff.mpr (eq_i res_at (Term.int_eval (1)) rfl), trivial⟩ ⟨hq.1, hq.2.1, (hq.2.2.sift fun y hy => Or.inr (N y hy)).mono (by decide) (by decide)⟩⟩
theorem main_1_1 : Claimed_1_1 := comes_1 fun _ _ _ _ _ _ h hF => ⟨h.1, hF⟩
theorem main_1_2 : Claimed_1_2 := comes_1 fun _ _ _ _ _ _ h hF => ⟨h.2.1, hF⟩
end Jvm.Pilot.@@N@@
namespace Jvm.Pilot.@@N@@
open Jvm Jvm.ClassFile Sem Op Lib Jvm.Free Jvm.Stand Jvm.Pilot.@@N@@.Jvm.D
/-! MADE BY PROGRAM (witnessworld.py) out of the Statement's table words and the real class files: 9 classes; the members and pool entries that the words name. The judged class is class 1, her method 1. -/
namespace start1
open Jvm.ClassFile
def u (s : String) : CpInfo := .utf8 (stringToUtf16 s)
/-- a pool by its gaps: so many unusable entries, then the entry; so many at the end -/
def gap : Nat → List CpInfo → List CpInfo
  | 0, r => r
  | n + 1, r => .unusable :: gap n r
def poolList (es : List (Nat × CpInfo)) (last : Nat) : List CpInfo := es.foldr (fun e r => gap e.1 (e.2 :: r)) (gap last [])
def pool (es : List (Nat × CpInfo)) (last : Nat) : Array CpInfo := ⟨poolList es last⟩
def fileOf (pool : Array CpInfo) (this : Nat) (attrs : Array Attribute := #[]) (ms : Array MethodInfo := #[]) (fl : Nat := 33) (sup : Nat := 0) (ifs : Array Nat := #[]) (fds : Array FieldInfo := #[]) : ClassFile where
  minorVersion := 0
  majorVersion := 65
  constantPool := pool
  accessFlags := fl
  thisClass := this
  superClass := sup
  interfaces := ifs
  fields := fds
  methods := ms
  attributes := attrs
def plain (name : String) (sup : Option ClassId) : Class where
  name := name
  kind := .ordinary
  loader := none
  accessFlags := 33
  super := sup
  interfaces := #[]
  cf := none
  fields := #[]
  methods := #[]
  instanceTypes := #[]
  staticTypes := #[]
  resolved := #[]
  callSites := []
  init := .initialized
  statics := none
  mirror := none

def pool0 : Array CpInfo := pool [(5, u "<init>"), (0, u "()V"), (1, .class_ 10), (1, u "java/lang/Object")] 113

def k0c0 : Code := { maxStack := 0, maxLocals := 1, code := object_method_1_code, exceptionTable := #[], attributes := #[] }
def k0m0 : Method := { name := "<init>", desc := "()V", sig := { parameters := [], returnType := none }, accessFlags := 1, code := some k0c0 }
/-- java/lang/Object -/
def k0 : Class := { plain "java/lang/Object" none with
  accessFlags := 33
  interfaces := #[]
  cf := some (fileOf pool0 8 #[] #[{ accessFlags := 1, nameIndex := 5, descriptorIndex := 6, attributes := #[] }] 33 0 #[] #[])
  fields := #[]
  methods := #[k0m0]
  instanceTypes := #[]
  staticTypes := #[]
  resolved := Array.replicate 124 none
  statics := none }

def pool1 : Array CpInfo := pool [(2, .class_ 4), (1, u "java/lang/Object"), (0, u "<init>"), (0, u "()V"), (0, .class_ 8), (0, u "com/example/odds_on_axioms/oddsonaxioms/network/Condition"), (0, .methodref 7 10), (0, .nameAndType 5 11), (0, u "([I[I)V"), (0, .methodref 7 13), (0, .nameAndType 14 15), (0, u "holdsIn"), (0, u "([I)Z"), (0, .class_ 17), (0, u "com/example/odds_on_axioms/oddsonaxioms/network/ConditionHoldsInPinLaw"), (2, u "law"), (0, u "(III)Z")] 5

def k1m0 : Method := { name := "<init>", desc := "()V", sig := { parameters := [], returnType := none }, accessFlags := 1, code := none }
def k1c1 : Code := { maxStack := 4, maxLocals := 15, code := code, exceptionTable := #[], attributes := #[] }
def k1m1 : Method := { name := "law", desc := "(III)Z", sig := { parameters := [.int, .int, .int], returnType := some .boolean }, accessFlags := 9, code := some k1c1 }
/-- com/example/odds_on_axioms/oddsonaxioms/network/ConditionHoldsInPinLaw -/
def k1 : Class := { plain "com/example/odds_on_axioms/oddsonaxioms/network/ConditionHoldsInPinLaw" (some 0) with
  accessFlags := 49
  interfaces := #[]
  cf := some (fileOf pool1 16 #[] #[{ accessFlags := 1, nameIndex := 5, descriptorIndex := 6, attributes := #[] }, { accessFlags := 9, nameIndex := 20, descriptorIndex := 21, attributes := #[] }] 49 2 #[] #[])
  fields := #[]
  methods := #[k1m0, k1m1]
  instanceTypes := #[]
  staticTypes := #[]
  resolved := Array.replicate 27 none
  statics := none }

def pool2 : Array CpInfo := pool [(1, .methodref 2 3), (0, .class_ 4), (0, .nameAndType 5 6), (0, u "java/lang/Object"), (0, u "<init>"), (0, u "()V"), (0, .fieldref 8 9), (0, .class_ 10), (0, .nameAndType 11 12), (0, u "com/example/odds_on_axioms/oddsonaxioms/network/Condition"), (0, u "positions"), (0, u "[I"), (0, .fieldref 8 14), (0, .nameAndType 15 12), (0, u "states"), (2, u "EMPTY"), (0, u "Lcom/example/odds_on_axioms/oddsonaxioms/network/Condition;"), (14, u "([I[I)V"), (30, u "holdsIn"), (0, u "([I)Z")] 8

def k2c0 : Code := { maxStack := 2, maxLocals := 3, code := prog_38_method_1_code, exceptionTable := #[], attributes := #[] }
def k2m0 : Method := { name := "<init>", desc := "([I[I)V", sig := { parameters := [(.array .int), (.array .int)], returnType := none }, accessFlags := 0, code := some k2c0 }
def k2c1 : Code := { maxStack := 3, maxLocals := 3, code := prog_38_method_6_code, exceptionTable := #[], attributes := #[] }
def k2m1 : Method := { name := "holdsIn", desc := "([I)Z", sig := { parameters := [(.array .int)], returnType := some .boolean }, accessFlags := 0, code := some k2c1 }
/-- com/example/odds_on_axioms/oddsonaxioms/network/Condition -/
def k2 : Class := { plain "com/example/odds_on_axioms/oddsonaxioms/network/Condition" (some 0) with
  accessFlags := 49
  interfaces := #[]
  cf := some (fileOf pool2 8 #[] #[{ accessFlags := 0, nameIndex := 5, descriptorIndex := 34, attributes := #[] }, { accessFlags := 0, nameIndex := 65, descriptorIndex := 66, attributes := #[] }] 49 2 #[] #[{ accessFlags := 26, nameIndex := 18, descriptorIndex := 19, attributes := #[] }, { accessFlags := 18, nameIndex := 11, descriptorIndex := 12, attributes := #[] }, { accessFlags := 18, nameIndex := 15, descriptorIndex := 12, attributes := #[] }])
  fields := #[{ name := "EMPTY", type := (.object "com/example/odds_on_axioms/oddsonaxioms/network/Condition"), accessFlags := 26, slot := 0, constantValue := 0 }, { name := "positions", type := (.array .int), accessFlags := 18, slot := 0, constantValue := 0 }, { name := "states", type := (.array .int), accessFlags := 18, slot := 1, constantValue := 0 }]
  methods := #[k2m0, k2m1]
  instanceTypes := #[(.array .int), (.array .int)]
  staticTypes := #[(.object "com/example/odds_on_axioms/oddsonaxioms/network/Condition")]
  resolved := Array.replicate 75 none
  statics := none }

def pool3 : Array CpInfo := pool [(1, u "java/lang/Cloneable"), (0, .class_ 1), (0, u "java/lang/Object"), (0, .class_ 3)] 3

/-- java/lang/Cloneable -/
def k3 : Class := { plain "java/lang/Cloneable" (some 0) with
  accessFlags := 1537
  interfaces := #[]
  cf := some (fileOf pool3 2 #[] #[] 1537 4 #[] #[])
  fields := #[]
  methods := #[]
  instanceTypes := #[]
  staticTypes := #[]
  resolved := Array.replicate 8 none
  statics := none }

def pool4 : Array CpInfo := pool [(1, u "java/io/Serializable"), (0, .class_ 1), (0, u "java/lang/Object"), (0, .class_ 3)] 3

/-- java/io/Serializable -/
def k4 : Class := { plain "java/io/Serializable" (some 0) with
  accessFlags := 1537
  interfaces := #[]
  cf := some (fileOf pool4 2 #[] #[] 1537 4 #[] #[])
  fields := #[]
  methods := #[]
  instanceTypes := #[]
  staticTypes := #[]
  resolved := Array.replicate 8 none
  statics := none }

/-- the primitive byte -/
def k5 : Class := { plain "byte" none with kind := .primitive 'B', accessFlags := 0x411 }
/-- [B -/
def k6 : Class := { plain "[B" (some 0) with kind := .array 5 .byte, interfaces := #[3, 4], accessFlags := 1041 }

/-- the primitive int -/
def k7 : Class := { plain "int" none with kind := .primitive 'I', accessFlags := 0x411 }
/-- [I -/
def k8 : Class := { plain "[I" (some 0) with kind := .array 7 .int, interfaces := #[3, 4], accessFlags := 1041 }

def heap : Heap := #[]
def classes : Array Class := #[k0, k1, k2, k3, k4, k5, k6, k7, k8]
def interned : List (Array UInt16 × Addr) := []
def slotsUsed : Nat := 0
def theMethod : MethodId := ⟨1, 1⟩
def args0 : Array Value := #[.int 63, .int 5, .int 7]
def aboutOver (below : List Frame) : State where
  vm := { classes := classes, interned := interned.toArray }
  heap := heap
  slotsUsed := slotsUsed
  threads := #[{ frames := .invoking theMethod args0 :: below }]
def below0 : List Frame := [.native { method := ⟨0, 0⟩, args := #[] }]
def about1 : State := aboutOver below0
def p0 : Program := .bare "" "" ""
def e0 : Env := launch0.env 0 0 0
theorem w_frames : about1.frames = Frame.invoking theMethod args0 :: below0 := rfl
set_option maxRecDepth 65536 in
theorem w_args : argsFit about1.vm theMethod args0 = true := by decide +kernel
set_option maxRecDepth 65536 in
theorem w_heap : heapFits about1 = true := by decide +kernel
set_option maxRecDepth 65536 in
theorem w_runnable : about1.curStatus? = some .runnable := by decide +kernel
set_option maxRecDepth 65536 in
theorem w_alone : about1.alone = true := by decide +kernel
set_option maxRecDepth 65536 in
theorem w_named : about1.methodNamed? x = some theMethod := by decide +kernel
set_option maxRecDepth 65536 in
theorem w_hears : about1.hears theMethod below0 = true := by decide +kernel
set_option maxRecDepth 65536 in
theorem w_ripe : about1.ripe theMethod args0 below0 = true := by decide +kernel
theorem w_running : about1.status = .running := rfl
set_option maxRecDepth 65536 in
theorem w_room : about1.hasRoom e0.platform room_1 = true :=
  launch0.hasRoom_least _ room_1 (by decide +kernel) (by decide +kernel) (by decide +kernel) (by decide +kernel) (by decide +kernel) (by decide +kernel)
theorem allAtoms_all (ts : List Jvm.Cond) (a : Array Jvm.Value) (st : Jvm.State) : (allAtoms ts).before a st = ts.all (fun c => c.before a st) := by
  induction ts with
  | nil => rfl
  | cons c t ih =>
    show (Jvm.Cond.and c (allAtoms t)).before a st = _
    rw [Jvm.Cond.before_and, ih, List.all_cons]
def words1 : List Jvm.Cond := Jvm.Cond.code x code maxLocals ret :: tables_1
/-- a 'code' word, met by the world's own term for the bytes: nothing is compared byte by byte -/
theorem code_word {y : MethodName} {bytes : ByteArray} {mx : Nat} {rt : Option FieldType} {a : Array Value} {s : State} {m : MethodId} {meth : Method} {c : Code} (h1 : s.methodNamed? y = some m) (h2 : s.vm.method? m = some meth) (h3 : meth.code = some c) (h4 : c.code = bytes)
    (h5 : (c.maxLocals == mx && c.exceptionTable.isEmpty && decide (c.maxStack ≤ mostOperands) && decide (meth.sig.returnType = rt) && !meth.locks && decide (parseMethodDescriptor y.desc = some meth.sig)) = true) : (Jvm.Cond.code y bytes mx rt).before a s = true := by
  simp only [Bool.and_eq_true, beq_iff_eq, Bool.not_eq_true', decide_eq_true_eq] at h5
  obtain ⟨⟨⟨⟨⟨g1, g2⟩, g3⟩, g4⟩, g5⟩, g6⟩ := h5
  simp [Cond.before, Cond.holds, Cond.value, h1, h2, h3, h4, g1, g2, g3, g4, g5, g6]
def isCode : Jvm.Cond → Bool
  | .code _ _ _ _ => true
  | _ => false
theorem all_split {L : List Jvm.Cond} {P : Jvm.Cond → Bool} (h1 : L.all (fun c => isCode c || P c) = true) (h2 : ∀ c ∈ L.filter isCode, P c = true) : L.all P = true := by
  refine List.all_eq_true.mpr fun c hc => ?_
  have h := List.all_eq_true.mp h1 c hc
  rcases Bool.eq_false_or_eq_true (isCode c) with hi | hi
  · exact h2 c (List.mem_filter.mpr ⟨hc, hi⟩)
  · simpa [hi] using h
set_option maxRecDepth 65536 in
theorem w_c0 : (Jvm.Cond.code x code maxLocals ret).before args0 about1 = true := code_word (m := ⟨1, 1⟩) (meth := k1m1) (c := k1c1) (by decide +kernel) rfl rfl rfl (by decide +kernel)
set_option maxRecDepth 65536 in
theorem w_c1 : (Jvm.Cond.code ({ cls := "com/example/odds_on_axioms/oddsonaxioms/network/Condition", name := "<init>", desc := "([I[I)V" } : Jvm.MethodName) prog_38_method_1_code (3 : Nat) (Option.none : Option Jvm.ClassFile.FieldType)).before args0 about1 = true := code_word (m := ⟨2, 0⟩) (meth := k2m0) (c := k2c0) (by decide +kernel) rfl rfl rfl (by decide +kernel)
set_option maxRecDepth 65536 in
theorem w_c2 : (Jvm.Cond.code ({ cls := "java/lang/Object", name := "<init>", desc := "()V" } : Jvm.MethodName) object_method_1_code (1 : Nat) (Option.none : Option Jvm.ClassFile.FieldType)).before args0 about1 = true := code_word (m := ⟨0, 0⟩) (meth := k0m0) (c := k0c0) (by decide +kernel) rfl rfl rfl (by decide +kernel)
set_option maxRecDepth 65536 in
theorem w_c3 : (Jvm.Cond.code ({ cls := "com/example/odds_on_axioms/oddsonaxioms/network/Condition", name := "holdsIn", desc := "([I)Z" } : Jvm.MethodName) prog_38_method_6_code (3 : Nat) (Option.some Jvm.ClassFile.FieldType.boolean)).before args0 about1 = true := code_word (m := ⟨2, 1⟩) (meth := k2m1) (c := k2c1) (by decide +kernel) rfl rfl rfl (by decide +kernel)
def codes1 : List Jvm.Cond := [Jvm.Cond.code x code maxLocals ret, Jvm.Cond.code ({ cls := "com/example/odds_on_axioms/oddsonaxioms/network/Condition", name := "<init>", desc := "([I[I)V" } : Jvm.MethodName) prog_38_method_1_code (3 : Nat) (Option.none : Option Jvm.ClassFile.FieldType), Jvm.Cond.code ({ cls := "java/lang/Object", name := "<init>", desc := "()V" } : Jvm.MethodName) object_method_1_code (1 : Nat) (Option.none : Option Jvm.ClassFile.FieldType), Jvm.Cond.code ({ cls := "com/example/odds_on_axioms/oddsonaxioms/network/Condition", name := "holdsIn", desc := "([I)Z" } : Jvm.MethodName) prog_38_method_6_code (3 : Nat) (Option.some Jvm.ClassFile.FieldType.boolean)]
set_option maxRecDepth 65536 in
theorem codes_eq : words1.filter isCode = codes1 := rfl
theorem w_codes : ∀ c ∈ words1.filter isCode, c.before args0 about1 = true := by
  rw [codes_eq]
  intro c hc
  simp only [codes1, List.mem_cons, List.not_mem_nil, or_false] at hc
  rcases hc with rfl | rfl | rfl | rfl
  · exact w_c0
  · exact w_c1
  · exact w_c2
  · exact w_c3
set_option maxRecDepth 65536 in
theorem w_t1 : words1.all (fun c => isCode c || c.before args0 about1) = true := by decide +kernel
theorem w_tables : (allAtoms (Jvm.Cond.code x code maxLocals ret :: tables_1)).before args0 about1 = true := by
  rw [allAtoms_all]
  show words1.all (fun c => c.before args0 about1) = true
  refine all_split ?_ w_codes
  rw [w_t1]
set_option maxRecDepth 65536 in
theorem w_case : (Jvm.Cond.and given_1 narrow_1).before args0 about1 = true := by decide +kernel
theorem w_applies : (headSpec (Jvm.Cond.code x code maxLocals ret :: tables_1) room_1).applies x e0.platform about1 = true :=
  (Spec.applies_iff w_frames).mpr ⟨w_running, w_runnable, w_alone, w_named, w_hears, w_ripe, w_room, w_tables⟩
theorem atStart : AtStart classFile x code maxLocals ret World_1 tables_1 room_1 Calls_1 rest_1 Pre_1 launch0 p0 e0 about1 theMethod args0 below0 :=
  ⟨lists_1, trivial, launch0.admits_env _ _ _, launch0.least_env, fairChoices_fair.cas, fairChoices_fair.clock, w_frames, w_args, w_heap, w_applies, trivial, trivial, w_case⟩
end start1
theorem witness_1 : WitnessClaimed_1 := ⟨start1.p0, start1.e0, start1.about1, start1.theMethod, start1.args0, start1.below0, start1.atStart⟩
end Jvm.Pilot.@@N@@
