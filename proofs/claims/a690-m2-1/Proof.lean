import JvmDerived
import JvmDerived.Pilot.@@N@@Statement
import JvmDerived.Pilot.@@N@@Code
set_option linter.unusedVariables false
set_option linter.unusedSimpArgs false
namespace Jvm.RoadKit
open Sem ClassFile Op Lib Jvm.Stand Jvm.Free Jvm.LawKit
section New
variable {p : Program} {l : Launch} {e : Env} {R : Room} {s : State} {m : MethodId} {args : Array Value} {below : List Frame} {meth : Method} {c : Code} {T : State} {locs : List Loc} {cells slots : Nat}
theorem retI (X : Stand p l e R s m args below meth c T locs cells slots) (hx : p.tables.exec = Jvm.exec) {pc : Nat} {Ls : Array Slot} {z : Int32} {rest : List Value} (hret : meth.sig.returnType = some .int) (hd : decode c.code pc = .ok (.ireturn, 1)) {fs : List Frame}
    (hl : ∀ (f : JFrame) (acts : List Action), f.method = m → f.locked = none → f.entered = [] → (doReturn e (T.setTop f) acts (some (.int z))).1 = T.setFrames fs) : Steps p.tables e below (T.setTop (mkF m pc Ls (.int z :: rest))) (T.setFrames fs) := by
  have hm' : T.vm.method? m = some meth := X.method'
  have hn : narrow .int (.int z) = .int z := rfl
  show Steps p.tables e below (T.setTop { method := m, pc := pc, locals := Ls, stack := _ :: rest, locked := none }) _
  jvm_step X.here [X.here.top, hx, hd, hm', hret, hn]
  first | (intro acts; rw [hl _ acts rfl rfl rfl]) | rw [hl _ _ rfl rfl rfl]
  exact Steps.refl _
end New
end Jvm.RoadKit
namespace Jvm.Pilot.@@N@@
open Jvm Jvm.ClassFile Sem Op Lib Jvm.Free Jvm.Stand Jvm.LawKit Jvm.RoadKit Bundle Jvm.Pilot.@@N@@.Jvm.D
theorem own_eq_int {a : Term} {n : Int32} {args : Array Value} {s : State} (h : (Jvm.Cond.eq a (.int n)).value args s none s [] = some true) : a.eval args s none [] s = some (.int n) := by
  obtain ⟨x, y, e1, e2, -, k⟩ := cmp_v (Or.inl h)
  cases (Term.int_eval n).symm.trans e2
  obtain ⟨z, rfl⟩ := k
  have q := gotT (Cond.eq_ints e1 e2) h
  rw [e1, q]
theorem own_eq_ref {a b : Term} {y : Addr} {args : Array Value} {s : State} (h : (Jvm.Cond.eq a b).value args s none s [] = some true) (hb : b.eval args s none [] s = some (.ref y)) : a.eval args s none [] s = some (.ref y) := by
  obtain ⟨x, y', e1, e2, -, k⟩ := cmp_v (Or.inl h)
  cases hb.symm.trans e2
  have q := gotT (eq_R e1 e2 k.2 rfl) h
  rw [e1, q]
theorem own_len {args : Array Value} {s : State} {t : Term} {a : Addr} {c : Cell} {ty : FieldType} {n : Int32} (ht : t.eval args s none [] s = some (.ref a)) (A : Arr s s.heap a c ty) (h : (Term.length t).eval args s none [] s = some (.int n)) : c.slots.size < 2 ^ 31 ∧ c.slots.size.toInt32 = n := by
  have ha := Arr.fin (U := s) (State.Warmed39.refl s).alike A
  by_cases hl : c.slots.size < 2 ^ 31
  · exact ⟨hl, Value.int.inj (Option.some.inj ((len_f ht ha hl).symm.trans h))⟩
  · simp [Term.eval, ht, ha, hl] at h
theorem own_k0 : (0 : Int32).toInt = 0 := rfl
theorem own_k1 : (1 : Int32).toInt = 1 := rfl
theorem own_k2 : (2 : Int32).toInt = 2 := rfl
theorem own_k3 : (3 : Int32).toInt = 3 := rfl
theorem own_and3 (p : Int32) : (p &&& (3 : Int32)) = (0 : Int32) ∨ (p &&& (3 : Int32)) = (1 : Int32) ∨ (p &&& (3 : Int32)) = (2 : Int32) ∨ (p &&& (3 : Int32)) = (3 : Int32) := by
  have h1 := c_mask p 3 2 (by decide) (by decide)
  simp only [← Int32.toInt_inj, own_k0, own_k1, own_k2, own_k3]
  omega
theorem d1_0 : decode prog_38_method_1_code 0 = .ok (.aload_n 0, 1) := by decide +kernel
theorem d1_1 : decode prog_38_method_1_code 1 = .ok (.invokespecial 1, 3) := by decide +kernel
theorem d1_4 : decode prog_38_method_1_code 4 = .ok (.aload_n 0, 1) := by decide +kernel
theorem d1_5 : decode prog_38_method_1_code 5 = .ok (.aload_n 1, 1) := by decide +kernel
theorem d1_6 : decode prog_38_method_1_code 6 = .ok (.putfield 7, 3) := by decide +kernel
theorem d1_9 : decode prog_38_method_1_code 9 = .ok (.aload_n 0, 1) := by decide +kernel
theorem d1_10 : decode prog_38_method_1_code 10 = .ok (.aload_n 2, 1) := by decide +kernel
theorem d1_11 : decode prog_38_method_1_code 11 = .ok (.putfield 13, 3) := by decide +kernel
theorem d1_14 : decode prog_38_method_1_code 14 = .ok (.return_, 1) := by decide +kernel
theorem pn_1 : plainName "com/example/odds_on_axioms/oddsonaxioms/network/Condition" = true := by first | (simp [plainName, overriddenIn]; done) | decide +kernel
theorem ef_rm1 (m : MethodId) (p0 : Addr) (p1 : Addr) (p2 : Addr) : entryFrame m #[(.ref p0), (.ref p1), (.ref p2)] 3 = mkF m 0 #[.val (.ref p0), .val (.ref p1), .val (.ref p2)] [] := by first | (simp [entryFrame, mkF, argsToLocals, Value.category]; done) | rfl
def Q1 (Z : State) (p0 : Addr) (p1 : Addr) (p2 : Addr) (h0 : Heap) (n0 : Nat) (v : Option Value) (h : Heap) (L : List Loc) : Prop := v = none ∧ Fr n0 L ∧ Keep h0 h [p0] ∧ (Exa Z h p0 "com/example/odds_on_axioms/oddsonaxioms/network/Condition") ∧ (Fld Z h p0 "com/example/odds_on_axioms/oddsonaxioms/network/Condition" "positions" "[I" (.ref p1)) ∧ (Fld Z h p0 "com/example/odds_on_axioms/oddsonaxioms/network/Condition" "states" "[I" (.ref p2))
set_option maxRecDepth 65536 in
set_option maxHeartbeats 40000000 in
theorem rm1 (l : Launch) (Z : State) (a0 : Array Value) (hw : ∀ d ∈ tables_1, d.before a0 Z = true) (ws : List Jvm.Cond) (p0 : Addr) (p1 : Addr) (p2 : Addr) (h0 : Heap) (n0 : Nat) (O0 : Old Z n0 h0) (F0_ : Exa Z h0 p0 "com/example/odds_on_axioms/oddsonaxioms/network/Condition") (F1_ : Fld Z h0 p0 "com/example/odds_on_axioms/oddsonaxioms/network/Condition" "positions" "[I" .null) (F2_ : Fld Z h0 p0 "com/example/odds_on_axioms/oddsonaxioms/network/Condition" "states" "[I" .null) (F3_ : n0 ≤ p0) :
    MetFree l (⟨"com/example/odds_on_axioms/oddsonaxioms/network/Condition", "<init>", "([I[I)V"⟩ : MethodName) (head1 (Jvm.Cond.code (⟨"com/example/odds_on_axioms/oddsonaxioms/network/Condition", "<init>", "([I[I)V"⟩ : MethodName) prog_38_method_1_code 3 none :: ws) ({ frames := 1, cells := 0, slots := 0, locals := 12 } : Room)) (fun a U => a = #[(.ref p0), (.ref p1), (.ref p2)] ∧ Z.Warmed39 U.vm ∧ U.heap = h0) (fun _ _ _ _ _ => True) (fun _ U o U' => ∃ v L, o = .returned v ∧ Q1 Z p0 p1 p2 h0 n0 v U'.heap L ∧ FrameEnd U o U' L ({ frames := 1, cells := 0, slots := 0, locals := 12 } : Room).cells ({ frames := 1, cells := 0, slots := 0, locals := 12 } : Room).slots) := by
  refine MetFree.of_bodySF (plainFor_of_name pn_1) hisR ?_
  intro p e s m args below meth c s₁ Bd hml0 hP hK
  obtain ⟨rfl, hZ, hh⟩ := hP
  have hx := Bd.exec
  have hby := Bd.bytes
  have hml : c.maxLocals = 3 := hml0
  have hown : s.vm.findClass "com/example/odds_on_axioms/oddsonaxioms/network/Condition" = some m.cls := findClass_of_methodNamed Bd.named
  have hnm := (name_of_methodNamed Bd.named Bd.method).1
  have X0 : Stand p l e ({ frames := 1, cells := 0, slots := 0, locals := 12 } : Room) s m #[(.ref p0), (.ref p1), (.ref p2)] below meth c s₁ [] 0 0 := Stand.of_body Bd
  have e0 : s₁.heap = h0 := by rw [← hh, Bd.state]; rfl
  have N0 := Fr.nil n0
  have s0 : Steps p.tables e below (s₁.setTop (entryFrame m #[(.ref p0), (.ref p1), (.ref p2)] 3)) (s₁.setTop (mkF m 0 #[.val (.ref p0), .val (.ref p1), .val (.ref p2)] [])) := castTop (ef_rm1 m p0 p1 p2) (Steps.refl _)
  obtain ⟨T1, X1, e1, st1⟩ := initO X0 hx hZ hown (hw _ (List.mem_of_getElem? (i := 8) rfl)) (hw _ (List.mem_of_getElem? (i := 9) rfl)) (hw _ (List.mem_of_getElem? (i := 10) rfl)) e0 (g := (mkF m 1 #[.val (.ref p0), .val (.ref p1), .val (.ref p2)] [(.ref p0)])) rfl (by rw [hml]; rfl) rfl (hb hby d1_1) (by decide) (W := 0) (by show 2 * 0 + _ ≤ _; exact Nat.le_of_eq rfl) (by decide)
  obtain ⟨T2, h2, X2, e2, W2, st2⟩ := putF X1 hx hZ hown (host := "") (Or.inl (hw _ (List.mem_of_getElem? (i := 11) rfl))) Via.refl e1 F1_ F0_ (Or.inr ⟨(hw _ (List.mem_of_getElem? (i := 12) rfl)), rfl, hnm⟩) (hw _ (List.mem_of_getElem? (i := 3) rfl)) (ty := (.array .int)) (by decide) rfl rfl (g := (mkF m 6 #[.val (.ref p0), .val (.ref p1), .val (.ref p2)] [(.ref p1), (.ref p0)])) rfl rfl (hb hby d1_6)
  have Fw2 := F1_.same W2
  have O2 := O0.wr W2 F3_
  have K2 : Keep h0 h2 [p0] := (Keep.refl h0 [p0]).wr W2 (Or.inl (List.mem_of_getElem? (i := 0) rfl))
  have N2 := Fr.snoc X2 N0 F3_
  have c3 : Exa Z h2 p0 "com/example/odds_on_axioms/oddsonaxioms/network/Condition" := (F0_.wr W2)
  have c4 : Fld Z h2 p0 "com/example/odds_on_axioms/oddsonaxioms/network/Condition" "states" "[I" .null := (F2_.other W2 (Or.inr (slot_ne (Or.inr (hw _ (List.mem_of_getElem? (i := 14) rfl))) (Or.inr (hw _ (List.mem_of_getElem? (i := 12) rfl))) (by decide) (t := (.array .int)) (t' := (.array .int)) (by decide) (by decide))))
  obtain ⟨T5, h5, X5, e5, W5, st5⟩ := putF X2 hx hZ hown (host := "") (Or.inl (hw _ (List.mem_of_getElem? (i := 13) rfl))) Via.refl e2 c4 c3 (Or.inr ⟨(hw _ (List.mem_of_getElem? (i := 14) rfl)), rfl, hnm⟩) (hw _ (List.mem_of_getElem? (i := 3) rfl)) (ty := (.array .int)) (by decide) rfl rfl (g := (mkF m 11 #[.val (.ref p0), .val (.ref p1), .val (.ref p2)] [(.ref p2), (.ref p0)])) rfl rfl (hb hby d1_11)
  have Fw5 := c4.same W5
  have O5 := O2.wr W5 F3_
  have K5 : Keep h0 h5 [p0] := K2.wr W5 (Or.inl (List.mem_of_getElem? (i := 0) rfl))
  have N5 := Fr.snoc X5 N2 F3_
  have s6 : Steps p.tables e below (s₁.setTop (entryFrame m #[(.ref p0), (.ref p1), (.ref p2)] 3)) (T5.setTop (mkF m 14 #[.val (.ref p0), .val (.ref p1), .val (.ref p2)] [])) := by
    refine s0.trans ?_
    show Steps p.tables e below (s₁.setTop (mkF m 0 #[.val (.ref p0), .val (.ref p1), .val (.ref p2)] [])) _
    refine XS.aloadN X0.here hx rfl (hb hby d1_0) rfl rfl ?_
    show Steps p.tables e below (s₁.setTop (mkF m 1 #[.val (.ref p0), .val (.ref p1), .val (.ref p2)] [(.ref p0)])) _
    refine st1 _ ?_
    show Steps p.tables e below (T1.setTop (mkF m 4 #[.val (.ref p0), .val (.ref p1), .val (.ref p2)] [])) _
    refine XS.aloadN X1.here hx rfl (hb hby d1_4) rfl rfl ?_
    show Steps p.tables e below (T1.setTop (mkF m 5 #[.val (.ref p0), .val (.ref p1), .val (.ref p2)] [(.ref p0)])) _
    refine XS.aloadN X1.here hx rfl (hb hby d1_5) rfl rfl ?_
    show Steps p.tables e below (T1.setTop (mkF m 6 #[.val (.ref p0), .val (.ref p1), .val (.ref p2)] [(.ref p1), (.ref p0)])) _
    refine st2 _ ?_
    show Steps p.tables e below (T2.setTop (mkF m 9 #[.val (.ref p0), .val (.ref p1), .val (.ref p2)] [])) _
    refine XS.aloadN X2.here hx rfl (hb hby d1_9) rfl rfl ?_
    show Steps p.tables e below (T2.setTop (mkF m 10 #[.val (.ref p0), .val (.ref p1), .val (.ref p2)] [(.ref p0)])) _
    refine XS.aloadN X2.here hx rfl (hb hby d1_10) rfl rfl ?_
    show Steps p.tables e below (T2.setTop (mkF m 11 #[.val (.ref p0), .val (.ref p1), .val (.ref p2)] [(.ref p2), (.ref p0)])) _
    refine st5 _ ?_
    exact Steps.refl _
  have c7 : Exa Z h5 p0 "com/example/odds_on_axioms/oddsonaxioms/network/Condition" := (c3.wr W5)
  have c8 : Fld Z h5 p0 "com/example/odds_on_axioms/oddsonaxioms/network/Condition" "positions" "[I" (.ref p1) := (Fw2.other W5 (Or.inr (slot_ne (Or.inr (hw _ (List.mem_of_getElem? (i := 12) rfl))) (Or.inr (hw _ (List.mem_of_getElem? (i := 14) rfl))) (by decide) (t := (.array .int)) (t' := (.array .int)) (by decide) (by decide))))
  obtain ⟨fs, hr, hrun, hended, hW, hsame⟩ := X5.leave (v := none) (fun _ => rfl)
  refine ⟨_, _, s6.trans ?_, hrun, hended, _, _, rfl, ?_, ⟨_, rfl⟩, hW, hsame.mono (by decide) (by decide)⟩
  · show Steps p.tables e below (T5.setTop (mkF m 14 #[.val (.ref p0), .val (.ref p1), .val (.ref p2)] [])) _
    exact X5.returnOut hx Bd.returns (hb hby d1_14) hr
  · show Q1 Z p0 p1 p2 h0 n0 _ T5.heap _
    rw [e5]
    exact ⟨rfl, N5, K5, c7, c8, Fw5⟩
theorem d3_0 : decode prog_38_method_9_code 0 = .ok (.aload_n 0, 1) := by decide +kernel
theorem d3_1 : decode prog_38_method_9_code 1 = .ok (.getfield 7, 3) := by decide +kernel
theorem d3_4 : decode prog_38_method_9_code 4 = .ok (.arraylength, 1) := by decide +kernel
theorem d3_5 : decode prog_38_method_9_code 5 = .ok (.ifCond .ne 7, 3) := by decide +kernel
theorem d3_8 : decode prog_38_method_9_code 8 = .ok (.iconst 1, 1) := by decide +kernel
theorem d3_9 : decode prog_38_method_9_code 9 = .ok (.goto 4, 3) := by decide +kernel
theorem d3_13 : decode prog_38_method_9_code 13 = .ok (.ireturn, 1) := by decide +kernel
theorem ef_rme0 (m : MethodId) (p0 : Addr) : entryFrame m #[(.ref p0)] 1 = mkF m 0 #[.val (.ref p0)] [] := by first | (simp [entryFrame, mkF, argsToLocals, Value.category]; done) | rfl
def Qe0 (Z : State) (p0 : Addr) (b1 : Addr) (k1 : ClassId) (h0 : Heap) (n0 : Nat) (v : Option Value) (h : Heap) (L : List Loc) : Prop := v = some (.int (1 : Int32)) ∧ Fr n0 L ∧ h = h0
set_option maxRecDepth 65536 in
set_option maxHeartbeats 40000000 in
theorem rme0 (l : Launch) (Z : State) (a0 : Array Value) (hw : ∀ d ∈ tables_1, d.before a0 Z = true) (ws : List Jvm.Cond) (p0 : Addr) (b1 : Addr) (k1 : ClassId) (h0 : Heap) (n0 : Nat) (O0 : Old Z n0 h0) (F0_ : Fld Z h0 p0 "com/example/odds_on_axioms/oddsonaxioms/network/Condition" "positions" "[I" (.ref b1)) (F1_ : Arv Z h0 b1 k1 .int (0 : Int32) [] (.int (0 : Int32))) :
    MetFree l (⟨"com/example/odds_on_axioms/oddsonaxioms/network/Condition", "isEmpty", "()Z"⟩ : MethodName) (head1 (Jvm.Cond.code (⟨"com/example/odds_on_axioms/oddsonaxioms/network/Condition", "isEmpty", "()Z"⟩ : MethodName) prog_38_method_9_code 1 (some .boolean) :: ws) ({ frames := 0, cells := 0, slots := 0, locals := 0 } : Room)) (fun a U => a = #[(.ref p0)] ∧ Z.Warmed39 U.vm ∧ U.heap = h0) (fun _ _ _ _ _ => True) (fun _ U o U' => ∃ v L, o = .returned v ∧ Qe0 Z p0 b1 k1 h0 n0 v U'.heap L ∧ FrameEnd U o U' L ({ frames := 0, cells := 0, slots := 0, locals := 0 } : Room).cells ({ frames := 0, cells := 0, slots := 0, locals := 0 } : Room).slots) := by
  refine MetFree.of_bodySF (plainFor_of_name pn_1) hisR ?_
  intro p e s m args below meth c s₁ Bd hml0 hP hK
  obtain ⟨rfl, hZ, hh⟩ := hP
  have hx := Bd.exec
  have hby := Bd.bytes
  have hml : c.maxLocals = 1 := hml0
  have hown : s.vm.findClass "com/example/odds_on_axioms/oddsonaxioms/network/Condition" = some m.cls := findClass_of_methodNamed Bd.named
  have hnm := (name_of_methodNamed Bd.named Bd.method).1
  have X0 : Stand p l e ({ frames := 0, cells := 0, slots := 0, locals := 0 } : Room) s m #[(.ref p0)] below meth c s₁ [] 0 0 := Stand.of_body Bd
  have e0 : s₁.heap = h0 := by rw [← hh, Bd.state]; rfl
  have N0 := Fr.nil n0
  have s0 : Steps p.tables e below (s₁.setTop (entryFrame m #[(.ref p0)] 1)) (s₁.setTop (mkF m 0 #[.val (.ref p0)] [])) := castTop (ef_rme0 m p0) (Steps.refl _)
  obtain ⟨T1, X1, e1, st1⟩ := getF X0 hx hZ hown (host := "") (Or.inl (hw _ (List.mem_of_getElem? (i := 11) rfl))) Via.refl e0 F0_ (g := (mkF m 1 #[.val (.ref p0)] [(.ref p0)])) rfl rfl (hb hby d3_1)
  obtain ⟨cla2, Ara2, qa2, Sa2, Za2, Ha2, Ga2⟩ := id F1_
  have s3 : Steps p.tables e below (s₁.setTop (entryFrame m #[(.ref p0)] 1)) (T1.setTop (mkF m 13 #[.val (.ref p0)] [(.int (1 : Int32))])) := by
    refine s0.trans ?_
    show Steps p.tables e below (s₁.setTop (mkF m 0 #[.val (.ref p0)] [])) _
    refine XS.aloadN X0.here hx rfl (hb hby d3_0) rfl rfl ?_
    show Steps p.tables e below (s₁.setTop (mkF m 1 #[.val (.ref p0)] [(.ref p0)])) _
    refine st1 _ ?_
    show Steps p.tables e below (T1.setTop (mkF m 4 #[.val (.ref p0)] [(.ref b1)])) _
    refine X1.arraylength hx (by rw [e1]; exact Ara2.1) (State.isArrayOf_alike hZ.alike Ara2.2.1) (g := (mkF m 4 #[.val (.ref p0)] [(.ref b1)])) rfl rfl (hb hby d3_4) _ ?_
    rw [len_of Sa2 Za2]
    show Steps p.tables e below (T1.setTop (mkF m 5 #[.val (.ref p0)] [(.int (0 : Int32))])) _
    refine XS.ifNo X1.here hx rfl (hb hby d3_5) rfl ((if0 _ _).trans (teq (by decide)).2) ?_
    show Steps p.tables e below (T1.setTop (mkF m 8 #[.val (.ref p0)] [])) _
    refine XS.iconst X1.here hx rfl (hb hby d3_8) ?_
    show Steps p.tables e below (T1.setTop (mkF m 9 #[.val (.ref p0)] [(.int (1 : Int32))])) _
    refine XS.goto X1.here hx rfl (pc0 := 9) (pc' := 13) rfl (hb hby d3_9) (by decide) (by decide) ?_
    exact Steps.refl _
  obtain ⟨fs, hr, hrun, hended, hW, hsame⟩ := X1.leave (v := some (.int (1 : Int32))) (fun h => by rw [Bd.returns] at h; cases h)
  refine ⟨_, _, s3.trans ?_, hrun, hended, _, _, rfl, ?_, ⟨_, rfl⟩, hW, hsame.mono (by decide) (by decide)⟩
  · show Steps p.tables e below (T1.setTop (mkF m 13 #[.val (.ref p0)] [(.int (1 : Int32))])) _
    exact retN X1 hx (t := .boolean) Bd.returns (by simp) (hb hby d3_13) hr
  · show Qe0 Z p0 b1 k1 h0 n0 _ T1.heap _
    rw [e1]
    exact ⟨rfl, N0, rfl⟩
theorem d6_0 : decode jdk_65_method_59_code 0 = .ok (.iload_n 1, 1) := by decide +kernel
theorem d6_1 : decode jdk_65_method_59_code 1 = .ok (.istore 4, 2) := by decide +kernel
theorem d6_3 : decode jdk_65_method_59_code 3 = .ok (.iload_n 2, 1) := by decide +kernel
theorem d6_4 : decode jdk_65_method_59_code 4 = .ok (.iconst 1, 1) := by decide +kernel
theorem d6_5 : decode jdk_65_method_59_code 5 = .ok (.isub, 1) := by decide +kernel
theorem d6_6 : decode jdk_65_method_59_code 6 = .ok (.istore 5, 2) := by decide +kernel
theorem d6_8 : decode jdk_65_method_59_code 8 = .ok (.iload 4, 2) := by decide +kernel
theorem d6_10 : decode jdk_65_method_59_code 10 = .ok (.iload 5, 2) := by decide +kernel
theorem d6_12 : decode jdk_65_method_59_code 12 = .ok (.if_icmp .gt 54, 3) := by decide +kernel
theorem d6_66 : decode jdk_65_method_59_code 66 = .ok (.iload 4, 2) := by decide +kernel
theorem d6_68 : decode jdk_65_method_59_code 68 = .ok (.iconst 1, 1) := by decide +kernel
theorem d6_69 : decode jdk_65_method_59_code 69 = .ok (.iadd, 1) := by decide +kernel
theorem d6_70 : decode jdk_65_method_59_code 70 = .ok (.ineg, 1) := by decide +kernel
theorem d6_71 : decode jdk_65_method_59_code 71 = .ok (.ireturn, 1) := by decide +kernel
theorem pn_6 : plainName "java/util/Arrays" = true := by first | (simp [plainName, overriddenIn]; done) | decide +kernel
theorem ef_rmb0 (m : MethodId) (p0 : Addr) (p3 : Int32) : entryFrame m #[(.ref p0), (.int (0 : Int32)), (.int (0 : Int32)), (.int p3)] 8 = mkF m 0 #[.val (.ref p0), .val (.int (0 : Int32)), .val (.int (0 : Int32)), .val (.int p3), .unset, .unset, .unset, .unset] [] := by first | (simp [entryFrame, mkF, argsToLocals, Value.category]; done) | rfl
def Qb0 (Z : State) (p0 : Addr) (p3 : Int32) (k1 : ClassId) (h0 : Heap) (n0 : Nat) (v : Option Value) (h : Heap) (L : List Loc) : Prop := v = some (.int (-1 : Int32)) ∧ Fr n0 L ∧ h = h0
set_option maxRecDepth 65536 in
set_option maxHeartbeats 40000000 in
theorem rmb0 (l : Launch) (Z : State) (a0 : Array Value) (hw : ∀ d ∈ tables_1, d.before a0 Z = true) (ws : List Jvm.Cond) (p0 : Addr) (p3 : Int32) (k1 : ClassId) (h0 : Heap) (n0 : Nat) (O0 : Old Z n0 h0) (F0_ : Arv Z h0 p0 k1 .int (0 : Int32) [] (.int (0 : Int32))) :
    MetFree l (⟨"java/util/Arrays", "binarySearch0", "([IIII)I"⟩ : MethodName) (head1 (Jvm.Cond.code (⟨"java/util/Arrays", "binarySearch0", "([IIII)I"⟩ : MethodName) jdk_65_method_59_code 8 (some .int) :: ws) ({ frames := 0, cells := 0, slots := 0, locals := 0 } : Room)) (fun a U => a = #[(.ref p0), (.int (0 : Int32)), (.int (0 : Int32)), (.int p3)] ∧ Z.Warmed39 U.vm ∧ U.heap = h0) (fun _ _ _ _ _ => True) (fun _ U o U' => ∃ v L, o = .returned v ∧ Qb0 Z p0 p3 k1 h0 n0 v U'.heap L ∧ FrameEnd U o U' L ({ frames := 0, cells := 0, slots := 0, locals := 0 } : Room).cells ({ frames := 0, cells := 0, slots := 0, locals := 0 } : Room).slots) := by
  refine MetFree.of_bodySF (plainFor_of_name pn_6) hisR ?_
  intro p e s m args below meth c s₁ Bd hml0 hP hK
  obtain ⟨rfl, hZ, hh⟩ := hP
  have hx := Bd.exec
  have hby := Bd.bytes
  have hml : c.maxLocals = 8 := hml0
  have hown : s.vm.findClass "java/util/Arrays" = some m.cls := findClass_of_methodNamed Bd.named
  have hnm := (name_of_methodNamed Bd.named Bd.method).1
  have X0 : Stand p l e ({ frames := 0, cells := 0, slots := 0, locals := 0 } : Room) s m #[(.ref p0), (.int (0 : Int32)), (.int (0 : Int32)), (.int p3)] below meth c s₁ [] 0 0 := Stand.of_body Bd
  have e0 : s₁.heap = h0 := by rw [← hh, Bd.state]; rfl
  have N0 := Fr.nil n0
  have s0 : Steps p.tables e below (s₁.setTop (entryFrame m #[(.ref p0), (.int (0 : Int32)), (.int (0 : Int32)), (.int p3)] 8)) (s₁.setTop (mkF m 0 #[.val (.ref p0), .val (.int (0 : Int32)), .val (.int (0 : Int32)), .val (.int p3), .unset, .unset, .unset, .unset] [])) := castTop (ef_rmb0 m p0 p3) (Steps.refl _)
  have s1 : Steps p.tables e below (s₁.setTop (entryFrame m #[(.ref p0), (.int (0 : Int32)), (.int (0 : Int32)), (.int p3)] 8)) (s₁.setTop (mkF m 71 #[.val (.ref p0), .val (.int (0 : Int32)), .val (.int (0 : Int32)), .val (.int p3), .val (.int (0 : Int32)), .val (.int (-1 : Int32)), .unset, .unset] [(.int (-1 : Int32))])) := by
    refine s0.trans ?_
    show Steps p.tables e below (s₁.setTop (mkF m 0 #[.val (.ref p0), .val (.int (0 : Int32)), .val (.int (0 : Int32)), .val (.int p3), .unset, .unset, .unset, .unset] [])) _
    refine XS.iloadN X0.here hx rfl (hb hby d6_0) rfl ?_
    show Steps p.tables e below (s₁.setTop (mkF m 1 #[.val (.ref p0), .val (.int (0 : Int32)), .val (.int (0 : Int32)), .val (.int p3), .unset, .unset, .unset, .unset] [(.int (0 : Int32))])) _
    refine XS.istore X0.here hx rfl (hb hby d6_1) rfl (l' := #[.val (.ref p0), .val (.int (0 : Int32)), .val (.int (0 : Int32)), .val (.int p3), .val (.int (0 : Int32)), .unset, .unset, .unset]) rfl ?_
    show Steps p.tables e below (s₁.setTop (mkF m 3 #[.val (.ref p0), .val (.int (0 : Int32)), .val (.int (0 : Int32)), .val (.int p3), .val (.int (0 : Int32)), .unset, .unset, .unset] [])) _
    refine XS.iloadN X0.here hx rfl (hb hby d6_3) rfl ?_
    show Steps p.tables e below (s₁.setTop (mkF m 4 #[.val (.ref p0), .val (.int (0 : Int32)), .val (.int (0 : Int32)), .val (.int p3), .val (.int (0 : Int32)), .unset, .unset, .unset] [(.int (0 : Int32))])) _
    refine XS.iconst X0.here hx rfl (hb hby d6_4) ?_
    show Steps p.tables e below (s₁.setTop (mkF m 5 #[.val (.ref p0), .val (.int (0 : Int32)), .val (.int (0 : Int32)), .val (.int p3), .val (.int (0 : Int32)), .unset, .unset, .unset] [(.int (1 : Int32)), (.int (0 : Int32))])) _
    refine XS.isub X0.here hx rfl (hb hby d6_5) rfl ?_
    show Steps p.tables e below (s₁.setTop (mkF m 6 #[.val (.ref p0), .val (.int (0 : Int32)), .val (.int (0 : Int32)), .val (.int p3), .val (.int (0 : Int32)), .unset, .unset, .unset] [(.int (-1 : Int32))])) _
    refine XS.istore X0.here hx rfl (hb hby d6_6) rfl (l' := #[.val (.ref p0), .val (.int (0 : Int32)), .val (.int (0 : Int32)), .val (.int p3), .val (.int (0 : Int32)), .val (.int (-1 : Int32)), .unset, .unset]) rfl ?_
    show Steps p.tables e below (s₁.setTop (mkF m 8 #[.val (.ref p0), .val (.int (0 : Int32)), .val (.int (0 : Int32)), .val (.int p3), .val (.int (0 : Int32)), .val (.int (-1 : Int32)), .unset, .unset] [])) _
    refine XS.iload X0.here hx rfl (hb hby d6_8) rfl ?_
    show Steps p.tables e below (s₁.setTop (mkF m 10 #[.val (.ref p0), .val (.int (0 : Int32)), .val (.int (0 : Int32)), .val (.int p3), .val (.int (0 : Int32)), .val (.int (-1 : Int32)), .unset, .unset] [(.int (0 : Int32))])) _
    refine XS.iload X0.here hx rfl (hb hby d6_10) rfl ?_
    show Steps p.tables e below (s₁.setTop (mkF m 12 #[.val (.ref p0), .val (.int (0 : Int32)), .val (.int (0 : Int32)), .val (.int p3), .val (.int (0 : Int32)), .val (.int (-1 : Int32)), .unset, .unset] [(.int (-1 : Int32)), (.int (0 : Int32))])) _
    refine XS.icmpYes X0.here hx rfl (pc0 := 12) (pc' := 66) rfl (hb hby d6_12) rfl (tlt (by decide)).2.2.1 (by decide) (by decide) ?_
    show Steps p.tables e below (s₁.setTop (mkF m 66 #[.val (.ref p0), .val (.int (0 : Int32)), .val (.int (0 : Int32)), .val (.int p3), .val (.int (0 : Int32)), .val (.int (-1 : Int32)), .unset, .unset] [])) _
    refine XS.iload X0.here hx rfl (hb hby d6_66) rfl ?_
    show Steps p.tables e below (s₁.setTop (mkF m 68 #[.val (.ref p0), .val (.int (0 : Int32)), .val (.int (0 : Int32)), .val (.int p3), .val (.int (0 : Int32)), .val (.int (-1 : Int32)), .unset, .unset] [(.int (0 : Int32))])) _
    refine XS.iconst X0.here hx rfl (hb hby d6_68) ?_
    show Steps p.tables e below (s₁.setTop (mkF m 69 #[.val (.ref p0), .val (.int (0 : Int32)), .val (.int (0 : Int32)), .val (.int p3), .val (.int (0 : Int32)), .val (.int (-1 : Int32)), .unset, .unset] [(.int (1 : Int32)), (.int (0 : Int32))])) _
    refine XS.iadd X0.here hx rfl (hb hby d6_69) rfl ?_
    show Steps p.tables e below (s₁.setTop (mkF m 70 #[.val (.ref p0), .val (.int (0 : Int32)), .val (.int (0 : Int32)), .val (.int p3), .val (.int (0 : Int32)), .val (.int (-1 : Int32)), .unset, .unset] [(.int (1 : Int32))])) _
    refine XS.ineg X0.here hx rfl (hb hby d6_70) rfl ?_
    exact Steps.refl _
  obtain ⟨fs, hr, hrun, hended, hW, hsame⟩ := X0.leave (v := some (.int (-1 : Int32))) (fun h => by rw [Bd.returns] at h; cases h)
  refine ⟨_, _, s1.trans ?_, hrun, hended, _, _, rfl, ?_, ⟨_, rfl⟩, hW, hsame.mono (by decide) (by decide)⟩
  · show Steps p.tables e below (s₁.setTop (mkF m 71 #[.val (.ref p0), .val (.int (0 : Int32)), .val (.int (0 : Int32)), .val (.int p3), .val (.int (0 : Int32)), .val (.int (-1 : Int32)), .unset, .unset] [(.int (-1 : Int32))])) _
    exact retI X0 hx Bd.returns (hb hby d6_71) hr
  · show Qb0 Z p0 p3 k1 h0 n0 _ s₁.heap _
    rw [e0]
    exact ⟨rfl, N0, rfl⟩
theorem d5_0 : decode jdk_65_method_57_code 0 = .ok (.aload_n 0, 1) := by decide +kernel
theorem d5_1 : decode jdk_65_method_57_code 1 = .ok (.iconst 0, 1) := by decide +kernel
theorem d5_2 : decode jdk_65_method_57_code 2 = .ok (.aload_n 0, 1) := by decide +kernel
theorem d5_3 : decode jdk_65_method_57_code 3 = .ok (.arraylength, 1) := by decide +kernel
theorem d5_4 : decode jdk_65_method_57_code 4 = .ok (.iload_n 1, 1) := by decide +kernel
theorem d5_5 : decode jdk_65_method_57_code 5 = .ok (.invokestatic 209, 3) := by decide +kernel
theorem d5_8 : decode jdk_65_method_57_code 8 = .ok (.ireturn, 1) := by decide +kernel
theorem pd_rma0_0 : parseMethodDescriptor "([IIII)I" = some ⟨[(.array .int), .int, .int, .int], some .int⟩ := by decide +kernel
theorem ef_rma0 (m : MethodId) (p0 : Addr) (p1 : Int32) : entryFrame m #[(.ref p0), (.int p1)] 2 = mkF m 0 #[.val (.ref p0), .val (.int p1)] [] := by first | (simp [entryFrame, mkF, argsToLocals, Value.category]; done) | rfl
def Qa0 (Z : State) (p0 : Addr) (p1 : Int32) (k1 : ClassId) (h0 : Heap) (n0 : Nat) (v : Option Value) (h : Heap) (L : List Loc) : Prop := v = some (.int (-1 : Int32)) ∧ Fr n0 L ∧ h = h0
set_option maxRecDepth 65536 in
set_option maxHeartbeats 40000000 in
theorem rma0 (l : Launch) (Z : State) (a0 : Array Value) (hw : ∀ d ∈ tables_1, d.before a0 Z = true) (ws : List Jvm.Cond) (p0 : Addr) (p1 : Int32) (k1 : ClassId) (h0 : Heap) (n0 : Nat) (O0 : Old Z n0 h0) (F0_ : Arv Z h0 p0 k1 .int (0 : Int32) [] (.int (0 : Int32))) :
    MetFree l (⟨"java/util/Arrays", "binarySearch", "([II)I"⟩ : MethodName) (head1 (Jvm.Cond.code (⟨"java/util/Arrays", "binarySearch", "([II)I"⟩ : MethodName) jdk_65_method_57_code 2 (some .int) :: ws) ({ frames := 1, cells := 0, slots := 0, locals := 19 } : Room)) (fun a U => a = #[(.ref p0), (.int p1)] ∧ Z.Warmed39 U.vm ∧ U.heap = h0) (fun _ _ _ _ _ => True) (fun _ U o U' => ∃ v L, o = .returned v ∧ Qa0 Z p0 p1 k1 h0 n0 v U'.heap L ∧ FrameEnd U o U' L ({ frames := 1, cells := 0, slots := 0, locals := 19 } : Room).cells ({ frames := 1, cells := 0, slots := 0, locals := 19 } : Room).slots) := by
  refine MetFree.of_bodySF (plainFor_of_name pn_6) hisR ?_
  intro p e s m args below meth c s₁ Bd hml0 hP hK
  obtain ⟨rfl, hZ, hh⟩ := hP
  have hx := Bd.exec
  have hby := Bd.bytes
  have hml : c.maxLocals = 2 := hml0
  have hown : s.vm.findClass "java/util/Arrays" = some m.cls := findClass_of_methodNamed Bd.named
  have hnm := (name_of_methodNamed Bd.named Bd.method).1
  have X0 : Stand p l e ({ frames := 1, cells := 0, slots := 0, locals := 19 } : Room) s m #[(.ref p0), (.int p1)] below meth c s₁ [] 0 0 := Stand.of_body Bd
  have e0 : s₁.heap = h0 := by rw [← hh, Bd.state]; rfl
  have N0 := Fr.nil n0
  have s0 : Steps p.tables e below (s₁.setTop (entryFrame m #[(.ref p0), (.int p1)] 2)) (s₁.setTop (mkF m 0 #[.val (.ref p0), .val (.int p1)] [])) := castTop (ef_rma0 m p0 p1) (Steps.refl _)
  obtain ⟨cla1, Ara1, qa1, Sa1, Za1, Ha1, Ga1⟩ := id F0_
  obtain ⟨_, _, ⟨T2, L2, k2, n2⟩, -, X2, ⟨Lc2, hQ2, l2, y2, z2⟩, st2⟩ := Jvm.LawKit.callS X0 hx (y := (⟨"java/util/Arrays", "binarySearch0", "([IIII)I"⟩ : MethodName)) hown (mvT hZ (hw _ (List.mem_of_getElem? (i := 29) rfl))) (mvT hZ (hw _ (List.mem_of_getElem? (i := 30) rfl))) (mvT hZ (hw _ (List.mem_of_getElem? (i := 27) rfl))) (mvT hZ (hw _ (List.mem_of_getElem? (i := 31) rfl))) (by decide) (backOf (W := 0) (rmb0 l Z a0 hw [] p0 p1 k1 h0 n0 O0 F0_) hZ (hw _ (List.mem_of_getElem? (i := 31) rfl)) (hw _ (List.mem_of_getElem? (i := 27) rfl)) (by decide) (by decide)) (g := (mkF m 5 #[.val (.ref p0), .val (.int p1)] [(.int p1), (.int (0 : Int32)), (.int (0 : Int32)), (.ref p0)])) rfl (by rw [hml]; rfl) (argsL := [(.ref p0), (.int (0 : Int32)), (.int (0 : Int32)), (.int p1)]) (rest := []) (lenOf pd_rma0_0 rfl) rfl (by show 2 * 0 + _ ≤ _; exact Nat.le_of_eq rfl) (hb hby d5_5) (fun _ _ => ⟨rfl, e0, (by decide : 0 + 0 ≤ _), (by decide : 0 + 0 ≤ _)⟩)
  dsimp only [Pt.U, Pt.locs, Pt.cells, Pt.slots] at X2 l2 y2 z2 st2 hQ2
  subst l2 y2 z2
  obtain ⟨rfl, Nq2, e2⟩ := hQ2
  have N2 := Fr.app N0 Nq2
  have s3 : Steps p.tables e below (s₁.setTop (entryFrame m #[(.ref p0), (.int p1)] 2)) (T2.setTop (mkF m 8 #[.val (.ref p0), .val (.int p1)] [(.int (-1 : Int32))])) := by
    refine s0.trans ?_
    show Steps p.tables e below (s₁.setTop (mkF m 0 #[.val (.ref p0), .val (.int p1)] [])) _
    refine XS.aloadN X0.here hx rfl (hb hby d5_0) rfl rfl ?_
    show Steps p.tables e below (s₁.setTop (mkF m 1 #[.val (.ref p0), .val (.int p1)] [(.ref p0)])) _
    refine XS.iconst X0.here hx rfl (hb hby d5_1) ?_
    show Steps p.tables e below (s₁.setTop (mkF m 2 #[.val (.ref p0), .val (.int p1)] [(.int (0 : Int32)), (.ref p0)])) _
    refine XS.aloadN X0.here hx rfl (hb hby d5_2) rfl rfl ?_
    show Steps p.tables e below (s₁.setTop (mkF m 3 #[.val (.ref p0), .val (.int p1)] [(.ref p0), (.int (0 : Int32)), (.ref p0)])) _
    refine X0.arraylength hx (by rw [e0]; exact Ara1.1) (State.isArrayOf_alike hZ.alike Ara1.2.1) (g := (mkF m 3 #[.val (.ref p0), .val (.int p1)] [(.ref p0), (.int (0 : Int32)), (.ref p0)])) rfl rfl (hb hby d5_3) _ ?_
    rw [len_of Sa1 Za1]
    show Steps p.tables e below (s₁.setTop (mkF m 4 #[.val (.ref p0), .val (.int p1)] [(.int (0 : Int32)), (.int (0 : Int32)), (.ref p0)])) _
    refine XS.iloadN X0.here hx rfl (hb hby d5_4) rfl ?_
    show Steps p.tables e below (s₁.setTop (mkF m 5 #[.val (.ref p0), .val (.int p1)] [(.int p1), (.int (0 : Int32)), (.int (0 : Int32)), (.ref p0)])) _
    refine st2 _ ?_
    exact Steps.refl _
  obtain ⟨fs, hr, hrun, hended, hW, hsame⟩ := X2.leave (v := some (.int (-1 : Int32))) (fun h => by rw [Bd.returns] at h; cases h)
  refine ⟨_, _, s3.trans ?_, hrun, hended, _, _, rfl, ?_, ⟨_, rfl⟩, hW, hsame.mono (by decide) (by decide)⟩
  · show Steps p.tables e below (T2.setTop (mkF m 8 #[.val (.ref p0), .val (.int p1)] [(.int (-1 : Int32))])) _
    exact retI X2 hx Bd.returns (hb hby d5_8) hr
  · show Qa0 Z p0 p1 k1 h0 n0 _ T2.heap _
    rw [e2]
    exact ⟨rfl, N2, rfl⟩
theorem d4_0 : decode prog_38_method_7_code 0 = .ok (.aload_n 0, 1) := by decide +kernel
theorem d4_1 : decode prog_38_method_7_code 1 = .ok (.getfield 7, 3) := by decide +kernel
theorem d4_4 : decode prog_38_method_7_code 4 = .ok (.iload_n 1, 1) := by decide +kernel
theorem d4_5 : decode prog_38_method_7_code 5 = .ok (.invokestatic 43, 3) := by decide +kernel
theorem d4_8 : decode prog_38_method_7_code 8 = .ok (.istore_n 2, 1) := by decide +kernel
theorem d4_9 : decode prog_38_method_7_code 9 = .ok (.iload_n 2, 1) := by decide +kernel
theorem d4_10 : decode prog_38_method_7_code 10 = .ok (.ifCond .ge 7, 3) := by decide +kernel
theorem d4_13 : decode prog_38_method_7_code 13 = .ok (.iconst (-1), 1) := by decide +kernel
theorem d4_14 : decode prog_38_method_7_code 14 = .ok (.goto 9, 3) := by decide +kernel
theorem d4_23 : decode prog_38_method_7_code 23 = .ok (.ireturn, 1) := by decide +kernel
theorem pd_rms0_0 : parseMethodDescriptor "([II)I" = some ⟨[(.array .int), .int], some .int⟩ := by decide +kernel
theorem ef_rms0 (m : MethodId) (p0 : Addr) (p1 : Int32) : entryFrame m #[(.ref p0), (.int p1)] 3 = mkF m 0 #[.val (.ref p0), .val (.int p1), .unset] [] := by first | (simp [entryFrame, mkF, argsToLocals, Value.category]; done) | rfl
def Qs0 (Z : State) (p0 : Addr) (p1 : Int32) (b1 : Addr) (b2 : Addr) (k1 : ClassId) (k2 : ClassId) (h0 : Heap) (n0 : Nat) (v : Option Value) (h : Heap) (L : List Loc) : Prop := v = some (.int (-1 : Int32)) ∧ Fr n0 L ∧ h = h0
set_option maxRecDepth 65536 in
set_option maxHeartbeats 40000000 in
theorem rms0 (l : Launch) (Z : State) (a0 : Array Value) (hw : ∀ d ∈ tables_1, d.before a0 Z = true) (ws : List Jvm.Cond) (p0 : Addr) (p1 : Int32) (b1 : Addr) (b2 : Addr) (k1 : ClassId) (k2 : ClassId) (h0 : Heap) (n0 : Nat) (O0 : Old Z n0 h0) (F0_ : Fld Z h0 p0 "com/example/odds_on_axioms/oddsonaxioms/network/Condition" "positions" "[I" (.ref b1)) (F1_ : Fld Z h0 p0 "com/example/odds_on_axioms/oddsonaxioms/network/Condition" "states" "[I" (.ref b2)) (F2_ : Arv Z h0 b1 k1 .int (0 : Int32) [] (.int (0 : Int32))) (F3_ : Arv Z h0 b2 k2 .int (0 : Int32) [] (.int (0 : Int32))) :
    MetFree l (⟨"com/example/odds_on_axioms/oddsonaxioms/network/Condition", "state", "(I)I"⟩ : MethodName) (head1 (Jvm.Cond.code (⟨"com/example/odds_on_axioms/oddsonaxioms/network/Condition", "state", "(I)I"⟩ : MethodName) prog_38_method_7_code 3 (some .int) :: ws) ({ frames := 2, cells := 0, slots := 0, locals := 32 } : Room)) (fun a U => a = #[(.ref p0), (.int p1)] ∧ Z.Warmed39 U.vm ∧ U.heap = h0) (fun _ _ _ _ _ => True) (fun _ U o U' => ∃ v L, o = .returned v ∧ Qs0 Z p0 p1 b1 b2 k1 k2 h0 n0 v U'.heap L ∧ FrameEnd U o U' L ({ frames := 2, cells := 0, slots := 0, locals := 32 } : Room).cells ({ frames := 2, cells := 0, slots := 0, locals := 32 } : Room).slots) := by
  refine MetFree.of_bodySF (plainFor_of_name pn_1) hisR ?_
  intro p e s m args below meth c s₁ Bd hml0 hP hK
  obtain ⟨rfl, hZ, hh⟩ := hP
  have hx := Bd.exec
  have hby := Bd.bytes
  have hml : c.maxLocals = 3 := hml0
  have hown : s.vm.findClass "com/example/odds_on_axioms/oddsonaxioms/network/Condition" = some m.cls := findClass_of_methodNamed Bd.named
  have hnm := (name_of_methodNamed Bd.named Bd.method).1
  have X0 : Stand p l e ({ frames := 2, cells := 0, slots := 0, locals := 32 } : Room) s m #[(.ref p0), (.int p1)] below meth c s₁ [] 0 0 := Stand.of_body Bd
  have e0 : s₁.heap = h0 := by rw [← hh, Bd.state]; rfl
  have N0 := Fr.nil n0
  have s0 : Steps p.tables e below (s₁.setTop (entryFrame m #[(.ref p0), (.int p1)] 3)) (s₁.setTop (mkF m 0 #[.val (.ref p0), .val (.int p1), .unset] [])) := castTop (ef_rms0 m p0 p1) (Steps.refl _)
  obtain ⟨T1, X1, e1, st1⟩ := getF X0 hx hZ hown (host := "") (Or.inl (hw _ (List.mem_of_getElem? (i := 11) rfl))) Via.refl e0 F0_ (g := (mkF m 1 #[.val (.ref p0), .val (.int p1), .unset] [(.ref p0)])) rfl rfl (hb hby d4_1)
  obtain ⟨_, _, ⟨T2, L2, k2, n2⟩, -, X2, ⟨Lc2, hQ2, l2, y2, z2⟩, st2⟩ := Jvm.LawKit.callS X1 hx (y := (⟨"java/util/Arrays", "binarySearch", "([II)I"⟩ : MethodName)) hown (mvT hZ (hw _ (List.mem_of_getElem? (i := 25) rfl))) (mvT hZ (hw _ (List.mem_of_getElem? (i := 26) rfl))) (mvT hZ (hw _ (List.mem_of_getElem? (i := 27) rfl))) (mvT hZ (hw _ (List.mem_of_getElem? (i := 28) rfl))) (by decide) (backOf (W := 0) (rma0 l Z a0 hw [] b1 p1 k1 h0 n0 O0 F2_) hZ (hw _ (List.mem_of_getElem? (i := 28) rfl)) (hw _ (List.mem_of_getElem? (i := 27) rfl)) (by decide) (by decide)) (g := (mkF m 5 #[.val (.ref p0), .val (.int p1), .unset] [(.int p1), (.ref b1)])) rfl (by rw [hml]; rfl) (argsL := [(.ref b1), (.int p1)]) (rest := []) (lenOf pd_rms0_0 rfl) rfl (by show 2 * 0 + _ ≤ _; exact Nat.le_of_eq rfl) (hb hby d4_5) (fun _ _ => ⟨rfl, e1, (by decide : 0 + 0 ≤ _), (by decide : 0 + 0 ≤ _)⟩)
  dsimp only [Pt.U, Pt.locs, Pt.cells, Pt.slots] at X2 l2 y2 z2 st2 hQ2
  subst l2 y2 z2
  obtain ⟨rfl, Nq2, e2⟩ := hQ2
  have N2 := Fr.app N0 Nq2
  have s3 : Steps p.tables e below (s₁.setTop (entryFrame m #[(.ref p0), (.int p1)] 3)) (T2.setTop (mkF m 23 #[.val (.ref p0), .val (.int p1), .val (.int (-1 : Int32))] [(.int (-1 : Int32))])) := by
    refine s0.trans ?_
    show Steps p.tables e below (s₁.setTop (mkF m 0 #[.val (.ref p0), .val (.int p1), .unset] [])) _
    refine XS.aloadN X0.here hx rfl (hb hby d4_0) rfl rfl ?_
    show Steps p.tables e below (s₁.setTop (mkF m 1 #[.val (.ref p0), .val (.int p1), .unset] [(.ref p0)])) _
    refine st1 _ ?_
    show Steps p.tables e below (T1.setTop (mkF m 4 #[.val (.ref p0), .val (.int p1), .unset] [(.ref b1)])) _
    refine XS.iloadN X1.here hx rfl (hb hby d4_4) rfl ?_
    show Steps p.tables e below (T1.setTop (mkF m 5 #[.val (.ref p0), .val (.int p1), .unset] [(.int p1), (.ref b1)])) _
    refine st2 _ ?_
    show Steps p.tables e below (T2.setTop (mkF m 8 #[.val (.ref p0), .val (.int p1), .unset] [(.int (-1 : Int32))])) _
    refine XS.istoreN X2.here hx rfl (hb hby d4_8) rfl (l' := #[.val (.ref p0), .val (.int p1), .val (.int (-1 : Int32))]) rfl ?_
    show Steps p.tables e below (T2.setTop (mkF m 9 #[.val (.ref p0), .val (.int p1), .val (.int (-1 : Int32))] [])) _
    refine XS.iloadN X2.here hx rfl (hb hby d4_9) rfl ?_
    show Steps p.tables e below (T2.setTop (mkF m 10 #[.val (.ref p0), .val (.int p1), .val (.int (-1 : Int32))] [(.int (-1 : Int32))])) _
    refine XS.ifNo X2.here hx rfl (hb hby d4_10) rfl ((if0 _ _).trans (tlt (by decide)).2.1) ?_
    show Steps p.tables e below (T2.setTop (mkF m 13 #[.val (.ref p0), .val (.int p1), .val (.int (-1 : Int32))] [])) _
    refine XS.iconst X2.here hx rfl (hb hby d4_13) ?_
    show Steps p.tables e below (T2.setTop (mkF m 14 #[.val (.ref p0), .val (.int p1), .val (.int (-1 : Int32))] [(.int (-1 : Int32))])) _
    refine XS.goto X2.here hx rfl (pc0 := 14) (pc' := 23) rfl (hb hby d4_14) (by decide) (by decide) ?_
    exact Steps.refl _
  obtain ⟨fs, hr, hrun, hended, hW, hsame⟩ := X2.leave (v := some (.int (-1 : Int32))) (fun h => by rw [Bd.returns] at h; cases h)
  refine ⟨_, _, s3.trans ?_, hrun, hended, _, _, rfl, ?_, ⟨_, rfl⟩, hW, hsame.mono (by decide) (by decide)⟩
  · show Steps p.tables e below (T2.setTop (mkF m 23 #[.val (.ref p0), .val (.int p1), .val (.int (-1 : Int32))] [(.int (-1 : Int32))])) _
    exact retI X2 hx Bd.returns (hb hby d4_23) hr
  · show Qs0 Z p0 p1 b1 b2 k1 k2 h0 n0 _ T2.heap _
    rw [e2]
    exact ⟨rfl, N2, rfl⟩
theorem d3_12 : decode prog_38_method_9_code 12 = .ok (.iconst 0, 1) := by decide +kernel
theorem ef_rme1 (m : MethodId) (p0 : Addr) : entryFrame m #[(.ref p0)] 1 = mkF m 0 #[.val (.ref p0)] [] := by first | (simp [entryFrame, mkF, argsToLocals, Value.category]; done) | rfl
def Qe1 (Z : State) (p0 : Addr) (b1 : Addr) (k1 : ClassId) (q0 : Int32) (h0 : Heap) (n0 : Nat) (v : Option Value) (h : Heap) (L : List Loc) : Prop := v = some (.int (0 : Int32)) ∧ Fr n0 L ∧ h = h0
set_option maxRecDepth 65536 in
set_option maxHeartbeats 40000000 in
theorem rme1 (l : Launch) (Z : State) (a0 : Array Value) (hw : ∀ d ∈ tables_1, d.before a0 Z = true) (ws : List Jvm.Cond) (p0 : Addr) (b1 : Addr) (k1 : ClassId) (q0 : Int32) (h0 : Heap) (n0 : Nat) (O0 : Old Z n0 h0) (F0_ : Fld Z h0 p0 "com/example/odds_on_axioms/oddsonaxioms/network/Condition" "positions" "[I" (.ref b1)) (F1_ : Arv Z h0 b1 k1 .int (1 : Int32) [(.int q0)] (.int (0 : Int32))) :
    MetFree l (⟨"com/example/odds_on_axioms/oddsonaxioms/network/Condition", "isEmpty", "()Z"⟩ : MethodName) (head1 (Jvm.Cond.code (⟨"com/example/odds_on_axioms/oddsonaxioms/network/Condition", "isEmpty", "()Z"⟩ : MethodName) prog_38_method_9_code 1 (some .boolean) :: ws) ({ frames := 0, cells := 0, slots := 0, locals := 0 } : Room)) (fun a U => a = #[(.ref p0)] ∧ Z.Warmed39 U.vm ∧ U.heap = h0) (fun _ _ _ _ _ => True) (fun _ U o U' => ∃ v L, o = .returned v ∧ Qe1 Z p0 b1 k1 q0 h0 n0 v U'.heap L ∧ FrameEnd U o U' L ({ frames := 0, cells := 0, slots := 0, locals := 0 } : Room).cells ({ frames := 0, cells := 0, slots := 0, locals := 0 } : Room).slots) := by
  refine MetFree.of_bodySF (plainFor_of_name pn_1) hisR ?_
  intro p e s m args below meth c s₁ Bd hml0 hP hK
  obtain ⟨rfl, hZ, hh⟩ := hP
  have hx := Bd.exec
  have hby := Bd.bytes
  have hml : c.maxLocals = 1 := hml0
  have hown : s.vm.findClass "com/example/odds_on_axioms/oddsonaxioms/network/Condition" = some m.cls := findClass_of_methodNamed Bd.named
  have hnm := (name_of_methodNamed Bd.named Bd.method).1
  have X0 : Stand p l e ({ frames := 0, cells := 0, slots := 0, locals := 0 } : Room) s m #[(.ref p0)] below meth c s₁ [] 0 0 := Stand.of_body Bd
  have e0 : s₁.heap = h0 := by rw [← hh, Bd.state]; rfl
  have N0 := Fr.nil n0
  have s0 : Steps p.tables e below (s₁.setTop (entryFrame m #[(.ref p0)] 1)) (s₁.setTop (mkF m 0 #[.val (.ref p0)] [])) := castTop (ef_rme1 m p0) (Steps.refl _)
  obtain ⟨T1, X1, e1, st1⟩ := getF X0 hx hZ hown (host := "") (Or.inl (hw _ (List.mem_of_getElem? (i := 11) rfl))) Via.refl e0 F0_ (g := (mkF m 1 #[.val (.ref p0)] [(.ref p0)])) rfl rfl (hb hby d3_1)
  obtain ⟨cla2, Ara2, qa2, Sa2, Za2, Ha2, Ga2⟩ := id F1_
  have s3 : Steps p.tables e below (s₁.setTop (entryFrame m #[(.ref p0)] 1)) (T1.setTop (mkF m 13 #[.val (.ref p0)] [(.int (0 : Int32))])) := by
    refine s0.trans ?_
    show Steps p.tables e below (s₁.setTop (mkF m 0 #[.val (.ref p0)] [])) _
    refine XS.aloadN X0.here hx rfl (hb hby d3_0) rfl rfl ?_
    show Steps p.tables e below (s₁.setTop (mkF m 1 #[.val (.ref p0)] [(.ref p0)])) _
    refine st1 _ ?_
    show Steps p.tables e below (T1.setTop (mkF m 4 #[.val (.ref p0)] [(.ref b1)])) _
    refine X1.arraylength hx (by rw [e1]; exact Ara2.1) (State.isArrayOf_alike hZ.alike Ara2.2.1) (g := (mkF m 4 #[.val (.ref p0)] [(.ref b1)])) rfl rfl (hb hby d3_4) _ ?_
    rw [len_of Sa2 Za2]
    show Steps p.tables e below (T1.setTop (mkF m 5 #[.val (.ref p0)] [(.int (1 : Int32))])) _
    refine XS.ifYes X1.here hx rfl (pc0 := 5) (pc' := 12) rfl (hb hby d3_5) rfl ((if0 _ _).trans (feq (by decide)).2) (by decide) (by decide) ?_
    show Steps p.tables e below (T1.setTop (mkF m 12 #[.val (.ref p0)] [])) _
    refine XS.iconst X1.here hx rfl (hb hby d3_12) ?_
    exact Steps.refl _
  obtain ⟨fs, hr, hrun, hended, hW, hsame⟩ := X1.leave (v := some (.int (0 : Int32))) (fun h => by rw [Bd.returns] at h; cases h)
  refine ⟨_, _, s3.trans ?_, hrun, hended, _, _, rfl, ?_, ⟨_, rfl⟩, hW, hsame.mono (by decide) (by decide)⟩
  · show Steps p.tables e below (T1.setTop (mkF m 13 #[.val (.ref p0)] [(.int (0 : Int32))])) _
    exact retN X1 hx (t := .boolean) Bd.returns (by simp) (hb hby d3_13) hr
  · show Qe1 Z p0 b1 k1 q0 h0 n0 _ T1.heap _
    rw [e1]
    exact ⟨rfl, N0, rfl⟩
theorem d6_15 : decode jdk_65_method_59_code 15 = .ok (.iload 4, 2) := by decide +kernel
theorem d6_17 : decode jdk_65_method_59_code 17 = .ok (.iload 5, 2) := by decide +kernel
theorem d6_19 : decode jdk_65_method_59_code 19 = .ok (.iadd, 1) := by decide +kernel
theorem d6_20 : decode jdk_65_method_59_code 20 = .ok (.iconst 1, 1) := by decide +kernel
theorem d6_21 : decode jdk_65_method_59_code 21 = .ok (.iushr, 1) := by decide +kernel
theorem d6_22 : decode jdk_65_method_59_code 22 = .ok (.istore 6, 2) := by decide +kernel
theorem d6_24 : decode jdk_65_method_59_code 24 = .ok (.aload_n 0, 1) := by decide +kernel
theorem d6_25 : decode jdk_65_method_59_code 25 = .ok (.iload 6, 2) := by decide +kernel
theorem d6_27 : decode jdk_65_method_59_code 27 = .ok (.iaload, 1) := by decide +kernel
theorem d6_28 : decode jdk_65_method_59_code 28 = .ok (.istore 7, 2) := by decide +kernel
theorem d6_30 : decode jdk_65_method_59_code 30 = .ok (.iload 7, 2) := by decide +kernel
theorem d6_32 : decode jdk_65_method_59_code 32 = .ok (.iload_n 3, 1) := by decide +kernel
theorem d6_33 : decode jdk_65_method_59_code 33 = .ok (.if_icmp .ge 12, 3) := by decide +kernel
theorem d6_45 : decode jdk_65_method_59_code 45 = .ok (.iload 7, 2) := by decide +kernel
theorem d6_47 : decode jdk_65_method_59_code 47 = .ok (.iload_n 3, 1) := by decide +kernel
theorem d6_48 : decode jdk_65_method_59_code 48 = .ok (.if_icmp .le 12, 3) := by decide +kernel
theorem d6_60 : decode jdk_65_method_59_code 60 = .ok (.iload 6, 2) := by decide +kernel
theorem d6_62 : decode jdk_65_method_59_code 62 = .ok (.ireturn, 1) := by decide +kernel
theorem ef_rmb1 (m : MethodId) (p0 : Addr) (p3 : Int32) : entryFrame m #[(.ref p0), (.int (0 : Int32)), (.int (1 : Int32)), (.int p3)] 8 = mkF m 0 #[.val (.ref p0), .val (.int (0 : Int32)), .val (.int (1 : Int32)), .val (.int p3), .unset, .unset, .unset, .unset] [] := by first | (simp [entryFrame, mkF, argsToLocals, Value.category]; done) | rfl
def Qb1 (Z : State) (p0 : Addr) (p3 : Int32) (k1 : ClassId) (h0 : Heap) (n0 : Nat) (v : Option Value) (h : Heap) (L : List Loc) : Prop := v = some (.int (0 : Int32)) ∧ Fr n0 L ∧ h = h0
set_option maxRecDepth 65536 in
set_option maxHeartbeats 40000000 in
theorem rmb1 (l : Launch) (Z : State) (a0 : Array Value) (hw : ∀ d ∈ tables_1, d.before a0 Z = true) (ws : List Jvm.Cond) (p0 : Addr) (p3 : Int32) (k1 : ClassId) (h0 : Heap) (n0 : Nat) (O0 : Old Z n0 h0) (F0_ : Arv Z h0 p0 k1 .int (1 : Int32) [(.int p3)] (.int (0 : Int32))) :
    MetFree l (⟨"java/util/Arrays", "binarySearch0", "([IIII)I"⟩ : MethodName) (head1 (Jvm.Cond.code (⟨"java/util/Arrays", "binarySearch0", "([IIII)I"⟩ : MethodName) jdk_65_method_59_code 8 (some .int) :: ws) ({ frames := 0, cells := 0, slots := 0, locals := 0 } : Room)) (fun a U => a = #[(.ref p0), (.int (0 : Int32)), (.int (1 : Int32)), (.int p3)] ∧ Z.Warmed39 U.vm ∧ U.heap = h0) (fun _ _ _ _ _ => True) (fun _ U o U' => ∃ v L, o = .returned v ∧ Qb1 Z p0 p3 k1 h0 n0 v U'.heap L ∧ FrameEnd U o U' L ({ frames := 0, cells := 0, slots := 0, locals := 0 } : Room).cells ({ frames := 0, cells := 0, slots := 0, locals := 0 } : Room).slots) := by
  refine MetFree.of_bodySF (plainFor_of_name pn_6) hisR ?_
  intro p e s m args below meth c s₁ Bd hml0 hP hK
  obtain ⟨rfl, hZ, hh⟩ := hP
  have hx := Bd.exec
  have hby := Bd.bytes
  have hml : c.maxLocals = 8 := hml0
  have hown : s.vm.findClass "java/util/Arrays" = some m.cls := findClass_of_methodNamed Bd.named
  have hnm := (name_of_methodNamed Bd.named Bd.method).1
  have X0 : Stand p l e ({ frames := 0, cells := 0, slots := 0, locals := 0 } : Room) s m #[(.ref p0), (.int (0 : Int32)), (.int (1 : Int32)), (.int p3)] below meth c s₁ [] 0 0 := Stand.of_body Bd
  have e0 : s₁.heap = h0 := by rw [← hh, Bd.state]; rfl
  have N0 := Fr.nil n0
  have s0 : Steps p.tables e below (s₁.setTop (entryFrame m #[(.ref p0), (.int (0 : Int32)), (.int (1 : Int32)), (.int p3)] 8)) (s₁.setTop (mkF m 0 #[.val (.ref p0), .val (.int (0 : Int32)), .val (.int (1 : Int32)), .val (.int p3), .unset, .unset, .unset, .unset] [])) := castTop (ef_rmb1 m p0 p3) (Steps.refl _)
  obtain ⟨cla1, Ara1, qa1, Sa1, Za1, Ha1, Ga1⟩ := id F0_
  have hin2 : ¬ ((0 : Int32) < 0 ∨ cla1.slots.size ≤ ((0 : Int32)).toNatClampNeg) := inb_of Sa1 ⟨by decide, by decide⟩
  have hat3 : cla1.slots[((0 : Int32)).toNatClampNeg]? = some (.int p3) := Has.at Ha1 hin2 rfl
  have s4 : Steps p.tables e below (s₁.setTop (entryFrame m #[(.ref p0), (.int (0 : Int32)), (.int (1 : Int32)), (.int p3)] 8)) (s₁.setTop (mkF m 62 #[.val (.ref p0), .val (.int (0 : Int32)), .val (.int (1 : Int32)), .val (.int p3), .val (.int (0 : Int32)), .val (.int (0 : Int32)), .val (.int (0 : Int32)), .val (.int p3)] [(.int (0 : Int32))])) := by
    refine s0.trans ?_
    show Steps p.tables e below (s₁.setTop (mkF m 0 #[.val (.ref p0), .val (.int (0 : Int32)), .val (.int (1 : Int32)), .val (.int p3), .unset, .unset, .unset, .unset] [])) _
    refine XS.iloadN X0.here hx rfl (hb hby d6_0) rfl ?_
    show Steps p.tables e below (s₁.setTop (mkF m 1 #[.val (.ref p0), .val (.int (0 : Int32)), .val (.int (1 : Int32)), .val (.int p3), .unset, .unset, .unset, .unset] [(.int (0 : Int32))])) _
    refine XS.istore X0.here hx rfl (hb hby d6_1) rfl (l' := #[.val (.ref p0), .val (.int (0 : Int32)), .val (.int (1 : Int32)), .val (.int p3), .val (.int (0 : Int32)), .unset, .unset, .unset]) rfl ?_
    show Steps p.tables e below (s₁.setTop (mkF m 3 #[.val (.ref p0), .val (.int (0 : Int32)), .val (.int (1 : Int32)), .val (.int p3), .val (.int (0 : Int32)), .unset, .unset, .unset] [])) _
    refine XS.iloadN X0.here hx rfl (hb hby d6_3) rfl ?_
    show Steps p.tables e below (s₁.setTop (mkF m 4 #[.val (.ref p0), .val (.int (0 : Int32)), .val (.int (1 : Int32)), .val (.int p3), .val (.int (0 : Int32)), .unset, .unset, .unset] [(.int (1 : Int32))])) _
    refine XS.iconst X0.here hx rfl (hb hby d6_4) ?_
    show Steps p.tables e below (s₁.setTop (mkF m 5 #[.val (.ref p0), .val (.int (0 : Int32)), .val (.int (1 : Int32)), .val (.int p3), .val (.int (0 : Int32)), .unset, .unset, .unset] [(.int (1 : Int32)), (.int (1 : Int32))])) _
    refine XS.isub X0.here hx rfl (hb hby d6_5) rfl ?_
    show Steps p.tables e below (s₁.setTop (mkF m 6 #[.val (.ref p0), .val (.int (0 : Int32)), .val (.int (1 : Int32)), .val (.int p3), .val (.int (0 : Int32)), .unset, .unset, .unset] [(.int (0 : Int32))])) _
    refine XS.istore X0.here hx rfl (hb hby d6_6) rfl (l' := #[.val (.ref p0), .val (.int (0 : Int32)), .val (.int (1 : Int32)), .val (.int p3), .val (.int (0 : Int32)), .val (.int (0 : Int32)), .unset, .unset]) rfl ?_
    show Steps p.tables e below (s₁.setTop (mkF m 8 #[.val (.ref p0), .val (.int (0 : Int32)), .val (.int (1 : Int32)), .val (.int p3), .val (.int (0 : Int32)), .val (.int (0 : Int32)), .unset, .unset] [])) _
    refine XS.iload X0.here hx rfl (hb hby d6_8) rfl ?_
    show Steps p.tables e below (s₁.setTop (mkF m 10 #[.val (.ref p0), .val (.int (0 : Int32)), .val (.int (1 : Int32)), .val (.int p3), .val (.int (0 : Int32)), .val (.int (0 : Int32)), .unset, .unset] [(.int (0 : Int32))])) _
    refine XS.iload X0.here hx rfl (hb hby d6_10) rfl ?_
    show Steps p.tables e below (s₁.setTop (mkF m 12 #[.val (.ref p0), .val (.int (0 : Int32)), .val (.int (1 : Int32)), .val (.int p3), .val (.int (0 : Int32)), .val (.int (0 : Int32)), .unset, .unset] [(.int (0 : Int32)), (.int (0 : Int32))])) _
    refine XS.icmpNo X0.here hx rfl (hb hby d6_12) rfl (flt (by decide)).2.2.1 ?_
    show Steps p.tables e below (s₁.setTop (mkF m 15 #[.val (.ref p0), .val (.int (0 : Int32)), .val (.int (1 : Int32)), .val (.int p3), .val (.int (0 : Int32)), .val (.int (0 : Int32)), .unset, .unset] [])) _
    refine XS.iload X0.here hx rfl (hb hby d6_15) rfl ?_
    show Steps p.tables e below (s₁.setTop (mkF m 17 #[.val (.ref p0), .val (.int (0 : Int32)), .val (.int (1 : Int32)), .val (.int p3), .val (.int (0 : Int32)), .val (.int (0 : Int32)), .unset, .unset] [(.int (0 : Int32))])) _
    refine XS.iload X0.here hx rfl (hb hby d6_17) rfl ?_
    show Steps p.tables e below (s₁.setTop (mkF m 19 #[.val (.ref p0), .val (.int (0 : Int32)), .val (.int (1 : Int32)), .val (.int p3), .val (.int (0 : Int32)), .val (.int (0 : Int32)), .unset, .unset] [(.int (0 : Int32)), (.int (0 : Int32))])) _
    refine XS.iadd X0.here hx rfl (hb hby d6_19) rfl ?_
    show Steps p.tables e below (s₁.setTop (mkF m 20 #[.val (.ref p0), .val (.int (0 : Int32)), .val (.int (1 : Int32)), .val (.int p3), .val (.int (0 : Int32)), .val (.int (0 : Int32)), .unset, .unset] [(.int (0 : Int32))])) _
    refine XS.iconst X0.here hx rfl (hb hby d6_20) ?_
    show Steps p.tables e below (s₁.setTop (mkF m 21 #[.val (.ref p0), .val (.int (0 : Int32)), .val (.int (1 : Int32)), .val (.int p3), .val (.int (0 : Int32)), .val (.int (0 : Int32)), .unset, .unset] [(.int (1 : Int32)), (.int (0 : Int32))])) _
    refine XS.iushr X0.here hx rfl (hb hby d6_21) rfl ?_
    show Steps p.tables e below (s₁.setTop (mkF m 22 #[.val (.ref p0), .val (.int (0 : Int32)), .val (.int (1 : Int32)), .val (.int p3), .val (.int (0 : Int32)), .val (.int (0 : Int32)), .unset, .unset] [(.int (0 : Int32))])) _
    refine XS.istore X0.here hx rfl (hb hby d6_22) rfl (l' := #[.val (.ref p0), .val (.int (0 : Int32)), .val (.int (1 : Int32)), .val (.int p3), .val (.int (0 : Int32)), .val (.int (0 : Int32)), .val (.int (0 : Int32)), .unset]) rfl ?_
    show Steps p.tables e below (s₁.setTop (mkF m 24 #[.val (.ref p0), .val (.int (0 : Int32)), .val (.int (1 : Int32)), .val (.int p3), .val (.int (0 : Int32)), .val (.int (0 : Int32)), .val (.int (0 : Int32)), .unset] [])) _
    refine XS.aloadN X0.here hx rfl (hb hby d6_24) rfl rfl ?_
    show Steps p.tables e below (s₁.setTop (mkF m 25 #[.val (.ref p0), .val (.int (0 : Int32)), .val (.int (1 : Int32)), .val (.int p3), .val (.int (0 : Int32)), .val (.int (0 : Int32)), .val (.int (0 : Int32)), .unset] [(.ref p0)])) _
    refine XS.iload X0.here hx rfl (hb hby d6_25) rfl ?_
    show Steps p.tables e below (s₁.setTop (mkF m 27 #[.val (.ref p0), .val (.int (0 : Int32)), .val (.int (1 : Int32)), .val (.int p3), .val (.int (0 : Int32)), .val (.int (0 : Int32)), .val (.int (0 : Int32)), .unset] [(.int (0 : Int32)), (.ref p0)])) _
    refine X0.iaload hx (j := (0 : Int32)) (v := (.int p3)) (by rw [e0]; exact Ara1.1) (State.isArrayOf_alike hZ.alike Ara1.2.1) Ara1.2.2 hin2 hat3 (g := (mkF m 27 #[.val (.ref p0), .val (.int (0 : Int32)), .val (.int (1 : Int32)), .val (.int p3), .val (.int (0 : Int32)), .val (.int (0 : Int32)), .val (.int (0 : Int32)), .unset] [(.int (0 : Int32)), (.ref p0)])) rfl rfl (hb hby d6_27) _ ?_
    show Steps p.tables e below (s₁.setTop (mkF m 28 #[.val (.ref p0), .val (.int (0 : Int32)), .val (.int (1 : Int32)), .val (.int p3), .val (.int (0 : Int32)), .val (.int (0 : Int32)), .val (.int (0 : Int32)), .unset] [(.int p3)])) _
    refine XS.istore X0.here hx rfl (hb hby d6_28) rfl (l' := #[.val (.ref p0), .val (.int (0 : Int32)), .val (.int (1 : Int32)), .val (.int p3), .val (.int (0 : Int32)), .val (.int (0 : Int32)), .val (.int (0 : Int32)), .val (.int p3)]) rfl ?_
    show Steps p.tables e below (s₁.setTop (mkF m 30 #[.val (.ref p0), .val (.int (0 : Int32)), .val (.int (1 : Int32)), .val (.int p3), .val (.int (0 : Int32)), .val (.int (0 : Int32)), .val (.int (0 : Int32)), .val (.int p3)] [])) _
    refine XS.iload X0.here hx rfl (hb hby d6_30) rfl ?_
    show Steps p.tables e below (s₁.setTop (mkF m 32 #[.val (.ref p0), .val (.int (0 : Int32)), .val (.int (1 : Int32)), .val (.int p3), .val (.int (0 : Int32)), .val (.int (0 : Int32)), .val (.int (0 : Int32)), .val (.int p3)] [(.int p3)])) _
    refine XS.iloadN X0.here hx rfl (hb hby d6_32) rfl ?_
    show Steps p.tables e below (s₁.setTop (mkF m 33 #[.val (.ref p0), .val (.int (0 : Int32)), .val (.int (1 : Int32)), .val (.int p3), .val (.int (0 : Int32)), .val (.int (0 : Int32)), .val (.int (0 : Int32)), .val (.int p3)] [(.int p3), (.int p3)])) _
    refine XS.icmpYes X0.here hx rfl (pc0 := 33) (pc' := 45) rfl (hb hby d6_33) rfl (flt Int32.lt_irrefl).2.1 (by decide) (by decide) ?_
    show Steps p.tables e below (s₁.setTop (mkF m 45 #[.val (.ref p0), .val (.int (0 : Int32)), .val (.int (1 : Int32)), .val (.int p3), .val (.int (0 : Int32)), .val (.int (0 : Int32)), .val (.int (0 : Int32)), .val (.int p3)] [])) _
    refine XS.iload X0.here hx rfl (hb hby d6_45) rfl ?_
    show Steps p.tables e below (s₁.setTop (mkF m 47 #[.val (.ref p0), .val (.int (0 : Int32)), .val (.int (1 : Int32)), .val (.int p3), .val (.int (0 : Int32)), .val (.int (0 : Int32)), .val (.int (0 : Int32)), .val (.int p3)] [(.int p3)])) _
    refine XS.iloadN X0.here hx rfl (hb hby d6_47) rfl ?_
    show Steps p.tables e below (s₁.setTop (mkF m 48 #[.val (.ref p0), .val (.int (0 : Int32)), .val (.int (1 : Int32)), .val (.int p3), .val (.int (0 : Int32)), .val (.int (0 : Int32)), .val (.int (0 : Int32)), .val (.int p3)] [(.int p3), (.int p3)])) _
    refine XS.icmpYes X0.here hx rfl (pc0 := 48) (pc' := 60) rfl (hb hby d6_48) rfl (flt Int32.lt_irrefl).2.2.2 (by decide) (by decide) ?_
    show Steps p.tables e below (s₁.setTop (mkF m 60 #[.val (.ref p0), .val (.int (0 : Int32)), .val (.int (1 : Int32)), .val (.int p3), .val (.int (0 : Int32)), .val (.int (0 : Int32)), .val (.int (0 : Int32)), .val (.int p3)] [])) _
    refine XS.iload X0.here hx rfl (hb hby d6_60) rfl ?_
    exact Steps.refl _
  obtain ⟨fs, hr, hrun, hended, hW, hsame⟩ := X0.leave (v := some (.int (0 : Int32))) (fun h => by rw [Bd.returns] at h; cases h)
  refine ⟨_, _, s4.trans ?_, hrun, hended, _, _, rfl, ?_, ⟨_, rfl⟩, hW, hsame.mono (by decide) (by decide)⟩
  · show Steps p.tables e below (s₁.setTop (mkF m 62 #[.val (.ref p0), .val (.int (0 : Int32)), .val (.int (1 : Int32)), .val (.int p3), .val (.int (0 : Int32)), .val (.int (0 : Int32)), .val (.int (0 : Int32)), .val (.int p3)] [(.int (0 : Int32))])) _
    exact retI X0 hx Bd.returns (hb hby d6_62) hr
  · show Qb1 Z p0 p3 k1 h0 n0 _ s₁.heap _
    rw [e0]
    exact ⟨rfl, N0, rfl⟩
theorem pd_rma1_0 : parseMethodDescriptor "([IIII)I" = some ⟨[(.array .int), .int, .int, .int], some .int⟩ := by decide +kernel
theorem ef_rma1 (m : MethodId) (p0 : Addr) (p1 : Int32) : entryFrame m #[(.ref p0), (.int p1)] 2 = mkF m 0 #[.val (.ref p0), .val (.int p1)] [] := by first | (simp [entryFrame, mkF, argsToLocals, Value.category]; done) | rfl
def Qa1 (Z : State) (p0 : Addr) (p1 : Int32) (k1 : ClassId) (h0 : Heap) (n0 : Nat) (v : Option Value) (h : Heap) (L : List Loc) : Prop := v = some (.int (0 : Int32)) ∧ Fr n0 L ∧ h = h0
set_option maxRecDepth 65536 in
set_option maxHeartbeats 40000000 in
theorem rma1 (l : Launch) (Z : State) (a0 : Array Value) (hw : ∀ d ∈ tables_1, d.before a0 Z = true) (ws : List Jvm.Cond) (p0 : Addr) (p1 : Int32) (k1 : ClassId) (h0 : Heap) (n0 : Nat) (O0 : Old Z n0 h0) (F0_ : Arv Z h0 p0 k1 .int (1 : Int32) [(.int p1)] (.int (0 : Int32))) :
    MetFree l (⟨"java/util/Arrays", "binarySearch", "([II)I"⟩ : MethodName) (head1 (Jvm.Cond.code (⟨"java/util/Arrays", "binarySearch", "([II)I"⟩ : MethodName) jdk_65_method_57_code 2 (some .int) :: ws) ({ frames := 1, cells := 0, slots := 0, locals := 19 } : Room)) (fun a U => a = #[(.ref p0), (.int p1)] ∧ Z.Warmed39 U.vm ∧ U.heap = h0) (fun _ _ _ _ _ => True) (fun _ U o U' => ∃ v L, o = .returned v ∧ Qa1 Z p0 p1 k1 h0 n0 v U'.heap L ∧ FrameEnd U o U' L ({ frames := 1, cells := 0, slots := 0, locals := 19 } : Room).cells ({ frames := 1, cells := 0, slots := 0, locals := 19 } : Room).slots) := by
  refine MetFree.of_bodySF (plainFor_of_name pn_6) hisR ?_
  intro p e s m args below meth c s₁ Bd hml0 hP hK
  obtain ⟨rfl, hZ, hh⟩ := hP
  have hx := Bd.exec
  have hby := Bd.bytes
  have hml : c.maxLocals = 2 := hml0
  have hown : s.vm.findClass "java/util/Arrays" = some m.cls := findClass_of_methodNamed Bd.named
  have hnm := (name_of_methodNamed Bd.named Bd.method).1
  have X0 : Stand p l e ({ frames := 1, cells := 0, slots := 0, locals := 19 } : Room) s m #[(.ref p0), (.int p1)] below meth c s₁ [] 0 0 := Stand.of_body Bd
  have e0 : s₁.heap = h0 := by rw [← hh, Bd.state]; rfl
  have N0 := Fr.nil n0
  have s0 : Steps p.tables e below (s₁.setTop (entryFrame m #[(.ref p0), (.int p1)] 2)) (s₁.setTop (mkF m 0 #[.val (.ref p0), .val (.int p1)] [])) := castTop (ef_rma1 m p0 p1) (Steps.refl _)
  obtain ⟨cla1, Ara1, qa1, Sa1, Za1, Ha1, Ga1⟩ := id F0_
  obtain ⟨_, _, ⟨T2, L2, k2, n2⟩, -, X2, ⟨Lc2, hQ2, l2, y2, z2⟩, st2⟩ := Jvm.LawKit.callS X0 hx (y := (⟨"java/util/Arrays", "binarySearch0", "([IIII)I"⟩ : MethodName)) hown (mvT hZ (hw _ (List.mem_of_getElem? (i := 29) rfl))) (mvT hZ (hw _ (List.mem_of_getElem? (i := 30) rfl))) (mvT hZ (hw _ (List.mem_of_getElem? (i := 27) rfl))) (mvT hZ (hw _ (List.mem_of_getElem? (i := 31) rfl))) (by decide) (backOf (W := 0) (rmb1 l Z a0 hw [] p0 p1 k1 h0 n0 O0 F0_) hZ (hw _ (List.mem_of_getElem? (i := 31) rfl)) (hw _ (List.mem_of_getElem? (i := 27) rfl)) (by decide) (by decide)) (g := (mkF m 5 #[.val (.ref p0), .val (.int p1)] [(.int p1), (.int (1 : Int32)), (.int (0 : Int32)), (.ref p0)])) rfl (by rw [hml]; rfl) (argsL := [(.ref p0), (.int (0 : Int32)), (.int (1 : Int32)), (.int p1)]) (rest := []) (lenOf pd_rma1_0 rfl) rfl (by show 2 * 0 + _ ≤ _; exact Nat.le_of_eq rfl) (hb hby d5_5) (fun _ _ => ⟨rfl, e0, (by decide : 0 + 0 ≤ _), (by decide : 0 + 0 ≤ _)⟩)
  dsimp only [Pt.U, Pt.locs, Pt.cells, Pt.slots] at X2 l2 y2 z2 st2 hQ2
  subst l2 y2 z2
  obtain ⟨rfl, Nq2, e2⟩ := hQ2
  have N2 := Fr.app N0 Nq2
  have s3 : Steps p.tables e below (s₁.setTop (entryFrame m #[(.ref p0), (.int p1)] 2)) (T2.setTop (mkF m 8 #[.val (.ref p0), .val (.int p1)] [(.int (0 : Int32))])) := by
    refine s0.trans ?_
    show Steps p.tables e below (s₁.setTop (mkF m 0 #[.val (.ref p0), .val (.int p1)] [])) _
    refine XS.aloadN X0.here hx rfl (hb hby d5_0) rfl rfl ?_
    show Steps p.tables e below (s₁.setTop (mkF m 1 #[.val (.ref p0), .val (.int p1)] [(.ref p0)])) _
    refine XS.iconst X0.here hx rfl (hb hby d5_1) ?_
    show Steps p.tables e below (s₁.setTop (mkF m 2 #[.val (.ref p0), .val (.int p1)] [(.int (0 : Int32)), (.ref p0)])) _
    refine XS.aloadN X0.here hx rfl (hb hby d5_2) rfl rfl ?_
    show Steps p.tables e below (s₁.setTop (mkF m 3 #[.val (.ref p0), .val (.int p1)] [(.ref p0), (.int (0 : Int32)), (.ref p0)])) _
    refine X0.arraylength hx (by rw [e0]; exact Ara1.1) (State.isArrayOf_alike hZ.alike Ara1.2.1) (g := (mkF m 3 #[.val (.ref p0), .val (.int p1)] [(.ref p0), (.int (0 : Int32)), (.ref p0)])) rfl rfl (hb hby d5_3) _ ?_
    rw [len_of Sa1 Za1]
    show Steps p.tables e below (s₁.setTop (mkF m 4 #[.val (.ref p0), .val (.int p1)] [(.int (1 : Int32)), (.int (0 : Int32)), (.ref p0)])) _
    refine XS.iloadN X0.here hx rfl (hb hby d5_4) rfl ?_
    show Steps p.tables e below (s₁.setTop (mkF m 5 #[.val (.ref p0), .val (.int p1)] [(.int p1), (.int (1 : Int32)), (.int (0 : Int32)), (.ref p0)])) _
    refine st2 _ ?_
    exact Steps.refl _
  obtain ⟨fs, hr, hrun, hended, hW, hsame⟩ := X2.leave (v := some (.int (0 : Int32))) (fun h => by rw [Bd.returns] at h; cases h)
  refine ⟨_, _, s3.trans ?_, hrun, hended, _, _, rfl, ?_, ⟨_, rfl⟩, hW, hsame.mono (by decide) (by decide)⟩
  · show Steps p.tables e below (T2.setTop (mkF m 8 #[.val (.ref p0), .val (.int p1)] [(.int (0 : Int32))])) _
    exact retI X2 hx Bd.returns (hb hby d5_8) hr
  · show Qa1 Z p0 p1 k1 h0 n0 _ T2.heap _
    rw [e2]
    exact ⟨rfl, N2, rfl⟩
theorem d4_17 : decode prog_38_method_7_code 17 = .ok (.aload_n 0, 1) := by decide +kernel
theorem d4_18 : decode prog_38_method_7_code 18 = .ok (.getfield 13, 3) := by decide +kernel
theorem d4_21 : decode prog_38_method_7_code 21 = .ok (.iload_n 2, 1) := by decide +kernel
theorem d4_22 : decode prog_38_method_7_code 22 = .ok (.iaload, 1) := by decide +kernel
theorem pd_rms1_0 : parseMethodDescriptor "([II)I" = some ⟨[(.array .int), .int], some .int⟩ := by decide +kernel
theorem ef_rms1 (m : MethodId) (p0 : Addr) (p1 : Int32) : entryFrame m #[(.ref p0), (.int p1)] 3 = mkF m 0 #[.val (.ref p0), .val (.int p1), .unset] [] := by first | (simp [entryFrame, mkF, argsToLocals, Value.category]; done) | rfl
def Qs1 (Z : State) (p0 : Addr) (p1 : Int32) (b1 : Addr) (b2 : Addr) (k1 : ClassId) (k2 : ClassId) (t0 : Int32) (h0 : Heap) (n0 : Nat) (v : Option Value) (h : Heap) (L : List Loc) : Prop := v = some (.int t0) ∧ Fr n0 L ∧ h = h0
set_option maxRecDepth 65536 in
set_option maxHeartbeats 40000000 in
theorem rms1 (l : Launch) (Z : State) (a0 : Array Value) (hw : ∀ d ∈ tables_1, d.before a0 Z = true) (ws : List Jvm.Cond) (p0 : Addr) (p1 : Int32) (b1 : Addr) (b2 : Addr) (k1 : ClassId) (k2 : ClassId) (t0 : Int32) (h0 : Heap) (n0 : Nat) (O0 : Old Z n0 h0) (F0_ : Fld Z h0 p0 "com/example/odds_on_axioms/oddsonaxioms/network/Condition" "positions" "[I" (.ref b1)) (F1_ : Fld Z h0 p0 "com/example/odds_on_axioms/oddsonaxioms/network/Condition" "states" "[I" (.ref b2)) (F2_ : Arv Z h0 b1 k1 .int (1 : Int32) [(.int p1)] (.int (0 : Int32))) (F3_ : Arv Z h0 b2 k2 .int (1 : Int32) [(.int t0)] (.int (0 : Int32))) :
    MetFree l (⟨"com/example/odds_on_axioms/oddsonaxioms/network/Condition", "state", "(I)I"⟩ : MethodName) (head1 (Jvm.Cond.code (⟨"com/example/odds_on_axioms/oddsonaxioms/network/Condition", "state", "(I)I"⟩ : MethodName) prog_38_method_7_code 3 (some .int) :: ws) ({ frames := 2, cells := 0, slots := 0, locals := 32 } : Room)) (fun a U => a = #[(.ref p0), (.int p1)] ∧ Z.Warmed39 U.vm ∧ U.heap = h0) (fun _ _ _ _ _ => True) (fun _ U o U' => ∃ v L, o = .returned v ∧ Qs1 Z p0 p1 b1 b2 k1 k2 t0 h0 n0 v U'.heap L ∧ FrameEnd U o U' L ({ frames := 2, cells := 0, slots := 0, locals := 32 } : Room).cells ({ frames := 2, cells := 0, slots := 0, locals := 32 } : Room).slots) := by
  refine MetFree.of_bodySF (plainFor_of_name pn_1) hisR ?_
  intro p e s m args below meth c s₁ Bd hml0 hP hK
  obtain ⟨rfl, hZ, hh⟩ := hP
  have hx := Bd.exec
  have hby := Bd.bytes
  have hml : c.maxLocals = 3 := hml0
  have hown : s.vm.findClass "com/example/odds_on_axioms/oddsonaxioms/network/Condition" = some m.cls := findClass_of_methodNamed Bd.named
  have hnm := (name_of_methodNamed Bd.named Bd.method).1
  have X0 : Stand p l e ({ frames := 2, cells := 0, slots := 0, locals := 32 } : Room) s m #[(.ref p0), (.int p1)] below meth c s₁ [] 0 0 := Stand.of_body Bd
  have e0 : s₁.heap = h0 := by rw [← hh, Bd.state]; rfl
  have N0 := Fr.nil n0
  have s0 : Steps p.tables e below (s₁.setTop (entryFrame m #[(.ref p0), (.int p1)] 3)) (s₁.setTop (mkF m 0 #[.val (.ref p0), .val (.int p1), .unset] [])) := castTop (ef_rms1 m p0 p1) (Steps.refl _)
  obtain ⟨T1, X1, e1, st1⟩ := getF X0 hx hZ hown (host := "") (Or.inl (hw _ (List.mem_of_getElem? (i := 11) rfl))) Via.refl e0 F0_ (g := (mkF m 1 #[.val (.ref p0), .val (.int p1), .unset] [(.ref p0)])) rfl rfl (hb hby d4_1)
  obtain ⟨_, _, ⟨T2, L2, k2, n2⟩, -, X2, ⟨Lc2, hQ2, l2, y2, z2⟩, st2⟩ := Jvm.LawKit.callS X1 hx (y := (⟨"java/util/Arrays", "binarySearch", "([II)I"⟩ : MethodName)) hown (mvT hZ (hw _ (List.mem_of_getElem? (i := 25) rfl))) (mvT hZ (hw _ (List.mem_of_getElem? (i := 26) rfl))) (mvT hZ (hw _ (List.mem_of_getElem? (i := 27) rfl))) (mvT hZ (hw _ (List.mem_of_getElem? (i := 28) rfl))) (by decide) (backOf (W := 0) (rma1 l Z a0 hw [] b1 p1 k1 h0 n0 O0 F2_) hZ (hw _ (List.mem_of_getElem? (i := 28) rfl)) (hw _ (List.mem_of_getElem? (i := 27) rfl)) (by decide) (by decide)) (g := (mkF m 5 #[.val (.ref p0), .val (.int p1), .unset] [(.int p1), (.ref b1)])) rfl (by rw [hml]; rfl) (argsL := [(.ref b1), (.int p1)]) (rest := []) (lenOf pd_rms1_0 rfl) rfl (by show 2 * 0 + _ ≤ _; exact Nat.le_of_eq rfl) (hb hby d4_5) (fun _ _ => ⟨rfl, e1, (by decide : 0 + 0 ≤ _), (by decide : 0 + 0 ≤ _)⟩)
  dsimp only [Pt.U, Pt.locs, Pt.cells, Pt.slots] at X2 l2 y2 z2 st2 hQ2
  subst l2 y2 z2
  obtain ⟨rfl, Nq2, e2⟩ := hQ2
  have N2 := Fr.app N0 Nq2
  obtain ⟨T3, X3, e3, st3⟩ := getF X2 hx hZ hown (host := "") (Or.inl (hw _ (List.mem_of_getElem? (i := 13) rfl))) Via.refl e2 F1_ (g := (mkF m 18 #[.val (.ref p0), .val (.int p1), .val (.int (0 : Int32))] [(.ref p0)])) rfl rfl (hb hby d4_18)
  obtain ⟨cla4, Ara4, qa4, Sa4, Za4, Ha4, Ga4⟩ := id F3_
  have hin5 : ¬ ((0 : Int32) < 0 ∨ cla4.slots.size ≤ ((0 : Int32)).toNatClampNeg) := inb_of Sa4 ⟨by decide, by decide⟩
  have hat6 : cla4.slots[((0 : Int32)).toNatClampNeg]? = some (.int t0) := Has.at Ha4 hin5 rfl
  have s7 : Steps p.tables e below (s₁.setTop (entryFrame m #[(.ref p0), (.int p1)] 3)) (T3.setTop (mkF m 23 #[.val (.ref p0), .val (.int p1), .val (.int (0 : Int32))] [(.int t0)])) := by
    refine s0.trans ?_
    show Steps p.tables e below (s₁.setTop (mkF m 0 #[.val (.ref p0), .val (.int p1), .unset] [])) _
    refine XS.aloadN X0.here hx rfl (hb hby d4_0) rfl rfl ?_
    show Steps p.tables e below (s₁.setTop (mkF m 1 #[.val (.ref p0), .val (.int p1), .unset] [(.ref p0)])) _
    refine st1 _ ?_
    show Steps p.tables e below (T1.setTop (mkF m 4 #[.val (.ref p0), .val (.int p1), .unset] [(.ref b1)])) _
    refine XS.iloadN X1.here hx rfl (hb hby d4_4) rfl ?_
    show Steps p.tables e below (T1.setTop (mkF m 5 #[.val (.ref p0), .val (.int p1), .unset] [(.int p1), (.ref b1)])) _
    refine st2 _ ?_
    show Steps p.tables e below (T2.setTop (mkF m 8 #[.val (.ref p0), .val (.int p1), .unset] [(.int (0 : Int32))])) _
    refine XS.istoreN X2.here hx rfl (hb hby d4_8) rfl (l' := #[.val (.ref p0), .val (.int p1), .val (.int (0 : Int32))]) rfl ?_
    show Steps p.tables e below (T2.setTop (mkF m 9 #[.val (.ref p0), .val (.int p1), .val (.int (0 : Int32))] [])) _
    refine XS.iloadN X2.here hx rfl (hb hby d4_9) rfl ?_
    show Steps p.tables e below (T2.setTop (mkF m 10 #[.val (.ref p0), .val (.int p1), .val (.int (0 : Int32))] [(.int (0 : Int32))])) _
    refine XS.ifYes X2.here hx rfl (pc0 := 10) (pc' := 17) rfl (hb hby d4_10) rfl ((if0 _ _).trans (flt (by decide)).2.1) (by decide) (by decide) ?_
    show Steps p.tables e below (T2.setTop (mkF m 17 #[.val (.ref p0), .val (.int p1), .val (.int (0 : Int32))] [])) _
    refine XS.aloadN X2.here hx rfl (hb hby d4_17) rfl rfl ?_
    show Steps p.tables e below (T2.setTop (mkF m 18 #[.val (.ref p0), .val (.int p1), .val (.int (0 : Int32))] [(.ref p0)])) _
    refine st3 _ ?_
    show Steps p.tables e below (T3.setTop (mkF m 21 #[.val (.ref p0), .val (.int p1), .val (.int (0 : Int32))] [(.ref b2)])) _
    refine XS.iloadN X3.here hx rfl (hb hby d4_21) rfl ?_
    show Steps p.tables e below (T3.setTop (mkF m 22 #[.val (.ref p0), .val (.int p1), .val (.int (0 : Int32))] [(.int (0 : Int32)), (.ref b2)])) _
    refine X3.iaload hx (j := (0 : Int32)) (v := (.int t0)) (by rw [e3]; exact Ara4.1) (State.isArrayOf_alike hZ.alike Ara4.2.1) Ara4.2.2 hin5 hat6 (g := (mkF m 22 #[.val (.ref p0), .val (.int p1), .val (.int (0 : Int32))] [(.int (0 : Int32)), (.ref b2)])) rfl rfl (hb hby d4_22) _ ?_
    exact Steps.refl _
  obtain ⟨fs, hr, hrun, hended, hW, hsame⟩ := X3.leave (v := some (.int t0)) (fun h => by rw [Bd.returns] at h; cases h)
  refine ⟨_, _, s7.trans ?_, hrun, hended, _, _, rfl, ?_, ⟨_, rfl⟩, hW, hsame.mono (by decide) (by decide)⟩
  · show Steps p.tables e below (T3.setTop (mkF m 23 #[.val (.ref p0), .val (.int p1), .val (.int (0 : Int32))] [(.int t0)])) _
    exact retI X3 hx Bd.returns (hb hby d4_23) hr
  · show Qs1 Z p0 p1 b1 b2 k1 k2 t0 h0 n0 _ T3.heap _
    rw [e3]
    exact ⟨rfl, N2, rfl⟩
theorem ef_rme2 (m : MethodId) (p0 : Addr) : entryFrame m #[(.ref p0)] 1 = mkF m 0 #[.val (.ref p0)] [] := by first | (simp [entryFrame, mkF, argsToLocals, Value.category]; done) | rfl
def Qe2 (Z : State) (p0 : Addr) (b1 : Addr) (k1 : ClassId) (q0 : Int32) (q1 : Int32) (h0 : Heap) (n0 : Nat) (v : Option Value) (h : Heap) (L : List Loc) : Prop := v = some (.int (0 : Int32)) ∧ Fr n0 L ∧ h = h0
set_option maxRecDepth 65536 in
set_option maxHeartbeats 40000000 in
theorem rme2 (l : Launch) (Z : State) (a0 : Array Value) (hw : ∀ d ∈ tables_1, d.before a0 Z = true) (ws : List Jvm.Cond) (p0 : Addr) (b1 : Addr) (k1 : ClassId) (q0 : Int32) (q1 : Int32) (h0 : Heap) (n0 : Nat) (O0 : Old Z n0 h0) (F0_ : Fld Z h0 p0 "com/example/odds_on_axioms/oddsonaxioms/network/Condition" "positions" "[I" (.ref b1)) (F1_ : Arv Z h0 b1 k1 .int (2 : Int32) [(.int q0), (.int q1)] (.int (0 : Int32))) :
    MetFree l (⟨"com/example/odds_on_axioms/oddsonaxioms/network/Condition", "isEmpty", "()Z"⟩ : MethodName) (head1 (Jvm.Cond.code (⟨"com/example/odds_on_axioms/oddsonaxioms/network/Condition", "isEmpty", "()Z"⟩ : MethodName) prog_38_method_9_code 1 (some .boolean) :: ws) ({ frames := 0, cells := 0, slots := 0, locals := 0 } : Room)) (fun a U => a = #[(.ref p0)] ∧ Z.Warmed39 U.vm ∧ U.heap = h0) (fun _ _ _ _ _ => True) (fun _ U o U' => ∃ v L, o = .returned v ∧ Qe2 Z p0 b1 k1 q0 q1 h0 n0 v U'.heap L ∧ FrameEnd U o U' L ({ frames := 0, cells := 0, slots := 0, locals := 0 } : Room).cells ({ frames := 0, cells := 0, slots := 0, locals := 0 } : Room).slots) := by
  refine MetFree.of_bodySF (plainFor_of_name pn_1) hisR ?_
  intro p e s m args below meth c s₁ Bd hml0 hP hK
  obtain ⟨rfl, hZ, hh⟩ := hP
  have hx := Bd.exec
  have hby := Bd.bytes
  have hml : c.maxLocals = 1 := hml0
  have hown : s.vm.findClass "com/example/odds_on_axioms/oddsonaxioms/network/Condition" = some m.cls := findClass_of_methodNamed Bd.named
  have hnm := (name_of_methodNamed Bd.named Bd.method).1
  have X0 : Stand p l e ({ frames := 0, cells := 0, slots := 0, locals := 0 } : Room) s m #[(.ref p0)] below meth c s₁ [] 0 0 := Stand.of_body Bd
  have e0 : s₁.heap = h0 := by rw [← hh, Bd.state]; rfl
  have N0 := Fr.nil n0
  have s0 : Steps p.tables e below (s₁.setTop (entryFrame m #[(.ref p0)] 1)) (s₁.setTop (mkF m 0 #[.val (.ref p0)] [])) := castTop (ef_rme2 m p0) (Steps.refl _)
  obtain ⟨T1, X1, e1, st1⟩ := getF X0 hx hZ hown (host := "") (Or.inl (hw _ (List.mem_of_getElem? (i := 11) rfl))) Via.refl e0 F0_ (g := (mkF m 1 #[.val (.ref p0)] [(.ref p0)])) rfl rfl (hb hby d3_1)
  obtain ⟨cla2, Ara2, qa2, Sa2, Za2, Ha2, Ga2⟩ := id F1_
  have s3 : Steps p.tables e below (s₁.setTop (entryFrame m #[(.ref p0)] 1)) (T1.setTop (mkF m 13 #[.val (.ref p0)] [(.int (0 : Int32))])) := by
    refine s0.trans ?_
    show Steps p.tables e below (s₁.setTop (mkF m 0 #[.val (.ref p0)] [])) _
    refine XS.aloadN X0.here hx rfl (hb hby d3_0) rfl rfl ?_
    show Steps p.tables e below (s₁.setTop (mkF m 1 #[.val (.ref p0)] [(.ref p0)])) _
    refine st1 _ ?_
    show Steps p.tables e below (T1.setTop (mkF m 4 #[.val (.ref p0)] [(.ref b1)])) _
    refine X1.arraylength hx (by rw [e1]; exact Ara2.1) (State.isArrayOf_alike hZ.alike Ara2.2.1) (g := (mkF m 4 #[.val (.ref p0)] [(.ref b1)])) rfl rfl (hb hby d3_4) _ ?_
    rw [len_of Sa2 Za2]
    show Steps p.tables e below (T1.setTop (mkF m 5 #[.val (.ref p0)] [(.int (2 : Int32))])) _
    refine XS.ifYes X1.here hx rfl (pc0 := 5) (pc' := 12) rfl (hb hby d3_5) rfl ((if0 _ _).trans (feq (by decide)).2) (by decide) (by decide) ?_
    show Steps p.tables e below (T1.setTop (mkF m 12 #[.val (.ref p0)] [])) _
    refine XS.iconst X1.here hx rfl (hb hby d3_12) ?_
    exact Steps.refl _
  obtain ⟨fs, hr, hrun, hended, hW, hsame⟩ := X1.leave (v := some (.int (0 : Int32))) (fun h => by rw [Bd.returns] at h; cases h)
  refine ⟨_, _, s3.trans ?_, hrun, hended, _, _, rfl, ?_, ⟨_, rfl⟩, hW, hsame.mono (by decide) (by decide)⟩
  · show Steps p.tables e below (T1.setTop (mkF m 13 #[.val (.ref p0)] [(.int (0 : Int32))])) _
    exact retN X1 hx (t := .boolean) Bd.returns (by simp) (hb hby d3_13) hr
  · show Qe2 Z p0 b1 k1 q0 q1 h0 n0 _ T1.heap _
    rw [e1]
    exact ⟨rfl, N0, rfl⟩
theorem ef_rmb2 (m : MethodId) (p0 : Addr) (p3 : Int32) : entryFrame m #[(.ref p0), (.int (0 : Int32)), (.int (2 : Int32)), (.int p3)] 8 = mkF m 0 #[.val (.ref p0), .val (.int (0 : Int32)), .val (.int (2 : Int32)), .val (.int p3), .unset, .unset, .unset, .unset] [] := by first | (simp [entryFrame, mkF, argsToLocals, Value.category]; done) | rfl
def Qb2 (Z : State) (p0 : Addr) (p3 : Int32) (k1 : ClassId) (q1 : Int32) (h0 : Heap) (n0 : Nat) (v : Option Value) (h : Heap) (L : List Loc) : Prop := v = some (.int (0 : Int32)) ∧ Fr n0 L ∧ h = h0
set_option maxRecDepth 65536 in
set_option maxHeartbeats 40000000 in
theorem rmb2 (l : Launch) (Z : State) (a0 : Array Value) (hw : ∀ d ∈ tables_1, d.before a0 Z = true) (ws : List Jvm.Cond) (p0 : Addr) (p3 : Int32) (k1 : ClassId) (q1 : Int32) (h0 : Heap) (n0 : Nat) (O0 : Old Z n0 h0) (F0_ : Arv Z h0 p0 k1 .int (2 : Int32) [(.int p3), (.int q1)] (.int (0 : Int32))) :
    MetFree l (⟨"java/util/Arrays", "binarySearch0", "([IIII)I"⟩ : MethodName) (head1 (Jvm.Cond.code (⟨"java/util/Arrays", "binarySearch0", "([IIII)I"⟩ : MethodName) jdk_65_method_59_code 8 (some .int) :: ws) ({ frames := 0, cells := 0, slots := 0, locals := 0 } : Room)) (fun a U => a = #[(.ref p0), (.int (0 : Int32)), (.int (2 : Int32)), (.int p3)] ∧ Z.Warmed39 U.vm ∧ U.heap = h0) (fun _ _ _ _ _ => True) (fun _ U o U' => ∃ v L, o = .returned v ∧ Qb2 Z p0 p3 k1 q1 h0 n0 v U'.heap L ∧ FrameEnd U o U' L ({ frames := 0, cells := 0, slots := 0, locals := 0 } : Room).cells ({ frames := 0, cells := 0, slots := 0, locals := 0 } : Room).slots) := by
  refine MetFree.of_bodySF (plainFor_of_name pn_6) hisR ?_
  intro p e s m args below meth c s₁ Bd hml0 hP hK
  obtain ⟨rfl, hZ, hh⟩ := hP
  have hx := Bd.exec
  have hby := Bd.bytes
  have hml : c.maxLocals = 8 := hml0
  have hown : s.vm.findClass "java/util/Arrays" = some m.cls := findClass_of_methodNamed Bd.named
  have hnm := (name_of_methodNamed Bd.named Bd.method).1
  have X0 : Stand p l e ({ frames := 0, cells := 0, slots := 0, locals := 0 } : Room) s m #[(.ref p0), (.int (0 : Int32)), (.int (2 : Int32)), (.int p3)] below meth c s₁ [] 0 0 := Stand.of_body Bd
  have e0 : s₁.heap = h0 := by rw [← hh, Bd.state]; rfl
  have N0 := Fr.nil n0
  have s0 : Steps p.tables e below (s₁.setTop (entryFrame m #[(.ref p0), (.int (0 : Int32)), (.int (2 : Int32)), (.int p3)] 8)) (s₁.setTop (mkF m 0 #[.val (.ref p0), .val (.int (0 : Int32)), .val (.int (2 : Int32)), .val (.int p3), .unset, .unset, .unset, .unset] [])) := castTop (ef_rmb2 m p0 p3) (Steps.refl _)
  obtain ⟨cla1, Ara1, qa1, Sa1, Za1, Ha1, Ga1⟩ := id F0_
  have hin2 : ¬ ((0 : Int32) < 0 ∨ cla1.slots.size ≤ ((0 : Int32)).toNatClampNeg) := inb_of Sa1 ⟨by decide, by decide⟩
  have hat3 : cla1.slots[((0 : Int32)).toNatClampNeg]? = some (.int p3) := Has.at Ha1 hin2 rfl
  have s4 : Steps p.tables e below (s₁.setTop (entryFrame m #[(.ref p0), (.int (0 : Int32)), (.int (2 : Int32)), (.int p3)] 8)) (s₁.setTop (mkF m 62 #[.val (.ref p0), .val (.int (0 : Int32)), .val (.int (2 : Int32)), .val (.int p3), .val (.int (0 : Int32)), .val (.int (1 : Int32)), .val (.int (0 : Int32)), .val (.int p3)] [(.int (0 : Int32))])) := by
    refine s0.trans ?_
    show Steps p.tables e below (s₁.setTop (mkF m 0 #[.val (.ref p0), .val (.int (0 : Int32)), .val (.int (2 : Int32)), .val (.int p3), .unset, .unset, .unset, .unset] [])) _
    refine XS.iloadN X0.here hx rfl (hb hby d6_0) rfl ?_
    show Steps p.tables e below (s₁.setTop (mkF m 1 #[.val (.ref p0), .val (.int (0 : Int32)), .val (.int (2 : Int32)), .val (.int p3), .unset, .unset, .unset, .unset] [(.int (0 : Int32))])) _
    refine XS.istore X0.here hx rfl (hb hby d6_1) rfl (l' := #[.val (.ref p0), .val (.int (0 : Int32)), .val (.int (2 : Int32)), .val (.int p3), .val (.int (0 : Int32)), .unset, .unset, .unset]) rfl ?_
    show Steps p.tables e below (s₁.setTop (mkF m 3 #[.val (.ref p0), .val (.int (0 : Int32)), .val (.int (2 : Int32)), .val (.int p3), .val (.int (0 : Int32)), .unset, .unset, .unset] [])) _
    refine XS.iloadN X0.here hx rfl (hb hby d6_3) rfl ?_
    show Steps p.tables e below (s₁.setTop (mkF m 4 #[.val (.ref p0), .val (.int (0 : Int32)), .val (.int (2 : Int32)), .val (.int p3), .val (.int (0 : Int32)), .unset, .unset, .unset] [(.int (2 : Int32))])) _
    refine XS.iconst X0.here hx rfl (hb hby d6_4) ?_
    show Steps p.tables e below (s₁.setTop (mkF m 5 #[.val (.ref p0), .val (.int (0 : Int32)), .val (.int (2 : Int32)), .val (.int p3), .val (.int (0 : Int32)), .unset, .unset, .unset] [(.int (1 : Int32)), (.int (2 : Int32))])) _
    refine XS.isub X0.here hx rfl (hb hby d6_5) rfl ?_
    show Steps p.tables e below (s₁.setTop (mkF m 6 #[.val (.ref p0), .val (.int (0 : Int32)), .val (.int (2 : Int32)), .val (.int p3), .val (.int (0 : Int32)), .unset, .unset, .unset] [(.int (1 : Int32))])) _
    refine XS.istore X0.here hx rfl (hb hby d6_6) rfl (l' := #[.val (.ref p0), .val (.int (0 : Int32)), .val (.int (2 : Int32)), .val (.int p3), .val (.int (0 : Int32)), .val (.int (1 : Int32)), .unset, .unset]) rfl ?_
    show Steps p.tables e below (s₁.setTop (mkF m 8 #[.val (.ref p0), .val (.int (0 : Int32)), .val (.int (2 : Int32)), .val (.int p3), .val (.int (0 : Int32)), .val (.int (1 : Int32)), .unset, .unset] [])) _
    refine XS.iload X0.here hx rfl (hb hby d6_8) rfl ?_
    show Steps p.tables e below (s₁.setTop (mkF m 10 #[.val (.ref p0), .val (.int (0 : Int32)), .val (.int (2 : Int32)), .val (.int p3), .val (.int (0 : Int32)), .val (.int (1 : Int32)), .unset, .unset] [(.int (0 : Int32))])) _
    refine XS.iload X0.here hx rfl (hb hby d6_10) rfl ?_
    show Steps p.tables e below (s₁.setTop (mkF m 12 #[.val (.ref p0), .val (.int (0 : Int32)), .val (.int (2 : Int32)), .val (.int p3), .val (.int (0 : Int32)), .val (.int (1 : Int32)), .unset, .unset] [(.int (1 : Int32)), (.int (0 : Int32))])) _
    refine XS.icmpNo X0.here hx rfl (hb hby d6_12) rfl (flt (by decide)).2.2.1 ?_
    show Steps p.tables e below (s₁.setTop (mkF m 15 #[.val (.ref p0), .val (.int (0 : Int32)), .val (.int (2 : Int32)), .val (.int p3), .val (.int (0 : Int32)), .val (.int (1 : Int32)), .unset, .unset] [])) _
    refine XS.iload X0.here hx rfl (hb hby d6_15) rfl ?_
    show Steps p.tables e below (s₁.setTop (mkF m 17 #[.val (.ref p0), .val (.int (0 : Int32)), .val (.int (2 : Int32)), .val (.int p3), .val (.int (0 : Int32)), .val (.int (1 : Int32)), .unset, .unset] [(.int (0 : Int32))])) _
    refine XS.iload X0.here hx rfl (hb hby d6_17) rfl ?_
    show Steps p.tables e below (s₁.setTop (mkF m 19 #[.val (.ref p0), .val (.int (0 : Int32)), .val (.int (2 : Int32)), .val (.int p3), .val (.int (0 : Int32)), .val (.int (1 : Int32)), .unset, .unset] [(.int (1 : Int32)), (.int (0 : Int32))])) _
    refine XS.iadd X0.here hx rfl (hb hby d6_19) rfl ?_
    show Steps p.tables e below (s₁.setTop (mkF m 20 #[.val (.ref p0), .val (.int (0 : Int32)), .val (.int (2 : Int32)), .val (.int p3), .val (.int (0 : Int32)), .val (.int (1 : Int32)), .unset, .unset] [(.int (1 : Int32))])) _
    refine XS.iconst X0.here hx rfl (hb hby d6_20) ?_
    show Steps p.tables e below (s₁.setTop (mkF m 21 #[.val (.ref p0), .val (.int (0 : Int32)), .val (.int (2 : Int32)), .val (.int p3), .val (.int (0 : Int32)), .val (.int (1 : Int32)), .unset, .unset] [(.int (1 : Int32)), (.int (1 : Int32))])) _
    refine XS.iushr X0.here hx rfl (hb hby d6_21) rfl ?_
    show Steps p.tables e below (s₁.setTop (mkF m 22 #[.val (.ref p0), .val (.int (0 : Int32)), .val (.int (2 : Int32)), .val (.int p3), .val (.int (0 : Int32)), .val (.int (1 : Int32)), .unset, .unset] [(.int (0 : Int32))])) _
    refine XS.istore X0.here hx rfl (hb hby d6_22) rfl (l' := #[.val (.ref p0), .val (.int (0 : Int32)), .val (.int (2 : Int32)), .val (.int p3), .val (.int (0 : Int32)), .val (.int (1 : Int32)), .val (.int (0 : Int32)), .unset]) rfl ?_
    show Steps p.tables e below (s₁.setTop (mkF m 24 #[.val (.ref p0), .val (.int (0 : Int32)), .val (.int (2 : Int32)), .val (.int p3), .val (.int (0 : Int32)), .val (.int (1 : Int32)), .val (.int (0 : Int32)), .unset] [])) _
    refine XS.aloadN X0.here hx rfl (hb hby d6_24) rfl rfl ?_
    show Steps p.tables e below (s₁.setTop (mkF m 25 #[.val (.ref p0), .val (.int (0 : Int32)), .val (.int (2 : Int32)), .val (.int p3), .val (.int (0 : Int32)), .val (.int (1 : Int32)), .val (.int (0 : Int32)), .unset] [(.ref p0)])) _
    refine XS.iload X0.here hx rfl (hb hby d6_25) rfl ?_
    show Steps p.tables e below (s₁.setTop (mkF m 27 #[.val (.ref p0), .val (.int (0 : Int32)), .val (.int (2 : Int32)), .val (.int p3), .val (.int (0 : Int32)), .val (.int (1 : Int32)), .val (.int (0 : Int32)), .unset] [(.int (0 : Int32)), (.ref p0)])) _
    refine X0.iaload hx (j := (0 : Int32)) (v := (.int p3)) (by rw [e0]; exact Ara1.1) (State.isArrayOf_alike hZ.alike Ara1.2.1) Ara1.2.2 hin2 hat3 (g := (mkF m 27 #[.val (.ref p0), .val (.int (0 : Int32)), .val (.int (2 : Int32)), .val (.int p3), .val (.int (0 : Int32)), .val (.int (1 : Int32)), .val (.int (0 : Int32)), .unset] [(.int (0 : Int32)), (.ref p0)])) rfl rfl (hb hby d6_27) _ ?_
    show Steps p.tables e below (s₁.setTop (mkF m 28 #[.val (.ref p0), .val (.int (0 : Int32)), .val (.int (2 : Int32)), .val (.int p3), .val (.int (0 : Int32)), .val (.int (1 : Int32)), .val (.int (0 : Int32)), .unset] [(.int p3)])) _
    refine XS.istore X0.here hx rfl (hb hby d6_28) rfl (l' := #[.val (.ref p0), .val (.int (0 : Int32)), .val (.int (2 : Int32)), .val (.int p3), .val (.int (0 : Int32)), .val (.int (1 : Int32)), .val (.int (0 : Int32)), .val (.int p3)]) rfl ?_
    show Steps p.tables e below (s₁.setTop (mkF m 30 #[.val (.ref p0), .val (.int (0 : Int32)), .val (.int (2 : Int32)), .val (.int p3), .val (.int (0 : Int32)), .val (.int (1 : Int32)), .val (.int (0 : Int32)), .val (.int p3)] [])) _
    refine XS.iload X0.here hx rfl (hb hby d6_30) rfl ?_
    show Steps p.tables e below (s₁.setTop (mkF m 32 #[.val (.ref p0), .val (.int (0 : Int32)), .val (.int (2 : Int32)), .val (.int p3), .val (.int (0 : Int32)), .val (.int (1 : Int32)), .val (.int (0 : Int32)), .val (.int p3)] [(.int p3)])) _
    refine XS.iloadN X0.here hx rfl (hb hby d6_32) rfl ?_
    show Steps p.tables e below (s₁.setTop (mkF m 33 #[.val (.ref p0), .val (.int (0 : Int32)), .val (.int (2 : Int32)), .val (.int p3), .val (.int (0 : Int32)), .val (.int (1 : Int32)), .val (.int (0 : Int32)), .val (.int p3)] [(.int p3), (.int p3)])) _
    refine XS.icmpYes X0.here hx rfl (pc0 := 33) (pc' := 45) rfl (hb hby d6_33) rfl (flt Int32.lt_irrefl).2.1 (by decide) (by decide) ?_
    show Steps p.tables e below (s₁.setTop (mkF m 45 #[.val (.ref p0), .val (.int (0 : Int32)), .val (.int (2 : Int32)), .val (.int p3), .val (.int (0 : Int32)), .val (.int (1 : Int32)), .val (.int (0 : Int32)), .val (.int p3)] [])) _
    refine XS.iload X0.here hx rfl (hb hby d6_45) rfl ?_
    show Steps p.tables e below (s₁.setTop (mkF m 47 #[.val (.ref p0), .val (.int (0 : Int32)), .val (.int (2 : Int32)), .val (.int p3), .val (.int (0 : Int32)), .val (.int (1 : Int32)), .val (.int (0 : Int32)), .val (.int p3)] [(.int p3)])) _
    refine XS.iloadN X0.here hx rfl (hb hby d6_47) rfl ?_
    show Steps p.tables e below (s₁.setTop (mkF m 48 #[.val (.ref p0), .val (.int (0 : Int32)), .val (.int (2 : Int32)), .val (.int p3), .val (.int (0 : Int32)), .val (.int (1 : Int32)), .val (.int (0 : Int32)), .val (.int p3)] [(.int p3), (.int p3)])) _
    refine XS.icmpYes X0.here hx rfl (pc0 := 48) (pc' := 60) rfl (hb hby d6_48) rfl (flt Int32.lt_irrefl).2.2.2 (by decide) (by decide) ?_
    show Steps p.tables e below (s₁.setTop (mkF m 60 #[.val (.ref p0), .val (.int (0 : Int32)), .val (.int (2 : Int32)), .val (.int p3), .val (.int (0 : Int32)), .val (.int (1 : Int32)), .val (.int (0 : Int32)), .val (.int p3)] [])) _
    refine XS.iload X0.here hx rfl (hb hby d6_60) rfl ?_
    exact Steps.refl _
  obtain ⟨fs, hr, hrun, hended, hW, hsame⟩ := X0.leave (v := some (.int (0 : Int32))) (fun h => by rw [Bd.returns] at h; cases h)
  refine ⟨_, _, s4.trans ?_, hrun, hended, _, _, rfl, ?_, ⟨_, rfl⟩, hW, hsame.mono (by decide) (by decide)⟩
  · show Steps p.tables e below (s₁.setTop (mkF m 62 #[.val (.ref p0), .val (.int (0 : Int32)), .val (.int (2 : Int32)), .val (.int p3), .val (.int (0 : Int32)), .val (.int (1 : Int32)), .val (.int (0 : Int32)), .val (.int p3)] [(.int (0 : Int32))])) _
    exact retI X0 hx Bd.returns (hb hby d6_62) hr
  · show Qb2 Z p0 p3 k1 q1 h0 n0 _ s₁.heap _
    rw [e0]
    exact ⟨rfl, N0, rfl⟩
theorem pd_rma2_0 : parseMethodDescriptor "([IIII)I" = some ⟨[(.array .int), .int, .int, .int], some .int⟩ := by decide +kernel
theorem ef_rma2 (m : MethodId) (p0 : Addr) (p1 : Int32) : entryFrame m #[(.ref p0), (.int p1)] 2 = mkF m 0 #[.val (.ref p0), .val (.int p1)] [] := by first | (simp [entryFrame, mkF, argsToLocals, Value.category]; done) | rfl
def Qa2 (Z : State) (p0 : Addr) (p1 : Int32) (k1 : ClassId) (q1 : Int32) (h0 : Heap) (n0 : Nat) (v : Option Value) (h : Heap) (L : List Loc) : Prop := v = some (.int (0 : Int32)) ∧ Fr n0 L ∧ h = h0
set_option maxRecDepth 65536 in
set_option maxHeartbeats 40000000 in
theorem rma2 (l : Launch) (Z : State) (a0 : Array Value) (hw : ∀ d ∈ tables_1, d.before a0 Z = true) (ws : List Jvm.Cond) (p0 : Addr) (p1 : Int32) (k1 : ClassId) (q1 : Int32) (h0 : Heap) (n0 : Nat) (O0 : Old Z n0 h0) (F0_ : Arv Z h0 p0 k1 .int (2 : Int32) [(.int p1), (.int q1)] (.int (0 : Int32))) :
    MetFree l (⟨"java/util/Arrays", "binarySearch", "([II)I"⟩ : MethodName) (head1 (Jvm.Cond.code (⟨"java/util/Arrays", "binarySearch", "([II)I"⟩ : MethodName) jdk_65_method_57_code 2 (some .int) :: ws) ({ frames := 1, cells := 0, slots := 0, locals := 19 } : Room)) (fun a U => a = #[(.ref p0), (.int p1)] ∧ Z.Warmed39 U.vm ∧ U.heap = h0) (fun _ _ _ _ _ => True) (fun _ U o U' => ∃ v L, o = .returned v ∧ Qa2 Z p0 p1 k1 q1 h0 n0 v U'.heap L ∧ FrameEnd U o U' L ({ frames := 1, cells := 0, slots := 0, locals := 19 } : Room).cells ({ frames := 1, cells := 0, slots := 0, locals := 19 } : Room).slots) := by
  refine MetFree.of_bodySF (plainFor_of_name pn_6) hisR ?_
  intro p e s m args below meth c s₁ Bd hml0 hP hK
  obtain ⟨rfl, hZ, hh⟩ := hP
  have hx := Bd.exec
  have hby := Bd.bytes
  have hml : c.maxLocals = 2 := hml0
  have hown : s.vm.findClass "java/util/Arrays" = some m.cls := findClass_of_methodNamed Bd.named
  have hnm := (name_of_methodNamed Bd.named Bd.method).1
  have X0 : Stand p l e ({ frames := 1, cells := 0, slots := 0, locals := 19 } : Room) s m #[(.ref p0), (.int p1)] below meth c s₁ [] 0 0 := Stand.of_body Bd
  have e0 : s₁.heap = h0 := by rw [← hh, Bd.state]; rfl
  have N0 := Fr.nil n0
  have s0 : Steps p.tables e below (s₁.setTop (entryFrame m #[(.ref p0), (.int p1)] 2)) (s₁.setTop (mkF m 0 #[.val (.ref p0), .val (.int p1)] [])) := castTop (ef_rma2 m p0 p1) (Steps.refl _)
  obtain ⟨cla1, Ara1, qa1, Sa1, Za1, Ha1, Ga1⟩ := id F0_
  obtain ⟨_, _, ⟨T2, L2, k2, n2⟩, -, X2, ⟨Lc2, hQ2, l2, y2, z2⟩, st2⟩ := Jvm.LawKit.callS X0 hx (y := (⟨"java/util/Arrays", "binarySearch0", "([IIII)I"⟩ : MethodName)) hown (mvT hZ (hw _ (List.mem_of_getElem? (i := 29) rfl))) (mvT hZ (hw _ (List.mem_of_getElem? (i := 30) rfl))) (mvT hZ (hw _ (List.mem_of_getElem? (i := 27) rfl))) (mvT hZ (hw _ (List.mem_of_getElem? (i := 31) rfl))) (by decide) (backOf (W := 0) (rmb2 l Z a0 hw [] p0 p1 k1 q1 h0 n0 O0 F0_) hZ (hw _ (List.mem_of_getElem? (i := 31) rfl)) (hw _ (List.mem_of_getElem? (i := 27) rfl)) (by decide) (by decide)) (g := (mkF m 5 #[.val (.ref p0), .val (.int p1)] [(.int p1), (.int (2 : Int32)), (.int (0 : Int32)), (.ref p0)])) rfl (by rw [hml]; rfl) (argsL := [(.ref p0), (.int (0 : Int32)), (.int (2 : Int32)), (.int p1)]) (rest := []) (lenOf pd_rma2_0 rfl) rfl (by show 2 * 0 + _ ≤ _; exact Nat.le_of_eq rfl) (hb hby d5_5) (fun _ _ => ⟨rfl, e0, (by decide : 0 + 0 ≤ _), (by decide : 0 + 0 ≤ _)⟩)
  dsimp only [Pt.U, Pt.locs, Pt.cells, Pt.slots] at X2 l2 y2 z2 st2 hQ2
  subst l2 y2 z2
  obtain ⟨rfl, Nq2, e2⟩ := hQ2
  have N2 := Fr.app N0 Nq2
  have s3 : Steps p.tables e below (s₁.setTop (entryFrame m #[(.ref p0), (.int p1)] 2)) (T2.setTop (mkF m 8 #[.val (.ref p0), .val (.int p1)] [(.int (0 : Int32))])) := by
    refine s0.trans ?_
    show Steps p.tables e below (s₁.setTop (mkF m 0 #[.val (.ref p0), .val (.int p1)] [])) _
    refine XS.aloadN X0.here hx rfl (hb hby d5_0) rfl rfl ?_
    show Steps p.tables e below (s₁.setTop (mkF m 1 #[.val (.ref p0), .val (.int p1)] [(.ref p0)])) _
    refine XS.iconst X0.here hx rfl (hb hby d5_1) ?_
    show Steps p.tables e below (s₁.setTop (mkF m 2 #[.val (.ref p0), .val (.int p1)] [(.int (0 : Int32)), (.ref p0)])) _
    refine XS.aloadN X0.here hx rfl (hb hby d5_2) rfl rfl ?_
    show Steps p.tables e below (s₁.setTop (mkF m 3 #[.val (.ref p0), .val (.int p1)] [(.ref p0), (.int (0 : Int32)), (.ref p0)])) _
    refine X0.arraylength hx (by rw [e0]; exact Ara1.1) (State.isArrayOf_alike hZ.alike Ara1.2.1) (g := (mkF m 3 #[.val (.ref p0), .val (.int p1)] [(.ref p0), (.int (0 : Int32)), (.ref p0)])) rfl rfl (hb hby d5_3) _ ?_
    rw [len_of Sa1 Za1]
    show Steps p.tables e below (s₁.setTop (mkF m 4 #[.val (.ref p0), .val (.int p1)] [(.int (2 : Int32)), (.int (0 : Int32)), (.ref p0)])) _
    refine XS.iloadN X0.here hx rfl (hb hby d5_4) rfl ?_
    show Steps p.tables e below (s₁.setTop (mkF m 5 #[.val (.ref p0), .val (.int p1)] [(.int p1), (.int (2 : Int32)), (.int (0 : Int32)), (.ref p0)])) _
    refine st2 _ ?_
    exact Steps.refl _
  obtain ⟨fs, hr, hrun, hended, hW, hsame⟩ := X2.leave (v := some (.int (0 : Int32))) (fun h => by rw [Bd.returns] at h; cases h)
  refine ⟨_, _, s3.trans ?_, hrun, hended, _, _, rfl, ?_, ⟨_, rfl⟩, hW, hsame.mono (by decide) (by decide)⟩
  · show Steps p.tables e below (T2.setTop (mkF m 8 #[.val (.ref p0), .val (.int p1)] [(.int (0 : Int32))])) _
    exact retI X2 hx Bd.returns (hb hby d5_8) hr
  · show Qa2 Z p0 p1 k1 q1 h0 n0 _ T2.heap _
    rw [e2]
    exact ⟨rfl, N2, rfl⟩
theorem pd_rms2_0 : parseMethodDescriptor "([II)I" = some ⟨[(.array .int), .int], some .int⟩ := by decide +kernel
theorem ef_rms2 (m : MethodId) (p0 : Addr) (p1 : Int32) : entryFrame m #[(.ref p0), (.int p1)] 3 = mkF m 0 #[.val (.ref p0), .val (.int p1), .unset] [] := by first | (simp [entryFrame, mkF, argsToLocals, Value.category]; done) | rfl
def Qs2 (Z : State) (p0 : Addr) (p1 : Int32) (b1 : Addr) (b2 : Addr) (k1 : ClassId) (k2 : ClassId) (q1 : Int32) (t0 : Int32) (t1 : Int32) (h0 : Heap) (n0 : Nat) (v : Option Value) (h : Heap) (L : List Loc) : Prop := v = some (.int t0) ∧ Fr n0 L ∧ h = h0
set_option maxRecDepth 65536 in
set_option maxHeartbeats 40000000 in
theorem rms2 (l : Launch) (Z : State) (a0 : Array Value) (hw : ∀ d ∈ tables_1, d.before a0 Z = true) (ws : List Jvm.Cond) (p0 : Addr) (p1 : Int32) (b1 : Addr) (b2 : Addr) (k1 : ClassId) (k2 : ClassId) (q1 : Int32) (t0 : Int32) (t1 : Int32) (h0 : Heap) (n0 : Nat) (O0 : Old Z n0 h0) (F0_ : Fld Z h0 p0 "com/example/odds_on_axioms/oddsonaxioms/network/Condition" "positions" "[I" (.ref b1)) (F1_ : Fld Z h0 p0 "com/example/odds_on_axioms/oddsonaxioms/network/Condition" "states" "[I" (.ref b2)) (F2_ : Arv Z h0 b1 k1 .int (2 : Int32) [(.int p1), (.int q1)] (.int (0 : Int32))) (F3_ : Arv Z h0 b2 k2 .int (2 : Int32) [(.int t0), (.int t1)] (.int (0 : Int32))) :
    MetFree l (⟨"com/example/odds_on_axioms/oddsonaxioms/network/Condition", "state", "(I)I"⟩ : MethodName) (head1 (Jvm.Cond.code (⟨"com/example/odds_on_axioms/oddsonaxioms/network/Condition", "state", "(I)I"⟩ : MethodName) prog_38_method_7_code 3 (some .int) :: ws) ({ frames := 2, cells := 0, slots := 0, locals := 32 } : Room)) (fun a U => a = #[(.ref p0), (.int p1)] ∧ Z.Warmed39 U.vm ∧ U.heap = h0) (fun _ _ _ _ _ => True) (fun _ U o U' => ∃ v L, o = .returned v ∧ Qs2 Z p0 p1 b1 b2 k1 k2 q1 t0 t1 h0 n0 v U'.heap L ∧ FrameEnd U o U' L ({ frames := 2, cells := 0, slots := 0, locals := 32 } : Room).cells ({ frames := 2, cells := 0, slots := 0, locals := 32 } : Room).slots) := by
  refine MetFree.of_bodySF (plainFor_of_name pn_1) hisR ?_
  intro p e s m args below meth c s₁ Bd hml0 hP hK
  obtain ⟨rfl, hZ, hh⟩ := hP
  have hx := Bd.exec
  have hby := Bd.bytes
  have hml : c.maxLocals = 3 := hml0
  have hown : s.vm.findClass "com/example/odds_on_axioms/oddsonaxioms/network/Condition" = some m.cls := findClass_of_methodNamed Bd.named
  have hnm := (name_of_methodNamed Bd.named Bd.method).1
  have X0 : Stand p l e ({ frames := 2, cells := 0, slots := 0, locals := 32 } : Room) s m #[(.ref p0), (.int p1)] below meth c s₁ [] 0 0 := Stand.of_body Bd
  have e0 : s₁.heap = h0 := by rw [← hh, Bd.state]; rfl
  have N0 := Fr.nil n0
  have s0 : Steps p.tables e below (s₁.setTop (entryFrame m #[(.ref p0), (.int p1)] 3)) (s₁.setTop (mkF m 0 #[.val (.ref p0), .val (.int p1), .unset] [])) := castTop (ef_rms2 m p0 p1) (Steps.refl _)
  obtain ⟨T1, X1, e1, st1⟩ := getF X0 hx hZ hown (host := "") (Or.inl (hw _ (List.mem_of_getElem? (i := 11) rfl))) Via.refl e0 F0_ (g := (mkF m 1 #[.val (.ref p0), .val (.int p1), .unset] [(.ref p0)])) rfl rfl (hb hby d4_1)
  obtain ⟨_, _, ⟨T2, L2, k2, n2⟩, -, X2, ⟨Lc2, hQ2, l2, y2, z2⟩, st2⟩ := Jvm.LawKit.callS X1 hx (y := (⟨"java/util/Arrays", "binarySearch", "([II)I"⟩ : MethodName)) hown (mvT hZ (hw _ (List.mem_of_getElem? (i := 25) rfl))) (mvT hZ (hw _ (List.mem_of_getElem? (i := 26) rfl))) (mvT hZ (hw _ (List.mem_of_getElem? (i := 27) rfl))) (mvT hZ (hw _ (List.mem_of_getElem? (i := 28) rfl))) (by decide) (backOf (W := 0) (rma2 l Z a0 hw [] b1 p1 k1 q1 h0 n0 O0 F2_) hZ (hw _ (List.mem_of_getElem? (i := 28) rfl)) (hw _ (List.mem_of_getElem? (i := 27) rfl)) (by decide) (by decide)) (g := (mkF m 5 #[.val (.ref p0), .val (.int p1), .unset] [(.int p1), (.ref b1)])) rfl (by rw [hml]; rfl) (argsL := [(.ref b1), (.int p1)]) (rest := []) (lenOf pd_rms2_0 rfl) rfl (by show 2 * 0 + _ ≤ _; exact Nat.le_of_eq rfl) (hb hby d4_5) (fun _ _ => ⟨rfl, e1, (by decide : 0 + 0 ≤ _), (by decide : 0 + 0 ≤ _)⟩)
  dsimp only [Pt.U, Pt.locs, Pt.cells, Pt.slots] at X2 l2 y2 z2 st2 hQ2
  subst l2 y2 z2
  obtain ⟨rfl, Nq2, e2⟩ := hQ2
  have N2 := Fr.app N0 Nq2
  obtain ⟨T3, X3, e3, st3⟩ := getF X2 hx hZ hown (host := "") (Or.inl (hw _ (List.mem_of_getElem? (i := 13) rfl))) Via.refl e2 F1_ (g := (mkF m 18 #[.val (.ref p0), .val (.int p1), .val (.int (0 : Int32))] [(.ref p0)])) rfl rfl (hb hby d4_18)
  obtain ⟨cla4, Ara4, qa4, Sa4, Za4, Ha4, Ga4⟩ := id F3_
  have hin5 : ¬ ((0 : Int32) < 0 ∨ cla4.slots.size ≤ ((0 : Int32)).toNatClampNeg) := inb_of Sa4 ⟨by decide, by decide⟩
  have hat6 : cla4.slots[((0 : Int32)).toNatClampNeg]? = some (.int t0) := Has.at Ha4 hin5 rfl
  have s7 : Steps p.tables e below (s₁.setTop (entryFrame m #[(.ref p0), (.int p1)] 3)) (T3.setTop (mkF m 23 #[.val (.ref p0), .val (.int p1), .val (.int (0 : Int32))] [(.int t0)])) := by
    refine s0.trans ?_
    show Steps p.tables e below (s₁.setTop (mkF m 0 #[.val (.ref p0), .val (.int p1), .unset] [])) _
    refine XS.aloadN X0.here hx rfl (hb hby d4_0) rfl rfl ?_
    show Steps p.tables e below (s₁.setTop (mkF m 1 #[.val (.ref p0), .val (.int p1), .unset] [(.ref p0)])) _
    refine st1 _ ?_
    show Steps p.tables e below (T1.setTop (mkF m 4 #[.val (.ref p0), .val (.int p1), .unset] [(.ref b1)])) _
    refine XS.iloadN X1.here hx rfl (hb hby d4_4) rfl ?_
    show Steps p.tables e below (T1.setTop (mkF m 5 #[.val (.ref p0), .val (.int p1), .unset] [(.int p1), (.ref b1)])) _
    refine st2 _ ?_
    show Steps p.tables e below (T2.setTop (mkF m 8 #[.val (.ref p0), .val (.int p1), .unset] [(.int (0 : Int32))])) _
    refine XS.istoreN X2.here hx rfl (hb hby d4_8) rfl (l' := #[.val (.ref p0), .val (.int p1), .val (.int (0 : Int32))]) rfl ?_
    show Steps p.tables e below (T2.setTop (mkF m 9 #[.val (.ref p0), .val (.int p1), .val (.int (0 : Int32))] [])) _
    refine XS.iloadN X2.here hx rfl (hb hby d4_9) rfl ?_
    show Steps p.tables e below (T2.setTop (mkF m 10 #[.val (.ref p0), .val (.int p1), .val (.int (0 : Int32))] [(.int (0 : Int32))])) _
    refine XS.ifYes X2.here hx rfl (pc0 := 10) (pc' := 17) rfl (hb hby d4_10) rfl ((if0 _ _).trans (flt (by decide)).2.1) (by decide) (by decide) ?_
    show Steps p.tables e below (T2.setTop (mkF m 17 #[.val (.ref p0), .val (.int p1), .val (.int (0 : Int32))] [])) _
    refine XS.aloadN X2.here hx rfl (hb hby d4_17) rfl rfl ?_
    show Steps p.tables e below (T2.setTop (mkF m 18 #[.val (.ref p0), .val (.int p1), .val (.int (0 : Int32))] [(.ref p0)])) _
    refine st3 _ ?_
    show Steps p.tables e below (T3.setTop (mkF m 21 #[.val (.ref p0), .val (.int p1), .val (.int (0 : Int32))] [(.ref b2)])) _
    refine XS.iloadN X3.here hx rfl (hb hby d4_21) rfl ?_
    show Steps p.tables e below (T3.setTop (mkF m 22 #[.val (.ref p0), .val (.int p1), .val (.int (0 : Int32))] [(.int (0 : Int32)), (.ref b2)])) _
    refine X3.iaload hx (j := (0 : Int32)) (v := (.int t0)) (by rw [e3]; exact Ara4.1) (State.isArrayOf_alike hZ.alike Ara4.2.1) Ara4.2.2 hin5 hat6 (g := (mkF m 22 #[.val (.ref p0), .val (.int p1), .val (.int (0 : Int32))] [(.int (0 : Int32)), (.ref b2)])) rfl rfl (hb hby d4_22) _ ?_
    exact Steps.refl _
  obtain ⟨fs, hr, hrun, hended, hW, hsame⟩ := X3.leave (v := some (.int t0)) (fun h => by rw [Bd.returns] at h; cases h)
  refine ⟨_, _, s7.trans ?_, hrun, hended, _, _, rfl, ?_, ⟨_, rfl⟩, hW, hsame.mono (by decide) (by decide)⟩
  · show Steps p.tables e below (T3.setTop (mkF m 23 #[.val (.ref p0), .val (.int p1), .val (.int (0 : Int32))] [(.int t0)])) _
    exact retI X3 hx Bd.returns (hb hby d4_23) hr
  · show Qs2 Z p0 p1 b1 b2 k1 k2 q1 t0 t1 h0 n0 _ T3.heap _
    rw [e3]
    exact ⟨rfl, N2, rfl⟩
theorem ef_rme3 (m : MethodId) (p0 : Addr) : entryFrame m #[(.ref p0)] 1 = mkF m 0 #[.val (.ref p0)] [] := by first | (simp [entryFrame, mkF, argsToLocals, Value.category]; done) | rfl
def Qe3 (Z : State) (p0 : Addr) (b1 : Addr) (k1 : ClassId) (q0 : Int32) (q1 : Int32) (q2 : Int32) (h0 : Heap) (n0 : Nat) (v : Option Value) (h : Heap) (L : List Loc) : Prop := v = some (.int (0 : Int32)) ∧ Fr n0 L ∧ h = h0
set_option maxRecDepth 65536 in
set_option maxHeartbeats 40000000 in
theorem rme3 (l : Launch) (Z : State) (a0 : Array Value) (hw : ∀ d ∈ tables_1, d.before a0 Z = true) (ws : List Jvm.Cond) (p0 : Addr) (b1 : Addr) (k1 : ClassId) (q0 : Int32) (q1 : Int32) (q2 : Int32) (h0 : Heap) (n0 : Nat) (O0 : Old Z n0 h0) (F0_ : Fld Z h0 p0 "com/example/odds_on_axioms/oddsonaxioms/network/Condition" "positions" "[I" (.ref b1)) (F1_ : Arv Z h0 b1 k1 .int (3 : Int32) [(.int q0), (.int q1), (.int q2)] (.int (0 : Int32))) :
    MetFree l (⟨"com/example/odds_on_axioms/oddsonaxioms/network/Condition", "isEmpty", "()Z"⟩ : MethodName) (head1 (Jvm.Cond.code (⟨"com/example/odds_on_axioms/oddsonaxioms/network/Condition", "isEmpty", "()Z"⟩ : MethodName) prog_38_method_9_code 1 (some .boolean) :: ws) ({ frames := 0, cells := 0, slots := 0, locals := 0 } : Room)) (fun a U => a = #[(.ref p0)] ∧ Z.Warmed39 U.vm ∧ U.heap = h0) (fun _ _ _ _ _ => True) (fun _ U o U' => ∃ v L, o = .returned v ∧ Qe3 Z p0 b1 k1 q0 q1 q2 h0 n0 v U'.heap L ∧ FrameEnd U o U' L ({ frames := 0, cells := 0, slots := 0, locals := 0 } : Room).cells ({ frames := 0, cells := 0, slots := 0, locals := 0 } : Room).slots) := by
  refine MetFree.of_bodySF (plainFor_of_name pn_1) hisR ?_
  intro p e s m args below meth c s₁ Bd hml0 hP hK
  obtain ⟨rfl, hZ, hh⟩ := hP
  have hx := Bd.exec
  have hby := Bd.bytes
  have hml : c.maxLocals = 1 := hml0
  have hown : s.vm.findClass "com/example/odds_on_axioms/oddsonaxioms/network/Condition" = some m.cls := findClass_of_methodNamed Bd.named
  have hnm := (name_of_methodNamed Bd.named Bd.method).1
  have X0 : Stand p l e ({ frames := 0, cells := 0, slots := 0, locals := 0 } : Room) s m #[(.ref p0)] below meth c s₁ [] 0 0 := Stand.of_body Bd
  have e0 : s₁.heap = h0 := by rw [← hh, Bd.state]; rfl
  have N0 := Fr.nil n0
  have s0 : Steps p.tables e below (s₁.setTop (entryFrame m #[(.ref p0)] 1)) (s₁.setTop (mkF m 0 #[.val (.ref p0)] [])) := castTop (ef_rme3 m p0) (Steps.refl _)
  obtain ⟨T1, X1, e1, st1⟩ := getF X0 hx hZ hown (host := "") (Or.inl (hw _ (List.mem_of_getElem? (i := 11) rfl))) Via.refl e0 F0_ (g := (mkF m 1 #[.val (.ref p0)] [(.ref p0)])) rfl rfl (hb hby d3_1)
  obtain ⟨cla2, Ara2, qa2, Sa2, Za2, Ha2, Ga2⟩ := id F1_
  have s3 : Steps p.tables e below (s₁.setTop (entryFrame m #[(.ref p0)] 1)) (T1.setTop (mkF m 13 #[.val (.ref p0)] [(.int (0 : Int32))])) := by
    refine s0.trans ?_
    show Steps p.tables e below (s₁.setTop (mkF m 0 #[.val (.ref p0)] [])) _
    refine XS.aloadN X0.here hx rfl (hb hby d3_0) rfl rfl ?_
    show Steps p.tables e below (s₁.setTop (mkF m 1 #[.val (.ref p0)] [(.ref p0)])) _
    refine st1 _ ?_
    show Steps p.tables e below (T1.setTop (mkF m 4 #[.val (.ref p0)] [(.ref b1)])) _
    refine X1.arraylength hx (by rw [e1]; exact Ara2.1) (State.isArrayOf_alike hZ.alike Ara2.2.1) (g := (mkF m 4 #[.val (.ref p0)] [(.ref b1)])) rfl rfl (hb hby d3_4) _ ?_
    rw [len_of Sa2 Za2]
    show Steps p.tables e below (T1.setTop (mkF m 5 #[.val (.ref p0)] [(.int (3 : Int32))])) _
    refine XS.ifYes X1.here hx rfl (pc0 := 5) (pc' := 12) rfl (hb hby d3_5) rfl ((if0 _ _).trans (feq (by decide)).2) (by decide) (by decide) ?_
    show Steps p.tables e below (T1.setTop (mkF m 12 #[.val (.ref p0)] [])) _
    refine XS.iconst X1.here hx rfl (hb hby d3_12) ?_
    exact Steps.refl _
  obtain ⟨fs, hr, hrun, hended, hW, hsame⟩ := X1.leave (v := some (.int (0 : Int32))) (fun h => by rw [Bd.returns] at h; cases h)
  refine ⟨_, _, s3.trans ?_, hrun, hended, _, _, rfl, ?_, ⟨_, rfl⟩, hW, hsame.mono (by decide) (by decide)⟩
  · show Steps p.tables e below (T1.setTop (mkF m 13 #[.val (.ref p0)] [(.int (0 : Int32))])) _
    exact retN X1 hx (t := .boolean) Bd.returns (by simp) (hb hby d3_13) hr
  · show Qe3 Z p0 b1 k1 q0 q1 q2 h0 n0 _ T1.heap _
    rw [e1]
    exact ⟨rfl, N0, rfl⟩
theorem d6_51 : decode jdk_65_method_59_code 51 = .ok (.iload 6, 2) := by decide +kernel
theorem d6_53 : decode jdk_65_method_59_code 53 = .ok (.iconst 1, 1) := by decide +kernel
theorem d6_54 : decode jdk_65_method_59_code 54 = .ok (.isub, 1) := by decide +kernel
theorem d6_55 : decode jdk_65_method_59_code 55 = .ok (.istore 5, 2) := by decide +kernel
theorem d6_57 : decode jdk_65_method_59_code 57 = .ok (.goto 6, 3) := by decide +kernel
theorem d6_63 : decode jdk_65_method_59_code 63 = .ok (.goto (-55), 3) := by decide +kernel
theorem ef_rmb3 (m : MethodId) (p0 : Addr) (p3 : Int32) : entryFrame m #[(.ref p0), (.int (0 : Int32)), (.int (3 : Int32)), (.int p3)] 8 = mkF m 0 #[.val (.ref p0), .val (.int (0 : Int32)), .val (.int (3 : Int32)), .val (.int p3), .unset, .unset, .unset, .unset] [] := by first | (simp [entryFrame, mkF, argsToLocals, Value.category]; done) | rfl
def Qb3 (Z : State) (p0 : Addr) (p3 : Int32) (k1 : ClassId) (q1 : Int32) (q2 : Int32) (h0 : Heap) (n0 : Nat) (v : Option Value) (h : Heap) (L : List Loc) : Prop := v = some (.int (0 : Int32)) ∧ Fr n0 L ∧ h = h0
set_option maxRecDepth 65536 in
set_option maxHeartbeats 40000000 in
theorem rmb3 (l : Launch) (Z : State) (a0 : Array Value) (hw : ∀ d ∈ tables_1, d.before a0 Z = true) (ws : List Jvm.Cond) (p0 : Addr) (p3 : Int32) (k1 : ClassId) (q1 : Int32) (q2 : Int32) (h0 : Heap) (n0 : Nat) (O0 : Old Z n0 h0) (F0_ : Arv Z h0 p0 k1 .int (3 : Int32) [(.int p3), (.int q1), (.int q2)] (.int (0 : Int32))) (h01 : p3 < q1) :
    MetFree l (⟨"java/util/Arrays", "binarySearch0", "([IIII)I"⟩ : MethodName) (head1 (Jvm.Cond.code (⟨"java/util/Arrays", "binarySearch0", "([IIII)I"⟩ : MethodName) jdk_65_method_59_code 8 (some .int) :: ws) ({ frames := 0, cells := 0, slots := 0, locals := 0 } : Room)) (fun a U => a = #[(.ref p0), (.int (0 : Int32)), (.int (3 : Int32)), (.int p3)] ∧ Z.Warmed39 U.vm ∧ U.heap = h0) (fun _ _ _ _ _ => True) (fun _ U o U' => ∃ v L, o = .returned v ∧ Qb3 Z p0 p3 k1 q1 q2 h0 n0 v U'.heap L ∧ FrameEnd U o U' L ({ frames := 0, cells := 0, slots := 0, locals := 0 } : Room).cells ({ frames := 0, cells := 0, slots := 0, locals := 0 } : Room).slots) := by
  refine MetFree.of_bodySF (plainFor_of_name pn_6) hisR ?_
  intro p e s m args below meth c s₁ Bd hml0 hP hK
  obtain ⟨rfl, hZ, hh⟩ := hP
  have hx := Bd.exec
  have hby := Bd.bytes
  have hml : c.maxLocals = 8 := hml0
  have hown : s.vm.findClass "java/util/Arrays" = some m.cls := findClass_of_methodNamed Bd.named
  have hnm := (name_of_methodNamed Bd.named Bd.method).1
  have X0 : Stand p l e ({ frames := 0, cells := 0, slots := 0, locals := 0 } : Room) s m #[(.ref p0), (.int (0 : Int32)), (.int (3 : Int32)), (.int p3)] below meth c s₁ [] 0 0 := Stand.of_body Bd
  have e0 : s₁.heap = h0 := by rw [← hh, Bd.state]; rfl
  have N0 := Fr.nil n0
  have s0 : Steps p.tables e below (s₁.setTop (entryFrame m #[(.ref p0), (.int (0 : Int32)), (.int (3 : Int32)), (.int p3)] 8)) (s₁.setTop (mkF m 0 #[.val (.ref p0), .val (.int (0 : Int32)), .val (.int (3 : Int32)), .val (.int p3), .unset, .unset, .unset, .unset] [])) := castTop (ef_rmb3 m p0 p3) (Steps.refl _)
  obtain ⟨cla1, Ara1, qa1, Sa1, Za1, Ha1, Ga1⟩ := id F0_
  have hin2 : ¬ ((1 : Int32) < 0 ∨ cla1.slots.size ≤ ((1 : Int32)).toNatClampNeg) := inb_of Sa1 ⟨by decide, by decide⟩
  have hat3 : cla1.slots[((1 : Int32)).toNatClampNeg]? = some (.int q1) := Has.at Ha1 hin2 rfl
  have hin4 : ¬ ((0 : Int32) < 0 ∨ cla1.slots.size ≤ ((0 : Int32)).toNatClampNeg) := inb_of Sa1 ⟨by decide, by decide⟩
  have hat5 : cla1.slots[((0 : Int32)).toNatClampNeg]? = some (.int p3) := Has.at Ha1 hin4 rfl
  have s6 : Steps p.tables e below (s₁.setTop (entryFrame m #[(.ref p0), (.int (0 : Int32)), (.int (3 : Int32)), (.int p3)] 8)) (s₁.setTop (mkF m 62 #[.val (.ref p0), .val (.int (0 : Int32)), .val (.int (3 : Int32)), .val (.int p3), .val (.int (0 : Int32)), .val (.int (0 : Int32)), .val (.int (0 : Int32)), .val (.int p3)] [(.int (0 : Int32))])) := by
    refine s0.trans ?_
    show Steps p.tables e below (s₁.setTop (mkF m 0 #[.val (.ref p0), .val (.int (0 : Int32)), .val (.int (3 : Int32)), .val (.int p3), .unset, .unset, .unset, .unset] [])) _
    refine XS.iloadN X0.here hx rfl (hb hby d6_0) rfl ?_
    show Steps p.tables e below (s₁.setTop (mkF m 1 #[.val (.ref p0), .val (.int (0 : Int32)), .val (.int (3 : Int32)), .val (.int p3), .unset, .unset, .unset, .unset] [(.int (0 : Int32))])) _
    refine XS.istore X0.here hx rfl (hb hby d6_1) rfl (l' := #[.val (.ref p0), .val (.int (0 : Int32)), .val (.int (3 : Int32)), .val (.int p3), .val (.int (0 : Int32)), .unset, .unset, .unset]) rfl ?_
    show Steps p.tables e below (s₁.setTop (mkF m 3 #[.val (.ref p0), .val (.int (0 : Int32)), .val (.int (3 : Int32)), .val (.int p3), .val (.int (0 : Int32)), .unset, .unset, .unset] [])) _
    refine XS.iloadN X0.here hx rfl (hb hby d6_3) rfl ?_
    show Steps p.tables e below (s₁.setTop (mkF m 4 #[.val (.ref p0), .val (.int (0 : Int32)), .val (.int (3 : Int32)), .val (.int p3), .val (.int (0 : Int32)), .unset, .unset, .unset] [(.int (3 : Int32))])) _
    refine XS.iconst X0.here hx rfl (hb hby d6_4) ?_
    show Steps p.tables e below (s₁.setTop (mkF m 5 #[.val (.ref p0), .val (.int (0 : Int32)), .val (.int (3 : Int32)), .val (.int p3), .val (.int (0 : Int32)), .unset, .unset, .unset] [(.int (1 : Int32)), (.int (3 : Int32))])) _
    refine XS.isub X0.here hx rfl (hb hby d6_5) rfl ?_
    show Steps p.tables e below (s₁.setTop (mkF m 6 #[.val (.ref p0), .val (.int (0 : Int32)), .val (.int (3 : Int32)), .val (.int p3), .val (.int (0 : Int32)), .unset, .unset, .unset] [(.int (2 : Int32))])) _
    refine XS.istore X0.here hx rfl (hb hby d6_6) rfl (l' := #[.val (.ref p0), .val (.int (0 : Int32)), .val (.int (3 : Int32)), .val (.int p3), .val (.int (0 : Int32)), .val (.int (2 : Int32)), .unset, .unset]) rfl ?_
    show Steps p.tables e below (s₁.setTop (mkF m 8 #[.val (.ref p0), .val (.int (0 : Int32)), .val (.int (3 : Int32)), .val (.int p3), .val (.int (0 : Int32)), .val (.int (2 : Int32)), .unset, .unset] [])) _
    refine XS.iload X0.here hx rfl (hb hby d6_8) rfl ?_
    show Steps p.tables e below (s₁.setTop (mkF m 10 #[.val (.ref p0), .val (.int (0 : Int32)), .val (.int (3 : Int32)), .val (.int p3), .val (.int (0 : Int32)), .val (.int (2 : Int32)), .unset, .unset] [(.int (0 : Int32))])) _
    refine XS.iload X0.here hx rfl (hb hby d6_10) rfl ?_
    show Steps p.tables e below (s₁.setTop (mkF m 12 #[.val (.ref p0), .val (.int (0 : Int32)), .val (.int (3 : Int32)), .val (.int p3), .val (.int (0 : Int32)), .val (.int (2 : Int32)), .unset, .unset] [(.int (2 : Int32)), (.int (0 : Int32))])) _
    refine XS.icmpNo X0.here hx rfl (hb hby d6_12) rfl (flt (by decide)).2.2.1 ?_
    show Steps p.tables e below (s₁.setTop (mkF m 15 #[.val (.ref p0), .val (.int (0 : Int32)), .val (.int (3 : Int32)), .val (.int p3), .val (.int (0 : Int32)), .val (.int (2 : Int32)), .unset, .unset] [])) _
    refine XS.iload X0.here hx rfl (hb hby d6_15) rfl ?_
    show Steps p.tables e below (s₁.setTop (mkF m 17 #[.val (.ref p0), .val (.int (0 : Int32)), .val (.int (3 : Int32)), .val (.int p3), .val (.int (0 : Int32)), .val (.int (2 : Int32)), .unset, .unset] [(.int (0 : Int32))])) _
    refine XS.iload X0.here hx rfl (hb hby d6_17) rfl ?_
    show Steps p.tables e below (s₁.setTop (mkF m 19 #[.val (.ref p0), .val (.int (0 : Int32)), .val (.int (3 : Int32)), .val (.int p3), .val (.int (0 : Int32)), .val (.int (2 : Int32)), .unset, .unset] [(.int (2 : Int32)), (.int (0 : Int32))])) _
    refine XS.iadd X0.here hx rfl (hb hby d6_19) rfl ?_
    show Steps p.tables e below (s₁.setTop (mkF m 20 #[.val (.ref p0), .val (.int (0 : Int32)), .val (.int (3 : Int32)), .val (.int p3), .val (.int (0 : Int32)), .val (.int (2 : Int32)), .unset, .unset] [(.int (2 : Int32))])) _
    refine XS.iconst X0.here hx rfl (hb hby d6_20) ?_
    show Steps p.tables e below (s₁.setTop (mkF m 21 #[.val (.ref p0), .val (.int (0 : Int32)), .val (.int (3 : Int32)), .val (.int p3), .val (.int (0 : Int32)), .val (.int (2 : Int32)), .unset, .unset] [(.int (1 : Int32)), (.int (2 : Int32))])) _
    refine XS.iushr X0.here hx rfl (hb hby d6_21) rfl ?_
    show Steps p.tables e below (s₁.setTop (mkF m 22 #[.val (.ref p0), .val (.int (0 : Int32)), .val (.int (3 : Int32)), .val (.int p3), .val (.int (0 : Int32)), .val (.int (2 : Int32)), .unset, .unset] [(.int (1 : Int32))])) _
    refine XS.istore X0.here hx rfl (hb hby d6_22) rfl (l' := #[.val (.ref p0), .val (.int (0 : Int32)), .val (.int (3 : Int32)), .val (.int p3), .val (.int (0 : Int32)), .val (.int (2 : Int32)), .val (.int (1 : Int32)), .unset]) rfl ?_
    show Steps p.tables e below (s₁.setTop (mkF m 24 #[.val (.ref p0), .val (.int (0 : Int32)), .val (.int (3 : Int32)), .val (.int p3), .val (.int (0 : Int32)), .val (.int (2 : Int32)), .val (.int (1 : Int32)), .unset] [])) _
    refine XS.aloadN X0.here hx rfl (hb hby d6_24) rfl rfl ?_
    show Steps p.tables e below (s₁.setTop (mkF m 25 #[.val (.ref p0), .val (.int (0 : Int32)), .val (.int (3 : Int32)), .val (.int p3), .val (.int (0 : Int32)), .val (.int (2 : Int32)), .val (.int (1 : Int32)), .unset] [(.ref p0)])) _
    refine XS.iload X0.here hx rfl (hb hby d6_25) rfl ?_
    show Steps p.tables e below (s₁.setTop (mkF m 27 #[.val (.ref p0), .val (.int (0 : Int32)), .val (.int (3 : Int32)), .val (.int p3), .val (.int (0 : Int32)), .val (.int (2 : Int32)), .val (.int (1 : Int32)), .unset] [(.int (1 : Int32)), (.ref p0)])) _
    refine X0.iaload hx (j := (1 : Int32)) (v := (.int q1)) (by rw [e0]; exact Ara1.1) (State.isArrayOf_alike hZ.alike Ara1.2.1) Ara1.2.2 hin2 hat3 (g := (mkF m 27 #[.val (.ref p0), .val (.int (0 : Int32)), .val (.int (3 : Int32)), .val (.int p3), .val (.int (0 : Int32)), .val (.int (2 : Int32)), .val (.int (1 : Int32)), .unset] [(.int (1 : Int32)), (.ref p0)])) rfl rfl (hb hby d6_27) _ ?_
    show Steps p.tables e below (s₁.setTop (mkF m 28 #[.val (.ref p0), .val (.int (0 : Int32)), .val (.int (3 : Int32)), .val (.int p3), .val (.int (0 : Int32)), .val (.int (2 : Int32)), .val (.int (1 : Int32)), .unset] [(.int q1)])) _
    refine XS.istore X0.here hx rfl (hb hby d6_28) rfl (l' := #[.val (.ref p0), .val (.int (0 : Int32)), .val (.int (3 : Int32)), .val (.int p3), .val (.int (0 : Int32)), .val (.int (2 : Int32)), .val (.int (1 : Int32)), .val (.int q1)]) rfl ?_
    show Steps p.tables e below (s₁.setTop (mkF m 30 #[.val (.ref p0), .val (.int (0 : Int32)), .val (.int (3 : Int32)), .val (.int p3), .val (.int (0 : Int32)), .val (.int (2 : Int32)), .val (.int (1 : Int32)), .val (.int q1)] [])) _
    refine XS.iload X0.here hx rfl (hb hby d6_30) rfl ?_
    show Steps p.tables e below (s₁.setTop (mkF m 32 #[.val (.ref p0), .val (.int (0 : Int32)), .val (.int (3 : Int32)), .val (.int p3), .val (.int (0 : Int32)), .val (.int (2 : Int32)), .val (.int (1 : Int32)), .val (.int q1)] [(.int q1)])) _
    refine XS.iloadN X0.here hx rfl (hb hby d6_32) rfl ?_
    show Steps p.tables e below (s₁.setTop (mkF m 33 #[.val (.ref p0), .val (.int (0 : Int32)), .val (.int (3 : Int32)), .val (.int p3), .val (.int (0 : Int32)), .val (.int (2 : Int32)), .val (.int (1 : Int32)), .val (.int q1)] [(.int p3), (.int q1)])) _
    refine XS.icmpYes X0.here hx rfl (pc0 := 33) (pc' := 45) rfl (hb hby d6_33) rfl (flt (Int32.not_lt.mpr (Int32.le_of_lt h01))).2.1 (by decide) (by decide) ?_
    show Steps p.tables e below (s₁.setTop (mkF m 45 #[.val (.ref p0), .val (.int (0 : Int32)), .val (.int (3 : Int32)), .val (.int p3), .val (.int (0 : Int32)), .val (.int (2 : Int32)), .val (.int (1 : Int32)), .val (.int q1)] [])) _
    refine XS.iload X0.here hx rfl (hb hby d6_45) rfl ?_
    show Steps p.tables e below (s₁.setTop (mkF m 47 #[.val (.ref p0), .val (.int (0 : Int32)), .val (.int (3 : Int32)), .val (.int p3), .val (.int (0 : Int32)), .val (.int (2 : Int32)), .val (.int (1 : Int32)), .val (.int q1)] [(.int q1)])) _
    refine XS.iloadN X0.here hx rfl (hb hby d6_47) rfl ?_
    show Steps p.tables e below (s₁.setTop (mkF m 48 #[.val (.ref p0), .val (.int (0 : Int32)), .val (.int (3 : Int32)), .val (.int p3), .val (.int (0 : Int32)), .val (.int (2 : Int32)), .val (.int (1 : Int32)), .val (.int q1)] [(.int p3), (.int q1)])) _
    refine XS.icmpNo X0.here hx rfl (hb hby d6_48) rfl (tlt h01).2.2.2 ?_
    show Steps p.tables e below (s₁.setTop (mkF m 51 #[.val (.ref p0), .val (.int (0 : Int32)), .val (.int (3 : Int32)), .val (.int p3), .val (.int (0 : Int32)), .val (.int (2 : Int32)), .val (.int (1 : Int32)), .val (.int q1)] [])) _
    refine XS.iload X0.here hx rfl (hb hby d6_51) rfl ?_
    show Steps p.tables e below (s₁.setTop (mkF m 53 #[.val (.ref p0), .val (.int (0 : Int32)), .val (.int (3 : Int32)), .val (.int p3), .val (.int (0 : Int32)), .val (.int (2 : Int32)), .val (.int (1 : Int32)), .val (.int q1)] [(.int (1 : Int32))])) _
    refine XS.iconst X0.here hx rfl (hb hby d6_53) ?_
    show Steps p.tables e below (s₁.setTop (mkF m 54 #[.val (.ref p0), .val (.int (0 : Int32)), .val (.int (3 : Int32)), .val (.int p3), .val (.int (0 : Int32)), .val (.int (2 : Int32)), .val (.int (1 : Int32)), .val (.int q1)] [(.int (1 : Int32)), (.int (1 : Int32))])) _
    refine XS.isub X0.here hx rfl (hb hby d6_54) rfl ?_
    show Steps p.tables e below (s₁.setTop (mkF m 55 #[.val (.ref p0), .val (.int (0 : Int32)), .val (.int (3 : Int32)), .val (.int p3), .val (.int (0 : Int32)), .val (.int (2 : Int32)), .val (.int (1 : Int32)), .val (.int q1)] [(.int (0 : Int32))])) _
    refine XS.istore X0.here hx rfl (hb hby d6_55) rfl (l' := #[.val (.ref p0), .val (.int (0 : Int32)), .val (.int (3 : Int32)), .val (.int p3), .val (.int (0 : Int32)), .val (.int (0 : Int32)), .val (.int (1 : Int32)), .val (.int q1)]) rfl ?_
    show Steps p.tables e below (s₁.setTop (mkF m 57 #[.val (.ref p0), .val (.int (0 : Int32)), .val (.int (3 : Int32)), .val (.int p3), .val (.int (0 : Int32)), .val (.int (0 : Int32)), .val (.int (1 : Int32)), .val (.int q1)] [])) _
    refine XS.goto X0.here hx rfl (pc0 := 57) (pc' := 63) rfl (hb hby d6_57) (by decide) (by decide) ?_
    show Steps p.tables e below (s₁.setTop (mkF m 63 #[.val (.ref p0), .val (.int (0 : Int32)), .val (.int (3 : Int32)), .val (.int p3), .val (.int (0 : Int32)), .val (.int (0 : Int32)), .val (.int (1 : Int32)), .val (.int q1)] [])) _
    refine XS.goto X0.here hx rfl (pc0 := 63) (pc' := 8) rfl (hb hby d6_63) (by decide) (by decide) ?_
    show Steps p.tables e below (s₁.setTop (mkF m 8 #[.val (.ref p0), .val (.int (0 : Int32)), .val (.int (3 : Int32)), .val (.int p3), .val (.int (0 : Int32)), .val (.int (0 : Int32)), .val (.int (1 : Int32)), .val (.int q1)] [])) _
    refine XS.iload X0.here hx rfl (hb hby d6_8) rfl ?_
    show Steps p.tables e below (s₁.setTop (mkF m 10 #[.val (.ref p0), .val (.int (0 : Int32)), .val (.int (3 : Int32)), .val (.int p3), .val (.int (0 : Int32)), .val (.int (0 : Int32)), .val (.int (1 : Int32)), .val (.int q1)] [(.int (0 : Int32))])) _
    refine XS.iload X0.here hx rfl (hb hby d6_10) rfl ?_
    show Steps p.tables e below (s₁.setTop (mkF m 12 #[.val (.ref p0), .val (.int (0 : Int32)), .val (.int (3 : Int32)), .val (.int p3), .val (.int (0 : Int32)), .val (.int (0 : Int32)), .val (.int (1 : Int32)), .val (.int q1)] [(.int (0 : Int32)), (.int (0 : Int32))])) _
    refine XS.icmpNo X0.here hx rfl (hb hby d6_12) rfl (flt (by decide)).2.2.1 ?_
    show Steps p.tables e below (s₁.setTop (mkF m 15 #[.val (.ref p0), .val (.int (0 : Int32)), .val (.int (3 : Int32)), .val (.int p3), .val (.int (0 : Int32)), .val (.int (0 : Int32)), .val (.int (1 : Int32)), .val (.int q1)] [])) _
    refine XS.iload X0.here hx rfl (hb hby d6_15) rfl ?_
    show Steps p.tables e below (s₁.setTop (mkF m 17 #[.val (.ref p0), .val (.int (0 : Int32)), .val (.int (3 : Int32)), .val (.int p3), .val (.int (0 : Int32)), .val (.int (0 : Int32)), .val (.int (1 : Int32)), .val (.int q1)] [(.int (0 : Int32))])) _
    refine XS.iload X0.here hx rfl (hb hby d6_17) rfl ?_
    show Steps p.tables e below (s₁.setTop (mkF m 19 #[.val (.ref p0), .val (.int (0 : Int32)), .val (.int (3 : Int32)), .val (.int p3), .val (.int (0 : Int32)), .val (.int (0 : Int32)), .val (.int (1 : Int32)), .val (.int q1)] [(.int (0 : Int32)), (.int (0 : Int32))])) _
    refine XS.iadd X0.here hx rfl (hb hby d6_19) rfl ?_
    show Steps p.tables e below (s₁.setTop (mkF m 20 #[.val (.ref p0), .val (.int (0 : Int32)), .val (.int (3 : Int32)), .val (.int p3), .val (.int (0 : Int32)), .val (.int (0 : Int32)), .val (.int (1 : Int32)), .val (.int q1)] [(.int (0 : Int32))])) _
    refine XS.iconst X0.here hx rfl (hb hby d6_20) ?_
    show Steps p.tables e below (s₁.setTop (mkF m 21 #[.val (.ref p0), .val (.int (0 : Int32)), .val (.int (3 : Int32)), .val (.int p3), .val (.int (0 : Int32)), .val (.int (0 : Int32)), .val (.int (1 : Int32)), .val (.int q1)] [(.int (1 : Int32)), (.int (0 : Int32))])) _
    refine XS.iushr X0.here hx rfl (hb hby d6_21) rfl ?_
    show Steps p.tables e below (s₁.setTop (mkF m 22 #[.val (.ref p0), .val (.int (0 : Int32)), .val (.int (3 : Int32)), .val (.int p3), .val (.int (0 : Int32)), .val (.int (0 : Int32)), .val (.int (1 : Int32)), .val (.int q1)] [(.int (0 : Int32))])) _
    refine XS.istore X0.here hx rfl (hb hby d6_22) rfl (l' := #[.val (.ref p0), .val (.int (0 : Int32)), .val (.int (3 : Int32)), .val (.int p3), .val (.int (0 : Int32)), .val (.int (0 : Int32)), .val (.int (0 : Int32)), .val (.int q1)]) rfl ?_
    show Steps p.tables e below (s₁.setTop (mkF m 24 #[.val (.ref p0), .val (.int (0 : Int32)), .val (.int (3 : Int32)), .val (.int p3), .val (.int (0 : Int32)), .val (.int (0 : Int32)), .val (.int (0 : Int32)), .val (.int q1)] [])) _
    refine XS.aloadN X0.here hx rfl (hb hby d6_24) rfl rfl ?_
    show Steps p.tables e below (s₁.setTop (mkF m 25 #[.val (.ref p0), .val (.int (0 : Int32)), .val (.int (3 : Int32)), .val (.int p3), .val (.int (0 : Int32)), .val (.int (0 : Int32)), .val (.int (0 : Int32)), .val (.int q1)] [(.ref p0)])) _
    refine XS.iload X0.here hx rfl (hb hby d6_25) rfl ?_
    show Steps p.tables e below (s₁.setTop (mkF m 27 #[.val (.ref p0), .val (.int (0 : Int32)), .val (.int (3 : Int32)), .val (.int p3), .val (.int (0 : Int32)), .val (.int (0 : Int32)), .val (.int (0 : Int32)), .val (.int q1)] [(.int (0 : Int32)), (.ref p0)])) _
    refine X0.iaload hx (j := (0 : Int32)) (v := (.int p3)) (by rw [e0]; exact Ara1.1) (State.isArrayOf_alike hZ.alike Ara1.2.1) Ara1.2.2 hin4 hat5 (g := (mkF m 27 #[.val (.ref p0), .val (.int (0 : Int32)), .val (.int (3 : Int32)), .val (.int p3), .val (.int (0 : Int32)), .val (.int (0 : Int32)), .val (.int (0 : Int32)), .val (.int q1)] [(.int (0 : Int32)), (.ref p0)])) rfl rfl (hb hby d6_27) _ ?_
    show Steps p.tables e below (s₁.setTop (mkF m 28 #[.val (.ref p0), .val (.int (0 : Int32)), .val (.int (3 : Int32)), .val (.int p3), .val (.int (0 : Int32)), .val (.int (0 : Int32)), .val (.int (0 : Int32)), .val (.int q1)] [(.int p3)])) _
    refine XS.istore X0.here hx rfl (hb hby d6_28) rfl (l' := #[.val (.ref p0), .val (.int (0 : Int32)), .val (.int (3 : Int32)), .val (.int p3), .val (.int (0 : Int32)), .val (.int (0 : Int32)), .val (.int (0 : Int32)), .val (.int p3)]) rfl ?_
    show Steps p.tables e below (s₁.setTop (mkF m 30 #[.val (.ref p0), .val (.int (0 : Int32)), .val (.int (3 : Int32)), .val (.int p3), .val (.int (0 : Int32)), .val (.int (0 : Int32)), .val (.int (0 : Int32)), .val (.int p3)] [])) _
    refine XS.iload X0.here hx rfl (hb hby d6_30) rfl ?_
    show Steps p.tables e below (s₁.setTop (mkF m 32 #[.val (.ref p0), .val (.int (0 : Int32)), .val (.int (3 : Int32)), .val (.int p3), .val (.int (0 : Int32)), .val (.int (0 : Int32)), .val (.int (0 : Int32)), .val (.int p3)] [(.int p3)])) _
    refine XS.iloadN X0.here hx rfl (hb hby d6_32) rfl ?_
    show Steps p.tables e below (s₁.setTop (mkF m 33 #[.val (.ref p0), .val (.int (0 : Int32)), .val (.int (3 : Int32)), .val (.int p3), .val (.int (0 : Int32)), .val (.int (0 : Int32)), .val (.int (0 : Int32)), .val (.int p3)] [(.int p3), (.int p3)])) _
    refine XS.icmpYes X0.here hx rfl (pc0 := 33) (pc' := 45) rfl (hb hby d6_33) rfl (flt Int32.lt_irrefl).2.1 (by decide) (by decide) ?_
    show Steps p.tables e below (s₁.setTop (mkF m 45 #[.val (.ref p0), .val (.int (0 : Int32)), .val (.int (3 : Int32)), .val (.int p3), .val (.int (0 : Int32)), .val (.int (0 : Int32)), .val (.int (0 : Int32)), .val (.int p3)] [])) _
    refine XS.iload X0.here hx rfl (hb hby d6_45) rfl ?_
    show Steps p.tables e below (s₁.setTop (mkF m 47 #[.val (.ref p0), .val (.int (0 : Int32)), .val (.int (3 : Int32)), .val (.int p3), .val (.int (0 : Int32)), .val (.int (0 : Int32)), .val (.int (0 : Int32)), .val (.int p3)] [(.int p3)])) _
    refine XS.iloadN X0.here hx rfl (hb hby d6_47) rfl ?_
    show Steps p.tables e below (s₁.setTop (mkF m 48 #[.val (.ref p0), .val (.int (0 : Int32)), .val (.int (3 : Int32)), .val (.int p3), .val (.int (0 : Int32)), .val (.int (0 : Int32)), .val (.int (0 : Int32)), .val (.int p3)] [(.int p3), (.int p3)])) _
    refine XS.icmpYes X0.here hx rfl (pc0 := 48) (pc' := 60) rfl (hb hby d6_48) rfl (flt Int32.lt_irrefl).2.2.2 (by decide) (by decide) ?_
    show Steps p.tables e below (s₁.setTop (mkF m 60 #[.val (.ref p0), .val (.int (0 : Int32)), .val (.int (3 : Int32)), .val (.int p3), .val (.int (0 : Int32)), .val (.int (0 : Int32)), .val (.int (0 : Int32)), .val (.int p3)] [])) _
    refine XS.iload X0.here hx rfl (hb hby d6_60) rfl ?_
    exact Steps.refl _
  obtain ⟨fs, hr, hrun, hended, hW, hsame⟩ := X0.leave (v := some (.int (0 : Int32))) (fun h => by rw [Bd.returns] at h; cases h)
  refine ⟨_, _, s6.trans ?_, hrun, hended, _, _, rfl, ?_, ⟨_, rfl⟩, hW, hsame.mono (by decide) (by decide)⟩
  · show Steps p.tables e below (s₁.setTop (mkF m 62 #[.val (.ref p0), .val (.int (0 : Int32)), .val (.int (3 : Int32)), .val (.int p3), .val (.int (0 : Int32)), .val (.int (0 : Int32)), .val (.int (0 : Int32)), .val (.int p3)] [(.int (0 : Int32))])) _
    exact retI X0 hx Bd.returns (hb hby d6_62) hr
  · show Qb3 Z p0 p3 k1 q1 q2 h0 n0 _ s₁.heap _
    rw [e0]
    exact ⟨rfl, N0, rfl⟩
theorem pd_rma3_0 : parseMethodDescriptor "([IIII)I" = some ⟨[(.array .int), .int, .int, .int], some .int⟩ := by decide +kernel
theorem ef_rma3 (m : MethodId) (p0 : Addr) (p1 : Int32) : entryFrame m #[(.ref p0), (.int p1)] 2 = mkF m 0 #[.val (.ref p0), .val (.int p1)] [] := by first | (simp [entryFrame, mkF, argsToLocals, Value.category]; done) | rfl
def Qa3 (Z : State) (p0 : Addr) (p1 : Int32) (k1 : ClassId) (q1 : Int32) (q2 : Int32) (h0 : Heap) (n0 : Nat) (v : Option Value) (h : Heap) (L : List Loc) : Prop := v = some (.int (0 : Int32)) ∧ Fr n0 L ∧ h = h0
set_option maxRecDepth 65536 in
set_option maxHeartbeats 40000000 in
theorem rma3 (l : Launch) (Z : State) (a0 : Array Value) (hw : ∀ d ∈ tables_1, d.before a0 Z = true) (ws : List Jvm.Cond) (p0 : Addr) (p1 : Int32) (k1 : ClassId) (q1 : Int32) (q2 : Int32) (h0 : Heap) (n0 : Nat) (O0 : Old Z n0 h0) (F0_ : Arv Z h0 p0 k1 .int (3 : Int32) [(.int p1), (.int q1), (.int q2)] (.int (0 : Int32))) (h01 : p1 < q1) :
    MetFree l (⟨"java/util/Arrays", "binarySearch", "([II)I"⟩ : MethodName) (head1 (Jvm.Cond.code (⟨"java/util/Arrays", "binarySearch", "([II)I"⟩ : MethodName) jdk_65_method_57_code 2 (some .int) :: ws) ({ frames := 1, cells := 0, slots := 0, locals := 19 } : Room)) (fun a U => a = #[(.ref p0), (.int p1)] ∧ Z.Warmed39 U.vm ∧ U.heap = h0) (fun _ _ _ _ _ => True) (fun _ U o U' => ∃ v L, o = .returned v ∧ Qa3 Z p0 p1 k1 q1 q2 h0 n0 v U'.heap L ∧ FrameEnd U o U' L ({ frames := 1, cells := 0, slots := 0, locals := 19 } : Room).cells ({ frames := 1, cells := 0, slots := 0, locals := 19 } : Room).slots) := by
  refine MetFree.of_bodySF (plainFor_of_name pn_6) hisR ?_
  intro p e s m args below meth c s₁ Bd hml0 hP hK
  obtain ⟨rfl, hZ, hh⟩ := hP
  have hx := Bd.exec
  have hby := Bd.bytes
  have hml : c.maxLocals = 2 := hml0
  have hown : s.vm.findClass "java/util/Arrays" = some m.cls := findClass_of_methodNamed Bd.named
  have hnm := (name_of_methodNamed Bd.named Bd.method).1
  have X0 : Stand p l e ({ frames := 1, cells := 0, slots := 0, locals := 19 } : Room) s m #[(.ref p0), (.int p1)] below meth c s₁ [] 0 0 := Stand.of_body Bd
  have e0 : s₁.heap = h0 := by rw [← hh, Bd.state]; rfl
  have N0 := Fr.nil n0
  have s0 : Steps p.tables e below (s₁.setTop (entryFrame m #[(.ref p0), (.int p1)] 2)) (s₁.setTop (mkF m 0 #[.val (.ref p0), .val (.int p1)] [])) := castTop (ef_rma3 m p0 p1) (Steps.refl _)
  obtain ⟨cla1, Ara1, qa1, Sa1, Za1, Ha1, Ga1⟩ := id F0_
  obtain ⟨_, _, ⟨T2, L2, k2, n2⟩, -, X2, ⟨Lc2, hQ2, l2, y2, z2⟩, st2⟩ := Jvm.LawKit.callS X0 hx (y := (⟨"java/util/Arrays", "binarySearch0", "([IIII)I"⟩ : MethodName)) hown (mvT hZ (hw _ (List.mem_of_getElem? (i := 29) rfl))) (mvT hZ (hw _ (List.mem_of_getElem? (i := 30) rfl))) (mvT hZ (hw _ (List.mem_of_getElem? (i := 27) rfl))) (mvT hZ (hw _ (List.mem_of_getElem? (i := 31) rfl))) (by decide) (backOf (W := 0) (rmb3 l Z a0 hw [] p0 p1 k1 q1 q2 h0 n0 O0 F0_ h01) hZ (hw _ (List.mem_of_getElem? (i := 31) rfl)) (hw _ (List.mem_of_getElem? (i := 27) rfl)) (by decide) (by decide)) (g := (mkF m 5 #[.val (.ref p0), .val (.int p1)] [(.int p1), (.int (3 : Int32)), (.int (0 : Int32)), (.ref p0)])) rfl (by rw [hml]; rfl) (argsL := [(.ref p0), (.int (0 : Int32)), (.int (3 : Int32)), (.int p1)]) (rest := []) (lenOf pd_rma3_0 rfl) rfl (by show 2 * 0 + _ ≤ _; exact Nat.le_of_eq rfl) (hb hby d5_5) (fun _ _ => ⟨rfl, e0, (by decide : 0 + 0 ≤ _), (by decide : 0 + 0 ≤ _)⟩)
  dsimp only [Pt.U, Pt.locs, Pt.cells, Pt.slots] at X2 l2 y2 z2 st2 hQ2
  subst l2 y2 z2
  obtain ⟨rfl, Nq2, e2⟩ := hQ2
  have N2 := Fr.app N0 Nq2
  have s3 : Steps p.tables e below (s₁.setTop (entryFrame m #[(.ref p0), (.int p1)] 2)) (T2.setTop (mkF m 8 #[.val (.ref p0), .val (.int p1)] [(.int (0 : Int32))])) := by
    refine s0.trans ?_
    show Steps p.tables e below (s₁.setTop (mkF m 0 #[.val (.ref p0), .val (.int p1)] [])) _
    refine XS.aloadN X0.here hx rfl (hb hby d5_0) rfl rfl ?_
    show Steps p.tables e below (s₁.setTop (mkF m 1 #[.val (.ref p0), .val (.int p1)] [(.ref p0)])) _
    refine XS.iconst X0.here hx rfl (hb hby d5_1) ?_
    show Steps p.tables e below (s₁.setTop (mkF m 2 #[.val (.ref p0), .val (.int p1)] [(.int (0 : Int32)), (.ref p0)])) _
    refine XS.aloadN X0.here hx rfl (hb hby d5_2) rfl rfl ?_
    show Steps p.tables e below (s₁.setTop (mkF m 3 #[.val (.ref p0), .val (.int p1)] [(.ref p0), (.int (0 : Int32)), (.ref p0)])) _
    refine X0.arraylength hx (by rw [e0]; exact Ara1.1) (State.isArrayOf_alike hZ.alike Ara1.2.1) (g := (mkF m 3 #[.val (.ref p0), .val (.int p1)] [(.ref p0), (.int (0 : Int32)), (.ref p0)])) rfl rfl (hb hby d5_3) _ ?_
    rw [len_of Sa1 Za1]
    show Steps p.tables e below (s₁.setTop (mkF m 4 #[.val (.ref p0), .val (.int p1)] [(.int (3 : Int32)), (.int (0 : Int32)), (.ref p0)])) _
    refine XS.iloadN X0.here hx rfl (hb hby d5_4) rfl ?_
    show Steps p.tables e below (s₁.setTop (mkF m 5 #[.val (.ref p0), .val (.int p1)] [(.int p1), (.int (3 : Int32)), (.int (0 : Int32)), (.ref p0)])) _
    refine st2 _ ?_
    exact Steps.refl _
  obtain ⟨fs, hr, hrun, hended, hW, hsame⟩ := X2.leave (v := some (.int (0 : Int32))) (fun h => by rw [Bd.returns] at h; cases h)
  refine ⟨_, _, s3.trans ?_, hrun, hended, _, _, rfl, ?_, ⟨_, rfl⟩, hW, hsame.mono (by decide) (by decide)⟩
  · show Steps p.tables e below (T2.setTop (mkF m 8 #[.val (.ref p0), .val (.int p1)] [(.int (0 : Int32))])) _
    exact retI X2 hx Bd.returns (hb hby d5_8) hr
  · show Qa3 Z p0 p1 k1 q1 q2 h0 n0 _ T2.heap _
    rw [e2]
    exact ⟨rfl, N2, rfl⟩
theorem pd_rms3_0 : parseMethodDescriptor "([II)I" = some ⟨[(.array .int), .int], some .int⟩ := by decide +kernel
theorem ef_rms3 (m : MethodId) (p0 : Addr) (p1 : Int32) : entryFrame m #[(.ref p0), (.int p1)] 3 = mkF m 0 #[.val (.ref p0), .val (.int p1), .unset] [] := by first | (simp [entryFrame, mkF, argsToLocals, Value.category]; done) | rfl
def Qs3 (Z : State) (p0 : Addr) (p1 : Int32) (b1 : Addr) (b2 : Addr) (k1 : ClassId) (k2 : ClassId) (q1 : Int32) (q2 : Int32) (t0 : Int32) (t1 : Int32) (t2 : Int32) (h0 : Heap) (n0 : Nat) (v : Option Value) (h : Heap) (L : List Loc) : Prop := v = some (.int t0) ∧ Fr n0 L ∧ h = h0
set_option maxRecDepth 65536 in
set_option maxHeartbeats 40000000 in
theorem rms3 (l : Launch) (Z : State) (a0 : Array Value) (hw : ∀ d ∈ tables_1, d.before a0 Z = true) (ws : List Jvm.Cond) (p0 : Addr) (p1 : Int32) (b1 : Addr) (b2 : Addr) (k1 : ClassId) (k2 : ClassId) (q1 : Int32) (q2 : Int32) (t0 : Int32) (t1 : Int32) (t2 : Int32) (h0 : Heap) (n0 : Nat) (O0 : Old Z n0 h0) (F0_ : Fld Z h0 p0 "com/example/odds_on_axioms/oddsonaxioms/network/Condition" "positions" "[I" (.ref b1)) (F1_ : Fld Z h0 p0 "com/example/odds_on_axioms/oddsonaxioms/network/Condition" "states" "[I" (.ref b2)) (F2_ : Arv Z h0 b1 k1 .int (3 : Int32) [(.int p1), (.int q1), (.int q2)] (.int (0 : Int32))) (F3_ : Arv Z h0 b2 k2 .int (3 : Int32) [(.int t0), (.int t1), (.int t2)] (.int (0 : Int32))) (h01 : p1 < q1) :
    MetFree l (⟨"com/example/odds_on_axioms/oddsonaxioms/network/Condition", "state", "(I)I"⟩ : MethodName) (head1 (Jvm.Cond.code (⟨"com/example/odds_on_axioms/oddsonaxioms/network/Condition", "state", "(I)I"⟩ : MethodName) prog_38_method_7_code 3 (some .int) :: ws) ({ frames := 2, cells := 0, slots := 0, locals := 32 } : Room)) (fun a U => a = #[(.ref p0), (.int p1)] ∧ Z.Warmed39 U.vm ∧ U.heap = h0) (fun _ _ _ _ _ => True) (fun _ U o U' => ∃ v L, o = .returned v ∧ Qs3 Z p0 p1 b1 b2 k1 k2 q1 q2 t0 t1 t2 h0 n0 v U'.heap L ∧ FrameEnd U o U' L ({ frames := 2, cells := 0, slots := 0, locals := 32 } : Room).cells ({ frames := 2, cells := 0, slots := 0, locals := 32 } : Room).slots) := by
  refine MetFree.of_bodySF (plainFor_of_name pn_1) hisR ?_
  intro p e s m args below meth c s₁ Bd hml0 hP hK
  obtain ⟨rfl, hZ, hh⟩ := hP
  have hx := Bd.exec
  have hby := Bd.bytes
  have hml : c.maxLocals = 3 := hml0
  have hown : s.vm.findClass "com/example/odds_on_axioms/oddsonaxioms/network/Condition" = some m.cls := findClass_of_methodNamed Bd.named
  have hnm := (name_of_methodNamed Bd.named Bd.method).1
  have X0 : Stand p l e ({ frames := 2, cells := 0, slots := 0, locals := 32 } : Room) s m #[(.ref p0), (.int p1)] below meth c s₁ [] 0 0 := Stand.of_body Bd
  have e0 : s₁.heap = h0 := by rw [← hh, Bd.state]; rfl
  have N0 := Fr.nil n0
  have s0 : Steps p.tables e below (s₁.setTop (entryFrame m #[(.ref p0), (.int p1)] 3)) (s₁.setTop (mkF m 0 #[.val (.ref p0), .val (.int p1), .unset] [])) := castTop (ef_rms3 m p0 p1) (Steps.refl _)
  obtain ⟨T1, X1, e1, st1⟩ := getF X0 hx hZ hown (host := "") (Or.inl (hw _ (List.mem_of_getElem? (i := 11) rfl))) Via.refl e0 F0_ (g := (mkF m 1 #[.val (.ref p0), .val (.int p1), .unset] [(.ref p0)])) rfl rfl (hb hby d4_1)
  obtain ⟨_, _, ⟨T2, L2, k2, n2⟩, -, X2, ⟨Lc2, hQ2, l2, y2, z2⟩, st2⟩ := Jvm.LawKit.callS X1 hx (y := (⟨"java/util/Arrays", "binarySearch", "([II)I"⟩ : MethodName)) hown (mvT hZ (hw _ (List.mem_of_getElem? (i := 25) rfl))) (mvT hZ (hw _ (List.mem_of_getElem? (i := 26) rfl))) (mvT hZ (hw _ (List.mem_of_getElem? (i := 27) rfl))) (mvT hZ (hw _ (List.mem_of_getElem? (i := 28) rfl))) (by decide) (backOf (W := 0) (rma3 l Z a0 hw [] b1 p1 k1 q1 q2 h0 n0 O0 F2_ h01) hZ (hw _ (List.mem_of_getElem? (i := 28) rfl)) (hw _ (List.mem_of_getElem? (i := 27) rfl)) (by decide) (by decide)) (g := (mkF m 5 #[.val (.ref p0), .val (.int p1), .unset] [(.int p1), (.ref b1)])) rfl (by rw [hml]; rfl) (argsL := [(.ref b1), (.int p1)]) (rest := []) (lenOf pd_rms3_0 rfl) rfl (by show 2 * 0 + _ ≤ _; exact Nat.le_of_eq rfl) (hb hby d4_5) (fun _ _ => ⟨rfl, e1, (by decide : 0 + 0 ≤ _), (by decide : 0 + 0 ≤ _)⟩)
  dsimp only [Pt.U, Pt.locs, Pt.cells, Pt.slots] at X2 l2 y2 z2 st2 hQ2
  subst l2 y2 z2
  obtain ⟨rfl, Nq2, e2⟩ := hQ2
  have N2 := Fr.app N0 Nq2
  obtain ⟨T3, X3, e3, st3⟩ := getF X2 hx hZ hown (host := "") (Or.inl (hw _ (List.mem_of_getElem? (i := 13) rfl))) Via.refl e2 F1_ (g := (mkF m 18 #[.val (.ref p0), .val (.int p1), .val (.int (0 : Int32))] [(.ref p0)])) rfl rfl (hb hby d4_18)
  obtain ⟨cla4, Ara4, qa4, Sa4, Za4, Ha4, Ga4⟩ := id F3_
  have hin5 : ¬ ((0 : Int32) < 0 ∨ cla4.slots.size ≤ ((0 : Int32)).toNatClampNeg) := inb_of Sa4 ⟨by decide, by decide⟩
  have hat6 : cla4.slots[((0 : Int32)).toNatClampNeg]? = some (.int t0) := Has.at Ha4 hin5 rfl
  have s7 : Steps p.tables e below (s₁.setTop (entryFrame m #[(.ref p0), (.int p1)] 3)) (T3.setTop (mkF m 23 #[.val (.ref p0), .val (.int p1), .val (.int (0 : Int32))] [(.int t0)])) := by
    refine s0.trans ?_
    show Steps p.tables e below (s₁.setTop (mkF m 0 #[.val (.ref p0), .val (.int p1), .unset] [])) _
    refine XS.aloadN X0.here hx rfl (hb hby d4_0) rfl rfl ?_
    show Steps p.tables e below (s₁.setTop (mkF m 1 #[.val (.ref p0), .val (.int p1), .unset] [(.ref p0)])) _
    refine st1 _ ?_
    show Steps p.tables e below (T1.setTop (mkF m 4 #[.val (.ref p0), .val (.int p1), .unset] [(.ref b1)])) _
    refine XS.iloadN X1.here hx rfl (hb hby d4_4) rfl ?_
    show Steps p.tables e below (T1.setTop (mkF m 5 #[.val (.ref p0), .val (.int p1), .unset] [(.int p1), (.ref b1)])) _
    refine st2 _ ?_
    show Steps p.tables e below (T2.setTop (mkF m 8 #[.val (.ref p0), .val (.int p1), .unset] [(.int (0 : Int32))])) _
    refine XS.istoreN X2.here hx rfl (hb hby d4_8) rfl (l' := #[.val (.ref p0), .val (.int p1), .val (.int (0 : Int32))]) rfl ?_
    show Steps p.tables e below (T2.setTop (mkF m 9 #[.val (.ref p0), .val (.int p1), .val (.int (0 : Int32))] [])) _
    refine XS.iloadN X2.here hx rfl (hb hby d4_9) rfl ?_
    show Steps p.tables e below (T2.setTop (mkF m 10 #[.val (.ref p0), .val (.int p1), .val (.int (0 : Int32))] [(.int (0 : Int32))])) _
    refine XS.ifYes X2.here hx rfl (pc0 := 10) (pc' := 17) rfl (hb hby d4_10) rfl ((if0 _ _).trans (flt (by decide)).2.1) (by decide) (by decide) ?_
    show Steps p.tables e below (T2.setTop (mkF m 17 #[.val (.ref p0), .val (.int p1), .val (.int (0 : Int32))] [])) _
    refine XS.aloadN X2.here hx rfl (hb hby d4_17) rfl rfl ?_
    show Steps p.tables e below (T2.setTop (mkF m 18 #[.val (.ref p0), .val (.int p1), .val (.int (0 : Int32))] [(.ref p0)])) _
    refine st3 _ ?_
    show Steps p.tables e below (T3.setTop (mkF m 21 #[.val (.ref p0), .val (.int p1), .val (.int (0 : Int32))] [(.ref b2)])) _
    refine XS.iloadN X3.here hx rfl (hb hby d4_21) rfl ?_
    show Steps p.tables e below (T3.setTop (mkF m 22 #[.val (.ref p0), .val (.int p1), .val (.int (0 : Int32))] [(.int (0 : Int32)), (.ref b2)])) _
    refine X3.iaload hx (j := (0 : Int32)) (v := (.int t0)) (by rw [e3]; exact Ara4.1) (State.isArrayOf_alike hZ.alike Ara4.2.1) Ara4.2.2 hin5 hat6 (g := (mkF m 22 #[.val (.ref p0), .val (.int p1), .val (.int (0 : Int32))] [(.int (0 : Int32)), (.ref b2)])) rfl rfl (hb hby d4_22) _ ?_
    exact Steps.refl _
  obtain ⟨fs, hr, hrun, hended, hW, hsame⟩ := X3.leave (v := some (.int t0)) (fun h => by rw [Bd.returns] at h; cases h)
  refine ⟨_, _, s7.trans ?_, hrun, hended, _, _, rfl, ?_, ⟨_, rfl⟩, hW, hsame.mono (by decide) (by decide)⟩
  · show Steps p.tables e below (T3.setTop (mkF m 23 #[.val (.ref p0), .val (.int p1), .val (.int (0 : Int32))] [(.int t0)])) _
    exact retI X3 hx Bd.returns (hb hby d4_23) hr
  · show Qs3 Z p0 p1 b1 b2 k1 k2 q1 q2 t0 t1 t2 h0 n0 _ T3.heap _
    rw [e3]
    exact ⟨rfl, N2, rfl⟩
theorem d7_0 : decode prog_38_method_2_code 0 = .ok (.getstatic 16, 3) := by decide +kernel
theorem d7_3 : decode prog_38_method_2_code 3 = .ok (.areturn, 1) := by decide +kernel
theorem ef_rm7 (m : MethodId)  : entryFrame m #[] 0 = mkF m 0 #[] [] := by first | (simp [entryFrame, mkF, argsToLocals, Value.category]; done) | rfl
def Q7 (Z : State) (va : Addr) (h0 : Heap) (n0 : Nat) (v : Option Value) (h : Heap) (L : List Loc) : Prop := v = some (.ref va) ∧ Fr n0 L ∧ h = h0
set_option maxRecDepth 65536 in
set_option maxHeartbeats 40000000 in
theorem rm7 (l : Launch) (Z : State) (a0 : Array Value) (hw : ∀ d ∈ tables_1, d.before a0 Z = true) (ws : List Jvm.Cond) (va : Addr) (h0 : Heap) (n0 : Nat) (O0 : Old Z n0 h0) (F0_ : Sta Z Z.heap "com/example/odds_on_axioms/oddsonaxioms/network/Condition" "EMPTY" "Lcom/example/odds_on_axioms/oddsonaxioms/network/Condition;" (.ref va)) :
    MetFree l (⟨"com/example/odds_on_axioms/oddsonaxioms/network/Condition", "empty", "()Lcom/example/odds_on_axioms/oddsonaxioms/network/Condition;"⟩ : MethodName) (head1 (Jvm.Cond.code (⟨"com/example/odds_on_axioms/oddsonaxioms/network/Condition", "empty", "()Lcom/example/odds_on_axioms/oddsonaxioms/network/Condition;"⟩ : MethodName) prog_38_method_2_code 0 (some (.object "com/example/odds_on_axioms/oddsonaxioms/network/Condition")) :: ws) ({ frames := 0, cells := 0, slots := 0, locals := 0 } : Room)) (fun a U => a = #[] ∧ Z.Warmed39 U.vm ∧ U.heap = h0) (fun _ _ _ _ _ => True) (fun _ U o U' => ∃ v L, o = .returned v ∧ Q7 Z va h0 n0 v U'.heap L ∧ FrameEnd U o U' L ({ frames := 0, cells := 0, slots := 0, locals := 0 } : Room).cells ({ frames := 0, cells := 0, slots := 0, locals := 0 } : Room).slots) := by
  refine MetFree.of_bodySF (plainFor_of_name pn_1) hisR ?_
  intro p e s m args below meth c s₁ Bd hml0 hP hK
  obtain ⟨rfl, hZ, hh⟩ := hP
  have hx := Bd.exec
  have hby := Bd.bytes
  have hml : c.maxLocals = 0 := hml0
  have hown : s.vm.findClass "com/example/odds_on_axioms/oddsonaxioms/network/Condition" = some m.cls := findClass_of_methodNamed Bd.named
  have hnm := (name_of_methodNamed Bd.named Bd.method).1
  have X0 : Stand p l e ({ frames := 0, cells := 0, slots := 0, locals := 0 } : Room) s m #[] below meth c s₁ [] 0 0 := Stand.of_body Bd
  have e0 : s₁.heap = h0 := by rw [← hh, Bd.state]; rfl
  have N0 := Fr.nil n0
  have s0 : Steps p.tables e below (s₁.setTop (entryFrame m #[] 0)) (s₁.setTop (mkF m 0 #[] [])) := castTop (ef_rm7 m ) (Steps.refl _)
  obtain ⟨T1, X1, e1, st1⟩ := getS2 X0 hx hZ hown (host := "") (Or.inl (hw _ (List.mem_of_getElem? (i := 35) rfl))) Via.refl e0 (F0_.ext O0.2) (g := (mkF m 0 #[] [])) rfl (hb hby d7_0)
  have s2 : Steps p.tables e below (s₁.setTop (entryFrame m #[] 0)) (T1.setTop (mkF m 3 #[] [(.ref va)])) := by
    refine s0.trans ?_
    show Steps p.tables e below (s₁.setTop (mkF m 0 #[] [])) _
    refine st1 _ ?_
    exact Steps.refl _
  obtain ⟨fs, hr, hrun, hended, hW, hsame⟩ := X1.leave (v := some (.ref va)) (fun h => by rw [Bd.returns] at h; cases h)
  refine ⟨_, _, s2.trans ?_, hrun, hended, _, _, rfl, ?_, ⟨_, rfl⟩, hW, hsame.mono (by decide) (by decide)⟩
  · show Steps p.tables e below (T1.setTop (mkF m 3 #[] [(.ref va)])) _
    jvm_step X1.here [X1.here.top, hx, (hb hby d7_3), X1.method', Bd.returns, Value.isRef, FieldType.isReference]
    first | (intro acts; rw [hr _ acts rfl rfl rfl]) | rw [hr _ _ rfl rfl rfl]
    exact Steps.refl _
  · show Q7 Z va h0 n0 _ T1.heap _
    rw [e1]
    exact ⟨rfl, N0, rfl⟩
theorem own_rm0_1 (p1 : Int32) (p2 : Int32) (q0 : Int32) (q1 : Int32) (hq0 : q0 = (p1 &&& (255 : Int32))) (hq1 : q1 = ((q0 + (1 : Int32)) + (p2 &&& (255 : Int32)))) : q0 < q1 := by
  have a0 := c_mask p1 255 8 (by decide) (by decide)
  have a1 := c_mask p2 255 8 (by decide) (by decide)
  have b1 := c_iadd q0 1
  have b2 := c_iadd (q0 + 1) (p2 &&& 255)
  rw [← hq1] at b2
  rw [← hq0] at a0
  have r1 := rng32 (q0 + 1)
  have r2 := rng32 q1
  have k1 := own_k1
  rw [Int32.lt_iff_toInt_lt]
  omega
theorem pn_0 : plainName "com/example/odds_on_axioms/oddsonaxioms/network/ConditionIsEmptyPinLaw" = true := by first | (simp [plainName, overriddenIn]; done) | decide +kernel
theorem pd_rm0_0 : parseMethodDescriptor "([I[I)V" = some ⟨[(.array .int), (.array .int)], none⟩ := by decide +kernel
theorem pd_rm0_1 : parseMethodDescriptor "()Z" = some ⟨[], some .boolean⟩ := by decide +kernel
theorem pd_rm0_2 : parseMethodDescriptor "(I)I" = some ⟨[.int], some .int⟩ := by decide +kernel
theorem pd_rm0_3 : parseMethodDescriptor "()Lcom/example/odds_on_axioms/oddsonaxioms/network/Condition;" = some ⟨[], some (.object "com/example/odds_on_axioms/oddsonaxioms/network/Condition")⟩ := by decide +kernel
theorem ef_rm0 (m : MethodId) (p0 : Int32) (p1 : Int32) (p2 : Int32) (p3 : Int32) (p4 : Int32) (p5 : Int32) : entryFrame m #[(.int p0), (.int p1), (.int p2), (.int p3), (.int p4), (.int p5)] maxLocals = mkF m 0 #[.val (.int p0), .val (.int p1), .val (.int p2), .val (.int p3), .val (.int p4), .val (.int p5), .unset, .unset, .unset, .unset, .unset, .unset, .unset, .unset, .unset, .unset, .unset] [] := by first | (simp [entryFrame, mkF, argsToLocals, Value.category, maxLocals]; done) | rfl
def Q0 (Z : State) (p0 : Int32) (p1 : Int32) (p2 : Int32) (p3 : Int32) (p4 : Int32) (p5 : Int32) (v_EMPTY : Addr) (x_v_EMPTY_positions : Addr) (k_x_v_EMPTY_positions : ClassId) (h0 : Heap) (n0 : Nat) (v : Option Value) (h : Heap) (L : List Loc) : Prop := v = some (.int (1 : Int32)) ∧ Fr n0 L
set_option maxRecDepth 65536 in
set_option maxHeartbeats 40000000 in
theorem rm0 (l : Launch) (Z : State) (a0 : Array Value) (hw : ∀ d ∈ tables_1, d.before a0 Z = true) (ws : List Jvm.Cond) (p0 : Int32) (p1 : Int32) (p2 : Int32) (p3 : Int32) (p4 : Int32) (p5 : Int32) (v_EMPTY : Addr) (x_v_EMPTY_positions : Addr) (k_x_v_EMPTY_positions : ClassId) (h0 : Heap) (n0 : Nat) (O0 : Old Z n0 h0) (F0_ : Sta Z Z.heap "com/example/odds_on_axioms/oddsonaxioms/network/Condition" "EMPTY" "Lcom/example/odds_on_axioms/oddsonaxioms/network/Condition;" (.ref v_EMPTY)) (F1_ : Exa Z Z.heap v_EMPTY "com/example/odds_on_axioms/oddsonaxioms/network/Condition") (F2_ : Fld Z Z.heap v_EMPTY "com/example/odds_on_axioms/oddsonaxioms/network/Condition" "positions" "[I" (.ref x_v_EMPTY_positions)) (F3_ : Arv Z Z.heap x_v_EMPTY_positions k_x_v_EMPTY_positions .int (0 : Int32) [] (.int (0 : Int32))) :
    MetFree l x (head1 (Jvm.Cond.code x code maxLocals ret :: ws) room_1) (fun a U => a = #[(.int p0), (.int p1), (.int p2), (.int p3), (.int p4), (.int p5)] ∧ Z.Warmed39 U.vm ∧ U.heap = h0) (fun _ _ _ _ _ => True) (fun _ U o U' => ∃ v L, o = .returned v ∧ Q0 Z p0 p1 p2 p3 p4 p5 v_EMPTY x_v_EMPTY_positions k_x_v_EMPTY_positions h0 n0 v U'.heap L ∧ FrameEnd U o U' L room_1.cells room_1.slots) := by
  refine MetFree.of_bodySF (plainFor_of_name pn_0) hisR ?_
  intro p e s m args below meth c s₁ Bd hml0 hP hK
  obtain ⟨rfl, hZ, hh⟩ := hP
  have hx := Bd.exec
  have hby := Bd.bytes
  have hml : c.maxLocals = 17 := hml0
  have hown : s.vm.findClass "com/example/odds_on_axioms/oddsonaxioms/network/ConditionIsEmptyPinLaw" = some m.cls := findClass_of_methodNamed Bd.named
  have hnm := (name_of_methodNamed Bd.named Bd.method).1
  have X0 : Stand p l e room_1 s m #[(.int p0), (.int p1), (.int p2), (.int p3), (.int p4), (.int p5)] below meth c s₁ [] 0 0 := Stand.of_body Bd
  have e0 : s₁.heap = h0 := by rw [← hh, Bd.state]; rfl
  have N0 := Fr.nil n0
  have s0 : Steps p.tables e below (s₁.setTop (entryFrame m #[(.int p0), (.int p1), (.int p2), (.int p3), (.int p4), (.int p5)] maxLocals)) (s₁.setTop (mkF m 0 #[.val (.int p0), .val (.int p1), .val (.int p2), .val (.int p3), .val (.int p4), .val (.int p5), .unset, .unset, .unset, .unset, .unset, .unset, .unset, .unset, .unset, .unset, .unset] [])) := castTop (ef_rm0 m p0 p1 p2 p3 p4 p5) (Steps.refl _)
  have s1 : Steps p.tables e below (s₁.setTop (entryFrame m #[(.int p0), (.int p1), (.int p2), (.int p3), (.int p4), (.int p5)] maxLocals)) (s₁.setTop (mkF m 12 #[.val (.int p0), .val (.int p1), .val (.int p2), .val (.int p3), .val (.int p4), .val (.int p5), .val (.int (p0 &&& (3 : Int32))), .val (.int (p1 &&& (255 : Int32))), .unset, .unset, .unset, .unset, .unset, .unset, .unset, .unset, .unset] [])) := by
    refine s0.trans ?_
    show Steps p.tables e below (s₁.setTop (mkF m 0 #[.val (.int p0), .val (.int p1), .val (.int p2), .val (.int p3), .val (.int p4), .val (.int p5), .unset, .unset, .unset, .unset, .unset, .unset, .unset, .unset, .unset, .unset, .unset] [])) _
    refine XS.iloadN X0.here hx rfl (hb hby at_0) rfl ?_
    show Steps p.tables e below (s₁.setTop (mkF m 1 #[.val (.int p0), .val (.int p1), .val (.int p2), .val (.int p3), .val (.int p4), .val (.int p5), .unset, .unset, .unset, .unset, .unset, .unset, .unset, .unset, .unset, .unset, .unset] [(.int p0)])) _
    refine XS.iconst X0.here hx rfl (hb hby at_1) ?_
    show Steps p.tables e below (s₁.setTop (mkF m 2 #[.val (.int p0), .val (.int p1), .val (.int p2), .val (.int p3), .val (.int p4), .val (.int p5), .unset, .unset, .unset, .unset, .unset, .unset, .unset, .unset, .unset, .unset, .unset] [(.int (3 : Int32)), (.int p0)])) _
    refine XS.iand X0.here hx rfl (hb hby at_2) rfl ?_
    show Steps p.tables e below (s₁.setTop (mkF m 3 #[.val (.int p0), .val (.int p1), .val (.int p2), .val (.int p3), .val (.int p4), .val (.int p5), .unset, .unset, .unset, .unset, .unset, .unset, .unset, .unset, .unset, .unset, .unset] [(.int (p0 &&& (3 : Int32)))])) _
    refine XS.istore X0.here hx rfl (hb hby at_3) rfl (l' := #[.val (.int p0), .val (.int p1), .val (.int p2), .val (.int p3), .val (.int p4), .val (.int p5), .val (.int (p0 &&& (3 : Int32))), .unset, .unset, .unset, .unset, .unset, .unset, .unset, .unset, .unset, .unset]) rfl ?_
    show Steps p.tables e below (s₁.setTop (mkF m 5 #[.val (.int p0), .val (.int p1), .val (.int p2), .val (.int p3), .val (.int p4), .val (.int p5), .val (.int (p0 &&& (3 : Int32))), .unset, .unset, .unset, .unset, .unset, .unset, .unset, .unset, .unset, .unset] [])) _
    refine XS.iloadN X0.here hx rfl (hb hby at_5) rfl ?_
    show Steps p.tables e below (s₁.setTop (mkF m 6 #[.val (.int p0), .val (.int p1), .val (.int p2), .val (.int p3), .val (.int p4), .val (.int p5), .val (.int (p0 &&& (3 : Int32))), .unset, .unset, .unset, .unset, .unset, .unset, .unset, .unset, .unset, .unset] [(.int p1)])) _
    refine XS.sipush X0.here hx rfl (hb hby at_6) ?_
    show Steps p.tables e below (s₁.setTop (mkF m 9 #[.val (.int p0), .val (.int p1), .val (.int p2), .val (.int p3), .val (.int p4), .val (.int p5), .val (.int (p0 &&& (3 : Int32))), .unset, .unset, .unset, .unset, .unset, .unset, .unset, .unset, .unset, .unset] [(.int (255 : Int32)), (.int p1)])) _
    refine XS.iand X0.here hx rfl (hb hby at_9) rfl ?_
    show Steps p.tables e below (s₁.setTop (mkF m 10 #[.val (.int p0), .val (.int p1), .val (.int p2), .val (.int p3), .val (.int p4), .val (.int p5), .val (.int (p0 &&& (3 : Int32))), .unset, .unset, .unset, .unset, .unset, .unset, .unset, .unset, .unset, .unset] [(.int (p1 &&& (255 : Int32)))])) _
    refine XS.istore X0.here hx rfl (hb hby at_10) rfl (l' := #[.val (.int p0), .val (.int p1), .val (.int p2), .val (.int p3), .val (.int p4), .val (.int p5), .val (.int (p0 &&& (3 : Int32))), .val (.int (p1 &&& (255 : Int32))), .unset, .unset, .unset, .unset, .unset, .unset, .unset, .unset, .unset]) rfl ?_
    exact Steps.refl _
  obtain ⟨q0, hq0⟩ : ∃ z, z = (p1 &&& (255 : Int32)) := ⟨_, rfl⟩
  have s2 := s1
  rw [← hq0] at s2
  have s3 : Steps p.tables e below (s₁.setTop (entryFrame m #[(.int p0), (.int p1), (.int p2), (.int p3), (.int p4), (.int p5)] maxLocals)) (s₁.setTop (mkF m 24 #[.val (.int p0), .val (.int p1), .val (.int p2), .val (.int p3), .val (.int p4), .val (.int p5), .val (.int (p0 &&& (3 : Int32))), .val (.int q0), .val (.int ((q0 + (1 : Int32)) + (p2 &&& (255 : Int32)))), .unset, .unset, .unset, .unset, .unset, .unset, .unset, .unset] [])) := by
    refine s2.trans ?_
    show Steps p.tables e below (s₁.setTop (mkF m 12 #[.val (.int p0), .val (.int p1), .val (.int p2), .val (.int p3), .val (.int p4), .val (.int p5), .val (.int (p0 &&& (3 : Int32))), .val (.int q0), .unset, .unset, .unset, .unset, .unset, .unset, .unset, .unset, .unset] [])) _
    refine XS.iload X0.here hx rfl (hb hby at_12) rfl ?_
    show Steps p.tables e below (s₁.setTop (mkF m 14 #[.val (.int p0), .val (.int p1), .val (.int p2), .val (.int p3), .val (.int p4), .val (.int p5), .val (.int (p0 &&& (3 : Int32))), .val (.int q0), .unset, .unset, .unset, .unset, .unset, .unset, .unset, .unset, .unset] [(.int q0)])) _
    refine XS.iconst X0.here hx rfl (hb hby at_14) ?_
    show Steps p.tables e below (s₁.setTop (mkF m 15 #[.val (.int p0), .val (.int p1), .val (.int p2), .val (.int p3), .val (.int p4), .val (.int p5), .val (.int (p0 &&& (3 : Int32))), .val (.int q0), .unset, .unset, .unset, .unset, .unset, .unset, .unset, .unset, .unset] [(.int (1 : Int32)), (.int q0)])) _
    refine XS.iadd X0.here hx rfl (hb hby at_15) rfl ?_
    show Steps p.tables e below (s₁.setTop (mkF m 16 #[.val (.int p0), .val (.int p1), .val (.int p2), .val (.int p3), .val (.int p4), .val (.int p5), .val (.int (p0 &&& (3 : Int32))), .val (.int q0), .unset, .unset, .unset, .unset, .unset, .unset, .unset, .unset, .unset] [(.int (q0 + (1 : Int32)))])) _
    refine XS.iloadN X0.here hx rfl (hb hby at_16) rfl ?_
    show Steps p.tables e below (s₁.setTop (mkF m 17 #[.val (.int p0), .val (.int p1), .val (.int p2), .val (.int p3), .val (.int p4), .val (.int p5), .val (.int (p0 &&& (3 : Int32))), .val (.int q0), .unset, .unset, .unset, .unset, .unset, .unset, .unset, .unset, .unset] [(.int p2), (.int (q0 + (1 : Int32)))])) _
    refine XS.sipush X0.here hx rfl (hb hby at_17) ?_
    show Steps p.tables e below (s₁.setTop (mkF m 20 #[.val (.int p0), .val (.int p1), .val (.int p2), .val (.int p3), .val (.int p4), .val (.int p5), .val (.int (p0 &&& (3 : Int32))), .val (.int q0), .unset, .unset, .unset, .unset, .unset, .unset, .unset, .unset, .unset] [(.int (255 : Int32)), (.int p2), (.int (q0 + (1 : Int32)))])) _
    refine XS.iand X0.here hx rfl (hb hby at_20) rfl ?_
    show Steps p.tables e below (s₁.setTop (mkF m 21 #[.val (.int p0), .val (.int p1), .val (.int p2), .val (.int p3), .val (.int p4), .val (.int p5), .val (.int (p0 &&& (3 : Int32))), .val (.int q0), .unset, .unset, .unset, .unset, .unset, .unset, .unset, .unset, .unset] [(.int (p2 &&& (255 : Int32))), (.int (q0 + (1 : Int32)))])) _
    refine XS.iadd X0.here hx rfl (hb hby at_21) rfl ?_
    show Steps p.tables e below (s₁.setTop (mkF m 22 #[.val (.int p0), .val (.int p1), .val (.int p2), .val (.int p3), .val (.int p4), .val (.int p5), .val (.int (p0 &&& (3 : Int32))), .val (.int q0), .unset, .unset, .unset, .unset, .unset, .unset, .unset, .unset, .unset] [(.int ((q0 + (1 : Int32)) + (p2 &&& (255 : Int32))))])) _
    refine XS.istore X0.here hx rfl (hb hby at_22) rfl (l' := #[.val (.int p0), .val (.int p1), .val (.int p2), .val (.int p3), .val (.int p4), .val (.int p5), .val (.int (p0 &&& (3 : Int32))), .val (.int q0), .val (.int ((q0 + (1 : Int32)) + (p2 &&& (255 : Int32)))), .unset, .unset, .unset, .unset, .unset, .unset, .unset, .unset]) rfl ?_
    exact Steps.refl _
  obtain ⟨q1, hq1⟩ : ∃ z, z = ((q0 + (1 : Int32)) + (p2 &&& (255 : Int32))) := ⟨_, rfl⟩
  have s4 := s3
  rw [← hq1] at s4
  have s5 : Steps p.tables e below (s₁.setTop (entryFrame m #[(.int p0), (.int p1), (.int p2), (.int p3), (.int p4), (.int p5)] maxLocals)) (s₁.setTop (mkF m 36 #[.val (.int p0), .val (.int p1), .val (.int p2), .val (.int p3), .val (.int p4), .val (.int p5), .val (.int (p0 &&& (3 : Int32))), .val (.int q0), .val (.int q1), .val (.int ((q1 + (1 : Int32)) + (p3 &&& (255 : Int32)))), .unset, .unset, .unset, .unset, .unset, .unset, .unset] [])) := by
    refine s4.trans ?_
    show Steps p.tables e below (s₁.setTop (mkF m 24 #[.val (.int p0), .val (.int p1), .val (.int p2), .val (.int p3), .val (.int p4), .val (.int p5), .val (.int (p0 &&& (3 : Int32))), .val (.int q0), .val (.int q1), .unset, .unset, .unset, .unset, .unset, .unset, .unset, .unset] [])) _
    refine XS.iload X0.here hx rfl (hb hby at_24) rfl ?_
    show Steps p.tables e below (s₁.setTop (mkF m 26 #[.val (.int p0), .val (.int p1), .val (.int p2), .val (.int p3), .val (.int p4), .val (.int p5), .val (.int (p0 &&& (3 : Int32))), .val (.int q0), .val (.int q1), .unset, .unset, .unset, .unset, .unset, .unset, .unset, .unset] [(.int q1)])) _
    refine XS.iconst X0.here hx rfl (hb hby at_26) ?_
    show Steps p.tables e below (s₁.setTop (mkF m 27 #[.val (.int p0), .val (.int p1), .val (.int p2), .val (.int p3), .val (.int p4), .val (.int p5), .val (.int (p0 &&& (3 : Int32))), .val (.int q0), .val (.int q1), .unset, .unset, .unset, .unset, .unset, .unset, .unset, .unset] [(.int (1 : Int32)), (.int q1)])) _
    refine XS.iadd X0.here hx rfl (hb hby at_27) rfl ?_
    show Steps p.tables e below (s₁.setTop (mkF m 28 #[.val (.int p0), .val (.int p1), .val (.int p2), .val (.int p3), .val (.int p4), .val (.int p5), .val (.int (p0 &&& (3 : Int32))), .val (.int q0), .val (.int q1), .unset, .unset, .unset, .unset, .unset, .unset, .unset, .unset] [(.int (q1 + (1 : Int32)))])) _
    refine XS.iloadN X0.here hx rfl (hb hby at_28) rfl ?_
    show Steps p.tables e below (s₁.setTop (mkF m 29 #[.val (.int p0), .val (.int p1), .val (.int p2), .val (.int p3), .val (.int p4), .val (.int p5), .val (.int (p0 &&& (3 : Int32))), .val (.int q0), .val (.int q1), .unset, .unset, .unset, .unset, .unset, .unset, .unset, .unset] [(.int p3), (.int (q1 + (1 : Int32)))])) _
    refine XS.sipush X0.here hx rfl (hb hby at_29) ?_
    show Steps p.tables e below (s₁.setTop (mkF m 32 #[.val (.int p0), .val (.int p1), .val (.int p2), .val (.int p3), .val (.int p4), .val (.int p5), .val (.int (p0 &&& (3 : Int32))), .val (.int q0), .val (.int q1), .unset, .unset, .unset, .unset, .unset, .unset, .unset, .unset] [(.int (255 : Int32)), (.int p3), (.int (q1 + (1 : Int32)))])) _
    refine XS.iand X0.here hx rfl (hb hby at_32) rfl ?_
    show Steps p.tables e below (s₁.setTop (mkF m 33 #[.val (.int p0), .val (.int p1), .val (.int p2), .val (.int p3), .val (.int p4), .val (.int p5), .val (.int (p0 &&& (3 : Int32))), .val (.int q0), .val (.int q1), .unset, .unset, .unset, .unset, .unset, .unset, .unset, .unset] [(.int (p3 &&& (255 : Int32))), (.int (q1 + (1 : Int32)))])) _
    refine XS.iadd X0.here hx rfl (hb hby at_33) rfl ?_
    show Steps p.tables e below (s₁.setTop (mkF m 34 #[.val (.int p0), .val (.int p1), .val (.int p2), .val (.int p3), .val (.int p4), .val (.int p5), .val (.int (p0 &&& (3 : Int32))), .val (.int q0), .val (.int q1), .unset, .unset, .unset, .unset, .unset, .unset, .unset, .unset] [(.int ((q1 + (1 : Int32)) + (p3 &&& (255 : Int32))))])) _
    refine XS.istore X0.here hx rfl (hb hby at_34) rfl (l' := #[.val (.int p0), .val (.int p1), .val (.int p2), .val (.int p3), .val (.int p4), .val (.int p5), .val (.int (p0 &&& (3 : Int32))), .val (.int q0), .val (.int q1), .val (.int ((q1 + (1 : Int32)) + (p3 &&& (255 : Int32)))), .unset, .unset, .unset, .unset, .unset, .unset, .unset]) rfl ?_
    exact Steps.refl _
  obtain ⟨q2, hq2⟩ : ∃ z, z = ((q1 + (1 : Int32)) + (p3 &&& (255 : Int32))) := ⟨_, rfl⟩
  have s6 := s5
  rw [← hq2] at s6
  have s7 : Steps p.tables e below (s₁.setTop (entryFrame m #[(.int p0), (.int p1), (.int p2), (.int p3), (.int p4), (.int p5)] maxLocals)) (s₁.setTop (mkF m 43 #[.val (.int p0), .val (.int p1), .val (.int p2), .val (.int p3), .val (.int p4), .val (.int p5), .val (.int (p0 &&& (3 : Int32))), .val (.int q0), .val (.int q1), .val (.int q2), .val (.int (p4 &&& (2147483647 : Int32))), .unset, .unset, .unset, .unset, .unset, .unset] [])) := by
    refine s6.trans ?_
    show Steps p.tables e below (s₁.setTop (mkF m 36 #[.val (.int p0), .val (.int p1), .val (.int p2), .val (.int p3), .val (.int p4), .val (.int p5), .val (.int (p0 &&& (3 : Int32))), .val (.int q0), .val (.int q1), .val (.int q2), .unset, .unset, .unset, .unset, .unset, .unset, .unset] [])) _
    refine XS.iload X0.here hx rfl (hb hby at_36) rfl ?_
    show Steps p.tables e below (s₁.setTop (mkF m 38 #[.val (.int p0), .val (.int p1), .val (.int p2), .val (.int p3), .val (.int p4), .val (.int p5), .val (.int (p0 &&& (3 : Int32))), .val (.int q0), .val (.int q1), .val (.int q2), .unset, .unset, .unset, .unset, .unset, .unset, .unset] [(.int p4)])) _
    refine X0.ldcInt hx hown (mvT hZ (hw _ (List.mem_of_getElem? (i := 0) rfl))) (g := (mkF m 38 #[.val (.int p0), .val (.int p1), .val (.int p2), .val (.int p3), .val (.int p4), .val (.int p5), .val (.int (p0 &&& (3 : Int32))), .val (.int q0), .val (.int q1), .val (.int q2), .unset, .unset, .unset, .unset, .unset, .unset, .unset] [(.int p4)])) rfl (hb hby at_38) _ ?_
    show Steps p.tables e below (s₁.setTop (mkF m 40 #[.val (.int p0), .val (.int p1), .val (.int p2), .val (.int p3), .val (.int p4), .val (.int p5), .val (.int (p0 &&& (3 : Int32))), .val (.int q0), .val (.int q1), .val (.int q2), .unset, .unset, .unset, .unset, .unset, .unset, .unset] [(.int (2147483647 : Int32)), (.int p4)])) _
    refine XS.iand X0.here hx rfl (hb hby at_40) rfl ?_
    show Steps p.tables e below (s₁.setTop (mkF m 41 #[.val (.int p0), .val (.int p1), .val (.int p2), .val (.int p3), .val (.int p4), .val (.int p5), .val (.int (p0 &&& (3 : Int32))), .val (.int q0), .val (.int q1), .val (.int q2), .unset, .unset, .unset, .unset, .unset, .unset, .unset] [(.int (p4 &&& (2147483647 : Int32)))])) _
    refine XS.istore X0.here hx rfl (hb hby at_41) rfl (l' := #[.val (.int p0), .val (.int p1), .val (.int p2), .val (.int p3), .val (.int p4), .val (.int p5), .val (.int (p0 &&& (3 : Int32))), .val (.int q0), .val (.int q1), .val (.int q2), .val (.int (p4 &&& (2147483647 : Int32))), .unset, .unset, .unset, .unset, .unset, .unset]) rfl ?_
    exact Steps.refl _
  obtain ⟨t0, ht0⟩ : ∃ z, z = (p4 &&& (2147483647 : Int32)) := ⟨_, rfl⟩
  have s8 := s7
  rw [← ht0] at s8
  have s9 : Steps p.tables e below (s₁.setTop (entryFrame m #[(.int p0), (.int p1), (.int p2), (.int p3), (.int p4), (.int p5)] maxLocals)) (s₁.setTop (mkF m 53 #[.val (.int p0), .val (.int p1), .val (.int p2), .val (.int p3), .val (.int p4), .val (.int p5), .val (.int (p0 &&& (3 : Int32))), .val (.int q0), .val (.int q1), .val (.int q2), .val (.int t0), .val (.int (((p4.toUInt32 >>> ((8 : Int32) &&& 31).toUInt32).toInt32) &&& (7 : Int32))), .unset, .unset, .unset, .unset, .unset] [])) := by
    refine s8.trans ?_
    show Steps p.tables e below (s₁.setTop (mkF m 43 #[.val (.int p0), .val (.int p1), .val (.int p2), .val (.int p3), .val (.int p4), .val (.int p5), .val (.int (p0 &&& (3 : Int32))), .val (.int q0), .val (.int q1), .val (.int q2), .val (.int t0), .unset, .unset, .unset, .unset, .unset, .unset] [])) _
    refine XS.iload X0.here hx rfl (hb hby at_43) rfl ?_
    show Steps p.tables e below (s₁.setTop (mkF m 45 #[.val (.int p0), .val (.int p1), .val (.int p2), .val (.int p3), .val (.int p4), .val (.int p5), .val (.int (p0 &&& (3 : Int32))), .val (.int q0), .val (.int q1), .val (.int q2), .val (.int t0), .unset, .unset, .unset, .unset, .unset, .unset] [(.int p4)])) _
    refine XS.bipush X0.here hx rfl (hb hby at_45) ?_
    show Steps p.tables e below (s₁.setTop (mkF m 47 #[.val (.int p0), .val (.int p1), .val (.int p2), .val (.int p3), .val (.int p4), .val (.int p5), .val (.int (p0 &&& (3 : Int32))), .val (.int q0), .val (.int q1), .val (.int q2), .val (.int t0), .unset, .unset, .unset, .unset, .unset, .unset] [(.int (8 : Int32)), (.int p4)])) _
    refine XS.iushr X0.here hx rfl (hb hby at_47) rfl ?_
    show Steps p.tables e below (s₁.setTop (mkF m 48 #[.val (.int p0), .val (.int p1), .val (.int p2), .val (.int p3), .val (.int p4), .val (.int p5), .val (.int (p0 &&& (3 : Int32))), .val (.int q0), .val (.int q1), .val (.int q2), .val (.int t0), .unset, .unset, .unset, .unset, .unset, .unset] [(.int ((p4.toUInt32 >>> ((8 : Int32) &&& 31).toUInt32).toInt32))])) _
    refine XS.bipush X0.here hx rfl (hb hby at_48) ?_
    show Steps p.tables e below (s₁.setTop (mkF m 50 #[.val (.int p0), .val (.int p1), .val (.int p2), .val (.int p3), .val (.int p4), .val (.int p5), .val (.int (p0 &&& (3 : Int32))), .val (.int q0), .val (.int q1), .val (.int q2), .val (.int t0), .unset, .unset, .unset, .unset, .unset, .unset] [(.int (7 : Int32)), (.int ((p4.toUInt32 >>> ((8 : Int32) &&& 31).toUInt32).toInt32))])) _
    refine XS.iand X0.here hx rfl (hb hby at_50) rfl ?_
    show Steps p.tables e below (s₁.setTop (mkF m 51 #[.val (.int p0), .val (.int p1), .val (.int p2), .val (.int p3), .val (.int p4), .val (.int p5), .val (.int (p0 &&& (3 : Int32))), .val (.int q0), .val (.int q1), .val (.int q2), .val (.int t0), .unset, .unset, .unset, .unset, .unset, .unset] [(.int (((p4.toUInt32 >>> ((8 : Int32) &&& 31).toUInt32).toInt32) &&& (7 : Int32)))])) _
    refine XS.istore X0.here hx rfl (hb hby at_51) rfl (l' := #[.val (.int p0), .val (.int p1), .val (.int p2), .val (.int p3), .val (.int p4), .val (.int p5), .val (.int (p0 &&& (3 : Int32))), .val (.int q0), .val (.int q1), .val (.int q2), .val (.int t0), .val (.int (((p4.toUInt32 >>> ((8 : Int32) &&& 31).toUInt32).toInt32) &&& (7 : Int32))), .unset, .unset, .unset, .unset, .unset]) rfl ?_
    exact Steps.refl _
  obtain ⟨t1, ht1⟩ : ∃ z, z = (((p4.toUInt32 >>> ((8 : Int32) &&& 31).toUInt32).toInt32) &&& (7 : Int32)) := ⟨_, rfl⟩
  have s10 := s9
  rw [← ht1] at s10
  have s11 : Steps p.tables e below (s₁.setTop (entryFrame m #[(.int p0), (.int p1), (.int p2), (.int p3), (.int p4), (.int p5)] maxLocals)) (s₁.setTop (mkF m 63 #[.val (.int p0), .val (.int p1), .val (.int p2), .val (.int p3), .val (.int p4), .val (.int p5), .val (.int (p0 &&& (3 : Int32))), .val (.int q0), .val (.int q1), .val (.int q2), .val (.int t0), .val (.int t1), .val (.int (((p4.toUInt32 >>> ((16 : Int32) &&& 31).toUInt32).toInt32) &&& (7 : Int32))), .unset, .unset, .unset, .unset] [])) := by
    refine s10.trans ?_
    show Steps p.tables e below (s₁.setTop (mkF m 53 #[.val (.int p0), .val (.int p1), .val (.int p2), .val (.int p3), .val (.int p4), .val (.int p5), .val (.int (p0 &&& (3 : Int32))), .val (.int q0), .val (.int q1), .val (.int q2), .val (.int t0), .val (.int t1), .unset, .unset, .unset, .unset, .unset] [])) _
    refine XS.iload X0.here hx rfl (hb hby at_53) rfl ?_
    show Steps p.tables e below (s₁.setTop (mkF m 55 #[.val (.int p0), .val (.int p1), .val (.int p2), .val (.int p3), .val (.int p4), .val (.int p5), .val (.int (p0 &&& (3 : Int32))), .val (.int q0), .val (.int q1), .val (.int q2), .val (.int t0), .val (.int t1), .unset, .unset, .unset, .unset, .unset] [(.int p4)])) _
    refine XS.bipush X0.here hx rfl (hb hby at_55) ?_
    show Steps p.tables e below (s₁.setTop (mkF m 57 #[.val (.int p0), .val (.int p1), .val (.int p2), .val (.int p3), .val (.int p4), .val (.int p5), .val (.int (p0 &&& (3 : Int32))), .val (.int q0), .val (.int q1), .val (.int q2), .val (.int t0), .val (.int t1), .unset, .unset, .unset, .unset, .unset] [(.int (16 : Int32)), (.int p4)])) _
    refine XS.iushr X0.here hx rfl (hb hby at_57) rfl ?_
    show Steps p.tables e below (s₁.setTop (mkF m 58 #[.val (.int p0), .val (.int p1), .val (.int p2), .val (.int p3), .val (.int p4), .val (.int p5), .val (.int (p0 &&& (3 : Int32))), .val (.int q0), .val (.int q1), .val (.int q2), .val (.int t0), .val (.int t1), .unset, .unset, .unset, .unset, .unset] [(.int ((p4.toUInt32 >>> ((16 : Int32) &&& 31).toUInt32).toInt32))])) _
    refine XS.bipush X0.here hx rfl (hb hby at_58) ?_
    show Steps p.tables e below (s₁.setTop (mkF m 60 #[.val (.int p0), .val (.int p1), .val (.int p2), .val (.int p3), .val (.int p4), .val (.int p5), .val (.int (p0 &&& (3 : Int32))), .val (.int q0), .val (.int q1), .val (.int q2), .val (.int t0), .val (.int t1), .unset, .unset, .unset, .unset, .unset] [(.int (7 : Int32)), (.int ((p4.toUInt32 >>> ((16 : Int32) &&& 31).toUInt32).toInt32))])) _
    refine XS.iand X0.here hx rfl (hb hby at_60) rfl ?_
    show Steps p.tables e below (s₁.setTop (mkF m 61 #[.val (.int p0), .val (.int p1), .val (.int p2), .val (.int p3), .val (.int p4), .val (.int p5), .val (.int (p0 &&& (3 : Int32))), .val (.int q0), .val (.int q1), .val (.int q2), .val (.int t0), .val (.int t1), .unset, .unset, .unset, .unset, .unset] [(.int (((p4.toUInt32 >>> ((16 : Int32) &&& 31).toUInt32).toInt32) &&& (7 : Int32)))])) _
    refine XS.istore X0.here hx rfl (hb hby at_61) rfl (l' := #[.val (.int p0), .val (.int p1), .val (.int p2), .val (.int p3), .val (.int p4), .val (.int p5), .val (.int (p0 &&& (3 : Int32))), .val (.int q0), .val (.int q1), .val (.int q2), .val (.int t0), .val (.int t1), .val (.int (((p4.toUInt32 >>> ((16 : Int32) &&& 31).toUInt32).toInt32) &&& (7 : Int32))), .unset, .unset, .unset, .unset]) rfl ?_
    exact Steps.refl _
  obtain ⟨t2, ht2⟩ : ∃ z, z = (((p4.toUInt32 >>> ((16 : Int32) &&& 31).toUInt32).toInt32) &&& (7 : Int32)) := ⟨_, rfl⟩
  have s12 := s11
  rw [← ht2] at s12
  have s13 : Steps p.tables e below (s₁.setTop (entryFrame m #[(.int p0), (.int p1), (.int p2), (.int p3), (.int p4), (.int p5)] maxLocals)) (s₁.setTop (mkF m 65 #[.val (.int p0), .val (.int p1), .val (.int p2), .val (.int p3), .val (.int p4), .val (.int p5), .val (.int (p0 &&& (3 : Int32))), .val (.int q0), .val (.int q1), .val (.int q2), .val (.int t0), .val (.int t1), .val (.int t2), .unset, .unset, .unset, .unset] [(.int (p0 &&& (3 : Int32)))])) := by
    refine s12.trans ?_
    show Steps p.tables e below (s₁.setTop (mkF m 63 #[.val (.int p0), .val (.int p1), .val (.int p2), .val (.int p3), .val (.int p4), .val (.int p5), .val (.int (p0 &&& (3 : Int32))), .val (.int q0), .val (.int q1), .val (.int q2), .val (.int t0), .val (.int t1), .val (.int t2), .unset, .unset, .unset, .unset] [])) _
    refine XS.iload X0.here hx rfl (hb hby at_63) rfl ?_
    exact Steps.refl _
  rcases own_and3 p0 with hk14 | hk14 | hk14 | hk14
  · have s15 := s13
    rw [hk14] at s15
    obtain ⟨T16, h16, k16, X16, e16, E16, A16, st16⟩ := newP X0 hx hZ (hw _ (List.mem_of_getElem? (i := 1) rfl)) e0 (g := (mkF m 69 #[.val (.int p0), .val (.int p1), .val (.int p2), .val (.int p3), .val (.int p4), .val (.int p5), .val (.int (0 : Int32)), .val (.int q0), .val (.int q1), .val (.int q2), .val (.int t0), .val (.int t1), .val (.int t2), .unset, .unset, .unset, .unset] [(.int (0 : Int32))])) rfl (hb hby at_69) rfl (by decide) (cap := 0) (by decide) (by decide) (by decide) (by decide)
    obtain ⟨b16, g16⟩ : ∃ z, z = h0.size := ⟨_, rfl⟩
    rw [← g16] at A16 st16
    have g_b16 : n0 ≤ b16 := Nat.le_trans (Nat.le_of_eq O0.1.symm) (Nat.le_trans O0.2.1 (Nat.le_of_eq g16.symm))
    have O16 := O0.ext E16
    have V16 : Arv Z h16 b16 k16 .int (0 : Int32) [] (.int (0 : Int32)) := (Arv.new A16 (by decide)).pad (pad_rep [] (.int (0 : Int32)) 0)
    obtain ⟨T17, h17, k17, X17, e17, E17, A17, st17⟩ := newP X16 hx hZ (hw _ (List.mem_of_getElem? (i := 1) rfl)) e16 (g := (mkF m 74 #[.val (.int p0), .val (.int p1), .val (.int p2), .val (.int p3), .val (.int p4), .val (.int p5), .val (.int (0 : Int32)), .val (.int q0), .val (.int q1), .val (.int q2), .val (.int t0), .val (.int t1), .val (.int t2), .val (.ref b16), .unset, .unset, .unset] [(.int (0 : Int32))])) rfl (hb hby at_74) rfl (by decide) (cap := 0) (by decide) (by decide) (by decide) (by decide)
    obtain ⟨b17, g17⟩ : ∃ z, z = h16.size := ⟨_, rfl⟩
    rw [← g17] at A17 st17
    have ne_b16_b17 : b16 ≠ b17 := Nat.ne_of_lt (Nat.lt_of_lt_of_le V16.lt (Nat.le_of_eq g17.symm))
    have g_b17 : n0 ≤ b17 := Nat.le_trans (Nat.le_of_eq O16.1.symm) (Nat.le_trans O16.2.1 (Nat.le_of_eq g17.symm))
    have O17 := O16.ext E17
    have V17 : Arv Z h17 b17 k17 .int (0 : Int32) [] (.int (0 : Int32)) := (Arv.new A17 (by decide)).pad (pad_rep [] (.int (0 : Int32)) 0)
    obtain ⟨T18, h18, X18, e18, E18, A18, D18, -, st18⟩ := newO X17 hx hZ hown (hw _ (List.mem_of_getElem? (i := 2) rfl)) (hw _ (List.mem_of_getElem? (i := 3) rfl)) (hw _ (List.mem_of_getElem? (i := 4) rfl)) e17 (g := (mkF m 189 #[.val (.int p0), .val (.int p1), .val (.int p2), .val (.int p3), .val (.int p4), .val (.int p5), .val (.int (0 : Int32)), .val (.int q0), .val (.int q1), .val (.int q2), .val (.int t0), .val (.int t1), .val (.int t2), .val (.ref b16), .val (.ref b17), .unset, .unset] [])) rfl (hb hby at_189) (by decide) (by decide)
    obtain ⟨b18, g18⟩ : ∃ z, z = h17.size := ⟨_, rfl⟩
    rw [← g18] at A18 D18 st18
    have c19 : Arv Z h17 b16 k16 .int (0 : Int32) [] (.int (0 : Int32)) := (V16.ext E17)
    have ne_b16_b18 : b16 ≠ b18 := Nat.ne_of_lt (Nat.lt_of_lt_of_le c19.lt (Nat.le_of_eq g18.symm))
    have ne_b17_b18 : b17 ≠ b18 := Nat.ne_of_lt (Nat.lt_of_lt_of_le V17.lt (Nat.le_of_eq g18.symm))
    have g_b18 : n0 ≤ b18 := Nat.le_trans (Nat.le_of_eq O17.1.symm) (Nat.le_trans O17.2.1 (Nat.le_of_eq g18.symm))
    have O18 := O17.ext E18
    have F18_positions : Fld Z h18 b18 "com/example/odds_on_axioms/oddsonaxioms/network/Condition" "positions" "[I" .null := D18 (Or.inr (hw _ (List.mem_of_getElem? (i := 12) rfl))) (ty := (.array .int)) (by decide)
    have F18_states : Fld Z h18 b18 "com/example/odds_on_axioms/oddsonaxioms/network/Condition" "states" "[I" .null := D18 (Or.inr (hw _ (List.mem_of_getElem? (i := 14) rfl))) (ty := (.array .int)) (by decide)
    obtain ⟨_, _, ⟨T20, L20, k20, n20⟩, -, X20, ⟨Lc20, hQ20, l20, y20, z20⟩, st20⟩ := X18.specialBack hx (y := (⟨"com/example/odds_on_axioms/oddsonaxioms/network/Condition", "<init>", "([I[I)V"⟩ : MethodName)) rfl hown (mvT hZ (hw _ (List.mem_of_getElem? (i := 5) rfl))) (mvT hZ (hw _ (List.mem_of_getElem? (i := 6) rfl))) (mvT hZ (hw _ (List.mem_of_getElem? (i := 7) rfl))) (by decide) (backOf (W := 1) (rm1 l Z a0 hw [] b18 b16 b17 h18 n0 O18 A18 F18_positions F18_states g_b18) hZ (hw _ (List.mem_of_getElem? (i := 7) rfl)) (hw _ (List.mem_of_getElem? (i := 4) rfl)) (by decide) (by decide)) (g := (mkF m 197 #[.val (.int p0), .val (.int p1), .val (.int p2), .val (.int p3), .val (.int p4), .val (.int p5), .val (.int (0 : Int32)), .val (.int q0), .val (.int q1), .val (.int q2), .val (.int t0), .val (.int t1), .val (.int t2), .val (.ref b16), .val (.ref b17), .unset, .unset] [(.ref b17), (.ref b16), (.ref b18), (.ref b18)])) rfl (by rw [hml]; rfl) (Steps.refl _) (a := b18) (argsL := [(.ref b16), (.ref b17)]) (rest := [(.ref b18)]) (lenOf pd_rm0_0 rfl) rfl (by show 2 * 0 + _ ≤ _; exact Nat.le_of_eq rfl) (hb hby at_197) (fun _ _ => ⟨rfl, e18, (by decide : 3 + 0 ≤ _), (by decide : 2 + 0 ≤ _)⟩)
    dsimp only [Pt.U, Pt.locs, Pt.cells, Pt.slots] at X20 l20 y20 z20 st20 hQ20
    subst l20 y20 z20
    obtain ⟨rfl, Nq20, Kc20, f20_0, f20_1, f20_2⟩ := hQ20
    have N20 := Fr.app N0 Nq20
    have O20 := O18.keep Kc20 (allS g_b18 all0)
    have c21 : Arv Z T20.heap b16 k16 .int (0 : Int32) [] (.int (0 : Int32)) := ((c19.ext E18).keep Kc20 (ninS ne_b16_b18 nin0))
    obtain ⟨cq22, kq22, q22a, q22b, q22c⟩ := isOf hZ (rfl : T20.heap = T20.heap) f20_0
    obtain ⟨_, _, ⟨T22, L22, k22, n22⟩, -, X22, ⟨Lc22, hQ22, l22, y22, z22⟩, st22⟩ := X20.virtualBack hx (y := (⟨"com/example/odds_on_axioms/oddsonaxioms/network/Condition", "isEmpty", "()Z"⟩ : MethodName)) (z := (⟨"com/example/odds_on_axioms/oddsonaxioms/network/Condition", "isEmpty", "()Z"⟩ : MethodName)) hown (mvT hZ (hw _ (List.mem_of_getElem? (i := 15) rfl))) (mvT hZ (hw _ (List.mem_of_getElem? (i := 16) rfl))) (notFace_of_selects (args := #[]) (mvT hZ (hw _ (List.mem_of_getElem? (i := 18) rfl)))) (mvT hZ (hw _ (List.mem_of_getElem? (i := 18) rfl))) (mvT hZ (hw _ (List.mem_of_getElem? (i := 17) rfl))) (by decide) (backOf (W := 0) (rme0 l Z a0 hw [] b18 b16 k16 T20.heap n0 O20 f20_1 c21) hZ (hw _ (List.mem_of_getElem? (i := 19) rfl)) (hw _ (List.mem_of_getElem? (i := 4) rfl)) (by decide) (by decide)) q22a q22c (g := (mkF m 204 #[.val (.int p0), .val (.int p1), .val (.int p2), .val (.int p3), .val (.int p4), .val (.int p5), .val (.int (0 : Int32)), .val (.int q0), .val (.int q1), .val (.int q2), .val (.int t0), .val (.int t1), .val (.int t2), .val (.ref b16), .val (.ref b17), .val (.ref b18), .unset] [(.ref b18)])) rfl (by rw [hml]; rfl) (Steps.refl _) (argsL := []) (rest := []) (lenOf pd_rm0_1 rfl) rfl (by show 2 * 0 + _ ≤ _; exact Nat.le_of_eq rfl) (hb hby at_204) (fun _ _ => ⟨rfl, (rfl : T20.heap = T20.heap), (by decide : 3 + 0 ≤ _), (by decide : 2 + 0 ≤ _)⟩)
    dsimp only [Pt.U, Pt.locs, Pt.cells, Pt.slots] at X22 l22 y22 z22 st22 hQ22
    subst l22 y22 z22
    obtain ⟨rfl, Nq22, e22⟩ := hQ22
    have N22 := Fr.app N20 Nq22
    have c23 : Arv Z T20.heap b17 k17 .int (0 : Int32) [] (.int (0 : Int32)) := ((V17.ext E18).keep Kc20 (ninS ne_b17_b18 nin0))
    obtain ⟨cq24, kq24, q24a, q24b, q24c⟩ := isOf hZ e22 f20_0
    obtain ⟨_, _, ⟨T24, L24, k24, n24⟩, -, X24, ⟨Lc24, hQ24, l24, y24, z24⟩, st24⟩ := X22.virtualBack hx (y := (⟨"com/example/odds_on_axioms/oddsonaxioms/network/Condition", "state", "(I)I"⟩ : MethodName)) (z := (⟨"com/example/odds_on_axioms/oddsonaxioms/network/Condition", "state", "(I)I"⟩ : MethodName)) hown (mvT hZ (hw _ (List.mem_of_getElem? (i := 20) rfl))) (mvT hZ (hw _ (List.mem_of_getElem? (i := 21) rfl))) (notFace_of_selects (args := #[]) (mvT hZ (hw _ (List.mem_of_getElem? (i := 23) rfl)))) (mvT hZ (hw _ (List.mem_of_getElem? (i := 23) rfl))) (mvT hZ (hw _ (List.mem_of_getElem? (i := 22) rfl))) (by decide) (backOf (W := 0) (rms0 l Z a0 hw [] b18 p5 b16 b17 k16 k17 T20.heap n0 O20 f20_1 f20_2 c21 c23) hZ (hw _ (List.mem_of_getElem? (i := 24) rfl)) (hw _ (List.mem_of_getElem? (i := 4) rfl)) (by decide) (by decide)) q24a q24c (g := (mkF m 235 #[.val (.int p0), .val (.int p1), .val (.int p2), .val (.int p3), .val (.int p4), .val (.int p5), .val (.int (0 : Int32)), .val (.int q0), .val (.int q1), .val (.int q2), .val (.int t0), .val (.int t1), .val (.int t2), .val (.ref b16), .val (.ref b17), .val (.ref b18), .val (.int (1 : Int32))] [(.int p5), (.ref b18)])) rfl (by rw [hml]; rfl) (Steps.refl _) (argsL := [(.int p5)]) (rest := []) (lenOf pd_rm0_2 rfl) rfl (by show 2 * 0 + _ ≤ _; exact Nat.le_of_eq rfl) (hb hby at_235) (fun _ _ => ⟨rfl, e22, (by decide : 3 + 0 ≤ _), (by decide : 2 + 0 ≤ _)⟩)
    dsimp only [Pt.U, Pt.locs, Pt.cells, Pt.slots] at X24 l24 y24 z24 st24 hQ24
    subst l24 y24 z24
    obtain ⟨rfl, Nq24, e24⟩ := hQ24
    have N24 := Fr.app N22 Nq24
    obtain ⟨_, _, ⟨T25, L25, k25, n25⟩, -, X25, ⟨Lc25, hQ25, l25, y25, z25⟩, st25⟩ := Jvm.LawKit.callS X24 hx (y := (⟨"com/example/odds_on_axioms/oddsonaxioms/network/Condition", "empty", "()Lcom/example/odds_on_axioms/oddsonaxioms/network/Condition;"⟩ : MethodName)) hown (mvT hZ (hw _ (List.mem_of_getElem? (i := 32) rfl))) (mvT hZ (hw _ (List.mem_of_getElem? (i := 33) rfl))) (mvT hZ (hw _ (List.mem_of_getElem? (i := 4) rfl))) (mvT hZ (hw _ (List.mem_of_getElem? (i := 34) rfl))) (by decide) (backOf (W := 0) (rm7 l Z a0 hw [] v_EMPTY T20.heap n0 O20 F0_) hZ (hw _ (List.mem_of_getElem? (i := 34) rfl)) (hw _ (List.mem_of_getElem? (i := 4) rfl)) (by decide) (by decide)) (g := (mkF m 258 #[.val (.int p0), .val (.int p1), .val (.int p2), .val (.int p3), .val (.int p4), .val (.int p5), .val (.int (0 : Int32)), .val (.int q0), .val (.int q1), .val (.int q2), .val (.int t0), .val (.int t1), .val (.int t2), .val (.ref b16), .val (.ref b17), .val (.ref b18), .val (.int (1 : Int32))] [])) rfl (by rw [hml]; rfl) (argsL := []) (rest := []) (lenOf pd_rm0_3 rfl) rfl (by show 2 * 0 + _ ≤ _; exact Nat.le_of_eq rfl) (hb hby at_258) (fun _ _ => ⟨rfl, e24, (by decide : 3 + 0 ≤ _), (by decide : 2 + 0 ≤ _)⟩)
    dsimp only [Pt.U, Pt.locs, Pt.cells, Pt.slots] at X25 l25 y25 z25 st25 hQ25
    subst l25 y25 z25
    obtain ⟨rfl, Nq25, e25⟩ := hQ25
    have N25 := Fr.app N24 Nq25
    obtain ⟨cq26, kq26, q26a, q26b, q26c⟩ := isOf hZ e25 (F1_.ext O20.2)
    obtain ⟨_, _, ⟨T26, L26, k26, n26⟩, -, X26, ⟨Lc26, hQ26, l26, y26, z26⟩, st26⟩ := X25.virtualBack hx (y := (⟨"com/example/odds_on_axioms/oddsonaxioms/network/Condition", "isEmpty", "()Z"⟩ : MethodName)) (z := (⟨"com/example/odds_on_axioms/oddsonaxioms/network/Condition", "isEmpty", "()Z"⟩ : MethodName)) hown (mvT hZ (hw _ (List.mem_of_getElem? (i := 15) rfl))) (mvT hZ (hw _ (List.mem_of_getElem? (i := 16) rfl))) (notFace_of_selects (args := #[]) (mvT hZ (hw _ (List.mem_of_getElem? (i := 18) rfl)))) (mvT hZ (hw _ (List.mem_of_getElem? (i := 18) rfl))) (mvT hZ (hw _ (List.mem_of_getElem? (i := 17) rfl))) (by decide) (backOf (W := 0) (rme0 l Z a0 hw [] v_EMPTY x_v_EMPTY_positions k_x_v_EMPTY_positions T20.heap n0 O20 (F2_.ext O20.2) (F3_.ext O20.2)) hZ (hw _ (List.mem_of_getElem? (i := 19) rfl)) (hw _ (List.mem_of_getElem? (i := 4) rfl)) (by decide) (by decide)) q26a q26c (g := (mkF m 261 #[.val (.int p0), .val (.int p1), .val (.int p2), .val (.int p3), .val (.int p4), .val (.int p5), .val (.int (0 : Int32)), .val (.int q0), .val (.int q1), .val (.int q2), .val (.int t0), .val (.int t1), .val (.int t2), .val (.ref b16), .val (.ref b17), .val (.ref b18), .val (.int (1 : Int32))] [(.ref v_EMPTY)])) rfl (by rw [hml]; rfl) (Steps.refl _) (argsL := []) (rest := []) (lenOf pd_rm0_1 rfl) rfl (by show 2 * 0 + _ ≤ _; exact Nat.le_of_eq rfl) (hb hby at_261) (fun _ _ => ⟨rfl, e25, (by decide : 3 + 0 ≤ _), (by decide : 2 + 0 ≤ _)⟩)
    dsimp only [Pt.U, Pt.locs, Pt.cells, Pt.slots] at X26 l26 y26 z26 st26 hQ26
    subst l26 y26 z26
    obtain ⟨rfl, Nq26, e26⟩ := hQ26
    have N26 := Fr.app N25 Nq26
    have s27 : Steps p.tables e below (s₁.setTop (entryFrame m #[(.int p0), (.int p1), (.int p2), (.int p3), (.int p4), (.int p5)] maxLocals)) (T26.setTop (mkF m 264 #[.val (.int p0), .val (.int p1), .val (.int p2), .val (.int p3), .val (.int p4), .val (.int p5), .val (.int (0 : Int32)), .val (.int q0), .val (.int q1), .val (.int q2), .val (.int t0), .val (.int t1), .val (.int t2), .val (.ref b16), .val (.ref b17), .val (.ref b18), .val (.int (1 : Int32))] [(.int (1 : Int32))])) := by
      refine s15.trans ?_
      show Steps p.tables e below (s₁.setTop (mkF m 65 #[.val (.int p0), .val (.int p1), .val (.int p2), .val (.int p3), .val (.int p4), .val (.int p5), .val (.int (0 : Int32)), .val (.int q0), .val (.int q1), .val (.int q2), .val (.int t0), .val (.int t1), .val (.int t2), .unset, .unset, .unset, .unset] [(.int (0 : Int32))])) _
      refine XS.ifNo X0.here hx rfl (hb hby at_65) rfl ((if0 _ _).trans (teq (by decide)).2) ?_
      show Steps p.tables e below (s₁.setTop (mkF m 68 #[.val (.int p0), .val (.int p1), .val (.int p2), .val (.int p3), .val (.int p4), .val (.int p5), .val (.int (0 : Int32)), .val (.int q0), .val (.int q1), .val (.int q2), .val (.int t0), .val (.int t1), .val (.int t2), .unset, .unset, .unset, .unset] [])) _
      refine XS.iconst X0.here hx rfl (hb hby at_68) ?_
      show Steps p.tables e below (s₁.setTop (mkF m 69 #[.val (.int p0), .val (.int p1), .val (.int p2), .val (.int p3), .val (.int p4), .val (.int p5), .val (.int (0 : Int32)), .val (.int q0), .val (.int q1), .val (.int q2), .val (.int t0), .val (.int t1), .val (.int t2), .unset, .unset, .unset, .unset] [(.int (0 : Int32))])) _
      refine st16 _ ?_
      show Steps p.tables e below (T16.setTop (mkF m 71 #[.val (.int p0), .val (.int p1), .val (.int p2), .val (.int p3), .val (.int p4), .val (.int p5), .val (.int (0 : Int32)), .val (.int q0), .val (.int q1), .val (.int q2), .val (.int t0), .val (.int t1), .val (.int t2), .unset, .unset, .unset, .unset] [(.ref b16)])) _
      refine XS.astore X16.here hx rfl (hb hby at_71) rfl rfl (l' := #[.val (.int p0), .val (.int p1), .val (.int p2), .val (.int p3), .val (.int p4), .val (.int p5), .val (.int (0 : Int32)), .val (.int q0), .val (.int q1), .val (.int q2), .val (.int t0), .val (.int t1), .val (.int t2), .val (.ref b16), .unset, .unset, .unset]) rfl ?_
      show Steps p.tables e below (T16.setTop (mkF m 73 #[.val (.int p0), .val (.int p1), .val (.int p2), .val (.int p3), .val (.int p4), .val (.int p5), .val (.int (0 : Int32)), .val (.int q0), .val (.int q1), .val (.int q2), .val (.int t0), .val (.int t1), .val (.int t2), .val (.ref b16), .unset, .unset, .unset] [])) _
      refine XS.iconst X16.here hx rfl (hb hby at_73) ?_
      show Steps p.tables e below (T16.setTop (mkF m 74 #[.val (.int p0), .val (.int p1), .val (.int p2), .val (.int p3), .val (.int p4), .val (.int p5), .val (.int (0 : Int32)), .val (.int q0), .val (.int q1), .val (.int q2), .val (.int t0), .val (.int t1), .val (.int t2), .val (.ref b16), .unset, .unset, .unset] [(.int (0 : Int32))])) _
      refine st17 _ ?_
      show Steps p.tables e below (T17.setTop (mkF m 76 #[.val (.int p0), .val (.int p1), .val (.int p2), .val (.int p3), .val (.int p4), .val (.int p5), .val (.int (0 : Int32)), .val (.int q0), .val (.int q1), .val (.int q2), .val (.int t0), .val (.int t1), .val (.int t2), .val (.ref b16), .unset, .unset, .unset] [(.ref b17)])) _
      refine XS.astore X17.here hx rfl (hb hby at_76) rfl rfl (l' := #[.val (.int p0), .val (.int p1), .val (.int p2), .val (.int p3), .val (.int p4), .val (.int p5), .val (.int (0 : Int32)), .val (.int q0), .val (.int q1), .val (.int q2), .val (.int t0), .val (.int t1), .val (.int t2), .val (.ref b16), .val (.ref b17), .unset, .unset]) rfl ?_
      show Steps p.tables e below (T17.setTop (mkF m 78 #[.val (.int p0), .val (.int p1), .val (.int p2), .val (.int p3), .val (.int p4), .val (.int p5), .val (.int (0 : Int32)), .val (.int q0), .val (.int q1), .val (.int q2), .val (.int t0), .val (.int t1), .val (.int t2), .val (.ref b16), .val (.ref b17), .unset, .unset] [])) _
      refine XS.goto X17.here hx rfl (pc0 := 78) (pc' := 189) rfl (hb hby at_78) (by decide) (by decide) ?_
      show Steps p.tables e below (T17.setTop (mkF m 189 #[.val (.int p0), .val (.int p1), .val (.int p2), .val (.int p3), .val (.int p4), .val (.int p5), .val (.int (0 : Int32)), .val (.int q0), .val (.int q1), .val (.int q2), .val (.int t0), .val (.int t1), .val (.int t2), .val (.ref b16), .val (.ref b17), .unset, .unset] [])) _
      refine st18 _ ?_
      show Steps p.tables e below (T18.setTop (mkF m 192 #[.val (.int p0), .val (.int p1), .val (.int p2), .val (.int p3), .val (.int p4), .val (.int p5), .val (.int (0 : Int32)), .val (.int q0), .val (.int q1), .val (.int q2), .val (.int t0), .val (.int t1), .val (.int t2), .val (.ref b16), .val (.ref b17), .unset, .unset] [(.ref b18)])) _
      refine XS.dup X18.here hx rfl (hb hby at_192) rfl rfl ?_
      show Steps p.tables e below (T18.setTop (mkF m 193 #[.val (.int p0), .val (.int p1), .val (.int p2), .val (.int p3), .val (.int p4), .val (.int p5), .val (.int (0 : Int32)), .val (.int q0), .val (.int q1), .val (.int q2), .val (.int t0), .val (.int t1), .val (.int t2), .val (.ref b16), .val (.ref b17), .unset, .unset] [(.ref b18), (.ref b18)])) _
      refine XS.aload X18.here hx rfl (hb hby at_193) rfl rfl ?_
      show Steps p.tables e below (T18.setTop (mkF m 195 #[.val (.int p0), .val (.int p1), .val (.int p2), .val (.int p3), .val (.int p4), .val (.int p5), .val (.int (0 : Int32)), .val (.int q0), .val (.int q1), .val (.int q2), .val (.int t0), .val (.int t1), .val (.int t2), .val (.ref b16), .val (.ref b17), .unset, .unset] [(.ref b16), (.ref b18), (.ref b18)])) _
      refine XS.aload X18.here hx rfl (hb hby at_195) rfl rfl ?_
      show Steps p.tables e below (T18.setTop (mkF m 197 #[.val (.int p0), .val (.int p1), .val (.int p2), .val (.int p3), .val (.int p4), .val (.int p5), .val (.int (0 : Int32)), .val (.int q0), .val (.int q1), .val (.int q2), .val (.int t0), .val (.int t1), .val (.int t2), .val (.ref b16), .val (.ref b17), .unset, .unset] [(.ref b17), (.ref b16), (.ref b18), (.ref b18)])) _
      refine st20.trans ?_
      show Steps p.tables e below (T20.setTop (mkF m 200 #[.val (.int p0), .val (.int p1), .val (.int p2), .val (.int p3), .val (.int p4), .val (.int p5), .val (.int (0 : Int32)), .val (.int q0), .val (.int q1), .val (.int q2), .val (.int t0), .val (.int t1), .val (.int t2), .val (.ref b16), .val (.ref b17), .unset, .unset] [(.ref b18)])) _
      refine XS.astore X20.here hx rfl (hb hby at_200) rfl rfl (l' := #[.val (.int p0), .val (.int p1), .val (.int p2), .val (.int p3), .val (.int p4), .val (.int p5), .val (.int (0 : Int32)), .val (.int q0), .val (.int q1), .val (.int q2), .val (.int t0), .val (.int t1), .val (.int t2), .val (.ref b16), .val (.ref b17), .val (.ref b18), .unset]) rfl ?_
      show Steps p.tables e below (T20.setTop (mkF m 202 #[.val (.int p0), .val (.int p1), .val (.int p2), .val (.int p3), .val (.int p4), .val (.int p5), .val (.int (0 : Int32)), .val (.int q0), .val (.int q1), .val (.int q2), .val (.int t0), .val (.int t1), .val (.int t2), .val (.ref b16), .val (.ref b17), .val (.ref b18), .unset] [])) _
      refine XS.aload X20.here hx rfl (hb hby at_202) rfl rfl ?_
      show Steps p.tables e below (T20.setTop (mkF m 204 #[.val (.int p0), .val (.int p1), .val (.int p2), .val (.int p3), .val (.int p4), .val (.int p5), .val (.int (0 : Int32)), .val (.int q0), .val (.int q1), .val (.int q2), .val (.int t0), .val (.int t1), .val (.int t2), .val (.ref b16), .val (.ref b17), .val (.ref b18), .unset] [(.ref b18)])) _
      refine st22.trans ?_
      show Steps p.tables e below (T22.setTop (mkF m 207 #[.val (.int p0), .val (.int p1), .val (.int p2), .val (.int p3), .val (.int p4), .val (.int p5), .val (.int (0 : Int32)), .val (.int q0), .val (.int q1), .val (.int q2), .val (.int t0), .val (.int t1), .val (.int t2), .val (.ref b16), .val (.ref b17), .val (.ref b18), .unset] [(.int (1 : Int32))])) _
      refine XS.istore X22.here hx rfl (hb hby at_207) rfl (l' := #[.val (.int p0), .val (.int p1), .val (.int p2), .val (.int p3), .val (.int p4), .val (.int p5), .val (.int (0 : Int32)), .val (.int q0), .val (.int q1), .val (.int q2), .val (.int t0), .val (.int t1), .val (.int t2), .val (.ref b16), .val (.ref b17), .val (.ref b18), .val (.int (1 : Int32))]) rfl ?_
      show Steps p.tables e below (T22.setTop (mkF m 209 #[.val (.int p0), .val (.int p1), .val (.int p2), .val (.int p3), .val (.int p4), .val (.int p5), .val (.int (0 : Int32)), .val (.int q0), .val (.int q1), .val (.int q2), .val (.int t0), .val (.int t1), .val (.int t2), .val (.ref b16), .val (.ref b17), .val (.ref b18), .val (.int (1 : Int32))] [])) _
      refine XS.iload X22.here hx rfl (hb hby at_209) rfl ?_
      show Steps p.tables e below (T22.setTop (mkF m 211 #[.val (.int p0), .val (.int p1), .val (.int p2), .val (.int p3), .val (.int p4), .val (.int p5), .val (.int (0 : Int32)), .val (.int q0), .val (.int q1), .val (.int q2), .val (.int t0), .val (.int t1), .val (.int t2), .val (.ref b16), .val (.ref b17), .val (.ref b18), .val (.int (1 : Int32))] [(.int (1 : Int32))])) _
      refine XS.iload X22.here hx rfl (hb hby at_211) rfl ?_
      show Steps p.tables e below (T22.setTop (mkF m 213 #[.val (.int p0), .val (.int p1), .val (.int p2), .val (.int p3), .val (.int p4), .val (.int p5), .val (.int (0 : Int32)), .val (.int q0), .val (.int q1), .val (.int q2), .val (.int t0), .val (.int t1), .val (.int t2), .val (.ref b16), .val (.ref b17), .val (.ref b18), .val (.int (1 : Int32))] [(.int (0 : Int32)), (.int (1 : Int32))])) _
      refine XS.ifNo X22.here hx rfl (hb hby at_213) rfl ((if0 _ _).trans (teq (by decide)).2) ?_
      show Steps p.tables e below (T22.setTop (mkF m 216 #[.val (.int p0), .val (.int p1), .val (.int p2), .val (.int p3), .val (.int p4), .val (.int p5), .val (.int (0 : Int32)), .val (.int q0), .val (.int q1), .val (.int q2), .val (.int t0), .val (.int t1), .val (.int t2), .val (.ref b16), .val (.ref b17), .val (.ref b18), .val (.int (1 : Int32))] [(.int (1 : Int32))])) _
      refine XS.iconst X22.here hx rfl (hb hby at_216) ?_
      show Steps p.tables e below (T22.setTop (mkF m 217 #[.val (.int p0), .val (.int p1), .val (.int p2), .val (.int p3), .val (.int p4), .val (.int p5), .val (.int (0 : Int32)), .val (.int q0), .val (.int q1), .val (.int q2), .val (.int t0), .val (.int t1), .val (.int t2), .val (.ref b16), .val (.ref b17), .val (.ref b18), .val (.int (1 : Int32))] [(.int (1 : Int32)), (.int (1 : Int32))])) _
      refine XS.goto X22.here hx rfl (pc0 := 217) (pc' := 221) rfl (hb hby at_217) (by decide) (by decide) ?_
      show Steps p.tables e below (T22.setTop (mkF m 221 #[.val (.int p0), .val (.int p1), .val (.int p2), .val (.int p3), .val (.int p4), .val (.int p5), .val (.int (0 : Int32)), .val (.int q0), .val (.int q1), .val (.int q2), .val (.int t0), .val (.int t1), .val (.int t2), .val (.ref b16), .val (.ref b17), .val (.ref b18), .val (.int (1 : Int32))] [(.int (1 : Int32)), (.int (1 : Int32))])) _
      refine XS.icmpYes X22.here hx rfl (pc0 := 221) (pc' := 226) rfl (hb hby at_221) rfl (teq (by decide)).1 (by decide) (by decide) ?_
      show Steps p.tables e below (T22.setTop (mkF m 226 #[.val (.int p0), .val (.int p1), .val (.int p2), .val (.int p3), .val (.int p4), .val (.int p5), .val (.int (0 : Int32)), .val (.int q0), .val (.int q1), .val (.int q2), .val (.int t0), .val (.int t1), .val (.int t2), .val (.ref b16), .val (.ref b17), .val (.ref b18), .val (.int (1 : Int32))] [])) _
      refine XS.iload X22.here hx rfl (hb hby at_226) rfl ?_
      show Steps p.tables e below (T22.setTop (mkF m 228 #[.val (.int p0), .val (.int p1), .val (.int p2), .val (.int p3), .val (.int p4), .val (.int p5), .val (.int (0 : Int32)), .val (.int q0), .val (.int q1), .val (.int q2), .val (.int t0), .val (.int t1), .val (.int t2), .val (.ref b16), .val (.ref b17), .val (.ref b18), .val (.int (1 : Int32))] [(.int (1 : Int32))])) _
      refine XS.ifNo X22.here hx rfl (hb hby at_228) rfl ((if0 _ _).trans (feq (by decide)).1) ?_
      show Steps p.tables e below (T22.setTop (mkF m 231 #[.val (.int p0), .val (.int p1), .val (.int p2), .val (.int p3), .val (.int p4), .val (.int p5), .val (.int (0 : Int32)), .val (.int q0), .val (.int q1), .val (.int q2), .val (.int t0), .val (.int t1), .val (.int t2), .val (.ref b16), .val (.ref b17), .val (.ref b18), .val (.int (1 : Int32))] [])) _
      refine XS.aload X22.here hx rfl (hb hby at_231) rfl rfl ?_
      show Steps p.tables e below (T22.setTop (mkF m 233 #[.val (.int p0), .val (.int p1), .val (.int p2), .val (.int p3), .val (.int p4), .val (.int p5), .val (.int (0 : Int32)), .val (.int q0), .val (.int q1), .val (.int q2), .val (.int t0), .val (.int t1), .val (.int t2), .val (.ref b16), .val (.ref b17), .val (.ref b18), .val (.int (1 : Int32))] [(.ref b18)])) _
      refine XS.iload X22.here hx rfl (hb hby at_233) rfl ?_
      show Steps p.tables e below (T22.setTop (mkF m 235 #[.val (.int p0), .val (.int p1), .val (.int p2), .val (.int p3), .val (.int p4), .val (.int p5), .val (.int (0 : Int32)), .val (.int q0), .val (.int q1), .val (.int q2), .val (.int t0), .val (.int t1), .val (.int t2), .val (.ref b16), .val (.ref b17), .val (.ref b18), .val (.int (1 : Int32))] [(.int p5), (.ref b18)])) _
      refine st24.trans ?_
      show Steps p.tables e below (T24.setTop (mkF m 238 #[.val (.int p0), .val (.int p1), .val (.int p2), .val (.int p3), .val (.int p4), .val (.int p5), .val (.int (0 : Int32)), .val (.int q0), .val (.int q1), .val (.int q2), .val (.int t0), .val (.int t1), .val (.int t2), .val (.ref b16), .val (.ref b17), .val (.ref b18), .val (.int (1 : Int32))] [(.int (-1 : Int32))])) _
      refine XS.iconst X24.here hx rfl (hb hby at_238) ?_
      show Steps p.tables e below (T24.setTop (mkF m 239 #[.val (.int p0), .val (.int p1), .val (.int p2), .val (.int p3), .val (.int p4), .val (.int p5), .val (.int (0 : Int32)), .val (.int q0), .val (.int q1), .val (.int q2), .val (.int t0), .val (.int t1), .val (.int t2), .val (.ref b16), .val (.ref b17), .val (.ref b18), .val (.int (1 : Int32))] [(.int (-1 : Int32)), (.int (-1 : Int32))])) _
      refine XS.icmpYes X24.here hx rfl (pc0 := 239) (pc' := 258) rfl (hb hby at_239) rfl (teq (by decide)).1 (by decide) (by decide) ?_
      show Steps p.tables e below (T24.setTop (mkF m 258 #[.val (.int p0), .val (.int p1), .val (.int p2), .val (.int p3), .val (.int p4), .val (.int p5), .val (.int (0 : Int32)), .val (.int q0), .val (.int q1), .val (.int q2), .val (.int t0), .val (.int t1), .val (.int t2), .val (.ref b16), .val (.ref b17), .val (.ref b18), .val (.int (1 : Int32))] [])) _
      refine st25 _ ?_
      show Steps p.tables e below (T25.setTop (mkF m 261 #[.val (.int p0), .val (.int p1), .val (.int p2), .val (.int p3), .val (.int p4), .val (.int p5), .val (.int (0 : Int32)), .val (.int q0), .val (.int q1), .val (.int q2), .val (.int t0), .val (.int t1), .val (.int t2), .val (.ref b16), .val (.ref b17), .val (.ref b18), .val (.int (1 : Int32))] [(.ref v_EMPTY)])) _
      refine st26.trans ?_
      exact Steps.refl _
    obtain ⟨fs, hr, hrun, hended, hW, hsame⟩ := X26.leave (v := some (.int (1 : Int32))) (fun h => by rw [Bd.returns] at h; cases h)
    refine ⟨_, _, s27.trans ?_, hrun, hended, _, _, rfl, ?_, ⟨_, rfl⟩, hW, hsame.mono (by decide) (by decide)⟩
    · show Steps p.tables e below (T26.setTop (mkF m 264 #[.val (.int p0), .val (.int p1), .val (.int p2), .val (.int p3), .val (.int p4), .val (.int p5), .val (.int (0 : Int32)), .val (.int q0), .val (.int q1), .val (.int q2), .val (.int t0), .val (.int t1), .val (.int t2), .val (.ref b16), .val (.ref b17), .val (.ref b18), .val (.int (1 : Int32))] [(.int (1 : Int32))])) _
      exact retN X26 hx (t := .boolean) Bd.returns (by simp) (hb hby at_264) hr
    · show Q0 Z p0 p1 p2 p3 p4 p5 v_EMPTY x_v_EMPTY_positions k_x_v_EMPTY_positions h0 n0 _ T26.heap _
      rw [e26]
      exact ⟨rfl, N26⟩
  · have s28 := s13
    rw [hk14] at s28
    obtain ⟨T29, h29, k29, X29, e29, E29, A29, st29⟩ := newP X0 hx hZ (hw _ (List.mem_of_getElem? (i := 1) rfl)) e0 (g := (mkF m 88 #[.val (.int p0), .val (.int p1), .val (.int p2), .val (.int p3), .val (.int p4), .val (.int p5), .val (.int (1 : Int32)), .val (.int q0), .val (.int q1), .val (.int q2), .val (.int t0), .val (.int t1), .val (.int t2), .unset, .unset, .unset, .unset] [(.int (1 : Int32))])) rfl (hb hby at_88) rfl (by decide) (cap := 1) (by decide) (by decide) (by decide) (by decide)
    obtain ⟨b29, g29⟩ : ∃ z, z = h0.size := ⟨_, rfl⟩
    rw [← g29] at A29 st29
    have g_b29 : n0 ≤ b29 := Nat.le_trans (Nat.le_of_eq O0.1.symm) (Nat.le_trans O0.2.1 (Nat.le_of_eq g29.symm))
    have O29 := O0.ext E29
    have V29 : Arv Z h29 b29 k29 .int (1 : Int32) [(.int (0 : Int32))] (.int (0 : Int32)) := (Arv.new A29 (by decide)).pad (pad_rep [] (.int (0 : Int32)) 1)
    obtain ⟨cla30, Ara30, qa30, Sa30, Za30, Ha30, Ga30⟩ := id V29
    have hin31 : ¬ ((0 : Int32) < 0 ∨ cla30.slots.size ≤ ((0 : Int32)).toNatClampNeg) := inb_of Sa30 ⟨by decide, by decide⟩
    obtain ⟨T32, h32, X32, e32, W32, st32⟩ := stI X29 hx hZ e29 Ara30 (j := (0 : Int32)) hin31 (g := (mkF m 94 #[.val (.int p0), .val (.int p1), .val (.int p2), .val (.int p3), .val (.int p4), .val (.int p5), .val (.int (1 : Int32)), .val (.int q0), .val (.int q1), .val (.int q2), .val (.int t0), .val (.int t1), .val (.int t2), .unset, .unset, .unset, .unset] [(.int q0), (.int (0 : Int32)), (.ref b29), (.ref b29)])) rfl rfl (hb hby at_94)
    have O32 := O29.wr W32 g_b29
    have N32 := Fr.snoc X32 N0 g_b29
    have V32 : Arv Z h32 b29 k29 .int (1 : Int32) [(.int q0)] (.int (0 : Int32)) := Arv.set Ara30 qa30 Sa30 Za30 Ha30 Ga30 rfl W32 0 rfl (Nat.le_of_ble_eq_true rfl)
    obtain ⟨T33, h33, k33, X33, e33, E33, A33, st33⟩ := newP X32 hx hZ (hw _ (List.mem_of_getElem? (i := 1) rfl)) e32 (g := (mkF m 98 #[.val (.int p0), .val (.int p1), .val (.int p2), .val (.int p3), .val (.int p4), .val (.int p5), .val (.int (1 : Int32)), .val (.int q0), .val (.int q1), .val (.int q2), .val (.int t0), .val (.int t1), .val (.int t2), .val (.ref b29), .unset, .unset, .unset] [(.int (1 : Int32))])) rfl (hb hby at_98) rfl (by decide) (cap := 1) (by decide) (by decide) (by decide) (by decide)
    obtain ⟨b33, g33⟩ : ∃ z, z = h32.size := ⟨_, rfl⟩
    rw [← g33] at A33 st33
    have ne_b29_b33 : b29 ≠ b33 := Nat.ne_of_lt (Nat.lt_of_lt_of_le V32.lt (Nat.le_of_eq g33.symm))
    have g_b33 : n0 ≤ b33 := Nat.le_trans (Nat.le_of_eq O32.1.symm) (Nat.le_trans O32.2.1 (Nat.le_of_eq g33.symm))
    have O33 := O32.ext E33
    have V33 : Arv Z h33 b33 k33 .int (1 : Int32) [(.int (0 : Int32))] (.int (0 : Int32)) := (Arv.new A33 (by decide)).pad (pad_rep [] (.int (0 : Int32)) 1)
    obtain ⟨cla34, Ara34, qa34, Sa34, Za34, Ha34, Ga34⟩ := id V33
    have hin35 : ¬ ((0 : Int32) < 0 ∨ cla34.slots.size ≤ ((0 : Int32)).toNatClampNeg) := inb_of Sa34 ⟨by decide, by decide⟩
    obtain ⟨T36, h36, X36, e36, W36, st36⟩ := stI X33 hx hZ e33 Ara34 (j := (0 : Int32)) hin35 (g := (mkF m 104 #[.val (.int p0), .val (.int p1), .val (.int p2), .val (.int p3), .val (.int p4), .val (.int p5), .val (.int (1 : Int32)), .val (.int q0), .val (.int q1), .val (.int q2), .val (.int t0), .val (.int t1), .val (.int t2), .val (.ref b29), .unset, .unset, .unset] [(.int t0), (.int (0 : Int32)), (.ref b33), (.ref b33)])) rfl rfl (hb hby at_104)
    have O36 := O33.wr W36 g_b33
    have N36 := Fr.snoc X36 N32 g_b33
    have V36 : Arv Z h36 b33 k33 .int (1 : Int32) [(.int t0)] (.int (0 : Int32)) := Arv.set Ara34 qa34 Sa34 Za34 Ha34 Ga34 rfl W36 0 rfl (Nat.le_of_ble_eq_true rfl)
    obtain ⟨T37, h37, X37, e37, E37, A37, D37, -, st37⟩ := newO X36 hx hZ hown (hw _ (List.mem_of_getElem? (i := 2) rfl)) (hw _ (List.mem_of_getElem? (i := 3) rfl)) (hw _ (List.mem_of_getElem? (i := 4) rfl)) e36 (g := (mkF m 189 #[.val (.int p0), .val (.int p1), .val (.int p2), .val (.int p3), .val (.int p4), .val (.int p5), .val (.int (1 : Int32)), .val (.int q0), .val (.int q1), .val (.int q2), .val (.int t0), .val (.int t1), .val (.int t2), .val (.ref b29), .val (.ref b33), .unset, .unset] [])) rfl (hb hby at_189) (by decide) (by decide)
    obtain ⟨b37, g37⟩ : ∃ z, z = h36.size := ⟨_, rfl⟩
    rw [← g37] at A37 D37 st37
    have c38 : Arv Z h36 b29 k29 .int (1 : Int32) [(.int q0)] (.int (0 : Int32)) := ((V32.ext E33).other W36 ne_b29_b33)
    have ne_b29_b37 : b29 ≠ b37 := Nat.ne_of_lt (Nat.lt_of_lt_of_le c38.lt (Nat.le_of_eq g37.symm))
    have ne_b33_b37 : b33 ≠ b37 := Nat.ne_of_lt (Nat.lt_of_lt_of_le V36.lt (Nat.le_of_eq g37.symm))
    have g_b37 : n0 ≤ b37 := Nat.le_trans (Nat.le_of_eq O36.1.symm) (Nat.le_trans O36.2.1 (Nat.le_of_eq g37.symm))
    have O37 := O36.ext E37
    have F37_positions : Fld Z h37 b37 "com/example/odds_on_axioms/oddsonaxioms/network/Condition" "positions" "[I" .null := D37 (Or.inr (hw _ (List.mem_of_getElem? (i := 12) rfl))) (ty := (.array .int)) (by decide)
    have F37_states : Fld Z h37 b37 "com/example/odds_on_axioms/oddsonaxioms/network/Condition" "states" "[I" .null := D37 (Or.inr (hw _ (List.mem_of_getElem? (i := 14) rfl))) (ty := (.array .int)) (by decide)
    obtain ⟨_, _, ⟨T39, L39, k39, n39⟩, -, X39, ⟨Lc39, hQ39, l39, y39, z39⟩, st39⟩ := X37.specialBack hx (y := (⟨"com/example/odds_on_axioms/oddsonaxioms/network/Condition", "<init>", "([I[I)V"⟩ : MethodName)) rfl hown (mvT hZ (hw _ (List.mem_of_getElem? (i := 5) rfl))) (mvT hZ (hw _ (List.mem_of_getElem? (i := 6) rfl))) (mvT hZ (hw _ (List.mem_of_getElem? (i := 7) rfl))) (by decide) (backOf (W := 1) (rm1 l Z a0 hw [] b37 b29 b33 h37 n0 O37 A37 F37_positions F37_states g_b37) hZ (hw _ (List.mem_of_getElem? (i := 7) rfl)) (hw _ (List.mem_of_getElem? (i := 4) rfl)) (by decide) (by decide)) (g := (mkF m 197 #[.val (.int p0), .val (.int p1), .val (.int p2), .val (.int p3), .val (.int p4), .val (.int p5), .val (.int (1 : Int32)), .val (.int q0), .val (.int q1), .val (.int q2), .val (.int t0), .val (.int t1), .val (.int t2), .val (.ref b29), .val (.ref b33), .unset, .unset] [(.ref b33), (.ref b29), (.ref b37), (.ref b37)])) rfl (by rw [hml]; rfl) (Steps.refl _) (a := b37) (argsL := [(.ref b29), (.ref b33)]) (rest := [(.ref b37)]) (lenOf pd_rm0_0 rfl) rfl (by show 2 * 0 + _ ≤ _; exact Nat.le_of_eq rfl) (hb hby at_197) (fun _ _ => ⟨rfl, e37, (by decide : 3 + 0 ≤ _), (by decide : 4 + 0 ≤ _)⟩)
    dsimp only [Pt.U, Pt.locs, Pt.cells, Pt.slots] at X39 l39 y39 z39 st39 hQ39
    subst l39 y39 z39
    obtain ⟨rfl, Nq39, Kc39, f39_0, f39_1, f39_2⟩ := hQ39
    have N39 := Fr.app N36 Nq39
    have O39 := O37.keep Kc39 (allS g_b37 all0)
    have c40 : Arv Z T39.heap b29 k29 .int (1 : Int32) [(.int q0)] (.int (0 : Int32)) := ((c38.ext E37).keep Kc39 (ninS ne_b29_b37 nin0))
    obtain ⟨cq41, kq41, q41a, q41b, q41c⟩ := isOf hZ (rfl : T39.heap = T39.heap) f39_0
    obtain ⟨_, _, ⟨T41, L41, k41, n41⟩, -, X41, ⟨Lc41, hQ41, l41, y41, z41⟩, st41⟩ := X39.virtualBack hx (y := (⟨"com/example/odds_on_axioms/oddsonaxioms/network/Condition", "isEmpty", "()Z"⟩ : MethodName)) (z := (⟨"com/example/odds_on_axioms/oddsonaxioms/network/Condition", "isEmpty", "()Z"⟩ : MethodName)) hown (mvT hZ (hw _ (List.mem_of_getElem? (i := 15) rfl))) (mvT hZ (hw _ (List.mem_of_getElem? (i := 16) rfl))) (notFace_of_selects (args := #[]) (mvT hZ (hw _ (List.mem_of_getElem? (i := 18) rfl)))) (mvT hZ (hw _ (List.mem_of_getElem? (i := 18) rfl))) (mvT hZ (hw _ (List.mem_of_getElem? (i := 17) rfl))) (by decide) (backOf (W := 0) (rme1 l Z a0 hw [] b37 b29 k29 q0 T39.heap n0 O39 f39_1 c40) hZ (hw _ (List.mem_of_getElem? (i := 19) rfl)) (hw _ (List.mem_of_getElem? (i := 4) rfl)) (by decide) (by decide)) q41a q41c (g := (mkF m 204 #[.val (.int p0), .val (.int p1), .val (.int p2), .val (.int p3), .val (.int p4), .val (.int p5), .val (.int (1 : Int32)), .val (.int q0), .val (.int q1), .val (.int q2), .val (.int t0), .val (.int t1), .val (.int t2), .val (.ref b29), .val (.ref b33), .val (.ref b37), .unset] [(.ref b37)])) rfl (by rw [hml]; rfl) (Steps.refl _) (argsL := []) (rest := []) (lenOf pd_rm0_1 rfl) rfl (by show 2 * 0 + _ ≤ _; exact Nat.le_of_eq rfl) (hb hby at_204) (fun _ _ => ⟨rfl, (rfl : T39.heap = T39.heap), (by decide : 3 + 0 ≤ _), (by decide : 4 + 0 ≤ _)⟩)
    dsimp only [Pt.U, Pt.locs, Pt.cells, Pt.slots] at X41 l41 y41 z41 st41 hQ41
    subst l41 y41 z41
    obtain ⟨rfl, Nq41, e41⟩ := hQ41
    have N41 := Fr.app N39 Nq41
    have c42 : Arv Z T39.heap b33 k33 .int (1 : Int32) [(.int t0)] (.int (0 : Int32)) := ((V36.ext E37).keep Kc39 (ninS ne_b33_b37 nin0))
    obtain ⟨cq43, kq43, q43a, q43b, q43c⟩ := isOf hZ e41 f39_0
    obtain ⟨_, _, ⟨T43, L43, k43, n43⟩, -, X43, ⟨Lc43, hQ43, l43, y43, z43⟩, st43⟩ := X41.virtualBack hx (y := (⟨"com/example/odds_on_axioms/oddsonaxioms/network/Condition", "state", "(I)I"⟩ : MethodName)) (z := (⟨"com/example/odds_on_axioms/oddsonaxioms/network/Condition", "state", "(I)I"⟩ : MethodName)) hown (mvT hZ (hw _ (List.mem_of_getElem? (i := 20) rfl))) (mvT hZ (hw _ (List.mem_of_getElem? (i := 21) rfl))) (notFace_of_selects (args := #[]) (mvT hZ (hw _ (List.mem_of_getElem? (i := 23) rfl)))) (mvT hZ (hw _ (List.mem_of_getElem? (i := 23) rfl))) (mvT hZ (hw _ (List.mem_of_getElem? (i := 22) rfl))) (by decide) (backOf (W := 0) (rms1 l Z a0 hw [] b37 q0 b29 b33 k29 k33 t0 T39.heap n0 O39 f39_1 f39_2 c40 c42) hZ (hw _ (List.mem_of_getElem? (i := 24) rfl)) (hw _ (List.mem_of_getElem? (i := 4) rfl)) (by decide) (by decide)) q43a q43c (g := (mkF m 248 #[.val (.int p0), .val (.int p1), .val (.int p2), .val (.int p3), .val (.int p4), .val (.int p5), .val (.int (1 : Int32)), .val (.int q0), .val (.int q1), .val (.int q2), .val (.int t0), .val (.int t1), .val (.int t2), .val (.ref b29), .val (.ref b33), .val (.ref b37), .val (.int (0 : Int32))] [(.int q0), (.ref b37)])) rfl (by rw [hml]; rfl) (Steps.refl _) (argsL := [(.int q0)]) (rest := []) (lenOf pd_rm0_2 rfl) rfl (by show 2 * 0 + _ ≤ _; exact Nat.le_of_eq rfl) (hb hby at_248) (fun _ _ => ⟨rfl, e41, (by decide : 3 + 0 ≤ _), (by decide : 4 + 0 ≤ _)⟩)
    dsimp only [Pt.U, Pt.locs, Pt.cells, Pt.slots] at X43 l43 y43 z43 st43 hQ43
    subst l43 y43 z43
    obtain ⟨rfl, Nq43, e43⟩ := hQ43
    have N43 := Fr.app N41 Nq43
    obtain ⟨_, _, ⟨T44, L44, k44, n44⟩, -, X44, ⟨Lc44, hQ44, l44, y44, z44⟩, st44⟩ := Jvm.LawKit.callS X43 hx (y := (⟨"com/example/odds_on_axioms/oddsonaxioms/network/Condition", "empty", "()Lcom/example/odds_on_axioms/oddsonaxioms/network/Condition;"⟩ : MethodName)) hown (mvT hZ (hw _ (List.mem_of_getElem? (i := 32) rfl))) (mvT hZ (hw _ (List.mem_of_getElem? (i := 33) rfl))) (mvT hZ (hw _ (List.mem_of_getElem? (i := 4) rfl))) (mvT hZ (hw _ (List.mem_of_getElem? (i := 34) rfl))) (by decide) (backOf (W := 0) (rm7 l Z a0 hw [] v_EMPTY T39.heap n0 O39 F0_) hZ (hw _ (List.mem_of_getElem? (i := 34) rfl)) (hw _ (List.mem_of_getElem? (i := 4) rfl)) (by decide) (by decide)) (g := (mkF m 258 #[.val (.int p0), .val (.int p1), .val (.int p2), .val (.int p3), .val (.int p4), .val (.int p5), .val (.int (1 : Int32)), .val (.int q0), .val (.int q1), .val (.int q2), .val (.int t0), .val (.int t1), .val (.int t2), .val (.ref b29), .val (.ref b33), .val (.ref b37), .val (.int (0 : Int32))] [])) rfl (by rw [hml]; rfl) (argsL := []) (rest := []) (lenOf pd_rm0_3 rfl) rfl (by show 2 * 0 + _ ≤ _; exact Nat.le_of_eq rfl) (hb hby at_258) (fun _ _ => ⟨rfl, e43, (by decide : 3 + 0 ≤ _), (by decide : 4 + 0 ≤ _)⟩)
    dsimp only [Pt.U, Pt.locs, Pt.cells, Pt.slots] at X44 l44 y44 z44 st44 hQ44
    subst l44 y44 z44
    obtain ⟨rfl, Nq44, e44⟩ := hQ44
    have N44 := Fr.app N43 Nq44
    obtain ⟨cq45, kq45, q45a, q45b, q45c⟩ := isOf hZ e44 (F1_.ext O39.2)
    obtain ⟨_, _, ⟨T45, L45, k45, n45⟩, -, X45, ⟨Lc45, hQ45, l45, y45, z45⟩, st45⟩ := X44.virtualBack hx (y := (⟨"com/example/odds_on_axioms/oddsonaxioms/network/Condition", "isEmpty", "()Z"⟩ : MethodName)) (z := (⟨"com/example/odds_on_axioms/oddsonaxioms/network/Condition", "isEmpty", "()Z"⟩ : MethodName)) hown (mvT hZ (hw _ (List.mem_of_getElem? (i := 15) rfl))) (mvT hZ (hw _ (List.mem_of_getElem? (i := 16) rfl))) (notFace_of_selects (args := #[]) (mvT hZ (hw _ (List.mem_of_getElem? (i := 18) rfl)))) (mvT hZ (hw _ (List.mem_of_getElem? (i := 18) rfl))) (mvT hZ (hw _ (List.mem_of_getElem? (i := 17) rfl))) (by decide) (backOf (W := 0) (rme0 l Z a0 hw [] v_EMPTY x_v_EMPTY_positions k_x_v_EMPTY_positions T39.heap n0 O39 (F2_.ext O39.2) (F3_.ext O39.2)) hZ (hw _ (List.mem_of_getElem? (i := 19) rfl)) (hw _ (List.mem_of_getElem? (i := 4) rfl)) (by decide) (by decide)) q45a q45c (g := (mkF m 261 #[.val (.int p0), .val (.int p1), .val (.int p2), .val (.int p3), .val (.int p4), .val (.int p5), .val (.int (1 : Int32)), .val (.int q0), .val (.int q1), .val (.int q2), .val (.int t0), .val (.int t1), .val (.int t2), .val (.ref b29), .val (.ref b33), .val (.ref b37), .val (.int (0 : Int32))] [(.ref v_EMPTY)])) rfl (by rw [hml]; rfl) (Steps.refl _) (argsL := []) (rest := []) (lenOf pd_rm0_1 rfl) rfl (by show 2 * 0 + _ ≤ _; exact Nat.le_of_eq rfl) (hb hby at_261) (fun _ _ => ⟨rfl, e44, (by decide : 3 + 0 ≤ _), (by decide : 4 + 0 ≤ _)⟩)
    dsimp only [Pt.U, Pt.locs, Pt.cells, Pt.slots] at X45 l45 y45 z45 st45 hQ45
    subst l45 y45 z45
    obtain ⟨rfl, Nq45, e45⟩ := hQ45
    have N45 := Fr.app N44 Nq45
    have s46 : Steps p.tables e below (s₁.setTop (entryFrame m #[(.int p0), (.int p1), (.int p2), (.int p3), (.int p4), (.int p5)] maxLocals)) (T45.setTop (mkF m 264 #[.val (.int p0), .val (.int p1), .val (.int p2), .val (.int p3), .val (.int p4), .val (.int p5), .val (.int (1 : Int32)), .val (.int q0), .val (.int q1), .val (.int q2), .val (.int t0), .val (.int t1), .val (.int t2), .val (.ref b29), .val (.ref b33), .val (.ref b37), .val (.int (0 : Int32))] [(.int (1 : Int32))])) := by
      refine s28.trans ?_
      show Steps p.tables e below (s₁.setTop (mkF m 65 #[.val (.int p0), .val (.int p1), .val (.int p2), .val (.int p3), .val (.int p4), .val (.int p5), .val (.int (1 : Int32)), .val (.int q0), .val (.int q1), .val (.int q2), .val (.int t0), .val (.int t1), .val (.int t2), .unset, .unset, .unset, .unset] [(.int (1 : Int32))])) _
      refine XS.ifYes X0.here hx rfl (pc0 := 65) (pc' := 81) rfl (hb hby at_65) rfl ((if0 _ _).trans (feq (by decide)).2) (by decide) (by decide) ?_
      show Steps p.tables e below (s₁.setTop (mkF m 81 #[.val (.int p0), .val (.int p1), .val (.int p2), .val (.int p3), .val (.int p4), .val (.int p5), .val (.int (1 : Int32)), .val (.int q0), .val (.int q1), .val (.int q2), .val (.int t0), .val (.int t1), .val (.int t2), .unset, .unset, .unset, .unset] [])) _
      refine XS.iload X0.here hx rfl (hb hby at_81) rfl ?_
      show Steps p.tables e below (s₁.setTop (mkF m 83 #[.val (.int p0), .val (.int p1), .val (.int p2), .val (.int p3), .val (.int p4), .val (.int p5), .val (.int (1 : Int32)), .val (.int q0), .val (.int q1), .val (.int q2), .val (.int t0), .val (.int t1), .val (.int t2), .unset, .unset, .unset, .unset] [(.int (1 : Int32))])) _
      refine XS.iconst X0.here hx rfl (hb hby at_83) ?_
      show Steps p.tables e below (s₁.setTop (mkF m 84 #[.val (.int p0), .val (.int p1), .val (.int p2), .val (.int p3), .val (.int p4), .val (.int p5), .val (.int (1 : Int32)), .val (.int q0), .val (.int q1), .val (.int q2), .val (.int t0), .val (.int t1), .val (.int t2), .unset, .unset, .unset, .unset] [(.int (1 : Int32)), (.int (1 : Int32))])) _
      refine XS.icmpNo X0.here hx rfl (hb hby at_84) rfl (teq (by decide)).2 ?_
      show Steps p.tables e below (s₁.setTop (mkF m 87 #[.val (.int p0), .val (.int p1), .val (.int p2), .val (.int p3), .val (.int p4), .val (.int p5), .val (.int (1 : Int32)), .val (.int q0), .val (.int q1), .val (.int q2), .val (.int t0), .val (.int t1), .val (.int t2), .unset, .unset, .unset, .unset] [])) _
      refine XS.iconst X0.here hx rfl (hb hby at_87) ?_
      show Steps p.tables e below (s₁.setTop (mkF m 88 #[.val (.int p0), .val (.int p1), .val (.int p2), .val (.int p3), .val (.int p4), .val (.int p5), .val (.int (1 : Int32)), .val (.int q0), .val (.int q1), .val (.int q2), .val (.int t0), .val (.int t1), .val (.int t2), .unset, .unset, .unset, .unset] [(.int (1 : Int32))])) _
      refine st29 _ ?_
      show Steps p.tables e below (T29.setTop (mkF m 90 #[.val (.int p0), .val (.int p1), .val (.int p2), .val (.int p3), .val (.int p4), .val (.int p5), .val (.int (1 : Int32)), .val (.int q0), .val (.int q1), .val (.int q2), .val (.int t0), .val (.int t1), .val (.int t2), .unset, .unset, .unset, .unset] [(.ref b29)])) _
      refine XS.dup X29.here hx rfl (hb hby at_90) rfl rfl ?_
      show Steps p.tables e below (T29.setTop (mkF m 91 #[.val (.int p0), .val (.int p1), .val (.int p2), .val (.int p3), .val (.int p4), .val (.int p5), .val (.int (1 : Int32)), .val (.int q0), .val (.int q1), .val (.int q2), .val (.int t0), .val (.int t1), .val (.int t2), .unset, .unset, .unset, .unset] [(.ref b29), (.ref b29)])) _
      refine XS.iconst X29.here hx rfl (hb hby at_91) ?_
      show Steps p.tables e below (T29.setTop (mkF m 92 #[.val (.int p0), .val (.int p1), .val (.int p2), .val (.int p3), .val (.int p4), .val (.int p5), .val (.int (1 : Int32)), .val (.int q0), .val (.int q1), .val (.int q2), .val (.int t0), .val (.int t1), .val (.int t2), .unset, .unset, .unset, .unset] [(.int (0 : Int32)), (.ref b29), (.ref b29)])) _
      refine XS.iload X29.here hx rfl (hb hby at_92) rfl ?_
      show Steps p.tables e below (T29.setTop (mkF m 94 #[.val (.int p0), .val (.int p1), .val (.int p2), .val (.int p3), .val (.int p4), .val (.int p5), .val (.int (1 : Int32)), .val (.int q0), .val (.int q1), .val (.int q2), .val (.int t0), .val (.int t1), .val (.int t2), .unset, .unset, .unset, .unset] [(.int q0), (.int (0 : Int32)), (.ref b29), (.ref b29)])) _
      refine st32 _ ?_
      show Steps p.tables e below (T32.setTop (mkF m 95 #[.val (.int p0), .val (.int p1), .val (.int p2), .val (.int p3), .val (.int p4), .val (.int p5), .val (.int (1 : Int32)), .val (.int q0), .val (.int q1), .val (.int q2), .val (.int t0), .val (.int t1), .val (.int t2), .unset, .unset, .unset, .unset] [(.ref b29)])) _
      refine XS.astore X32.here hx rfl (hb hby at_95) rfl rfl (l' := #[.val (.int p0), .val (.int p1), .val (.int p2), .val (.int p3), .val (.int p4), .val (.int p5), .val (.int (1 : Int32)), .val (.int q0), .val (.int q1), .val (.int q2), .val (.int t0), .val (.int t1), .val (.int t2), .val (.ref b29), .unset, .unset, .unset]) rfl ?_
      show Steps p.tables e below (T32.setTop (mkF m 97 #[.val (.int p0), .val (.int p1), .val (.int p2), .val (.int p3), .val (.int p4), .val (.int p5), .val (.int (1 : Int32)), .val (.int q0), .val (.int q1), .val (.int q2), .val (.int t0), .val (.int t1), .val (.int t2), .val (.ref b29), .unset, .unset, .unset] [])) _
      refine XS.iconst X32.here hx rfl (hb hby at_97) ?_
      show Steps p.tables e below (T32.setTop (mkF m 98 #[.val (.int p0), .val (.int p1), .val (.int p2), .val (.int p3), .val (.int p4), .val (.int p5), .val (.int (1 : Int32)), .val (.int q0), .val (.int q1), .val (.int q2), .val (.int t0), .val (.int t1), .val (.int t2), .val (.ref b29), .unset, .unset, .unset] [(.int (1 : Int32))])) _
      refine st33 _ ?_
      show Steps p.tables e below (T33.setTop (mkF m 100 #[.val (.int p0), .val (.int p1), .val (.int p2), .val (.int p3), .val (.int p4), .val (.int p5), .val (.int (1 : Int32)), .val (.int q0), .val (.int q1), .val (.int q2), .val (.int t0), .val (.int t1), .val (.int t2), .val (.ref b29), .unset, .unset, .unset] [(.ref b33)])) _
      refine XS.dup X33.here hx rfl (hb hby at_100) rfl rfl ?_
      show Steps p.tables e below (T33.setTop (mkF m 101 #[.val (.int p0), .val (.int p1), .val (.int p2), .val (.int p3), .val (.int p4), .val (.int p5), .val (.int (1 : Int32)), .val (.int q0), .val (.int q1), .val (.int q2), .val (.int t0), .val (.int t1), .val (.int t2), .val (.ref b29), .unset, .unset, .unset] [(.ref b33), (.ref b33)])) _
      refine XS.iconst X33.here hx rfl (hb hby at_101) ?_
      show Steps p.tables e below (T33.setTop (mkF m 102 #[.val (.int p0), .val (.int p1), .val (.int p2), .val (.int p3), .val (.int p4), .val (.int p5), .val (.int (1 : Int32)), .val (.int q0), .val (.int q1), .val (.int q2), .val (.int t0), .val (.int t1), .val (.int t2), .val (.ref b29), .unset, .unset, .unset] [(.int (0 : Int32)), (.ref b33), (.ref b33)])) _
      refine XS.iload X33.here hx rfl (hb hby at_102) rfl ?_
      show Steps p.tables e below (T33.setTop (mkF m 104 #[.val (.int p0), .val (.int p1), .val (.int p2), .val (.int p3), .val (.int p4), .val (.int p5), .val (.int (1 : Int32)), .val (.int q0), .val (.int q1), .val (.int q2), .val (.int t0), .val (.int t1), .val (.int t2), .val (.ref b29), .unset, .unset, .unset] [(.int t0), (.int (0 : Int32)), (.ref b33), (.ref b33)])) _
      refine st36 _ ?_
      show Steps p.tables e below (T36.setTop (mkF m 105 #[.val (.int p0), .val (.int p1), .val (.int p2), .val (.int p3), .val (.int p4), .val (.int p5), .val (.int (1 : Int32)), .val (.int q0), .val (.int q1), .val (.int q2), .val (.int t0), .val (.int t1), .val (.int t2), .val (.ref b29), .unset, .unset, .unset] [(.ref b33)])) _
      refine XS.astore X36.here hx rfl (hb hby at_105) rfl rfl (l' := #[.val (.int p0), .val (.int p1), .val (.int p2), .val (.int p3), .val (.int p4), .val (.int p5), .val (.int (1 : Int32)), .val (.int q0), .val (.int q1), .val (.int q2), .val (.int t0), .val (.int t1), .val (.int t2), .val (.ref b29), .val (.ref b33), .unset, .unset]) rfl ?_
      show Steps p.tables e below (T36.setTop (mkF m 107 #[.val (.int p0), .val (.int p1), .val (.int p2), .val (.int p3), .val (.int p4), .val (.int p5), .val (.int (1 : Int32)), .val (.int q0), .val (.int q1), .val (.int q2), .val (.int t0), .val (.int t1), .val (.int t2), .val (.ref b29), .val (.ref b33), .unset, .unset] [])) _
      refine XS.goto X36.here hx rfl (pc0 := 107) (pc' := 189) rfl (hb hby at_107) (by decide) (by decide) ?_
      show Steps p.tables e below (T36.setTop (mkF m 189 #[.val (.int p0), .val (.int p1), .val (.int p2), .val (.int p3), .val (.int p4), .val (.int p5), .val (.int (1 : Int32)), .val (.int q0), .val (.int q1), .val (.int q2), .val (.int t0), .val (.int t1), .val (.int t2), .val (.ref b29), .val (.ref b33), .unset, .unset] [])) _
      refine st37 _ ?_
      show Steps p.tables e below (T37.setTop (mkF m 192 #[.val (.int p0), .val (.int p1), .val (.int p2), .val (.int p3), .val (.int p4), .val (.int p5), .val (.int (1 : Int32)), .val (.int q0), .val (.int q1), .val (.int q2), .val (.int t0), .val (.int t1), .val (.int t2), .val (.ref b29), .val (.ref b33), .unset, .unset] [(.ref b37)])) _
      refine XS.dup X37.here hx rfl (hb hby at_192) rfl rfl ?_
      show Steps p.tables e below (T37.setTop (mkF m 193 #[.val (.int p0), .val (.int p1), .val (.int p2), .val (.int p3), .val (.int p4), .val (.int p5), .val (.int (1 : Int32)), .val (.int q0), .val (.int q1), .val (.int q2), .val (.int t0), .val (.int t1), .val (.int t2), .val (.ref b29), .val (.ref b33), .unset, .unset] [(.ref b37), (.ref b37)])) _
      refine XS.aload X37.here hx rfl (hb hby at_193) rfl rfl ?_
      show Steps p.tables e below (T37.setTop (mkF m 195 #[.val (.int p0), .val (.int p1), .val (.int p2), .val (.int p3), .val (.int p4), .val (.int p5), .val (.int (1 : Int32)), .val (.int q0), .val (.int q1), .val (.int q2), .val (.int t0), .val (.int t1), .val (.int t2), .val (.ref b29), .val (.ref b33), .unset, .unset] [(.ref b29), (.ref b37), (.ref b37)])) _
      refine XS.aload X37.here hx rfl (hb hby at_195) rfl rfl ?_
      show Steps p.tables e below (T37.setTop (mkF m 197 #[.val (.int p0), .val (.int p1), .val (.int p2), .val (.int p3), .val (.int p4), .val (.int p5), .val (.int (1 : Int32)), .val (.int q0), .val (.int q1), .val (.int q2), .val (.int t0), .val (.int t1), .val (.int t2), .val (.ref b29), .val (.ref b33), .unset, .unset] [(.ref b33), (.ref b29), (.ref b37), (.ref b37)])) _
      refine st39.trans ?_
      show Steps p.tables e below (T39.setTop (mkF m 200 #[.val (.int p0), .val (.int p1), .val (.int p2), .val (.int p3), .val (.int p4), .val (.int p5), .val (.int (1 : Int32)), .val (.int q0), .val (.int q1), .val (.int q2), .val (.int t0), .val (.int t1), .val (.int t2), .val (.ref b29), .val (.ref b33), .unset, .unset] [(.ref b37)])) _
      refine XS.astore X39.here hx rfl (hb hby at_200) rfl rfl (l' := #[.val (.int p0), .val (.int p1), .val (.int p2), .val (.int p3), .val (.int p4), .val (.int p5), .val (.int (1 : Int32)), .val (.int q0), .val (.int q1), .val (.int q2), .val (.int t0), .val (.int t1), .val (.int t2), .val (.ref b29), .val (.ref b33), .val (.ref b37), .unset]) rfl ?_
      show Steps p.tables e below (T39.setTop (mkF m 202 #[.val (.int p0), .val (.int p1), .val (.int p2), .val (.int p3), .val (.int p4), .val (.int p5), .val (.int (1 : Int32)), .val (.int q0), .val (.int q1), .val (.int q2), .val (.int t0), .val (.int t1), .val (.int t2), .val (.ref b29), .val (.ref b33), .val (.ref b37), .unset] [])) _
      refine XS.aload X39.here hx rfl (hb hby at_202) rfl rfl ?_
      show Steps p.tables e below (T39.setTop (mkF m 204 #[.val (.int p0), .val (.int p1), .val (.int p2), .val (.int p3), .val (.int p4), .val (.int p5), .val (.int (1 : Int32)), .val (.int q0), .val (.int q1), .val (.int q2), .val (.int t0), .val (.int t1), .val (.int t2), .val (.ref b29), .val (.ref b33), .val (.ref b37), .unset] [(.ref b37)])) _
      refine st41.trans ?_
      show Steps p.tables e below (T41.setTop (mkF m 207 #[.val (.int p0), .val (.int p1), .val (.int p2), .val (.int p3), .val (.int p4), .val (.int p5), .val (.int (1 : Int32)), .val (.int q0), .val (.int q1), .val (.int q2), .val (.int t0), .val (.int t1), .val (.int t2), .val (.ref b29), .val (.ref b33), .val (.ref b37), .unset] [(.int (0 : Int32))])) _
      refine XS.istore X41.here hx rfl (hb hby at_207) rfl (l' := #[.val (.int p0), .val (.int p1), .val (.int p2), .val (.int p3), .val (.int p4), .val (.int p5), .val (.int (1 : Int32)), .val (.int q0), .val (.int q1), .val (.int q2), .val (.int t0), .val (.int t1), .val (.int t2), .val (.ref b29), .val (.ref b33), .val (.ref b37), .val (.int (0 : Int32))]) rfl ?_
      show Steps p.tables e below (T41.setTop (mkF m 209 #[.val (.int p0), .val (.int p1), .val (.int p2), .val (.int p3), .val (.int p4), .val (.int p5), .val (.int (1 : Int32)), .val (.int q0), .val (.int q1), .val (.int q2), .val (.int t0), .val (.int t1), .val (.int t2), .val (.ref b29), .val (.ref b33), .val (.ref b37), .val (.int (0 : Int32))] [])) _
      refine XS.iload X41.here hx rfl (hb hby at_209) rfl ?_
      show Steps p.tables e below (T41.setTop (mkF m 211 #[.val (.int p0), .val (.int p1), .val (.int p2), .val (.int p3), .val (.int p4), .val (.int p5), .val (.int (1 : Int32)), .val (.int q0), .val (.int q1), .val (.int q2), .val (.int t0), .val (.int t1), .val (.int t2), .val (.ref b29), .val (.ref b33), .val (.ref b37), .val (.int (0 : Int32))] [(.int (0 : Int32))])) _
      refine XS.iload X41.here hx rfl (hb hby at_211) rfl ?_
      show Steps p.tables e below (T41.setTop (mkF m 213 #[.val (.int p0), .val (.int p1), .val (.int p2), .val (.int p3), .val (.int p4), .val (.int p5), .val (.int (1 : Int32)), .val (.int q0), .val (.int q1), .val (.int q2), .val (.int t0), .val (.int t1), .val (.int t2), .val (.ref b29), .val (.ref b33), .val (.ref b37), .val (.int (0 : Int32))] [(.int (1 : Int32)), (.int (0 : Int32))])) _
      refine XS.ifYes X41.here hx rfl (pc0 := 213) (pc' := 220) rfl (hb hby at_213) rfl ((if0 _ _).trans (feq (by decide)).2) (by decide) (by decide) ?_
      show Steps p.tables e below (T41.setTop (mkF m 220 #[.val (.int p0), .val (.int p1), .val (.int p2), .val (.int p3), .val (.int p4), .val (.int p5), .val (.int (1 : Int32)), .val (.int q0), .val (.int q1), .val (.int q2), .val (.int t0), .val (.int t1), .val (.int t2), .val (.ref b29), .val (.ref b33), .val (.ref b37), .val (.int (0 : Int32))] [(.int (0 : Int32))])) _
      refine XS.iconst X41.here hx rfl (hb hby at_220) ?_
      show Steps p.tables e below (T41.setTop (mkF m 221 #[.val (.int p0), .val (.int p1), .val (.int p2), .val (.int p3), .val (.int p4), .val (.int p5), .val (.int (1 : Int32)), .val (.int q0), .val (.int q1), .val (.int q2), .val (.int t0), .val (.int t1), .val (.int t2), .val (.ref b29), .val (.ref b33), .val (.ref b37), .val (.int (0 : Int32))] [(.int (0 : Int32)), (.int (0 : Int32))])) _
      refine XS.icmpYes X41.here hx rfl (pc0 := 221) (pc' := 226) rfl (hb hby at_221) rfl (teq (by decide)).1 (by decide) (by decide) ?_
      show Steps p.tables e below (T41.setTop (mkF m 226 #[.val (.int p0), .val (.int p1), .val (.int p2), .val (.int p3), .val (.int p4), .val (.int p5), .val (.int (1 : Int32)), .val (.int q0), .val (.int q1), .val (.int q2), .val (.int t0), .val (.int t1), .val (.int t2), .val (.ref b29), .val (.ref b33), .val (.ref b37), .val (.int (0 : Int32))] [])) _
      refine XS.iload X41.here hx rfl (hb hby at_226) rfl ?_
      show Steps p.tables e below (T41.setTop (mkF m 228 #[.val (.int p0), .val (.int p1), .val (.int p2), .val (.int p3), .val (.int p4), .val (.int p5), .val (.int (1 : Int32)), .val (.int q0), .val (.int q1), .val (.int q2), .val (.int t0), .val (.int t1), .val (.int t2), .val (.ref b29), .val (.ref b33), .val (.ref b37), .val (.int (0 : Int32))] [(.int (0 : Int32))])) _
      refine XS.ifYes X41.here hx rfl (pc0 := 228) (pc' := 244) rfl (hb hby at_228) rfl ((if0 _ _).trans (teq (by decide)).1) (by decide) (by decide) ?_
      show Steps p.tables e below (T41.setTop (mkF m 244 #[.val (.int p0), .val (.int p1), .val (.int p2), .val (.int p3), .val (.int p4), .val (.int p5), .val (.int (1 : Int32)), .val (.int q0), .val (.int q1), .val (.int q2), .val (.int t0), .val (.int t1), .val (.int t2), .val (.ref b29), .val (.ref b33), .val (.ref b37), .val (.int (0 : Int32))] [])) _
      refine XS.aload X41.here hx rfl (hb hby at_244) rfl rfl ?_
      show Steps p.tables e below (T41.setTop (mkF m 246 #[.val (.int p0), .val (.int p1), .val (.int p2), .val (.int p3), .val (.int p4), .val (.int p5), .val (.int (1 : Int32)), .val (.int q0), .val (.int q1), .val (.int q2), .val (.int t0), .val (.int t1), .val (.int t2), .val (.ref b29), .val (.ref b33), .val (.ref b37), .val (.int (0 : Int32))] [(.ref b37)])) _
      refine XS.iload X41.here hx rfl (hb hby at_246) rfl ?_
      show Steps p.tables e below (T41.setTop (mkF m 248 #[.val (.int p0), .val (.int p1), .val (.int p2), .val (.int p3), .val (.int p4), .val (.int p5), .val (.int (1 : Int32)), .val (.int q0), .val (.int q1), .val (.int q2), .val (.int t0), .val (.int t1), .val (.int t2), .val (.ref b29), .val (.ref b33), .val (.ref b37), .val (.int (0 : Int32))] [(.int q0), (.ref b37)])) _
      refine st43.trans ?_
      show Steps p.tables e below (T43.setTop (mkF m 251 #[.val (.int p0), .val (.int p1), .val (.int p2), .val (.int p3), .val (.int p4), .val (.int p5), .val (.int (1 : Int32)), .val (.int q0), .val (.int q1), .val (.int q2), .val (.int t0), .val (.int t1), .val (.int t2), .val (.ref b29), .val (.ref b33), .val (.ref b37), .val (.int (0 : Int32))] [(.int t0)])) _
      refine XS.iload X43.here hx rfl (hb hby at_251) rfl ?_
      show Steps p.tables e below (T43.setTop (mkF m 253 #[.val (.int p0), .val (.int p1), .val (.int p2), .val (.int p3), .val (.int p4), .val (.int p5), .val (.int (1 : Int32)), .val (.int q0), .val (.int q1), .val (.int q2), .val (.int t0), .val (.int t1), .val (.int t2), .val (.ref b29), .val (.ref b33), .val (.ref b37), .val (.int (0 : Int32))] [(.int t0), (.int t0)])) _
      refine XS.icmpYes X43.here hx rfl (pc0 := 253) (pc' := 258) rfl (hb hby at_253) rfl (teq rfl).1 (by decide) (by decide) ?_
      show Steps p.tables e below (T43.setTop (mkF m 258 #[.val (.int p0), .val (.int p1), .val (.int p2), .val (.int p3), .val (.int p4), .val (.int p5), .val (.int (1 : Int32)), .val (.int q0), .val (.int q1), .val (.int q2), .val (.int t0), .val (.int t1), .val (.int t2), .val (.ref b29), .val (.ref b33), .val (.ref b37), .val (.int (0 : Int32))] [])) _
      refine st44 _ ?_
      show Steps p.tables e below (T44.setTop (mkF m 261 #[.val (.int p0), .val (.int p1), .val (.int p2), .val (.int p3), .val (.int p4), .val (.int p5), .val (.int (1 : Int32)), .val (.int q0), .val (.int q1), .val (.int q2), .val (.int t0), .val (.int t1), .val (.int t2), .val (.ref b29), .val (.ref b33), .val (.ref b37), .val (.int (0 : Int32))] [(.ref v_EMPTY)])) _
      refine st45.trans ?_
      exact Steps.refl _
    obtain ⟨fs, hr, hrun, hended, hW, hsame⟩ := X45.leave (v := some (.int (1 : Int32))) (fun h => by rw [Bd.returns] at h; cases h)
    refine ⟨_, _, s46.trans ?_, hrun, hended, _, _, rfl, ?_, ⟨_, rfl⟩, hW, hsame.mono (by decide) (by decide)⟩
    · show Steps p.tables e below (T45.setTop (mkF m 264 #[.val (.int p0), .val (.int p1), .val (.int p2), .val (.int p3), .val (.int p4), .val (.int p5), .val (.int (1 : Int32)), .val (.int q0), .val (.int q1), .val (.int q2), .val (.int t0), .val (.int t1), .val (.int t2), .val (.ref b29), .val (.ref b33), .val (.ref b37), .val (.int (0 : Int32))] [(.int (1 : Int32))])) _
      exact retN X45 hx (t := .boolean) Bd.returns (by simp) (hb hby at_264) hr
    · show Q0 Z p0 p1 p2 p3 p4 p5 v_EMPTY x_v_EMPTY_positions k_x_v_EMPTY_positions h0 n0 _ T45.heap _
      rw [e45]
      exact ⟨rfl, N45⟩
  · have s47 := s13
    rw [hk14] at s47
    obtain ⟨T48, h48, k48, X48, e48, E48, A48, st48⟩ := newP X0 hx hZ (hw _ (List.mem_of_getElem? (i := 1) rfl)) e0 (g := (mkF m 117 #[.val (.int p0), .val (.int p1), .val (.int p2), .val (.int p3), .val (.int p4), .val (.int p5), .val (.int (2 : Int32)), .val (.int q0), .val (.int q1), .val (.int q2), .val (.int t0), .val (.int t1), .val (.int t2), .unset, .unset, .unset, .unset] [(.int (2 : Int32))])) rfl (hb hby at_117) rfl (by decide) (cap := 2) (by decide) (by decide) (by decide) (by decide)
    obtain ⟨b48, g48⟩ : ∃ z, z = h0.size := ⟨_, rfl⟩
    rw [← g48] at A48 st48
    have g_b48 : n0 ≤ b48 := Nat.le_trans (Nat.le_of_eq O0.1.symm) (Nat.le_trans O0.2.1 (Nat.le_of_eq g48.symm))
    have O48 := O0.ext E48
    have V48 : Arv Z h48 b48 k48 .int (2 : Int32) [(.int (0 : Int32)), (.int (0 : Int32))] (.int (0 : Int32)) := (Arv.new A48 (by decide)).pad (pad_rep [] (.int (0 : Int32)) 2)
    obtain ⟨cla49, Ara49, qa49, Sa49, Za49, Ha49, Ga49⟩ := id V48
    have hin50 : ¬ ((0 : Int32) < 0 ∨ cla49.slots.size ≤ ((0 : Int32)).toNatClampNeg) := inb_of Sa49 ⟨by decide, by decide⟩
    obtain ⟨T51, h51, X51, e51, W51, st51⟩ := stI X48 hx hZ e48 Ara49 (j := (0 : Int32)) hin50 (g := (mkF m 123 #[.val (.int p0), .val (.int p1), .val (.int p2), .val (.int p3), .val (.int p4), .val (.int p5), .val (.int (2 : Int32)), .val (.int q0), .val (.int q1), .val (.int q2), .val (.int t0), .val (.int t1), .val (.int t2), .unset, .unset, .unset, .unset] [(.int q0), (.int (0 : Int32)), (.ref b48), (.ref b48)])) rfl rfl (hb hby at_123)
    have O51 := O48.wr W51 g_b48
    have N51 := Fr.snoc X51 N0 g_b48
    have V51 : Arv Z h51 b48 k48 .int (2 : Int32) [(.int q0), (.int (0 : Int32))] (.int (0 : Int32)) := Arv.set Ara49 qa49 Sa49 Za49 Ha49 Ga49 rfl W51 0 rfl (Nat.le_of_ble_eq_true rfl)
    obtain ⟨cla52, Ara52, qa52, Sa52, Za52, Ha52, Ga52⟩ := id V51
    have hin53 : ¬ ((1 : Int32) < 0 ∨ cla52.slots.size ≤ ((1 : Int32)).toNatClampNeg) := inb_of Sa52 ⟨by decide, by decide⟩
    obtain ⟨T54, h54, X54, e54, W54, st54⟩ := stI X51 hx hZ e51 Ara52 (j := (1 : Int32)) hin53 (g := (mkF m 128 #[.val (.int p0), .val (.int p1), .val (.int p2), .val (.int p3), .val (.int p4), .val (.int p5), .val (.int (2 : Int32)), .val (.int q0), .val (.int q1), .val (.int q2), .val (.int t0), .val (.int t1), .val (.int t2), .unset, .unset, .unset, .unset] [(.int q1), (.int (1 : Int32)), (.ref b48), (.ref b48)])) rfl rfl (hb hby at_128)
    have O54 := O51.wr W54 g_b48
    have N54 := Fr.snoc X54 N51 g_b48
    have V54 : Arv Z h54 b48 k48 .int (2 : Int32) [(.int q0), (.int q1)] (.int (0 : Int32)) := Arv.set Ara52 qa52 Sa52 Za52 Ha52 Ga52 rfl W54 1 rfl (Nat.le_of_ble_eq_true rfl)
    obtain ⟨T55, h55, k55, X55, e55, E55, A55, st55⟩ := newP X54 hx hZ (hw _ (List.mem_of_getElem? (i := 1) rfl)) e54 (g := (mkF m 132 #[.val (.int p0), .val (.int p1), .val (.int p2), .val (.int p3), .val (.int p4), .val (.int p5), .val (.int (2 : Int32)), .val (.int q0), .val (.int q1), .val (.int q2), .val (.int t0), .val (.int t1), .val (.int t2), .val (.ref b48), .unset, .unset, .unset] [(.int (2 : Int32))])) rfl (hb hby at_132) rfl (by decide) (cap := 2) (by decide) (by decide) (by decide) (by decide)
    obtain ⟨b55, g55⟩ : ∃ z, z = h54.size := ⟨_, rfl⟩
    rw [← g55] at A55 st55
    have ne_b48_b55 : b48 ≠ b55 := Nat.ne_of_lt (Nat.lt_of_lt_of_le V54.lt (Nat.le_of_eq g55.symm))
    have g_b55 : n0 ≤ b55 := Nat.le_trans (Nat.le_of_eq O54.1.symm) (Nat.le_trans O54.2.1 (Nat.le_of_eq g55.symm))
    have O55 := O54.ext E55
    have V55 : Arv Z h55 b55 k55 .int (2 : Int32) [(.int (0 : Int32)), (.int (0 : Int32))] (.int (0 : Int32)) := (Arv.new A55 (by decide)).pad (pad_rep [] (.int (0 : Int32)) 2)
    obtain ⟨cla56, Ara56, qa56, Sa56, Za56, Ha56, Ga56⟩ := id V55
    have hin57 : ¬ ((0 : Int32) < 0 ∨ cla56.slots.size ≤ ((0 : Int32)).toNatClampNeg) := inb_of Sa56 ⟨by decide, by decide⟩
    obtain ⟨T58, h58, X58, e58, W58, st58⟩ := stI X55 hx hZ e55 Ara56 (j := (0 : Int32)) hin57 (g := (mkF m 138 #[.val (.int p0), .val (.int p1), .val (.int p2), .val (.int p3), .val (.int p4), .val (.int p5), .val (.int (2 : Int32)), .val (.int q0), .val (.int q1), .val (.int q2), .val (.int t0), .val (.int t1), .val (.int t2), .val (.ref b48), .unset, .unset, .unset] [(.int t0), (.int (0 : Int32)), (.ref b55), (.ref b55)])) rfl rfl (hb hby at_138)
    have O58 := O55.wr W58 g_b55
    have N58 := Fr.snoc X58 N54 g_b55
    have V58 : Arv Z h58 b55 k55 .int (2 : Int32) [(.int t0), (.int (0 : Int32))] (.int (0 : Int32)) := Arv.set Ara56 qa56 Sa56 Za56 Ha56 Ga56 rfl W58 0 rfl (Nat.le_of_ble_eq_true rfl)
    obtain ⟨cla59, Ara59, qa59, Sa59, Za59, Ha59, Ga59⟩ := id V58
    have hin60 : ¬ ((1 : Int32) < 0 ∨ cla59.slots.size ≤ ((1 : Int32)).toNatClampNeg) := inb_of Sa59 ⟨by decide, by decide⟩
    obtain ⟨T61, h61, X61, e61, W61, st61⟩ := stI X58 hx hZ e58 Ara59 (j := (1 : Int32)) hin60 (g := (mkF m 143 #[.val (.int p0), .val (.int p1), .val (.int p2), .val (.int p3), .val (.int p4), .val (.int p5), .val (.int (2 : Int32)), .val (.int q0), .val (.int q1), .val (.int q2), .val (.int t0), .val (.int t1), .val (.int t2), .val (.ref b48), .unset, .unset, .unset] [(.int t1), (.int (1 : Int32)), (.ref b55), (.ref b55)])) rfl rfl (hb hby at_143)
    have O61 := O58.wr W61 g_b55
    have N61 := Fr.snoc X61 N58 g_b55
    have V61 : Arv Z h61 b55 k55 .int (2 : Int32) [(.int t0), (.int t1)] (.int (0 : Int32)) := Arv.set Ara59 qa59 Sa59 Za59 Ha59 Ga59 rfl W61 1 rfl (Nat.le_of_ble_eq_true rfl)
    obtain ⟨T62, h62, X62, e62, E62, A62, D62, -, st62⟩ := newO X61 hx hZ hown (hw _ (List.mem_of_getElem? (i := 2) rfl)) (hw _ (List.mem_of_getElem? (i := 3) rfl)) (hw _ (List.mem_of_getElem? (i := 4) rfl)) e61 (g := (mkF m 189 #[.val (.int p0), .val (.int p1), .val (.int p2), .val (.int p3), .val (.int p4), .val (.int p5), .val (.int (2 : Int32)), .val (.int q0), .val (.int q1), .val (.int q2), .val (.int t0), .val (.int t1), .val (.int t2), .val (.ref b48), .val (.ref b55), .unset, .unset] [])) rfl (hb hby at_189) (by decide) (by decide)
    obtain ⟨b62, g62⟩ : ∃ z, z = h61.size := ⟨_, rfl⟩
    rw [← g62] at A62 D62 st62
    have c63 : Arv Z h61 b48 k48 .int (2 : Int32) [(.int q0), (.int q1)] (.int (0 : Int32)) := (((V54.ext E55).other W58 ne_b48_b55).other W61 ne_b48_b55)
    have ne_b48_b62 : b48 ≠ b62 := Nat.ne_of_lt (Nat.lt_of_lt_of_le c63.lt (Nat.le_of_eq g62.symm))
    have ne_b55_b62 : b55 ≠ b62 := Nat.ne_of_lt (Nat.lt_of_lt_of_le V61.lt (Nat.le_of_eq g62.symm))
    have g_b62 : n0 ≤ b62 := Nat.le_trans (Nat.le_of_eq O61.1.symm) (Nat.le_trans O61.2.1 (Nat.le_of_eq g62.symm))
    have O62 := O61.ext E62
    have F62_positions : Fld Z h62 b62 "com/example/odds_on_axioms/oddsonaxioms/network/Condition" "positions" "[I" .null := D62 (Or.inr (hw _ (List.mem_of_getElem? (i := 12) rfl))) (ty := (.array .int)) (by decide)
    have F62_states : Fld Z h62 b62 "com/example/odds_on_axioms/oddsonaxioms/network/Condition" "states" "[I" .null := D62 (Or.inr (hw _ (List.mem_of_getElem? (i := 14) rfl))) (ty := (.array .int)) (by decide)
    obtain ⟨_, _, ⟨T64, L64, k64, n64⟩, -, X64, ⟨Lc64, hQ64, l64, y64, z64⟩, st64⟩ := X62.specialBack hx (y := (⟨"com/example/odds_on_axioms/oddsonaxioms/network/Condition", "<init>", "([I[I)V"⟩ : MethodName)) rfl hown (mvT hZ (hw _ (List.mem_of_getElem? (i := 5) rfl))) (mvT hZ (hw _ (List.mem_of_getElem? (i := 6) rfl))) (mvT hZ (hw _ (List.mem_of_getElem? (i := 7) rfl))) (by decide) (backOf (W := 1) (rm1 l Z a0 hw [] b62 b48 b55 h62 n0 O62 A62 F62_positions F62_states g_b62) hZ (hw _ (List.mem_of_getElem? (i := 7) rfl)) (hw _ (List.mem_of_getElem? (i := 4) rfl)) (by decide) (by decide)) (g := (mkF m 197 #[.val (.int p0), .val (.int p1), .val (.int p2), .val (.int p3), .val (.int p4), .val (.int p5), .val (.int (2 : Int32)), .val (.int q0), .val (.int q1), .val (.int q2), .val (.int t0), .val (.int t1), .val (.int t2), .val (.ref b48), .val (.ref b55), .unset, .unset] [(.ref b55), (.ref b48), (.ref b62), (.ref b62)])) rfl (by rw [hml]; rfl) (Steps.refl _) (a := b62) (argsL := [(.ref b48), (.ref b55)]) (rest := [(.ref b62)]) (lenOf pd_rm0_0 rfl) rfl (by show 2 * 0 + _ ≤ _; exact Nat.le_of_eq rfl) (hb hby at_197) (fun _ _ => ⟨rfl, e62, (by decide : 3 + 0 ≤ _), (by decide : 6 + 0 ≤ _)⟩)
    dsimp only [Pt.U, Pt.locs, Pt.cells, Pt.slots] at X64 l64 y64 z64 st64 hQ64
    subst l64 y64 z64
    obtain ⟨rfl, Nq64, Kc64, f64_0, f64_1, f64_2⟩ := hQ64
    have N64 := Fr.app N61 Nq64
    have O64 := O62.keep Kc64 (allS g_b62 all0)
    have c65 : Arv Z T64.heap b48 k48 .int (2 : Int32) [(.int q0), (.int q1)] (.int (0 : Int32)) := ((c63.ext E62).keep Kc64 (ninS ne_b48_b62 nin0))
    obtain ⟨cq66, kq66, q66a, q66b, q66c⟩ := isOf hZ (rfl : T64.heap = T64.heap) f64_0
    obtain ⟨_, _, ⟨T66, L66, k66, n66⟩, -, X66, ⟨Lc66, hQ66, l66, y66, z66⟩, st66⟩ := X64.virtualBack hx (y := (⟨"com/example/odds_on_axioms/oddsonaxioms/network/Condition", "isEmpty", "()Z"⟩ : MethodName)) (z := (⟨"com/example/odds_on_axioms/oddsonaxioms/network/Condition", "isEmpty", "()Z"⟩ : MethodName)) hown (mvT hZ (hw _ (List.mem_of_getElem? (i := 15) rfl))) (mvT hZ (hw _ (List.mem_of_getElem? (i := 16) rfl))) (notFace_of_selects (args := #[]) (mvT hZ (hw _ (List.mem_of_getElem? (i := 18) rfl)))) (mvT hZ (hw _ (List.mem_of_getElem? (i := 18) rfl))) (mvT hZ (hw _ (List.mem_of_getElem? (i := 17) rfl))) (by decide) (backOf (W := 0) (rme2 l Z a0 hw [] b62 b48 k48 q0 q1 T64.heap n0 O64 f64_1 c65) hZ (hw _ (List.mem_of_getElem? (i := 19) rfl)) (hw _ (List.mem_of_getElem? (i := 4) rfl)) (by decide) (by decide)) q66a q66c (g := (mkF m 204 #[.val (.int p0), .val (.int p1), .val (.int p2), .val (.int p3), .val (.int p4), .val (.int p5), .val (.int (2 : Int32)), .val (.int q0), .val (.int q1), .val (.int q2), .val (.int t0), .val (.int t1), .val (.int t2), .val (.ref b48), .val (.ref b55), .val (.ref b62), .unset] [(.ref b62)])) rfl (by rw [hml]; rfl) (Steps.refl _) (argsL := []) (rest := []) (lenOf pd_rm0_1 rfl) rfl (by show 2 * 0 + _ ≤ _; exact Nat.le_of_eq rfl) (hb hby at_204) (fun _ _ => ⟨rfl, (rfl : T64.heap = T64.heap), (by decide : 3 + 0 ≤ _), (by decide : 6 + 0 ≤ _)⟩)
    dsimp only [Pt.U, Pt.locs, Pt.cells, Pt.slots] at X66 l66 y66 z66 st66 hQ66
    subst l66 y66 z66
    obtain ⟨rfl, Nq66, e66⟩ := hQ66
    have N66 := Fr.app N64 Nq66
    have c67 : Arv Z T64.heap b55 k55 .int (2 : Int32) [(.int t0), (.int t1)] (.int (0 : Int32)) := ((V61.ext E62).keep Kc64 (ninS ne_b55_b62 nin0))
    obtain ⟨cq68, kq68, q68a, q68b, q68c⟩ := isOf hZ e66 f64_0
    obtain ⟨_, _, ⟨T68, L68, k68, n68⟩, -, X68, ⟨Lc68, hQ68, l68, y68, z68⟩, st68⟩ := X66.virtualBack hx (y := (⟨"com/example/odds_on_axioms/oddsonaxioms/network/Condition", "state", "(I)I"⟩ : MethodName)) (z := (⟨"com/example/odds_on_axioms/oddsonaxioms/network/Condition", "state", "(I)I"⟩ : MethodName)) hown (mvT hZ (hw _ (List.mem_of_getElem? (i := 20) rfl))) (mvT hZ (hw _ (List.mem_of_getElem? (i := 21) rfl))) (notFace_of_selects (args := #[]) (mvT hZ (hw _ (List.mem_of_getElem? (i := 23) rfl)))) (mvT hZ (hw _ (List.mem_of_getElem? (i := 23) rfl))) (mvT hZ (hw _ (List.mem_of_getElem? (i := 22) rfl))) (by decide) (backOf (W := 0) (rms2 l Z a0 hw [] b62 q0 b48 b55 k48 k55 q1 t0 t1 T64.heap n0 O64 f64_1 f64_2 c65 c67) hZ (hw _ (List.mem_of_getElem? (i := 24) rfl)) (hw _ (List.mem_of_getElem? (i := 4) rfl)) (by decide) (by decide)) q68a q68c (g := (mkF m 248 #[.val (.int p0), .val (.int p1), .val (.int p2), .val (.int p3), .val (.int p4), .val (.int p5), .val (.int (2 : Int32)), .val (.int q0), .val (.int q1), .val (.int q2), .val (.int t0), .val (.int t1), .val (.int t2), .val (.ref b48), .val (.ref b55), .val (.ref b62), .val (.int (0 : Int32))] [(.int q0), (.ref b62)])) rfl (by rw [hml]; rfl) (Steps.refl _) (argsL := [(.int q0)]) (rest := []) (lenOf pd_rm0_2 rfl) rfl (by show 2 * 0 + _ ≤ _; exact Nat.le_of_eq rfl) (hb hby at_248) (fun _ _ => ⟨rfl, e66, (by decide : 3 + 0 ≤ _), (by decide : 6 + 0 ≤ _)⟩)
    dsimp only [Pt.U, Pt.locs, Pt.cells, Pt.slots] at X68 l68 y68 z68 st68 hQ68
    subst l68 y68 z68
    obtain ⟨rfl, Nq68, e68⟩ := hQ68
    have N68 := Fr.app N66 Nq68
    obtain ⟨_, _, ⟨T69, L69, k69, n69⟩, -, X69, ⟨Lc69, hQ69, l69, y69, z69⟩, st69⟩ := Jvm.LawKit.callS X68 hx (y := (⟨"com/example/odds_on_axioms/oddsonaxioms/network/Condition", "empty", "()Lcom/example/odds_on_axioms/oddsonaxioms/network/Condition;"⟩ : MethodName)) hown (mvT hZ (hw _ (List.mem_of_getElem? (i := 32) rfl))) (mvT hZ (hw _ (List.mem_of_getElem? (i := 33) rfl))) (mvT hZ (hw _ (List.mem_of_getElem? (i := 4) rfl))) (mvT hZ (hw _ (List.mem_of_getElem? (i := 34) rfl))) (by decide) (backOf (W := 0) (rm7 l Z a0 hw [] v_EMPTY T64.heap n0 O64 F0_) hZ (hw _ (List.mem_of_getElem? (i := 34) rfl)) (hw _ (List.mem_of_getElem? (i := 4) rfl)) (by decide) (by decide)) (g := (mkF m 258 #[.val (.int p0), .val (.int p1), .val (.int p2), .val (.int p3), .val (.int p4), .val (.int p5), .val (.int (2 : Int32)), .val (.int q0), .val (.int q1), .val (.int q2), .val (.int t0), .val (.int t1), .val (.int t2), .val (.ref b48), .val (.ref b55), .val (.ref b62), .val (.int (0 : Int32))] [])) rfl (by rw [hml]; rfl) (argsL := []) (rest := []) (lenOf pd_rm0_3 rfl) rfl (by show 2 * 0 + _ ≤ _; exact Nat.le_of_eq rfl) (hb hby at_258) (fun _ _ => ⟨rfl, e68, (by decide : 3 + 0 ≤ _), (by decide : 6 + 0 ≤ _)⟩)
    dsimp only [Pt.U, Pt.locs, Pt.cells, Pt.slots] at X69 l69 y69 z69 st69 hQ69
    subst l69 y69 z69
    obtain ⟨rfl, Nq69, e69⟩ := hQ69
    have N69 := Fr.app N68 Nq69
    obtain ⟨cq70, kq70, q70a, q70b, q70c⟩ := isOf hZ e69 (F1_.ext O64.2)
    obtain ⟨_, _, ⟨T70, L70, k70, n70⟩, -, X70, ⟨Lc70, hQ70, l70, y70, z70⟩, st70⟩ := X69.virtualBack hx (y := (⟨"com/example/odds_on_axioms/oddsonaxioms/network/Condition", "isEmpty", "()Z"⟩ : MethodName)) (z := (⟨"com/example/odds_on_axioms/oddsonaxioms/network/Condition", "isEmpty", "()Z"⟩ : MethodName)) hown (mvT hZ (hw _ (List.mem_of_getElem? (i := 15) rfl))) (mvT hZ (hw _ (List.mem_of_getElem? (i := 16) rfl))) (notFace_of_selects (args := #[]) (mvT hZ (hw _ (List.mem_of_getElem? (i := 18) rfl)))) (mvT hZ (hw _ (List.mem_of_getElem? (i := 18) rfl))) (mvT hZ (hw _ (List.mem_of_getElem? (i := 17) rfl))) (by decide) (backOf (W := 0) (rme0 l Z a0 hw [] v_EMPTY x_v_EMPTY_positions k_x_v_EMPTY_positions T64.heap n0 O64 (F2_.ext O64.2) (F3_.ext O64.2)) hZ (hw _ (List.mem_of_getElem? (i := 19) rfl)) (hw _ (List.mem_of_getElem? (i := 4) rfl)) (by decide) (by decide)) q70a q70c (g := (mkF m 261 #[.val (.int p0), .val (.int p1), .val (.int p2), .val (.int p3), .val (.int p4), .val (.int p5), .val (.int (2 : Int32)), .val (.int q0), .val (.int q1), .val (.int q2), .val (.int t0), .val (.int t1), .val (.int t2), .val (.ref b48), .val (.ref b55), .val (.ref b62), .val (.int (0 : Int32))] [(.ref v_EMPTY)])) rfl (by rw [hml]; rfl) (Steps.refl _) (argsL := []) (rest := []) (lenOf pd_rm0_1 rfl) rfl (by show 2 * 0 + _ ≤ _; exact Nat.le_of_eq rfl) (hb hby at_261) (fun _ _ => ⟨rfl, e69, (by decide : 3 + 0 ≤ _), (by decide : 6 + 0 ≤ _)⟩)
    dsimp only [Pt.U, Pt.locs, Pt.cells, Pt.slots] at X70 l70 y70 z70 st70 hQ70
    subst l70 y70 z70
    obtain ⟨rfl, Nq70, e70⟩ := hQ70
    have N70 := Fr.app N69 Nq70
    have s71 : Steps p.tables e below (s₁.setTop (entryFrame m #[(.int p0), (.int p1), (.int p2), (.int p3), (.int p4), (.int p5)] maxLocals)) (T70.setTop (mkF m 264 #[.val (.int p0), .val (.int p1), .val (.int p2), .val (.int p3), .val (.int p4), .val (.int p5), .val (.int (2 : Int32)), .val (.int q0), .val (.int q1), .val (.int q2), .val (.int t0), .val (.int t1), .val (.int t2), .val (.ref b48), .val (.ref b55), .val (.ref b62), .val (.int (0 : Int32))] [(.int (1 : Int32))])) := by
      refine s47.trans ?_
      show Steps p.tables e below (s₁.setTop (mkF m 65 #[.val (.int p0), .val (.int p1), .val (.int p2), .val (.int p3), .val (.int p4), .val (.int p5), .val (.int (2 : Int32)), .val (.int q0), .val (.int q1), .val (.int q2), .val (.int t0), .val (.int t1), .val (.int t2), .unset, .unset, .unset, .unset] [(.int (2 : Int32))])) _
      refine XS.ifYes X0.here hx rfl (pc0 := 65) (pc' := 81) rfl (hb hby at_65) rfl ((if0 _ _).trans (feq (by decide)).2) (by decide) (by decide) ?_
      show Steps p.tables e below (s₁.setTop (mkF m 81 #[.val (.int p0), .val (.int p1), .val (.int p2), .val (.int p3), .val (.int p4), .val (.int p5), .val (.int (2 : Int32)), .val (.int q0), .val (.int q1), .val (.int q2), .val (.int t0), .val (.int t1), .val (.int t2), .unset, .unset, .unset, .unset] [])) _
      refine XS.iload X0.here hx rfl (hb hby at_81) rfl ?_
      show Steps p.tables e below (s₁.setTop (mkF m 83 #[.val (.int p0), .val (.int p1), .val (.int p2), .val (.int p3), .val (.int p4), .val (.int p5), .val (.int (2 : Int32)), .val (.int q0), .val (.int q1), .val (.int q2), .val (.int t0), .val (.int t1), .val (.int t2), .unset, .unset, .unset, .unset] [(.int (2 : Int32))])) _
      refine XS.iconst X0.here hx rfl (hb hby at_83) ?_
      show Steps p.tables e below (s₁.setTop (mkF m 84 #[.val (.int p0), .val (.int p1), .val (.int p2), .val (.int p3), .val (.int p4), .val (.int p5), .val (.int (2 : Int32)), .val (.int q0), .val (.int q1), .val (.int q2), .val (.int t0), .val (.int t1), .val (.int t2), .unset, .unset, .unset, .unset] [(.int (1 : Int32)), (.int (2 : Int32))])) _
      refine XS.icmpYes X0.here hx rfl (pc0 := 84) (pc' := 110) rfl (hb hby at_84) rfl (feq (by decide)).2 (by decide) (by decide) ?_
      show Steps p.tables e below (s₁.setTop (mkF m 110 #[.val (.int p0), .val (.int p1), .val (.int p2), .val (.int p3), .val (.int p4), .val (.int p5), .val (.int (2 : Int32)), .val (.int q0), .val (.int q1), .val (.int q2), .val (.int t0), .val (.int t1), .val (.int t2), .unset, .unset, .unset, .unset] [])) _
      refine XS.iload X0.here hx rfl (hb hby at_110) rfl ?_
      show Steps p.tables e below (s₁.setTop (mkF m 112 #[.val (.int p0), .val (.int p1), .val (.int p2), .val (.int p3), .val (.int p4), .val (.int p5), .val (.int (2 : Int32)), .val (.int q0), .val (.int q1), .val (.int q2), .val (.int t0), .val (.int t1), .val (.int t2), .unset, .unset, .unset, .unset] [(.int (2 : Int32))])) _
      refine XS.iconst X0.here hx rfl (hb hby at_112) ?_
      show Steps p.tables e below (s₁.setTop (mkF m 113 #[.val (.int p0), .val (.int p1), .val (.int p2), .val (.int p3), .val (.int p4), .val (.int p5), .val (.int (2 : Int32)), .val (.int q0), .val (.int q1), .val (.int q2), .val (.int t0), .val (.int t1), .val (.int t2), .unset, .unset, .unset, .unset] [(.int (2 : Int32)), (.int (2 : Int32))])) _
      refine XS.icmpNo X0.here hx rfl (hb hby at_113) rfl (teq (by decide)).2 ?_
      show Steps p.tables e below (s₁.setTop (mkF m 116 #[.val (.int p0), .val (.int p1), .val (.int p2), .val (.int p3), .val (.int p4), .val (.int p5), .val (.int (2 : Int32)), .val (.int q0), .val (.int q1), .val (.int q2), .val (.int t0), .val (.int t1), .val (.int t2), .unset, .unset, .unset, .unset] [])) _
      refine XS.iconst X0.here hx rfl (hb hby at_116) ?_
      show Steps p.tables e below (s₁.setTop (mkF m 117 #[.val (.int p0), .val (.int p1), .val (.int p2), .val (.int p3), .val (.int p4), .val (.int p5), .val (.int (2 : Int32)), .val (.int q0), .val (.int q1), .val (.int q2), .val (.int t0), .val (.int t1), .val (.int t2), .unset, .unset, .unset, .unset] [(.int (2 : Int32))])) _
      refine st48 _ ?_
      show Steps p.tables e below (T48.setTop (mkF m 119 #[.val (.int p0), .val (.int p1), .val (.int p2), .val (.int p3), .val (.int p4), .val (.int p5), .val (.int (2 : Int32)), .val (.int q0), .val (.int q1), .val (.int q2), .val (.int t0), .val (.int t1), .val (.int t2), .unset, .unset, .unset, .unset] [(.ref b48)])) _
      refine XS.dup X48.here hx rfl (hb hby at_119) rfl rfl ?_
      show Steps p.tables e below (T48.setTop (mkF m 120 #[.val (.int p0), .val (.int p1), .val (.int p2), .val (.int p3), .val (.int p4), .val (.int p5), .val (.int (2 : Int32)), .val (.int q0), .val (.int q1), .val (.int q2), .val (.int t0), .val (.int t1), .val (.int t2), .unset, .unset, .unset, .unset] [(.ref b48), (.ref b48)])) _
      refine XS.iconst X48.here hx rfl (hb hby at_120) ?_
      show Steps p.tables e below (T48.setTop (mkF m 121 #[.val (.int p0), .val (.int p1), .val (.int p2), .val (.int p3), .val (.int p4), .val (.int p5), .val (.int (2 : Int32)), .val (.int q0), .val (.int q1), .val (.int q2), .val (.int t0), .val (.int t1), .val (.int t2), .unset, .unset, .unset, .unset] [(.int (0 : Int32)), (.ref b48), (.ref b48)])) _
      refine XS.iload X48.here hx rfl (hb hby at_121) rfl ?_
      show Steps p.tables e below (T48.setTop (mkF m 123 #[.val (.int p0), .val (.int p1), .val (.int p2), .val (.int p3), .val (.int p4), .val (.int p5), .val (.int (2 : Int32)), .val (.int q0), .val (.int q1), .val (.int q2), .val (.int t0), .val (.int t1), .val (.int t2), .unset, .unset, .unset, .unset] [(.int q0), (.int (0 : Int32)), (.ref b48), (.ref b48)])) _
      refine st51 _ ?_
      show Steps p.tables e below (T51.setTop (mkF m 124 #[.val (.int p0), .val (.int p1), .val (.int p2), .val (.int p3), .val (.int p4), .val (.int p5), .val (.int (2 : Int32)), .val (.int q0), .val (.int q1), .val (.int q2), .val (.int t0), .val (.int t1), .val (.int t2), .unset, .unset, .unset, .unset] [(.ref b48)])) _
      refine XS.dup X51.here hx rfl (hb hby at_124) rfl rfl ?_
      show Steps p.tables e below (T51.setTop (mkF m 125 #[.val (.int p0), .val (.int p1), .val (.int p2), .val (.int p3), .val (.int p4), .val (.int p5), .val (.int (2 : Int32)), .val (.int q0), .val (.int q1), .val (.int q2), .val (.int t0), .val (.int t1), .val (.int t2), .unset, .unset, .unset, .unset] [(.ref b48), (.ref b48)])) _
      refine XS.iconst X51.here hx rfl (hb hby at_125) ?_
      show Steps p.tables e below (T51.setTop (mkF m 126 #[.val (.int p0), .val (.int p1), .val (.int p2), .val (.int p3), .val (.int p4), .val (.int p5), .val (.int (2 : Int32)), .val (.int q0), .val (.int q1), .val (.int q2), .val (.int t0), .val (.int t1), .val (.int t2), .unset, .unset, .unset, .unset] [(.int (1 : Int32)), (.ref b48), (.ref b48)])) _
      refine XS.iload X51.here hx rfl (hb hby at_126) rfl ?_
      show Steps p.tables e below (T51.setTop (mkF m 128 #[.val (.int p0), .val (.int p1), .val (.int p2), .val (.int p3), .val (.int p4), .val (.int p5), .val (.int (2 : Int32)), .val (.int q0), .val (.int q1), .val (.int q2), .val (.int t0), .val (.int t1), .val (.int t2), .unset, .unset, .unset, .unset] [(.int q1), (.int (1 : Int32)), (.ref b48), (.ref b48)])) _
      refine st54 _ ?_
      show Steps p.tables e below (T54.setTop (mkF m 129 #[.val (.int p0), .val (.int p1), .val (.int p2), .val (.int p3), .val (.int p4), .val (.int p5), .val (.int (2 : Int32)), .val (.int q0), .val (.int q1), .val (.int q2), .val (.int t0), .val (.int t1), .val (.int t2), .unset, .unset, .unset, .unset] [(.ref b48)])) _
      refine XS.astore X54.here hx rfl (hb hby at_129) rfl rfl (l' := #[.val (.int p0), .val (.int p1), .val (.int p2), .val (.int p3), .val (.int p4), .val (.int p5), .val (.int (2 : Int32)), .val (.int q0), .val (.int q1), .val (.int q2), .val (.int t0), .val (.int t1), .val (.int t2), .val (.ref b48), .unset, .unset, .unset]) rfl ?_
      show Steps p.tables e below (T54.setTop (mkF m 131 #[.val (.int p0), .val (.int p1), .val (.int p2), .val (.int p3), .val (.int p4), .val (.int p5), .val (.int (2 : Int32)), .val (.int q0), .val (.int q1), .val (.int q2), .val (.int t0), .val (.int t1), .val (.int t2), .val (.ref b48), .unset, .unset, .unset] [])) _
      refine XS.iconst X54.here hx rfl (hb hby at_131) ?_
      show Steps p.tables e below (T54.setTop (mkF m 132 #[.val (.int p0), .val (.int p1), .val (.int p2), .val (.int p3), .val (.int p4), .val (.int p5), .val (.int (2 : Int32)), .val (.int q0), .val (.int q1), .val (.int q2), .val (.int t0), .val (.int t1), .val (.int t2), .val (.ref b48), .unset, .unset, .unset] [(.int (2 : Int32))])) _
      refine st55 _ ?_
      show Steps p.tables e below (T55.setTop (mkF m 134 #[.val (.int p0), .val (.int p1), .val (.int p2), .val (.int p3), .val (.int p4), .val (.int p5), .val (.int (2 : Int32)), .val (.int q0), .val (.int q1), .val (.int q2), .val (.int t0), .val (.int t1), .val (.int t2), .val (.ref b48), .unset, .unset, .unset] [(.ref b55)])) _
      refine XS.dup X55.here hx rfl (hb hby at_134) rfl rfl ?_
      show Steps p.tables e below (T55.setTop (mkF m 135 #[.val (.int p0), .val (.int p1), .val (.int p2), .val (.int p3), .val (.int p4), .val (.int p5), .val (.int (2 : Int32)), .val (.int q0), .val (.int q1), .val (.int q2), .val (.int t0), .val (.int t1), .val (.int t2), .val (.ref b48), .unset, .unset, .unset] [(.ref b55), (.ref b55)])) _
      refine XS.iconst X55.here hx rfl (hb hby at_135) ?_
      show Steps p.tables e below (T55.setTop (mkF m 136 #[.val (.int p0), .val (.int p1), .val (.int p2), .val (.int p3), .val (.int p4), .val (.int p5), .val (.int (2 : Int32)), .val (.int q0), .val (.int q1), .val (.int q2), .val (.int t0), .val (.int t1), .val (.int t2), .val (.ref b48), .unset, .unset, .unset] [(.int (0 : Int32)), (.ref b55), (.ref b55)])) _
      refine XS.iload X55.here hx rfl (hb hby at_136) rfl ?_
      show Steps p.tables e below (T55.setTop (mkF m 138 #[.val (.int p0), .val (.int p1), .val (.int p2), .val (.int p3), .val (.int p4), .val (.int p5), .val (.int (2 : Int32)), .val (.int q0), .val (.int q1), .val (.int q2), .val (.int t0), .val (.int t1), .val (.int t2), .val (.ref b48), .unset, .unset, .unset] [(.int t0), (.int (0 : Int32)), (.ref b55), (.ref b55)])) _
      refine st58 _ ?_
      show Steps p.tables e below (T58.setTop (mkF m 139 #[.val (.int p0), .val (.int p1), .val (.int p2), .val (.int p3), .val (.int p4), .val (.int p5), .val (.int (2 : Int32)), .val (.int q0), .val (.int q1), .val (.int q2), .val (.int t0), .val (.int t1), .val (.int t2), .val (.ref b48), .unset, .unset, .unset] [(.ref b55)])) _
      refine XS.dup X58.here hx rfl (hb hby at_139) rfl rfl ?_
      show Steps p.tables e below (T58.setTop (mkF m 140 #[.val (.int p0), .val (.int p1), .val (.int p2), .val (.int p3), .val (.int p4), .val (.int p5), .val (.int (2 : Int32)), .val (.int q0), .val (.int q1), .val (.int q2), .val (.int t0), .val (.int t1), .val (.int t2), .val (.ref b48), .unset, .unset, .unset] [(.ref b55), (.ref b55)])) _
      refine XS.iconst X58.here hx rfl (hb hby at_140) ?_
      show Steps p.tables e below (T58.setTop (mkF m 141 #[.val (.int p0), .val (.int p1), .val (.int p2), .val (.int p3), .val (.int p4), .val (.int p5), .val (.int (2 : Int32)), .val (.int q0), .val (.int q1), .val (.int q2), .val (.int t0), .val (.int t1), .val (.int t2), .val (.ref b48), .unset, .unset, .unset] [(.int (1 : Int32)), (.ref b55), (.ref b55)])) _
      refine XS.iload X58.here hx rfl (hb hby at_141) rfl ?_
      show Steps p.tables e below (T58.setTop (mkF m 143 #[.val (.int p0), .val (.int p1), .val (.int p2), .val (.int p3), .val (.int p4), .val (.int p5), .val (.int (2 : Int32)), .val (.int q0), .val (.int q1), .val (.int q2), .val (.int t0), .val (.int t1), .val (.int t2), .val (.ref b48), .unset, .unset, .unset] [(.int t1), (.int (1 : Int32)), (.ref b55), (.ref b55)])) _
      refine st61 _ ?_
      show Steps p.tables e below (T61.setTop (mkF m 144 #[.val (.int p0), .val (.int p1), .val (.int p2), .val (.int p3), .val (.int p4), .val (.int p5), .val (.int (2 : Int32)), .val (.int q0), .val (.int q1), .val (.int q2), .val (.int t0), .val (.int t1), .val (.int t2), .val (.ref b48), .unset, .unset, .unset] [(.ref b55)])) _
      refine XS.astore X61.here hx rfl (hb hby at_144) rfl rfl (l' := #[.val (.int p0), .val (.int p1), .val (.int p2), .val (.int p3), .val (.int p4), .val (.int p5), .val (.int (2 : Int32)), .val (.int q0), .val (.int q1), .val (.int q2), .val (.int t0), .val (.int t1), .val (.int t2), .val (.ref b48), .val (.ref b55), .unset, .unset]) rfl ?_
      show Steps p.tables e below (T61.setTop (mkF m 146 #[.val (.int p0), .val (.int p1), .val (.int p2), .val (.int p3), .val (.int p4), .val (.int p5), .val (.int (2 : Int32)), .val (.int q0), .val (.int q1), .val (.int q2), .val (.int t0), .val (.int t1), .val (.int t2), .val (.ref b48), .val (.ref b55), .unset, .unset] [])) _
      refine XS.goto X61.here hx rfl (pc0 := 146) (pc' := 189) rfl (hb hby at_146) (by decide) (by decide) ?_
      show Steps p.tables e below (T61.setTop (mkF m 189 #[.val (.int p0), .val (.int p1), .val (.int p2), .val (.int p3), .val (.int p4), .val (.int p5), .val (.int (2 : Int32)), .val (.int q0), .val (.int q1), .val (.int q2), .val (.int t0), .val (.int t1), .val (.int t2), .val (.ref b48), .val (.ref b55), .unset, .unset] [])) _
      refine st62 _ ?_
      show Steps p.tables e below (T62.setTop (mkF m 192 #[.val (.int p0), .val (.int p1), .val (.int p2), .val (.int p3), .val (.int p4), .val (.int p5), .val (.int (2 : Int32)), .val (.int q0), .val (.int q1), .val (.int q2), .val (.int t0), .val (.int t1), .val (.int t2), .val (.ref b48), .val (.ref b55), .unset, .unset] [(.ref b62)])) _
      refine XS.dup X62.here hx rfl (hb hby at_192) rfl rfl ?_
      show Steps p.tables e below (T62.setTop (mkF m 193 #[.val (.int p0), .val (.int p1), .val (.int p2), .val (.int p3), .val (.int p4), .val (.int p5), .val (.int (2 : Int32)), .val (.int q0), .val (.int q1), .val (.int q2), .val (.int t0), .val (.int t1), .val (.int t2), .val (.ref b48), .val (.ref b55), .unset, .unset] [(.ref b62), (.ref b62)])) _
      refine XS.aload X62.here hx rfl (hb hby at_193) rfl rfl ?_
      show Steps p.tables e below (T62.setTop (mkF m 195 #[.val (.int p0), .val (.int p1), .val (.int p2), .val (.int p3), .val (.int p4), .val (.int p5), .val (.int (2 : Int32)), .val (.int q0), .val (.int q1), .val (.int q2), .val (.int t0), .val (.int t1), .val (.int t2), .val (.ref b48), .val (.ref b55), .unset, .unset] [(.ref b48), (.ref b62), (.ref b62)])) _
      refine XS.aload X62.here hx rfl (hb hby at_195) rfl rfl ?_
      show Steps p.tables e below (T62.setTop (mkF m 197 #[.val (.int p0), .val (.int p1), .val (.int p2), .val (.int p3), .val (.int p4), .val (.int p5), .val (.int (2 : Int32)), .val (.int q0), .val (.int q1), .val (.int q2), .val (.int t0), .val (.int t1), .val (.int t2), .val (.ref b48), .val (.ref b55), .unset, .unset] [(.ref b55), (.ref b48), (.ref b62), (.ref b62)])) _
      refine st64.trans ?_
      show Steps p.tables e below (T64.setTop (mkF m 200 #[.val (.int p0), .val (.int p1), .val (.int p2), .val (.int p3), .val (.int p4), .val (.int p5), .val (.int (2 : Int32)), .val (.int q0), .val (.int q1), .val (.int q2), .val (.int t0), .val (.int t1), .val (.int t2), .val (.ref b48), .val (.ref b55), .unset, .unset] [(.ref b62)])) _
      refine XS.astore X64.here hx rfl (hb hby at_200) rfl rfl (l' := #[.val (.int p0), .val (.int p1), .val (.int p2), .val (.int p3), .val (.int p4), .val (.int p5), .val (.int (2 : Int32)), .val (.int q0), .val (.int q1), .val (.int q2), .val (.int t0), .val (.int t1), .val (.int t2), .val (.ref b48), .val (.ref b55), .val (.ref b62), .unset]) rfl ?_
      show Steps p.tables e below (T64.setTop (mkF m 202 #[.val (.int p0), .val (.int p1), .val (.int p2), .val (.int p3), .val (.int p4), .val (.int p5), .val (.int (2 : Int32)), .val (.int q0), .val (.int q1), .val (.int q2), .val (.int t0), .val (.int t1), .val (.int t2), .val (.ref b48), .val (.ref b55), .val (.ref b62), .unset] [])) _
      refine XS.aload X64.here hx rfl (hb hby at_202) rfl rfl ?_
      show Steps p.tables e below (T64.setTop (mkF m 204 #[.val (.int p0), .val (.int p1), .val (.int p2), .val (.int p3), .val (.int p4), .val (.int p5), .val (.int (2 : Int32)), .val (.int q0), .val (.int q1), .val (.int q2), .val (.int t0), .val (.int t1), .val (.int t2), .val (.ref b48), .val (.ref b55), .val (.ref b62), .unset] [(.ref b62)])) _
      refine st66.trans ?_
      show Steps p.tables e below (T66.setTop (mkF m 207 #[.val (.int p0), .val (.int p1), .val (.int p2), .val (.int p3), .val (.int p4), .val (.int p5), .val (.int (2 : Int32)), .val (.int q0), .val (.int q1), .val (.int q2), .val (.int t0), .val (.int t1), .val (.int t2), .val (.ref b48), .val (.ref b55), .val (.ref b62), .unset] [(.int (0 : Int32))])) _
      refine XS.istore X66.here hx rfl (hb hby at_207) rfl (l' := #[.val (.int p0), .val (.int p1), .val (.int p2), .val (.int p3), .val (.int p4), .val (.int p5), .val (.int (2 : Int32)), .val (.int q0), .val (.int q1), .val (.int q2), .val (.int t0), .val (.int t1), .val (.int t2), .val (.ref b48), .val (.ref b55), .val (.ref b62), .val (.int (0 : Int32))]) rfl ?_
      show Steps p.tables e below (T66.setTop (mkF m 209 #[.val (.int p0), .val (.int p1), .val (.int p2), .val (.int p3), .val (.int p4), .val (.int p5), .val (.int (2 : Int32)), .val (.int q0), .val (.int q1), .val (.int q2), .val (.int t0), .val (.int t1), .val (.int t2), .val (.ref b48), .val (.ref b55), .val (.ref b62), .val (.int (0 : Int32))] [])) _
      refine XS.iload X66.here hx rfl (hb hby at_209) rfl ?_
      show Steps p.tables e below (T66.setTop (mkF m 211 #[.val (.int p0), .val (.int p1), .val (.int p2), .val (.int p3), .val (.int p4), .val (.int p5), .val (.int (2 : Int32)), .val (.int q0), .val (.int q1), .val (.int q2), .val (.int t0), .val (.int t1), .val (.int t2), .val (.ref b48), .val (.ref b55), .val (.ref b62), .val (.int (0 : Int32))] [(.int (0 : Int32))])) _
      refine XS.iload X66.here hx rfl (hb hby at_211) rfl ?_
      show Steps p.tables e below (T66.setTop (mkF m 213 #[.val (.int p0), .val (.int p1), .val (.int p2), .val (.int p3), .val (.int p4), .val (.int p5), .val (.int (2 : Int32)), .val (.int q0), .val (.int q1), .val (.int q2), .val (.int t0), .val (.int t1), .val (.int t2), .val (.ref b48), .val (.ref b55), .val (.ref b62), .val (.int (0 : Int32))] [(.int (2 : Int32)), (.int (0 : Int32))])) _
      refine XS.ifYes X66.here hx rfl (pc0 := 213) (pc' := 220) rfl (hb hby at_213) rfl ((if0 _ _).trans (feq (by decide)).2) (by decide) (by decide) ?_
      show Steps p.tables e below (T66.setTop (mkF m 220 #[.val (.int p0), .val (.int p1), .val (.int p2), .val (.int p3), .val (.int p4), .val (.int p5), .val (.int (2 : Int32)), .val (.int q0), .val (.int q1), .val (.int q2), .val (.int t0), .val (.int t1), .val (.int t2), .val (.ref b48), .val (.ref b55), .val (.ref b62), .val (.int (0 : Int32))] [(.int (0 : Int32))])) _
      refine XS.iconst X66.here hx rfl (hb hby at_220) ?_
      show Steps p.tables e below (T66.setTop (mkF m 221 #[.val (.int p0), .val (.int p1), .val (.int p2), .val (.int p3), .val (.int p4), .val (.int p5), .val (.int (2 : Int32)), .val (.int q0), .val (.int q1), .val (.int q2), .val (.int t0), .val (.int t1), .val (.int t2), .val (.ref b48), .val (.ref b55), .val (.ref b62), .val (.int (0 : Int32))] [(.int (0 : Int32)), (.int (0 : Int32))])) _
      refine XS.icmpYes X66.here hx rfl (pc0 := 221) (pc' := 226) rfl (hb hby at_221) rfl (teq (by decide)).1 (by decide) (by decide) ?_
      show Steps p.tables e below (T66.setTop (mkF m 226 #[.val (.int p0), .val (.int p1), .val (.int p2), .val (.int p3), .val (.int p4), .val (.int p5), .val (.int (2 : Int32)), .val (.int q0), .val (.int q1), .val (.int q2), .val (.int t0), .val (.int t1), .val (.int t2), .val (.ref b48), .val (.ref b55), .val (.ref b62), .val (.int (0 : Int32))] [])) _
      refine XS.iload X66.here hx rfl (hb hby at_226) rfl ?_
      show Steps p.tables e below (T66.setTop (mkF m 228 #[.val (.int p0), .val (.int p1), .val (.int p2), .val (.int p3), .val (.int p4), .val (.int p5), .val (.int (2 : Int32)), .val (.int q0), .val (.int q1), .val (.int q2), .val (.int t0), .val (.int t1), .val (.int t2), .val (.ref b48), .val (.ref b55), .val (.ref b62), .val (.int (0 : Int32))] [(.int (0 : Int32))])) _
      refine XS.ifYes X66.here hx rfl (pc0 := 228) (pc' := 244) rfl (hb hby at_228) rfl ((if0 _ _).trans (teq (by decide)).1) (by decide) (by decide) ?_
      show Steps p.tables e below (T66.setTop (mkF m 244 #[.val (.int p0), .val (.int p1), .val (.int p2), .val (.int p3), .val (.int p4), .val (.int p5), .val (.int (2 : Int32)), .val (.int q0), .val (.int q1), .val (.int q2), .val (.int t0), .val (.int t1), .val (.int t2), .val (.ref b48), .val (.ref b55), .val (.ref b62), .val (.int (0 : Int32))] [])) _
      refine XS.aload X66.here hx rfl (hb hby at_244) rfl rfl ?_
      show Steps p.tables e below (T66.setTop (mkF m 246 #[.val (.int p0), .val (.int p1), .val (.int p2), .val (.int p3), .val (.int p4), .val (.int p5), .val (.int (2 : Int32)), .val (.int q0), .val (.int q1), .val (.int q2), .val (.int t0), .val (.int t1), .val (.int t2), .val (.ref b48), .val (.ref b55), .val (.ref b62), .val (.int (0 : Int32))] [(.ref b62)])) _
      refine XS.iload X66.here hx rfl (hb hby at_246) rfl ?_
      show Steps p.tables e below (T66.setTop (mkF m 248 #[.val (.int p0), .val (.int p1), .val (.int p2), .val (.int p3), .val (.int p4), .val (.int p5), .val (.int (2 : Int32)), .val (.int q0), .val (.int q1), .val (.int q2), .val (.int t0), .val (.int t1), .val (.int t2), .val (.ref b48), .val (.ref b55), .val (.ref b62), .val (.int (0 : Int32))] [(.int q0), (.ref b62)])) _
      refine st68.trans ?_
      show Steps p.tables e below (T68.setTop (mkF m 251 #[.val (.int p0), .val (.int p1), .val (.int p2), .val (.int p3), .val (.int p4), .val (.int p5), .val (.int (2 : Int32)), .val (.int q0), .val (.int q1), .val (.int q2), .val (.int t0), .val (.int t1), .val (.int t2), .val (.ref b48), .val (.ref b55), .val (.ref b62), .val (.int (0 : Int32))] [(.int t0)])) _
      refine XS.iload X68.here hx rfl (hb hby at_251) rfl ?_
      show Steps p.tables e below (T68.setTop (mkF m 253 #[.val (.int p0), .val (.int p1), .val (.int p2), .val (.int p3), .val (.int p4), .val (.int p5), .val (.int (2 : Int32)), .val (.int q0), .val (.int q1), .val (.int q2), .val (.int t0), .val (.int t1), .val (.int t2), .val (.ref b48), .val (.ref b55), .val (.ref b62), .val (.int (0 : Int32))] [(.int t0), (.int t0)])) _
      refine XS.icmpYes X68.here hx rfl (pc0 := 253) (pc' := 258) rfl (hb hby at_253) rfl (teq rfl).1 (by decide) (by decide) ?_
      show Steps p.tables e below (T68.setTop (mkF m 258 #[.val (.int p0), .val (.int p1), .val (.int p2), .val (.int p3), .val (.int p4), .val (.int p5), .val (.int (2 : Int32)), .val (.int q0), .val (.int q1), .val (.int q2), .val (.int t0), .val (.int t1), .val (.int t2), .val (.ref b48), .val (.ref b55), .val (.ref b62), .val (.int (0 : Int32))] [])) _
      refine st69 _ ?_
      show Steps p.tables e below (T69.setTop (mkF m 261 #[.val (.int p0), .val (.int p1), .val (.int p2), .val (.int p3), .val (.int p4), .val (.int p5), .val (.int (2 : Int32)), .val (.int q0), .val (.int q1), .val (.int q2), .val (.int t0), .val (.int t1), .val (.int t2), .val (.ref b48), .val (.ref b55), .val (.ref b62), .val (.int (0 : Int32))] [(.ref v_EMPTY)])) _
      refine st70.trans ?_
      exact Steps.refl _
    obtain ⟨fs, hr, hrun, hended, hW, hsame⟩ := X70.leave (v := some (.int (1 : Int32))) (fun h => by rw [Bd.returns] at h; cases h)
    refine ⟨_, _, s71.trans ?_, hrun, hended, _, _, rfl, ?_, ⟨_, rfl⟩, hW, hsame.mono (by decide) (by decide)⟩
    · show Steps p.tables e below (T70.setTop (mkF m 264 #[.val (.int p0), .val (.int p1), .val (.int p2), .val (.int p3), .val (.int p4), .val (.int p5), .val (.int (2 : Int32)), .val (.int q0), .val (.int q1), .val (.int q2), .val (.int t0), .val (.int t1), .val (.int t2), .val (.ref b48), .val (.ref b55), .val (.ref b62), .val (.int (0 : Int32))] [(.int (1 : Int32))])) _
      exact retN X70 hx (t := .boolean) Bd.returns (by simp) (hb hby at_264) hr
    · show Q0 Z p0 p1 p2 p3 p4 p5 v_EMPTY x_v_EMPTY_positions k_x_v_EMPTY_positions h0 n0 _ T70.heap _
      rw [e70]
      exact ⟨rfl, N70⟩
  · have s72 := s13
    rw [hk14] at s72
    obtain ⟨T73, h73, k73, X73, e73, E73, A73, st73⟩ := newP X0 hx hZ (hw _ (List.mem_of_getElem? (i := 1) rfl)) e0 (g := (mkF m 150 #[.val (.int p0), .val (.int p1), .val (.int p2), .val (.int p3), .val (.int p4), .val (.int p5), .val (.int (3 : Int32)), .val (.int q0), .val (.int q1), .val (.int q2), .val (.int t0), .val (.int t1), .val (.int t2), .unset, .unset, .unset, .unset] [(.int (3 : Int32))])) rfl (hb hby at_150) rfl (by decide) (cap := 3) (by decide) (by decide) (by decide) (by decide)
    obtain ⟨b73, g73⟩ : ∃ z, z = h0.size := ⟨_, rfl⟩
    rw [← g73] at A73 st73
    have g_b73 : n0 ≤ b73 := Nat.le_trans (Nat.le_of_eq O0.1.symm) (Nat.le_trans O0.2.1 (Nat.le_of_eq g73.symm))
    have O73 := O0.ext E73
    have V73 : Arv Z h73 b73 k73 .int (3 : Int32) [(.int (0 : Int32)), (.int (0 : Int32)), (.int (0 : Int32))] (.int (0 : Int32)) := (Arv.new A73 (by decide)).pad (pad_rep [] (.int (0 : Int32)) 3)
    obtain ⟨cla74, Ara74, qa74, Sa74, Za74, Ha74, Ga74⟩ := id V73
    have hin75 : ¬ ((0 : Int32) < 0 ∨ cla74.slots.size ≤ ((0 : Int32)).toNatClampNeg) := inb_of Sa74 ⟨by decide, by decide⟩
    obtain ⟨T76, h76, X76, e76, W76, st76⟩ := stI X73 hx hZ e73 Ara74 (j := (0 : Int32)) hin75 (g := (mkF m 156 #[.val (.int p0), .val (.int p1), .val (.int p2), .val (.int p3), .val (.int p4), .val (.int p5), .val (.int (3 : Int32)), .val (.int q0), .val (.int q1), .val (.int q2), .val (.int t0), .val (.int t1), .val (.int t2), .unset, .unset, .unset, .unset] [(.int q0), (.int (0 : Int32)), (.ref b73), (.ref b73)])) rfl rfl (hb hby at_156)
    have O76 := O73.wr W76 g_b73
    have N76 := Fr.snoc X76 N0 g_b73
    have V76 : Arv Z h76 b73 k73 .int (3 : Int32) [(.int q0), (.int (0 : Int32)), (.int (0 : Int32))] (.int (0 : Int32)) := Arv.set Ara74 qa74 Sa74 Za74 Ha74 Ga74 rfl W76 0 rfl (Nat.le_of_ble_eq_true rfl)
    obtain ⟨cla77, Ara77, qa77, Sa77, Za77, Ha77, Ga77⟩ := id V76
    have hin78 : ¬ ((1 : Int32) < 0 ∨ cla77.slots.size ≤ ((1 : Int32)).toNatClampNeg) := inb_of Sa77 ⟨by decide, by decide⟩
    obtain ⟨T79, h79, X79, e79, W79, st79⟩ := stI X76 hx hZ e76 Ara77 (j := (1 : Int32)) hin78 (g := (mkF m 161 #[.val (.int p0), .val (.int p1), .val (.int p2), .val (.int p3), .val (.int p4), .val (.int p5), .val (.int (3 : Int32)), .val (.int q0), .val (.int q1), .val (.int q2), .val (.int t0), .val (.int t1), .val (.int t2), .unset, .unset, .unset, .unset] [(.int q1), (.int (1 : Int32)), (.ref b73), (.ref b73)])) rfl rfl (hb hby at_161)
    have O79 := O76.wr W79 g_b73
    have N79 := Fr.snoc X79 N76 g_b73
    have V79 : Arv Z h79 b73 k73 .int (3 : Int32) [(.int q0), (.int q1), (.int (0 : Int32))] (.int (0 : Int32)) := Arv.set Ara77 qa77 Sa77 Za77 Ha77 Ga77 rfl W79 1 rfl (Nat.le_of_ble_eq_true rfl)
    obtain ⟨cla80, Ara80, qa80, Sa80, Za80, Ha80, Ga80⟩ := id V79
    have hin81 : ¬ ((2 : Int32) < 0 ∨ cla80.slots.size ≤ ((2 : Int32)).toNatClampNeg) := inb_of Sa80 ⟨by decide, by decide⟩
    obtain ⟨T82, h82, X82, e82, W82, st82⟩ := stI X79 hx hZ e79 Ara80 (j := (2 : Int32)) hin81 (g := (mkF m 166 #[.val (.int p0), .val (.int p1), .val (.int p2), .val (.int p3), .val (.int p4), .val (.int p5), .val (.int (3 : Int32)), .val (.int q0), .val (.int q1), .val (.int q2), .val (.int t0), .val (.int t1), .val (.int t2), .unset, .unset, .unset, .unset] [(.int q2), (.int (2 : Int32)), (.ref b73), (.ref b73)])) rfl rfl (hb hby at_166)
    have O82 := O79.wr W82 g_b73
    have N82 := Fr.snoc X82 N79 g_b73
    have V82 : Arv Z h82 b73 k73 .int (3 : Int32) [(.int q0), (.int q1), (.int q2)] (.int (0 : Int32)) := Arv.set Ara80 qa80 Sa80 Za80 Ha80 Ga80 rfl W82 2 rfl (Nat.le_of_ble_eq_true rfl)
    obtain ⟨T83, h83, k83, X83, e83, E83, A83, st83⟩ := newP X82 hx hZ (hw _ (List.mem_of_getElem? (i := 1) rfl)) e82 (g := (mkF m 170 #[.val (.int p0), .val (.int p1), .val (.int p2), .val (.int p3), .val (.int p4), .val (.int p5), .val (.int (3 : Int32)), .val (.int q0), .val (.int q1), .val (.int q2), .val (.int t0), .val (.int t1), .val (.int t2), .val (.ref b73), .unset, .unset, .unset] [(.int (3 : Int32))])) rfl (hb hby at_170) rfl (by decide) (cap := 3) (by decide) (by decide) (by decide) (by decide)
    obtain ⟨b83, g83⟩ : ∃ z, z = h82.size := ⟨_, rfl⟩
    rw [← g83] at A83 st83
    have ne_b73_b83 : b73 ≠ b83 := Nat.ne_of_lt (Nat.lt_of_lt_of_le V82.lt (Nat.le_of_eq g83.symm))
    have g_b83 : n0 ≤ b83 := Nat.le_trans (Nat.le_of_eq O82.1.symm) (Nat.le_trans O82.2.1 (Nat.le_of_eq g83.symm))
    have O83 := O82.ext E83
    have V83 : Arv Z h83 b83 k83 .int (3 : Int32) [(.int (0 : Int32)), (.int (0 : Int32)), (.int (0 : Int32))] (.int (0 : Int32)) := (Arv.new A83 (by decide)).pad (pad_rep [] (.int (0 : Int32)) 3)
    obtain ⟨cla84, Ara84, qa84, Sa84, Za84, Ha84, Ga84⟩ := id V83
    have hin85 : ¬ ((0 : Int32) < 0 ∨ cla84.slots.size ≤ ((0 : Int32)).toNatClampNeg) := inb_of Sa84 ⟨by decide, by decide⟩
    obtain ⟨T86, h86, X86, e86, W86, st86⟩ := stI X83 hx hZ e83 Ara84 (j := (0 : Int32)) hin85 (g := (mkF m 176 #[.val (.int p0), .val (.int p1), .val (.int p2), .val (.int p3), .val (.int p4), .val (.int p5), .val (.int (3 : Int32)), .val (.int q0), .val (.int q1), .val (.int q2), .val (.int t0), .val (.int t1), .val (.int t2), .val (.ref b73), .unset, .unset, .unset] [(.int t0), (.int (0 : Int32)), (.ref b83), (.ref b83)])) rfl rfl (hb hby at_176)
    have O86 := O83.wr W86 g_b83
    have N86 := Fr.snoc X86 N82 g_b83
    have V86 : Arv Z h86 b83 k83 .int (3 : Int32) [(.int t0), (.int (0 : Int32)), (.int (0 : Int32))] (.int (0 : Int32)) := Arv.set Ara84 qa84 Sa84 Za84 Ha84 Ga84 rfl W86 0 rfl (Nat.le_of_ble_eq_true rfl)
    obtain ⟨cla87, Ara87, qa87, Sa87, Za87, Ha87, Ga87⟩ := id V86
    have hin88 : ¬ ((1 : Int32) < 0 ∨ cla87.slots.size ≤ ((1 : Int32)).toNatClampNeg) := inb_of Sa87 ⟨by decide, by decide⟩
    obtain ⟨T89, h89, X89, e89, W89, st89⟩ := stI X86 hx hZ e86 Ara87 (j := (1 : Int32)) hin88 (g := (mkF m 181 #[.val (.int p0), .val (.int p1), .val (.int p2), .val (.int p3), .val (.int p4), .val (.int p5), .val (.int (3 : Int32)), .val (.int q0), .val (.int q1), .val (.int q2), .val (.int t0), .val (.int t1), .val (.int t2), .val (.ref b73), .unset, .unset, .unset] [(.int t1), (.int (1 : Int32)), (.ref b83), (.ref b83)])) rfl rfl (hb hby at_181)
    have O89 := O86.wr W89 g_b83
    have N89 := Fr.snoc X89 N86 g_b83
    have V89 : Arv Z h89 b83 k83 .int (3 : Int32) [(.int t0), (.int t1), (.int (0 : Int32))] (.int (0 : Int32)) := Arv.set Ara87 qa87 Sa87 Za87 Ha87 Ga87 rfl W89 1 rfl (Nat.le_of_ble_eq_true rfl)
    obtain ⟨cla90, Ara90, qa90, Sa90, Za90, Ha90, Ga90⟩ := id V89
    have hin91 : ¬ ((2 : Int32) < 0 ∨ cla90.slots.size ≤ ((2 : Int32)).toNatClampNeg) := inb_of Sa90 ⟨by decide, by decide⟩
    obtain ⟨T92, h92, X92, e92, W92, st92⟩ := stI X89 hx hZ e89 Ara90 (j := (2 : Int32)) hin91 (g := (mkF m 186 #[.val (.int p0), .val (.int p1), .val (.int p2), .val (.int p3), .val (.int p4), .val (.int p5), .val (.int (3 : Int32)), .val (.int q0), .val (.int q1), .val (.int q2), .val (.int t0), .val (.int t1), .val (.int t2), .val (.ref b73), .unset, .unset, .unset] [(.int t2), (.int (2 : Int32)), (.ref b83), (.ref b83)])) rfl rfl (hb hby at_186)
    have O92 := O89.wr W92 g_b83
    have N92 := Fr.snoc X92 N89 g_b83
    have V92 : Arv Z h92 b83 k83 .int (3 : Int32) [(.int t0), (.int t1), (.int t2)] (.int (0 : Int32)) := Arv.set Ara90 qa90 Sa90 Za90 Ha90 Ga90 rfl W92 2 rfl (Nat.le_of_ble_eq_true rfl)
    obtain ⟨T93, h93, X93, e93, E93, A93, D93, -, st93⟩ := newO X92 hx hZ hown (hw _ (List.mem_of_getElem? (i := 2) rfl)) (hw _ (List.mem_of_getElem? (i := 3) rfl)) (hw _ (List.mem_of_getElem? (i := 4) rfl)) e92 (g := (mkF m 189 #[.val (.int p0), .val (.int p1), .val (.int p2), .val (.int p3), .val (.int p4), .val (.int p5), .val (.int (3 : Int32)), .val (.int q0), .val (.int q1), .val (.int q2), .val (.int t0), .val (.int t1), .val (.int t2), .val (.ref b73), .val (.ref b83), .unset, .unset] [])) rfl (hb hby at_189) (by decide) (by decide)
    obtain ⟨b93, g93⟩ : ∃ z, z = h92.size := ⟨_, rfl⟩
    rw [← g93] at A93 D93 st93
    have c94 : Arv Z h92 b73 k73 .int (3 : Int32) [(.int q0), (.int q1), (.int q2)] (.int (0 : Int32)) := ((((V82.ext E83).other W86 ne_b73_b83).other W89 ne_b73_b83).other W92 ne_b73_b83)
    have ne_b73_b93 : b73 ≠ b93 := Nat.ne_of_lt (Nat.lt_of_lt_of_le c94.lt (Nat.le_of_eq g93.symm))
    have ne_b83_b93 : b83 ≠ b93 := Nat.ne_of_lt (Nat.lt_of_lt_of_le V92.lt (Nat.le_of_eq g93.symm))
    have g_b93 : n0 ≤ b93 := Nat.le_trans (Nat.le_of_eq O92.1.symm) (Nat.le_trans O92.2.1 (Nat.le_of_eq g93.symm))
    have O93 := O92.ext E93
    have F93_positions : Fld Z h93 b93 "com/example/odds_on_axioms/oddsonaxioms/network/Condition" "positions" "[I" .null := D93 (Or.inr (hw _ (List.mem_of_getElem? (i := 12) rfl))) (ty := (.array .int)) (by decide)
    have F93_states : Fld Z h93 b93 "com/example/odds_on_axioms/oddsonaxioms/network/Condition" "states" "[I" .null := D93 (Or.inr (hw _ (List.mem_of_getElem? (i := 14) rfl))) (ty := (.array .int)) (by decide)
    obtain ⟨_, _, ⟨T95, L95, k95, n95⟩, -, X95, ⟨Lc95, hQ95, l95, y95, z95⟩, st95⟩ := X93.specialBack hx (y := (⟨"com/example/odds_on_axioms/oddsonaxioms/network/Condition", "<init>", "([I[I)V"⟩ : MethodName)) rfl hown (mvT hZ (hw _ (List.mem_of_getElem? (i := 5) rfl))) (mvT hZ (hw _ (List.mem_of_getElem? (i := 6) rfl))) (mvT hZ (hw _ (List.mem_of_getElem? (i := 7) rfl))) (by decide) (backOf (W := 1) (rm1 l Z a0 hw [] b93 b73 b83 h93 n0 O93 A93 F93_positions F93_states g_b93) hZ (hw _ (List.mem_of_getElem? (i := 7) rfl)) (hw _ (List.mem_of_getElem? (i := 4) rfl)) (by decide) (by decide)) (g := (mkF m 197 #[.val (.int p0), .val (.int p1), .val (.int p2), .val (.int p3), .val (.int p4), .val (.int p5), .val (.int (3 : Int32)), .val (.int q0), .val (.int q1), .val (.int q2), .val (.int t0), .val (.int t1), .val (.int t2), .val (.ref b73), .val (.ref b83), .unset, .unset] [(.ref b83), (.ref b73), (.ref b93), (.ref b93)])) rfl (by rw [hml]; rfl) (Steps.refl _) (a := b93) (argsL := [(.ref b73), (.ref b83)]) (rest := [(.ref b93)]) (lenOf pd_rm0_0 rfl) rfl (by show 2 * 0 + _ ≤ _; exact Nat.le_of_eq rfl) (hb hby at_197) (fun _ _ => ⟨rfl, e93, (by decide : 3 + 0 ≤ _), (by decide : 8 + 0 ≤ _)⟩)
    dsimp only [Pt.U, Pt.locs, Pt.cells, Pt.slots] at X95 l95 y95 z95 st95 hQ95
    subst l95 y95 z95
    obtain ⟨rfl, Nq95, Kc95, f95_0, f95_1, f95_2⟩ := hQ95
    have N95 := Fr.app N92 Nq95
    have O95 := O93.keep Kc95 (allS g_b93 all0)
    have c96 : Arv Z T95.heap b73 k73 .int (3 : Int32) [(.int q0), (.int q1), (.int q2)] (.int (0 : Int32)) := ((c94.ext E93).keep Kc95 (ninS ne_b73_b93 nin0))
    obtain ⟨cq97, kq97, q97a, q97b, q97c⟩ := isOf hZ (rfl : T95.heap = T95.heap) f95_0
    obtain ⟨_, _, ⟨T97, L97, k97, n97⟩, -, X97, ⟨Lc97, hQ97, l97, y97, z97⟩, st97⟩ := X95.virtualBack hx (y := (⟨"com/example/odds_on_axioms/oddsonaxioms/network/Condition", "isEmpty", "()Z"⟩ : MethodName)) (z := (⟨"com/example/odds_on_axioms/oddsonaxioms/network/Condition", "isEmpty", "()Z"⟩ : MethodName)) hown (mvT hZ (hw _ (List.mem_of_getElem? (i := 15) rfl))) (mvT hZ (hw _ (List.mem_of_getElem? (i := 16) rfl))) (notFace_of_selects (args := #[]) (mvT hZ (hw _ (List.mem_of_getElem? (i := 18) rfl)))) (mvT hZ (hw _ (List.mem_of_getElem? (i := 18) rfl))) (mvT hZ (hw _ (List.mem_of_getElem? (i := 17) rfl))) (by decide) (backOf (W := 0) (rme3 l Z a0 hw [] b93 b73 k73 q0 q1 q2 T95.heap n0 O95 f95_1 c96) hZ (hw _ (List.mem_of_getElem? (i := 19) rfl)) (hw _ (List.mem_of_getElem? (i := 4) rfl)) (by decide) (by decide)) q97a q97c (g := (mkF m 204 #[.val (.int p0), .val (.int p1), .val (.int p2), .val (.int p3), .val (.int p4), .val (.int p5), .val (.int (3 : Int32)), .val (.int q0), .val (.int q1), .val (.int q2), .val (.int t0), .val (.int t1), .val (.int t2), .val (.ref b73), .val (.ref b83), .val (.ref b93), .unset] [(.ref b93)])) rfl (by rw [hml]; rfl) (Steps.refl _) (argsL := []) (rest := []) (lenOf pd_rm0_1 rfl) rfl (by show 2 * 0 + _ ≤ _; exact Nat.le_of_eq rfl) (hb hby at_204) (fun _ _ => ⟨rfl, (rfl : T95.heap = T95.heap), (by decide : 3 + 0 ≤ _), (by decide : 8 + 0 ≤ _)⟩)
    dsimp only [Pt.U, Pt.locs, Pt.cells, Pt.slots] at X97 l97 y97 z97 st97 hQ97
    subst l97 y97 z97
    obtain ⟨rfl, Nq97, e97⟩ := hQ97
    have N97 := Fr.app N95 Nq97
    have c98 : Arv Z T95.heap b83 k83 .int (3 : Int32) [(.int t0), (.int t1), (.int t2)] (.int (0 : Int32)) := ((V92.ext E93).keep Kc95 (ninS ne_b83_b93 nin0))
    obtain ⟨cq99, kq99, q99a, q99b, q99c⟩ := isOf hZ e97 f95_0
    obtain ⟨_, _, ⟨T99, L99, k99, n99⟩, -, X99, ⟨Lc99, hQ99, l99, y99, z99⟩, st99⟩ := X97.virtualBack hx (y := (⟨"com/example/odds_on_axioms/oddsonaxioms/network/Condition", "state", "(I)I"⟩ : MethodName)) (z := (⟨"com/example/odds_on_axioms/oddsonaxioms/network/Condition", "state", "(I)I"⟩ : MethodName)) hown (mvT hZ (hw _ (List.mem_of_getElem? (i := 20) rfl))) (mvT hZ (hw _ (List.mem_of_getElem? (i := 21) rfl))) (notFace_of_selects (args := #[]) (mvT hZ (hw _ (List.mem_of_getElem? (i := 23) rfl)))) (mvT hZ (hw _ (List.mem_of_getElem? (i := 23) rfl))) (mvT hZ (hw _ (List.mem_of_getElem? (i := 22) rfl))) (by decide) (backOf (W := 0) (rms3 l Z a0 hw [] b93 q0 b73 b83 k73 k83 q1 q2 t0 t1 t2 T95.heap n0 O95 f95_1 f95_2 c96 c98 (own_rm0_1 p1 p2 q0 q1 hq0 hq1)) hZ (hw _ (List.mem_of_getElem? (i := 24) rfl)) (hw _ (List.mem_of_getElem? (i := 4) rfl)) (by decide) (by decide)) q99a q99c (g := (mkF m 248 #[.val (.int p0), .val (.int p1), .val (.int p2), .val (.int p3), .val (.int p4), .val (.int p5), .val (.int (3 : Int32)), .val (.int q0), .val (.int q1), .val (.int q2), .val (.int t0), .val (.int t1), .val (.int t2), .val (.ref b73), .val (.ref b83), .val (.ref b93), .val (.int (0 : Int32))] [(.int q0), (.ref b93)])) rfl (by rw [hml]; rfl) (Steps.refl _) (argsL := [(.int q0)]) (rest := []) (lenOf pd_rm0_2 rfl) rfl (by show 2 * 0 + _ ≤ _; exact Nat.le_of_eq rfl) (hb hby at_248) (fun _ _ => ⟨rfl, e97, (by decide : 3 + 0 ≤ _), (by decide : 8 + 0 ≤ _)⟩)
    dsimp only [Pt.U, Pt.locs, Pt.cells, Pt.slots] at X99 l99 y99 z99 st99 hQ99
    subst l99 y99 z99
    obtain ⟨rfl, Nq99, e99⟩ := hQ99
    have N99 := Fr.app N97 Nq99
    obtain ⟨_, _, ⟨T100, L100, k100, n100⟩, -, X100, ⟨Lc100, hQ100, l100, y100, z100⟩, st100⟩ := Jvm.LawKit.callS X99 hx (y := (⟨"com/example/odds_on_axioms/oddsonaxioms/network/Condition", "empty", "()Lcom/example/odds_on_axioms/oddsonaxioms/network/Condition;"⟩ : MethodName)) hown (mvT hZ (hw _ (List.mem_of_getElem? (i := 32) rfl))) (mvT hZ (hw _ (List.mem_of_getElem? (i := 33) rfl))) (mvT hZ (hw _ (List.mem_of_getElem? (i := 4) rfl))) (mvT hZ (hw _ (List.mem_of_getElem? (i := 34) rfl))) (by decide) (backOf (W := 0) (rm7 l Z a0 hw [] v_EMPTY T95.heap n0 O95 F0_) hZ (hw _ (List.mem_of_getElem? (i := 34) rfl)) (hw _ (List.mem_of_getElem? (i := 4) rfl)) (by decide) (by decide)) (g := (mkF m 258 #[.val (.int p0), .val (.int p1), .val (.int p2), .val (.int p3), .val (.int p4), .val (.int p5), .val (.int (3 : Int32)), .val (.int q0), .val (.int q1), .val (.int q2), .val (.int t0), .val (.int t1), .val (.int t2), .val (.ref b73), .val (.ref b83), .val (.ref b93), .val (.int (0 : Int32))] [])) rfl (by rw [hml]; rfl) (argsL := []) (rest := []) (lenOf pd_rm0_3 rfl) rfl (by show 2 * 0 + _ ≤ _; exact Nat.le_of_eq rfl) (hb hby at_258) (fun _ _ => ⟨rfl, e99, (by decide : 3 + 0 ≤ _), (by decide : 8 + 0 ≤ _)⟩)
    dsimp only [Pt.U, Pt.locs, Pt.cells, Pt.slots] at X100 l100 y100 z100 st100 hQ100
    subst l100 y100 z100
    obtain ⟨rfl, Nq100, e100⟩ := hQ100
    have N100 := Fr.app N99 Nq100
    obtain ⟨cq101, kq101, q101a, q101b, q101c⟩ := isOf hZ e100 (F1_.ext O95.2)
    obtain ⟨_, _, ⟨T101, L101, k101, n101⟩, -, X101, ⟨Lc101, hQ101, l101, y101, z101⟩, st101⟩ := X100.virtualBack hx (y := (⟨"com/example/odds_on_axioms/oddsonaxioms/network/Condition", "isEmpty", "()Z"⟩ : MethodName)) (z := (⟨"com/example/odds_on_axioms/oddsonaxioms/network/Condition", "isEmpty", "()Z"⟩ : MethodName)) hown (mvT hZ (hw _ (List.mem_of_getElem? (i := 15) rfl))) (mvT hZ (hw _ (List.mem_of_getElem? (i := 16) rfl))) (notFace_of_selects (args := #[]) (mvT hZ (hw _ (List.mem_of_getElem? (i := 18) rfl)))) (mvT hZ (hw _ (List.mem_of_getElem? (i := 18) rfl))) (mvT hZ (hw _ (List.mem_of_getElem? (i := 17) rfl))) (by decide) (backOf (W := 0) (rme0 l Z a0 hw [] v_EMPTY x_v_EMPTY_positions k_x_v_EMPTY_positions T95.heap n0 O95 (F2_.ext O95.2) (F3_.ext O95.2)) hZ (hw _ (List.mem_of_getElem? (i := 19) rfl)) (hw _ (List.mem_of_getElem? (i := 4) rfl)) (by decide) (by decide)) q101a q101c (g := (mkF m 261 #[.val (.int p0), .val (.int p1), .val (.int p2), .val (.int p3), .val (.int p4), .val (.int p5), .val (.int (3 : Int32)), .val (.int q0), .val (.int q1), .val (.int q2), .val (.int t0), .val (.int t1), .val (.int t2), .val (.ref b73), .val (.ref b83), .val (.ref b93), .val (.int (0 : Int32))] [(.ref v_EMPTY)])) rfl (by rw [hml]; rfl) (Steps.refl _) (argsL := []) (rest := []) (lenOf pd_rm0_1 rfl) rfl (by show 2 * 0 + _ ≤ _; exact Nat.le_of_eq rfl) (hb hby at_261) (fun _ _ => ⟨rfl, e100, (by decide : 3 + 0 ≤ _), (by decide : 8 + 0 ≤ _)⟩)
    dsimp only [Pt.U, Pt.locs, Pt.cells, Pt.slots] at X101 l101 y101 z101 st101 hQ101
    subst l101 y101 z101
    obtain ⟨rfl, Nq101, e101⟩ := hQ101
    have N101 := Fr.app N100 Nq101
    have s102 : Steps p.tables e below (s₁.setTop (entryFrame m #[(.int p0), (.int p1), (.int p2), (.int p3), (.int p4), (.int p5)] maxLocals)) (T101.setTop (mkF m 264 #[.val (.int p0), .val (.int p1), .val (.int p2), .val (.int p3), .val (.int p4), .val (.int p5), .val (.int (3 : Int32)), .val (.int q0), .val (.int q1), .val (.int q2), .val (.int t0), .val (.int t1), .val (.int t2), .val (.ref b73), .val (.ref b83), .val (.ref b93), .val (.int (0 : Int32))] [(.int (1 : Int32))])) := by
      refine s72.trans ?_
      show Steps p.tables e below (s₁.setTop (mkF m 65 #[.val (.int p0), .val (.int p1), .val (.int p2), .val (.int p3), .val (.int p4), .val (.int p5), .val (.int (3 : Int32)), .val (.int q0), .val (.int q1), .val (.int q2), .val (.int t0), .val (.int t1), .val (.int t2), .unset, .unset, .unset, .unset] [(.int (3 : Int32))])) _
      refine XS.ifYes X0.here hx rfl (pc0 := 65) (pc' := 81) rfl (hb hby at_65) rfl ((if0 _ _).trans (feq (by decide)).2) (by decide) (by decide) ?_
      show Steps p.tables e below (s₁.setTop (mkF m 81 #[.val (.int p0), .val (.int p1), .val (.int p2), .val (.int p3), .val (.int p4), .val (.int p5), .val (.int (3 : Int32)), .val (.int q0), .val (.int q1), .val (.int q2), .val (.int t0), .val (.int t1), .val (.int t2), .unset, .unset, .unset, .unset] [])) _
      refine XS.iload X0.here hx rfl (hb hby at_81) rfl ?_
      show Steps p.tables e below (s₁.setTop (mkF m 83 #[.val (.int p0), .val (.int p1), .val (.int p2), .val (.int p3), .val (.int p4), .val (.int p5), .val (.int (3 : Int32)), .val (.int q0), .val (.int q1), .val (.int q2), .val (.int t0), .val (.int t1), .val (.int t2), .unset, .unset, .unset, .unset] [(.int (3 : Int32))])) _
      refine XS.iconst X0.here hx rfl (hb hby at_83) ?_
      show Steps p.tables e below (s₁.setTop (mkF m 84 #[.val (.int p0), .val (.int p1), .val (.int p2), .val (.int p3), .val (.int p4), .val (.int p5), .val (.int (3 : Int32)), .val (.int q0), .val (.int q1), .val (.int q2), .val (.int t0), .val (.int t1), .val (.int t2), .unset, .unset, .unset, .unset] [(.int (1 : Int32)), (.int (3 : Int32))])) _
      refine XS.icmpYes X0.here hx rfl (pc0 := 84) (pc' := 110) rfl (hb hby at_84) rfl (feq (by decide)).2 (by decide) (by decide) ?_
      show Steps p.tables e below (s₁.setTop (mkF m 110 #[.val (.int p0), .val (.int p1), .val (.int p2), .val (.int p3), .val (.int p4), .val (.int p5), .val (.int (3 : Int32)), .val (.int q0), .val (.int q1), .val (.int q2), .val (.int t0), .val (.int t1), .val (.int t2), .unset, .unset, .unset, .unset] [])) _
      refine XS.iload X0.here hx rfl (hb hby at_110) rfl ?_
      show Steps p.tables e below (s₁.setTop (mkF m 112 #[.val (.int p0), .val (.int p1), .val (.int p2), .val (.int p3), .val (.int p4), .val (.int p5), .val (.int (3 : Int32)), .val (.int q0), .val (.int q1), .val (.int q2), .val (.int t0), .val (.int t1), .val (.int t2), .unset, .unset, .unset, .unset] [(.int (3 : Int32))])) _
      refine XS.iconst X0.here hx rfl (hb hby at_112) ?_
      show Steps p.tables e below (s₁.setTop (mkF m 113 #[.val (.int p0), .val (.int p1), .val (.int p2), .val (.int p3), .val (.int p4), .val (.int p5), .val (.int (3 : Int32)), .val (.int q0), .val (.int q1), .val (.int q2), .val (.int t0), .val (.int t1), .val (.int t2), .unset, .unset, .unset, .unset] [(.int (2 : Int32)), (.int (3 : Int32))])) _
      refine XS.icmpYes X0.here hx rfl (pc0 := 113) (pc' := 149) rfl (hb hby at_113) rfl (feq (by decide)).2 (by decide) (by decide) ?_
      show Steps p.tables e below (s₁.setTop (mkF m 149 #[.val (.int p0), .val (.int p1), .val (.int p2), .val (.int p3), .val (.int p4), .val (.int p5), .val (.int (3 : Int32)), .val (.int q0), .val (.int q1), .val (.int q2), .val (.int t0), .val (.int t1), .val (.int t2), .unset, .unset, .unset, .unset] [])) _
      refine XS.iconst X0.here hx rfl (hb hby at_149) ?_
      show Steps p.tables e below (s₁.setTop (mkF m 150 #[.val (.int p0), .val (.int p1), .val (.int p2), .val (.int p3), .val (.int p4), .val (.int p5), .val (.int (3 : Int32)), .val (.int q0), .val (.int q1), .val (.int q2), .val (.int t0), .val (.int t1), .val (.int t2), .unset, .unset, .unset, .unset] [(.int (3 : Int32))])) _
      refine st73 _ ?_
      show Steps p.tables e below (T73.setTop (mkF m 152 #[.val (.int p0), .val (.int p1), .val (.int p2), .val (.int p3), .val (.int p4), .val (.int p5), .val (.int (3 : Int32)), .val (.int q0), .val (.int q1), .val (.int q2), .val (.int t0), .val (.int t1), .val (.int t2), .unset, .unset, .unset, .unset] [(.ref b73)])) _
      refine XS.dup X73.here hx rfl (hb hby at_152) rfl rfl ?_
      show Steps p.tables e below (T73.setTop (mkF m 153 #[.val (.int p0), .val (.int p1), .val (.int p2), .val (.int p3), .val (.int p4), .val (.int p5), .val (.int (3 : Int32)), .val (.int q0), .val (.int q1), .val (.int q2), .val (.int t0), .val (.int t1), .val (.int t2), .unset, .unset, .unset, .unset] [(.ref b73), (.ref b73)])) _
      refine XS.iconst X73.here hx rfl (hb hby at_153) ?_
      show Steps p.tables e below (T73.setTop (mkF m 154 #[.val (.int p0), .val (.int p1), .val (.int p2), .val (.int p3), .val (.int p4), .val (.int p5), .val (.int (3 : Int32)), .val (.int q0), .val (.int q1), .val (.int q2), .val (.int t0), .val (.int t1), .val (.int t2), .unset, .unset, .unset, .unset] [(.int (0 : Int32)), (.ref b73), (.ref b73)])) _
      refine XS.iload X73.here hx rfl (hb hby at_154) rfl ?_
      show Steps p.tables e below (T73.setTop (mkF m 156 #[.val (.int p0), .val (.int p1), .val (.int p2), .val (.int p3), .val (.int p4), .val (.int p5), .val (.int (3 : Int32)), .val (.int q0), .val (.int q1), .val (.int q2), .val (.int t0), .val (.int t1), .val (.int t2), .unset, .unset, .unset, .unset] [(.int q0), (.int (0 : Int32)), (.ref b73), (.ref b73)])) _
      refine st76 _ ?_
      show Steps p.tables e below (T76.setTop (mkF m 157 #[.val (.int p0), .val (.int p1), .val (.int p2), .val (.int p3), .val (.int p4), .val (.int p5), .val (.int (3 : Int32)), .val (.int q0), .val (.int q1), .val (.int q2), .val (.int t0), .val (.int t1), .val (.int t2), .unset, .unset, .unset, .unset] [(.ref b73)])) _
      refine XS.dup X76.here hx rfl (hb hby at_157) rfl rfl ?_
      show Steps p.tables e below (T76.setTop (mkF m 158 #[.val (.int p0), .val (.int p1), .val (.int p2), .val (.int p3), .val (.int p4), .val (.int p5), .val (.int (3 : Int32)), .val (.int q0), .val (.int q1), .val (.int q2), .val (.int t0), .val (.int t1), .val (.int t2), .unset, .unset, .unset, .unset] [(.ref b73), (.ref b73)])) _
      refine XS.iconst X76.here hx rfl (hb hby at_158) ?_
      show Steps p.tables e below (T76.setTop (mkF m 159 #[.val (.int p0), .val (.int p1), .val (.int p2), .val (.int p3), .val (.int p4), .val (.int p5), .val (.int (3 : Int32)), .val (.int q0), .val (.int q1), .val (.int q2), .val (.int t0), .val (.int t1), .val (.int t2), .unset, .unset, .unset, .unset] [(.int (1 : Int32)), (.ref b73), (.ref b73)])) _
      refine XS.iload X76.here hx rfl (hb hby at_159) rfl ?_
      show Steps p.tables e below (T76.setTop (mkF m 161 #[.val (.int p0), .val (.int p1), .val (.int p2), .val (.int p3), .val (.int p4), .val (.int p5), .val (.int (3 : Int32)), .val (.int q0), .val (.int q1), .val (.int q2), .val (.int t0), .val (.int t1), .val (.int t2), .unset, .unset, .unset, .unset] [(.int q1), (.int (1 : Int32)), (.ref b73), (.ref b73)])) _
      refine st79 _ ?_
      show Steps p.tables e below (T79.setTop (mkF m 162 #[.val (.int p0), .val (.int p1), .val (.int p2), .val (.int p3), .val (.int p4), .val (.int p5), .val (.int (3 : Int32)), .val (.int q0), .val (.int q1), .val (.int q2), .val (.int t0), .val (.int t1), .val (.int t2), .unset, .unset, .unset, .unset] [(.ref b73)])) _
      refine XS.dup X79.here hx rfl (hb hby at_162) rfl rfl ?_
      show Steps p.tables e below (T79.setTop (mkF m 163 #[.val (.int p0), .val (.int p1), .val (.int p2), .val (.int p3), .val (.int p4), .val (.int p5), .val (.int (3 : Int32)), .val (.int q0), .val (.int q1), .val (.int q2), .val (.int t0), .val (.int t1), .val (.int t2), .unset, .unset, .unset, .unset] [(.ref b73), (.ref b73)])) _
      refine XS.iconst X79.here hx rfl (hb hby at_163) ?_
      show Steps p.tables e below (T79.setTop (mkF m 164 #[.val (.int p0), .val (.int p1), .val (.int p2), .val (.int p3), .val (.int p4), .val (.int p5), .val (.int (3 : Int32)), .val (.int q0), .val (.int q1), .val (.int q2), .val (.int t0), .val (.int t1), .val (.int t2), .unset, .unset, .unset, .unset] [(.int (2 : Int32)), (.ref b73), (.ref b73)])) _
      refine XS.iload X79.here hx rfl (hb hby at_164) rfl ?_
      show Steps p.tables e below (T79.setTop (mkF m 166 #[.val (.int p0), .val (.int p1), .val (.int p2), .val (.int p3), .val (.int p4), .val (.int p5), .val (.int (3 : Int32)), .val (.int q0), .val (.int q1), .val (.int q2), .val (.int t0), .val (.int t1), .val (.int t2), .unset, .unset, .unset, .unset] [(.int q2), (.int (2 : Int32)), (.ref b73), (.ref b73)])) _
      refine st82 _ ?_
      show Steps p.tables e below (T82.setTop (mkF m 167 #[.val (.int p0), .val (.int p1), .val (.int p2), .val (.int p3), .val (.int p4), .val (.int p5), .val (.int (3 : Int32)), .val (.int q0), .val (.int q1), .val (.int q2), .val (.int t0), .val (.int t1), .val (.int t2), .unset, .unset, .unset, .unset] [(.ref b73)])) _
      refine XS.astore X82.here hx rfl (hb hby at_167) rfl rfl (l' := #[.val (.int p0), .val (.int p1), .val (.int p2), .val (.int p3), .val (.int p4), .val (.int p5), .val (.int (3 : Int32)), .val (.int q0), .val (.int q1), .val (.int q2), .val (.int t0), .val (.int t1), .val (.int t2), .val (.ref b73), .unset, .unset, .unset]) rfl ?_
      show Steps p.tables e below (T82.setTop (mkF m 169 #[.val (.int p0), .val (.int p1), .val (.int p2), .val (.int p3), .val (.int p4), .val (.int p5), .val (.int (3 : Int32)), .val (.int q0), .val (.int q1), .val (.int q2), .val (.int t0), .val (.int t1), .val (.int t2), .val (.ref b73), .unset, .unset, .unset] [])) _
      refine XS.iconst X82.here hx rfl (hb hby at_169) ?_
      show Steps p.tables e below (T82.setTop (mkF m 170 #[.val (.int p0), .val (.int p1), .val (.int p2), .val (.int p3), .val (.int p4), .val (.int p5), .val (.int (3 : Int32)), .val (.int q0), .val (.int q1), .val (.int q2), .val (.int t0), .val (.int t1), .val (.int t2), .val (.ref b73), .unset, .unset, .unset] [(.int (3 : Int32))])) _
      refine st83 _ ?_
      show Steps p.tables e below (T83.setTop (mkF m 172 #[.val (.int p0), .val (.int p1), .val (.int p2), .val (.int p3), .val (.int p4), .val (.int p5), .val (.int (3 : Int32)), .val (.int q0), .val (.int q1), .val (.int q2), .val (.int t0), .val (.int t1), .val (.int t2), .val (.ref b73), .unset, .unset, .unset] [(.ref b83)])) _
      refine XS.dup X83.here hx rfl (hb hby at_172) rfl rfl ?_
      show Steps p.tables e below (T83.setTop (mkF m 173 #[.val (.int p0), .val (.int p1), .val (.int p2), .val (.int p3), .val (.int p4), .val (.int p5), .val (.int (3 : Int32)), .val (.int q0), .val (.int q1), .val (.int q2), .val (.int t0), .val (.int t1), .val (.int t2), .val (.ref b73), .unset, .unset, .unset] [(.ref b83), (.ref b83)])) _
      refine XS.iconst X83.here hx rfl (hb hby at_173) ?_
      show Steps p.tables e below (T83.setTop (mkF m 174 #[.val (.int p0), .val (.int p1), .val (.int p2), .val (.int p3), .val (.int p4), .val (.int p5), .val (.int (3 : Int32)), .val (.int q0), .val (.int q1), .val (.int q2), .val (.int t0), .val (.int t1), .val (.int t2), .val (.ref b73), .unset, .unset, .unset] [(.int (0 : Int32)), (.ref b83), (.ref b83)])) _
      refine XS.iload X83.here hx rfl (hb hby at_174) rfl ?_
      show Steps p.tables e below (T83.setTop (mkF m 176 #[.val (.int p0), .val (.int p1), .val (.int p2), .val (.int p3), .val (.int p4), .val (.int p5), .val (.int (3 : Int32)), .val (.int q0), .val (.int q1), .val (.int q2), .val (.int t0), .val (.int t1), .val (.int t2), .val (.ref b73), .unset, .unset, .unset] [(.int t0), (.int (0 : Int32)), (.ref b83), (.ref b83)])) _
      refine st86 _ ?_
      show Steps p.tables e below (T86.setTop (mkF m 177 #[.val (.int p0), .val (.int p1), .val (.int p2), .val (.int p3), .val (.int p4), .val (.int p5), .val (.int (3 : Int32)), .val (.int q0), .val (.int q1), .val (.int q2), .val (.int t0), .val (.int t1), .val (.int t2), .val (.ref b73), .unset, .unset, .unset] [(.ref b83)])) _
      refine XS.dup X86.here hx rfl (hb hby at_177) rfl rfl ?_
      show Steps p.tables e below (T86.setTop (mkF m 178 #[.val (.int p0), .val (.int p1), .val (.int p2), .val (.int p3), .val (.int p4), .val (.int p5), .val (.int (3 : Int32)), .val (.int q0), .val (.int q1), .val (.int q2), .val (.int t0), .val (.int t1), .val (.int t2), .val (.ref b73), .unset, .unset, .unset] [(.ref b83), (.ref b83)])) _
      refine XS.iconst X86.here hx rfl (hb hby at_178) ?_
      show Steps p.tables e below (T86.setTop (mkF m 179 #[.val (.int p0), .val (.int p1), .val (.int p2), .val (.int p3), .val (.int p4), .val (.int p5), .val (.int (3 : Int32)), .val (.int q0), .val (.int q1), .val (.int q2), .val (.int t0), .val (.int t1), .val (.int t2), .val (.ref b73), .unset, .unset, .unset] [(.int (1 : Int32)), (.ref b83), (.ref b83)])) _
      refine XS.iload X86.here hx rfl (hb hby at_179) rfl ?_
      show Steps p.tables e below (T86.setTop (mkF m 181 #[.val (.int p0), .val (.int p1), .val (.int p2), .val (.int p3), .val (.int p4), .val (.int p5), .val (.int (3 : Int32)), .val (.int q0), .val (.int q1), .val (.int q2), .val (.int t0), .val (.int t1), .val (.int t2), .val (.ref b73), .unset, .unset, .unset] [(.int t1), (.int (1 : Int32)), (.ref b83), (.ref b83)])) _
      refine st89 _ ?_
      show Steps p.tables e below (T89.setTop (mkF m 182 #[.val (.int p0), .val (.int p1), .val (.int p2), .val (.int p3), .val (.int p4), .val (.int p5), .val (.int (3 : Int32)), .val (.int q0), .val (.int q1), .val (.int q2), .val (.int t0), .val (.int t1), .val (.int t2), .val (.ref b73), .unset, .unset, .unset] [(.ref b83)])) _
      refine XS.dup X89.here hx rfl (hb hby at_182) rfl rfl ?_
      show Steps p.tables e below (T89.setTop (mkF m 183 #[.val (.int p0), .val (.int p1), .val (.int p2), .val (.int p3), .val (.int p4), .val (.int p5), .val (.int (3 : Int32)), .val (.int q0), .val (.int q1), .val (.int q2), .val (.int t0), .val (.int t1), .val (.int t2), .val (.ref b73), .unset, .unset, .unset] [(.ref b83), (.ref b83)])) _
      refine XS.iconst X89.here hx rfl (hb hby at_183) ?_
      show Steps p.tables e below (T89.setTop (mkF m 184 #[.val (.int p0), .val (.int p1), .val (.int p2), .val (.int p3), .val (.int p4), .val (.int p5), .val (.int (3 : Int32)), .val (.int q0), .val (.int q1), .val (.int q2), .val (.int t0), .val (.int t1), .val (.int t2), .val (.ref b73), .unset, .unset, .unset] [(.int (2 : Int32)), (.ref b83), (.ref b83)])) _
      refine XS.iload X89.here hx rfl (hb hby at_184) rfl ?_
      show Steps p.tables e below (T89.setTop (mkF m 186 #[.val (.int p0), .val (.int p1), .val (.int p2), .val (.int p3), .val (.int p4), .val (.int p5), .val (.int (3 : Int32)), .val (.int q0), .val (.int q1), .val (.int q2), .val (.int t0), .val (.int t1), .val (.int t2), .val (.ref b73), .unset, .unset, .unset] [(.int t2), (.int (2 : Int32)), (.ref b83), (.ref b83)])) _
      refine st92 _ ?_
      show Steps p.tables e below (T92.setTop (mkF m 187 #[.val (.int p0), .val (.int p1), .val (.int p2), .val (.int p3), .val (.int p4), .val (.int p5), .val (.int (3 : Int32)), .val (.int q0), .val (.int q1), .val (.int q2), .val (.int t0), .val (.int t1), .val (.int t2), .val (.ref b73), .unset, .unset, .unset] [(.ref b83)])) _
      refine XS.astore X92.here hx rfl (hb hby at_187) rfl rfl (l' := #[.val (.int p0), .val (.int p1), .val (.int p2), .val (.int p3), .val (.int p4), .val (.int p5), .val (.int (3 : Int32)), .val (.int q0), .val (.int q1), .val (.int q2), .val (.int t0), .val (.int t1), .val (.int t2), .val (.ref b73), .val (.ref b83), .unset, .unset]) rfl ?_
      show Steps p.tables e below (T92.setTop (mkF m 189 #[.val (.int p0), .val (.int p1), .val (.int p2), .val (.int p3), .val (.int p4), .val (.int p5), .val (.int (3 : Int32)), .val (.int q0), .val (.int q1), .val (.int q2), .val (.int t0), .val (.int t1), .val (.int t2), .val (.ref b73), .val (.ref b83), .unset, .unset] [])) _
      refine st93 _ ?_
      show Steps p.tables e below (T93.setTop (mkF m 192 #[.val (.int p0), .val (.int p1), .val (.int p2), .val (.int p3), .val (.int p4), .val (.int p5), .val (.int (3 : Int32)), .val (.int q0), .val (.int q1), .val (.int q2), .val (.int t0), .val (.int t1), .val (.int t2), .val (.ref b73), .val (.ref b83), .unset, .unset] [(.ref b93)])) _
      refine XS.dup X93.here hx rfl (hb hby at_192) rfl rfl ?_
      show Steps p.tables e below (T93.setTop (mkF m 193 #[.val (.int p0), .val (.int p1), .val (.int p2), .val (.int p3), .val (.int p4), .val (.int p5), .val (.int (3 : Int32)), .val (.int q0), .val (.int q1), .val (.int q2), .val (.int t0), .val (.int t1), .val (.int t2), .val (.ref b73), .val (.ref b83), .unset, .unset] [(.ref b93), (.ref b93)])) _
      refine XS.aload X93.here hx rfl (hb hby at_193) rfl rfl ?_
      show Steps p.tables e below (T93.setTop (mkF m 195 #[.val (.int p0), .val (.int p1), .val (.int p2), .val (.int p3), .val (.int p4), .val (.int p5), .val (.int (3 : Int32)), .val (.int q0), .val (.int q1), .val (.int q2), .val (.int t0), .val (.int t1), .val (.int t2), .val (.ref b73), .val (.ref b83), .unset, .unset] [(.ref b73), (.ref b93), (.ref b93)])) _
      refine XS.aload X93.here hx rfl (hb hby at_195) rfl rfl ?_
      show Steps p.tables e below (T93.setTop (mkF m 197 #[.val (.int p0), .val (.int p1), .val (.int p2), .val (.int p3), .val (.int p4), .val (.int p5), .val (.int (3 : Int32)), .val (.int q0), .val (.int q1), .val (.int q2), .val (.int t0), .val (.int t1), .val (.int t2), .val (.ref b73), .val (.ref b83), .unset, .unset] [(.ref b83), (.ref b73), (.ref b93), (.ref b93)])) _
      refine st95.trans ?_
      show Steps p.tables e below (T95.setTop (mkF m 200 #[.val (.int p0), .val (.int p1), .val (.int p2), .val (.int p3), .val (.int p4), .val (.int p5), .val (.int (3 : Int32)), .val (.int q0), .val (.int q1), .val (.int q2), .val (.int t0), .val (.int t1), .val (.int t2), .val (.ref b73), .val (.ref b83), .unset, .unset] [(.ref b93)])) _
      refine XS.astore X95.here hx rfl (hb hby at_200) rfl rfl (l' := #[.val (.int p0), .val (.int p1), .val (.int p2), .val (.int p3), .val (.int p4), .val (.int p5), .val (.int (3 : Int32)), .val (.int q0), .val (.int q1), .val (.int q2), .val (.int t0), .val (.int t1), .val (.int t2), .val (.ref b73), .val (.ref b83), .val (.ref b93), .unset]) rfl ?_
      show Steps p.tables e below (T95.setTop (mkF m 202 #[.val (.int p0), .val (.int p1), .val (.int p2), .val (.int p3), .val (.int p4), .val (.int p5), .val (.int (3 : Int32)), .val (.int q0), .val (.int q1), .val (.int q2), .val (.int t0), .val (.int t1), .val (.int t2), .val (.ref b73), .val (.ref b83), .val (.ref b93), .unset] [])) _
      refine XS.aload X95.here hx rfl (hb hby at_202) rfl rfl ?_
      show Steps p.tables e below (T95.setTop (mkF m 204 #[.val (.int p0), .val (.int p1), .val (.int p2), .val (.int p3), .val (.int p4), .val (.int p5), .val (.int (3 : Int32)), .val (.int q0), .val (.int q1), .val (.int q2), .val (.int t0), .val (.int t1), .val (.int t2), .val (.ref b73), .val (.ref b83), .val (.ref b93), .unset] [(.ref b93)])) _
      refine st97.trans ?_
      show Steps p.tables e below (T97.setTop (mkF m 207 #[.val (.int p0), .val (.int p1), .val (.int p2), .val (.int p3), .val (.int p4), .val (.int p5), .val (.int (3 : Int32)), .val (.int q0), .val (.int q1), .val (.int q2), .val (.int t0), .val (.int t1), .val (.int t2), .val (.ref b73), .val (.ref b83), .val (.ref b93), .unset] [(.int (0 : Int32))])) _
      refine XS.istore X97.here hx rfl (hb hby at_207) rfl (l' := #[.val (.int p0), .val (.int p1), .val (.int p2), .val (.int p3), .val (.int p4), .val (.int p5), .val (.int (3 : Int32)), .val (.int q0), .val (.int q1), .val (.int q2), .val (.int t0), .val (.int t1), .val (.int t2), .val (.ref b73), .val (.ref b83), .val (.ref b93), .val (.int (0 : Int32))]) rfl ?_
      show Steps p.tables e below (T97.setTop (mkF m 209 #[.val (.int p0), .val (.int p1), .val (.int p2), .val (.int p3), .val (.int p4), .val (.int p5), .val (.int (3 : Int32)), .val (.int q0), .val (.int q1), .val (.int q2), .val (.int t0), .val (.int t1), .val (.int t2), .val (.ref b73), .val (.ref b83), .val (.ref b93), .val (.int (0 : Int32))] [])) _
      refine XS.iload X97.here hx rfl (hb hby at_209) rfl ?_
      show Steps p.tables e below (T97.setTop (mkF m 211 #[.val (.int p0), .val (.int p1), .val (.int p2), .val (.int p3), .val (.int p4), .val (.int p5), .val (.int (3 : Int32)), .val (.int q0), .val (.int q1), .val (.int q2), .val (.int t0), .val (.int t1), .val (.int t2), .val (.ref b73), .val (.ref b83), .val (.ref b93), .val (.int (0 : Int32))] [(.int (0 : Int32))])) _
      refine XS.iload X97.here hx rfl (hb hby at_211) rfl ?_
      show Steps p.tables e below (T97.setTop (mkF m 213 #[.val (.int p0), .val (.int p1), .val (.int p2), .val (.int p3), .val (.int p4), .val (.int p5), .val (.int (3 : Int32)), .val (.int q0), .val (.int q1), .val (.int q2), .val (.int t0), .val (.int t1), .val (.int t2), .val (.ref b73), .val (.ref b83), .val (.ref b93), .val (.int (0 : Int32))] [(.int (3 : Int32)), (.int (0 : Int32))])) _
      refine XS.ifYes X97.here hx rfl (pc0 := 213) (pc' := 220) rfl (hb hby at_213) rfl ((if0 _ _).trans (feq (by decide)).2) (by decide) (by decide) ?_
      show Steps p.tables e below (T97.setTop (mkF m 220 #[.val (.int p0), .val (.int p1), .val (.int p2), .val (.int p3), .val (.int p4), .val (.int p5), .val (.int (3 : Int32)), .val (.int q0), .val (.int q1), .val (.int q2), .val (.int t0), .val (.int t1), .val (.int t2), .val (.ref b73), .val (.ref b83), .val (.ref b93), .val (.int (0 : Int32))] [(.int (0 : Int32))])) _
      refine XS.iconst X97.here hx rfl (hb hby at_220) ?_
      show Steps p.tables e below (T97.setTop (mkF m 221 #[.val (.int p0), .val (.int p1), .val (.int p2), .val (.int p3), .val (.int p4), .val (.int p5), .val (.int (3 : Int32)), .val (.int q0), .val (.int q1), .val (.int q2), .val (.int t0), .val (.int t1), .val (.int t2), .val (.ref b73), .val (.ref b83), .val (.ref b93), .val (.int (0 : Int32))] [(.int (0 : Int32)), (.int (0 : Int32))])) _
      refine XS.icmpYes X97.here hx rfl (pc0 := 221) (pc' := 226) rfl (hb hby at_221) rfl (teq (by decide)).1 (by decide) (by decide) ?_
      show Steps p.tables e below (T97.setTop (mkF m 226 #[.val (.int p0), .val (.int p1), .val (.int p2), .val (.int p3), .val (.int p4), .val (.int p5), .val (.int (3 : Int32)), .val (.int q0), .val (.int q1), .val (.int q2), .val (.int t0), .val (.int t1), .val (.int t2), .val (.ref b73), .val (.ref b83), .val (.ref b93), .val (.int (0 : Int32))] [])) _
      refine XS.iload X97.here hx rfl (hb hby at_226) rfl ?_
      show Steps p.tables e below (T97.setTop (mkF m 228 #[.val (.int p0), .val (.int p1), .val (.int p2), .val (.int p3), .val (.int p4), .val (.int p5), .val (.int (3 : Int32)), .val (.int q0), .val (.int q1), .val (.int q2), .val (.int t0), .val (.int t1), .val (.int t2), .val (.ref b73), .val (.ref b83), .val (.ref b93), .val (.int (0 : Int32))] [(.int (0 : Int32))])) _
      refine XS.ifYes X97.here hx rfl (pc0 := 228) (pc' := 244) rfl (hb hby at_228) rfl ((if0 _ _).trans (teq (by decide)).1) (by decide) (by decide) ?_
      show Steps p.tables e below (T97.setTop (mkF m 244 #[.val (.int p0), .val (.int p1), .val (.int p2), .val (.int p3), .val (.int p4), .val (.int p5), .val (.int (3 : Int32)), .val (.int q0), .val (.int q1), .val (.int q2), .val (.int t0), .val (.int t1), .val (.int t2), .val (.ref b73), .val (.ref b83), .val (.ref b93), .val (.int (0 : Int32))] [])) _
      refine XS.aload X97.here hx rfl (hb hby at_244) rfl rfl ?_
      show Steps p.tables e below (T97.setTop (mkF m 246 #[.val (.int p0), .val (.int p1), .val (.int p2), .val (.int p3), .val (.int p4), .val (.int p5), .val (.int (3 : Int32)), .val (.int q0), .val (.int q1), .val (.int q2), .val (.int t0), .val (.int t1), .val (.int t2), .val (.ref b73), .val (.ref b83), .val (.ref b93), .val (.int (0 : Int32))] [(.ref b93)])) _
      refine XS.iload X97.here hx rfl (hb hby at_246) rfl ?_
      show Steps p.tables e below (T97.setTop (mkF m 248 #[.val (.int p0), .val (.int p1), .val (.int p2), .val (.int p3), .val (.int p4), .val (.int p5), .val (.int (3 : Int32)), .val (.int q0), .val (.int q1), .val (.int q2), .val (.int t0), .val (.int t1), .val (.int t2), .val (.ref b73), .val (.ref b83), .val (.ref b93), .val (.int (0 : Int32))] [(.int q0), (.ref b93)])) _
      refine st99.trans ?_
      show Steps p.tables e below (T99.setTop (mkF m 251 #[.val (.int p0), .val (.int p1), .val (.int p2), .val (.int p3), .val (.int p4), .val (.int p5), .val (.int (3 : Int32)), .val (.int q0), .val (.int q1), .val (.int q2), .val (.int t0), .val (.int t1), .val (.int t2), .val (.ref b73), .val (.ref b83), .val (.ref b93), .val (.int (0 : Int32))] [(.int t0)])) _
      refine XS.iload X99.here hx rfl (hb hby at_251) rfl ?_
      show Steps p.tables e below (T99.setTop (mkF m 253 #[.val (.int p0), .val (.int p1), .val (.int p2), .val (.int p3), .val (.int p4), .val (.int p5), .val (.int (3 : Int32)), .val (.int q0), .val (.int q1), .val (.int q2), .val (.int t0), .val (.int t1), .val (.int t2), .val (.ref b73), .val (.ref b83), .val (.ref b93), .val (.int (0 : Int32))] [(.int t0), (.int t0)])) _
      refine XS.icmpYes X99.here hx rfl (pc0 := 253) (pc' := 258) rfl (hb hby at_253) rfl (teq rfl).1 (by decide) (by decide) ?_
      show Steps p.tables e below (T99.setTop (mkF m 258 #[.val (.int p0), .val (.int p1), .val (.int p2), .val (.int p3), .val (.int p4), .val (.int p5), .val (.int (3 : Int32)), .val (.int q0), .val (.int q1), .val (.int q2), .val (.int t0), .val (.int t1), .val (.int t2), .val (.ref b73), .val (.ref b83), .val (.ref b93), .val (.int (0 : Int32))] [])) _
      refine st100 _ ?_
      show Steps p.tables e below (T100.setTop (mkF m 261 #[.val (.int p0), .val (.int p1), .val (.int p2), .val (.int p3), .val (.int p4), .val (.int p5), .val (.int (3 : Int32)), .val (.int q0), .val (.int q1), .val (.int q2), .val (.int t0), .val (.int t1), .val (.int t2), .val (.ref b73), .val (.ref b83), .val (.ref b93), .val (.int (0 : Int32))] [(.ref v_EMPTY)])) _
      refine st101.trans ?_
      exact Steps.refl _
    obtain ⟨fs, hr, hrun, hended, hW, hsame⟩ := X101.leave (v := some (.int (1 : Int32))) (fun h => by rw [Bd.returns] at h; cases h)
    refine ⟨_, _, s102.trans ?_, hrun, hended, _, _, rfl, ?_, ⟨_, rfl⟩, hW, hsame.mono (by decide) (by decide)⟩
    · show Steps p.tables e below (T101.setTop (mkF m 264 #[.val (.int p0), .val (.int p1), .val (.int p2), .val (.int p3), .val (.int p4), .val (.int p5), .val (.int (3 : Int32)), .val (.int q0), .val (.int q1), .val (.int q2), .val (.int t0), .val (.int t1), .val (.int t2), .val (.ref b73), .val (.ref b83), .val (.ref b93), .val (.int (0 : Int32))] [(.int (1 : Int32))])) _
      exact retN X101 hx (t := .boolean) Bd.returns (by simp) (hb hby at_264) hr
    · show Q0 Z p0 p1 p2 p3 p4 p5 v_EMPTY x_v_EMPTY_positions k_x_v_EMPTY_positions h0 n0 _ T101.heap _
      rw [e101]
      exact ⟨rfl, N101⟩
set_option maxRecDepth 65536 in
set_option maxHeartbeats 40000000 in
theorem comes_1 {Post : Tables → Env → Array Value → State → Outcome → State → Prop} (hpost : ∀ tb e args s v u, (limb_1_1.after args s (.returned v) u = true ∧ limb_1_2.after args s (.returned v) u = true ∧ True) → FrameEnd s (.returned v) u (Jvm.fieldLocs frame_1_writes args s ++ Jvm.arrayLocs frame_1_arrays args s ++ Jvm.staticLocs frame_1_statics s) 16 128 → Post tb e args s (.returned v) u) :
    ArmFor flags0 classFile x code maxLocals ret World_1 tables_1 room_1 Calls_1 rest_1 Pre_1 Post := by
  intro l hfl _ _ p e ha hc hk s m args below hf hA hF happ hP
  obtain ⟨hcalls, hrest, hpre⟩ := hP
  obtain ⟨-, -, -, hnamed, -, -, -, hat⟩ := (Spec.applies_iff hf).mp happ
  obtain ⟨hg, hn⟩ := and_e (Cond.before_iff.mp (show (Jvm.Cond.and given_1 narrow_1).before args s = true from hpre))
  obtain ⟨gc, gk0⟩ := and_e hg
  obtain ⟨ga0, gk1⟩ := and_e gk0
  obtain ⟨ga1, gk2⟩ := and_e gk1
  obtain ⟨ga2, gk3⟩ := and_e gk2
  obtain ⟨ga3, gk4⟩ := and_e gk3
  obtain ⟨ga4, gk5⟩ := and_e gk4
  obtain ⟨w0, w1, w2, w3, w4, w5, rfl⟩ : ∃ w0 w1 w2 w3 w4 w5 : Value, args = #[w0, w1, w2, w3, w4, w5] := by
    have hs : args.size = 6 := by simpa [Cond.value, given_1] using gc
    obtain ⟨L⟩ := args
    match L, hs with
    | [w0, w1, w2, w3, w4, w5], _ => exact ⟨w0, w1, w2, w3, w4, w5, rfl⟩
  have hw := fun d (hd : d ∈ tables_1) => atoms_spec (ws := Jvm.Cond.code x code maxLocals ret :: tables_1) hat d (List.mem_cons_of_mem _ hd)
  have hfit : Fit s := fun {y c} hc i hi => by
    obtain ⟨ha, rfl⟩ := Array.getElem?_eq_some_iff.mp hc
    have q := List.all_eq_true.mp ((Array.all_eq_true_iff_forall_mem.mp hF) _ (Array.getElem_mem ha)) i (List.mem_range.mpr hi)
    simpa [Array.getElem?_eq_getElem hi] using q
  obtain ⟨i0, ei0⟩ := is_v ga0
  obtain rfl : w0 = (.int i0) := Option.some.inj ei0
  obtain ⟨i1, ei1⟩ := is_v ga1
  obtain rfl : w1 = (.int i1) := Option.some.inj ei1
  obtain ⟨i2, ei2⟩ := is_v ga2
  obtain rfl : w2 = (.int i2) := Option.some.inj ei2
  obtain ⟨i3, ei3⟩ := is_v ga3
  obtain rfl : w3 = (.int i3) := Option.some.inj ei3
  obtain ⟨i4, ei4⟩ := is_v ga4
  obtain rfl : w4 = (.int i4) := Option.some.inj ei4
  obtain ⟨i5, ei5⟩ := is_v gk5
  obtain rfl : w5 = (.int i5) := Option.some.inj ei5
  obtain ⟨n_0, nr_0⟩ := and_e hn
  obtain ⟨n_1, nr_1⟩ := and_e nr_0
  obtain ⟨v_EMPTY, ev_v_EMPTY⟩ := exa_v n_0
  have S_v_EMPTY : Sta s s.heap "com/example/odds_on_axioms/oddsonaxioms/network/Condition" "EMPTY" "Lcom/example/odds_on_axioms/oddsonaxioms/network/Condition;" (.ref v_EMPTY) := Sta.start ev_v_EMPTY (Or.inr ⟨(hw _ (List.mem_of_getElem? (i := 4) rfl)), (hw _ (List.mem_of_getElem? (i := 36) rfl))⟩)
  have E_v_EMPTY : Exa s s.heap v_EMPTY "com/example/odds_on_axioms/oddsonaxioms/network/Condition" := Exa.start ev_v_EMPTY n_0
  obtain ⟨x_v_EMPTY_positions, ev_x_v_EMPTY_positions⟩ := arr_v n_1
  have F_v_EMPTY_positions : Fld s s.heap v_EMPTY "com/example/odds_on_axioms/oddsonaxioms/network/Condition" "positions" "[I" (.ref x_v_EMPTY_positions) := Fld.start ((fld_at ev_v_EMPTY).symm.trans ev_x_v_EMPTY_positions)
  obtain ⟨cl_x_v_EMPTY_positions, Ar_x_v_EMPTY_positions⟩ := Arr.start ev_x_v_EMPTY_positions n_1
  have ln_x_v_EMPTY_positions := own_len ev_x_v_EMPTY_positions Ar_x_v_EMPTY_positions (own_eq_int nr_1)
  have V_x_v_EMPTY_positions : Arv s s.heap x_v_EMPTY_positions cl_x_v_EMPTY_positions.cls .int (0 : Int32) [] (.int (0 : Int32)) := Arv.start hfit Ar_x_v_EMPTY_positions ln_x_v_EMPTY_positions.1 ln_x_v_EMPTY_positions.2 (by decide) rfl trivial
  obtain ⟨n, o, h1, h2, h3, _, L, rfl, ⟨rfl, N⟩, hq⟩ := rm0 l s _ hw tables_1 i0 i1 i2 i3 i4 i5 v_EMPTY x_v_EMPTY_positions cl_x_v_EMPTY_positions.cls s.heap s.heap.size (Old.start s) S_v_EMPTY E_v_EMPTY F_v_EMPTY_positions V_x_v_EMPTY_positions p e ha hc hk s m _ below hf ((Spec.applies_iff_loose hf).mp happ).1 ⟨rfl, State.Warmed39.refl s, rfl⟩ trivial
  refine ⟨n, _, h1, h2, h3, hpost _ _ _ _ _ _ ⟨Cond.after_iff.mpr rfl, Cond.after_iff.mpr (eq_i res_at (Term.int_eval (1)) rfl), trivial⟩ ⟨hq.1, hq.2.1, (hq.2.2.sift fun y hy => Or.inr (N y hy)).mono (by decide) (by decide)⟩⟩
theorem main_1_1 : Claimed_1_1 := comes_1 fun _ _ _ _ _ _ h hF => ⟨h.1, hF⟩
theorem main_1_2 : Claimed_1_2 := comes_1 fun _ _ _ _ _ _ h hF => ⟨h.2.1, hF⟩
end Jvm.Pilot.@@N@@
namespace Jvm.Pilot.@@N@@
open Jvm Jvm.ClassFile Sem Op Lib Jvm.Free Jvm.Stand Jvm.Pilot.@@N@@.Jvm.D
/-! MADE BY PROGRAM (witnessworld.py) out of the Statement's table words and the real class files: 10 classes; the members and pool entries that the words name. The judged class is class 1, her method 1. -/
namespace start1
open Jvm.ClassFile
def u (s : String) : CpInfo := .utf8 (stringToUtf16 s)
/-- a pool by its gaps: so many unusable entries, then the entry; so many at the end -/
def gap : Nat → List CpInfo → List CpInfo
  | 0, r => r
  | n + 1, r => .unusable :: gap n r
def poolList (es : List (Nat × CpInfo)) (last : Nat) : List CpInfo := es.foldr (fun e r => gap e.1 (e.2 :: r)) (gap last [])
def pool (es : List (Nat × CpInfo)) (last : Nat) : Array CpInfo := ⟨poolList es last⟩
def fileOf (pool : Array CpInfo) (this : Nat) (attrs : Array Attribute := #[]) (ms : Array MethodInfo := #[]) (fl : Nat := 33) (sup : Nat := 0) (ifs : Array Nat := #[]) (fds : Array FieldInfo := #[]) : ClassFile where
  minorVersion := 0
  majorVersion := 65
  constantPool := pool
  accessFlags := fl
  thisClass := this
  superClass := sup
  interfaces := ifs
  fields := fds
  methods := ms
  attributes := attrs
def plain (name : String) (sup : Option ClassId) : Class where
  name := name
  kind := .ordinary
  loader := none
  accessFlags := 33
  super := sup
  interfaces := #[]
  cf := none
  fields := #[]
  methods := #[]
  instanceTypes := #[]
  staticTypes := #[]
  resolved := #[]
  callSites := []
  init := .initialized
  statics := none
  mirror := none

def pool0 : Array CpInfo := pool [(5, u "<init>"), (0, u "()V"), (1, .class_ 10), (1, u "java/lang/Object")] 113

def k0c0 : Code := { maxStack := 0, maxLocals := 1, code := object_method_1_code, exceptionTable := #[], attributes := #[] }
def k0m0 : Method := { name := "<init>", desc := "()V", sig := { parameters := [], returnType := none }, accessFlags := 1, code := some k0c0 }
/-- java/lang/Object -/
def k0 : Class := { plain "java/lang/Object" none with
  accessFlags := 33
  interfaces := #[]
  cf := some (fileOf pool0 8 #[] #[{ accessFlags := 1, nameIndex := 5, descriptorIndex := 6, attributes := #[] }] 33 0 #[] #[])
  fields := #[]
  methods := #[k0m0]
  instanceTypes := #[]
  staticTypes := #[]
  resolved := Array.replicate 124 none
  statics := none }

def pool1 : Array CpInfo := pool [(2, .class_ 4), (1, u "java/lang/Object"), (0, u "<init>"), (0, u "()V"), (0, .integer 2147483647), (0, .class_ 9), (0, u "com/example/odds_on_axioms/oddsonaxioms/network/Condition"), (0, .methodref 8 11), (0, .nameAndType 5 12), (0, u "([I[I)V"), (0, .methodref 8 14), (0, .nameAndType 15 16), (0, u "isEmpty"), (0, u "()Z"), (0, .methodref 8 18), (0, .nameAndType 19 20), (0, u "state"), (0, u "(I)I"), (0, .methodref 8 22), (0, .nameAndType 23 24), (0, u "empty"), (0, u "()Lcom/example/odds_on_axioms/oddsonaxioms/network/Condition;"), (0, .class_ 26), (0, u "com/example/odds_on_axioms/oddsonaxioms/network/ConditionIsEmptyPinLaw"), (2, u "law"), (0, u "(IIIIII)Z")] 5

def k1m0 : Method := { name := "<init>", desc := "()V", sig := { parameters := [], returnType := none }, accessFlags := 1, code := none }
def k1c1 : Code := { maxStack := 4, maxLocals := 17, code := code, exceptionTable := #[], attributes := #[] }
def k1m1 : Method := { name := "law", desc := "(IIIIII)Z", sig := { parameters := [.int, .int, .int, .int, .int, .int], returnType := some .boolean }, accessFlags := 9, code := some k1c1 }
/-- com/example/odds_on_axioms/oddsonaxioms/network/ConditionIsEmptyPinLaw -/
def k1 : Class := { plain "com/example/odds_on_axioms/oddsonaxioms/network/ConditionIsEmptyPinLaw" (some 0) with
  accessFlags := 49
  interfaces := #[]
  cf := some (fileOf pool1 25 #[] #[{ accessFlags := 1, nameIndex := 5, descriptorIndex := 6, attributes := #[] }, { accessFlags := 9, nameIndex := 29, descriptorIndex := 30, attributes := #[] }] 49 2 #[] #[])
  fields := #[]
  methods := #[k1m0, k1m1]
  instanceTypes := #[]
  staticTypes := #[]
  resolved := Array.replicate 36 none
  statics := none }

def pool2 : Array CpInfo := pool [(1, .methodref 2 3), (0, .class_ 4), (0, .nameAndType 5 6), (0, u "java/lang/Object"), (0, u "<init>"), (0, u "()V"), (0, .fieldref 8 9), (0, .class_ 10), (0, .nameAndType 11 12), (0, u "com/example/odds_on_axioms/oddsonaxioms/network/Condition"), (0, u "positions"), (0, u "[I"), (0, .fieldref 8 14), (0, .nameAndType 15 12), (0, u "states"), (0, .fieldref 8 17), (0, .nameAndType 18 19), (0, u "EMPTY"), (0, u "Lcom/example/odds_on_axioms/oddsonaxioms/network/Condition;"), (4, u "empty"), (2, .class_ 29), (1, u "java/util/Arrays"), (4, u "([I[I)V"), (6, u "state"), (0, u "(I)I"), (0, .methodref 27 44), (0, .nameAndType 45 46), (0, u "binarySearch"), (0, u "([II)I"), (10, u "()Lcom/example/odds_on_axioms/oddsonaxioms/network/Condition;"), (11, u "isEmpty"), (0, u "()Z")] 4

def k2c0 : Code := { maxStack := 2, maxLocals := 3, code := prog_38_method_1_code, exceptionTable := #[], attributes := #[] }
def k2m0 : Method := { name := "<init>", desc := "([I[I)V", sig := { parameters := [(.array .int), (.array .int)], returnType := none }, accessFlags := 0, code := some k2c0 }
def k2c1 : Code := { maxStack := 1, maxLocals := 0, code := prog_38_method_2_code, exceptionTable := #[], attributes := #[] }
def k2m1 : Method := { name := "empty", desc := "()Lcom/example/odds_on_axioms/oddsonaxioms/network/Condition;", sig := { parameters := [], returnType := some (.object "com/example/odds_on_axioms/oddsonaxioms/network/Condition") }, accessFlags := 9, code := some k2c1 }
def k2c2 : Code := { maxStack := 2, maxLocals := 3, code := prog_38_method_7_code, exceptionTable := #[], attributes := #[] }
def k2m2 : Method := { name := "state", desc := "(I)I", sig := { parameters := [.int], returnType := some .int }, accessFlags := 0, code := some k2c2 }
def k2c3 : Code := { maxStack := 1, maxLocals := 1, code := prog_38_method_9_code, exceptionTable := #[], attributes := #[] }
def k2m3 : Method := { name := "isEmpty", desc := "()Z", sig := { parameters := [], returnType := some .boolean }, accessFlags := 0, code := some k2c3 }
/-- com/example/odds_on_axioms/oddsonaxioms/network/Condition -/
def k2 : Class := { plain "com/example/odds_on_axioms/oddsonaxioms/network/Condition" (some 0) with
  accessFlags := 49
  interfaces := #[]
  cf := some (fileOf pool2 8 #[] #[{ accessFlags := 0, nameIndex := 5, descriptorIndex := 34, attributes := #[] }, { accessFlags := 9, nameIndex := 24, descriptorIndex := 57, attributes := #[] }, { accessFlags := 0, nameIndex := 41, descriptorIndex := 42, attributes := #[] }, { accessFlags := 0, nameIndex := 69, descriptorIndex := 70, attributes := #[] }] 49 2 #[] #[{ accessFlags := 26, nameIndex := 18, descriptorIndex := 19, attributes := #[] }, { accessFlags := 18, nameIndex := 11, descriptorIndex := 12, attributes := #[] }, { accessFlags := 18, nameIndex := 15, descriptorIndex := 12, attributes := #[] }])
  fields := #[{ name := "EMPTY", type := (.object "com/example/odds_on_axioms/oddsonaxioms/network/Condition"), accessFlags := 26, slot := 0, constantValue := 0 }, { name := "positions", type := (.array .int), accessFlags := 18, slot := 0, constantValue := 0 }, { name := "states", type := (.array .int), accessFlags := 18, slot := 1, constantValue := 0 }]
  methods := #[k2m0, k2m1, k2m2, k2m3]
  instanceTypes := #[(.array .int), (.array .int)]
  staticTypes := #[(.object "com/example/odds_on_axioms/oddsonaxioms/network/Condition")]
  resolved := Array.replicate 75 none
  statics := some 0 }

def pool3 : Array CpInfo := pool [(2, .class_ 4), (1, u "java/lang/Object"), (0, u "<init>"), (0, u "()V"), (7, .class_ 16), (1, u "java/util/Arrays"), (57, .class_ 76), (1, u "java/util/Arrays$NaturalOrder"), (36, .class_ 115), (1, u "java/util/Arrays$LegacyMergeSort"), (1, u "Z"), (89, u "binarySearch0"), (1, .methodref 14 210), (0, .nameAndType 207 211), (0, u "([IIII)I"), (163, .class_ 376), (0, u "java/util/Arrays$ArrayList"), (68, u "$assertionsDisabled"), (269, u "MIN_ARRAY_SORT_GRAN"), (0, u "I"), (2, u "INSERTIONSORT_THRESHOLD"), (74, u "binarySearch"), (4, u "([II)I"), (175, .class_ 976), (0, u "java/util/Arrays$ArrayItr")] 52

def k3m0 : Method := { name := "<init>", desc := "()V", sig := { parameters := [], returnType := none }, accessFlags := 2, code := none }
def k3c1 : Code := { maxStack := 4, maxLocals := 2, code := jdk_65_method_57_code, exceptionTable := #[], attributes := #[] }
def k3m1 : Method := { name := "binarySearch", desc := "([II)I", sig := { parameters := [(.array .int), .int], returnType := some .int }, accessFlags := 9, code := some k3c1 }
def k3c2 : Code := { maxStack := 2, maxLocals := 8, code := jdk_65_method_59_code, exceptionTable := #[], attributes := #[] }
def k3m2 : Method := { name := "binarySearch0", desc := "([IIII)I", sig := { parameters := [(.array .int), .int, .int, .int], returnType := some .int }, accessFlags := 10, code := some k3c2 }
/-- java/util/Arrays -/
def k3 : Class := { plain "java/util/Arrays" (some 0) with
  accessFlags := 49
  interfaces := #[]
  cf := some (fileOf pool3 14 #[.nestMembers #[975, 375, 113, 74]] #[{ accessFlags := 2, nameIndex := 5, descriptorIndex := 6, attributes := #[] }, { accessFlags := 9, nameIndex := 794, descriptorIndex := 799, attributes := #[] }, { accessFlags := 10, nameIndex := 207, descriptorIndex := 211, attributes := #[] }] 49 2 #[] #[{ accessFlags := 26, nameIndex := 715, descriptorIndex := 716, attributes := #[] }, { accessFlags := 26, nameIndex := 719, descriptorIndex := 716, attributes := #[] }, { accessFlags := 4120, nameIndex := 445, descriptorIndex := 117, attributes := #[] }])
  fields := #[{ name := "MIN_ARRAY_SORT_GRAN", type := .int, accessFlags := 26, slot := 0, constantValue := 0 }, { name := "INSERTIONSORT_THRESHOLD", type := .int, accessFlags := 26, slot := 1, constantValue := 0 }, { name := "$assertionsDisabled", type := .boolean, accessFlags := 4120, slot := 2, constantValue := 0 }]
  methods := #[k3m0, k3m1, k3m2]
  instanceTypes := #[]
  staticTypes := #[.int, .int, .boolean]
  resolved := Array.replicate 1029 none
  statics := none }

def pool4 : Array CpInfo := pool [(1, u "java/lang/Cloneable"), (0, .class_ 1), (0, u "java/lang/Object"), (0, .class_ 3)] 3

/-- java/lang/Cloneable -/
def k4 : Class := { plain "java/lang/Cloneable" (some 0) with
  accessFlags := 1537
  interfaces := #[]
  cf := some (fileOf pool4 2 #[] #[] 1537 4 #[] #[])
  fields := #[]
  methods := #[]
  instanceTypes := #[]
  staticTypes := #[]
  resolved := Array.replicate 8 none
  statics := none }

def pool5 : Array CpInfo := pool [(1, u "java/io/Serializable"), (0, .class_ 1), (0, u "java/lang/Object"), (0, .class_ 3)] 3

/-- java/io/Serializable -/
def k5 : Class := { plain "java/io/Serializable" (some 0) with
  accessFlags := 1537
  interfaces := #[]
  cf := some (fileOf pool5 2 #[] #[] 1537 4 #[] #[])
  fields := #[]
  methods := #[]
  instanceTypes := #[]
  staticTypes := #[]
  resolved := Array.replicate 8 none
  statics := none }

/-- the primitive byte -/
def k6 : Class := { plain "byte" none with kind := .primitive 'B', accessFlags := 0x411 }
/-- [B -/
def k7 : Class := { plain "[B" (some 0) with kind := .array 6 .byte, interfaces := #[4, 5], accessFlags := 1041 }

/-- the primitive int -/
def k8 : Class := { plain "int" none with kind := .primitive 'I', accessFlags := 0x411 }
/-- [I -/
def k9 : Class := { plain "[I" (some 0) with kind := .array 8 .int, interfaces := #[4, 5], accessFlags := 1041 }

def heap : Heap := #[{ cls := 2, slots := #[.ref 2], vm := .statics 2 },
  { cls := 9, slots := #[], vm := .none },
  { cls := 2, slots := #[.ref 1, .ref 1], vm := .none }]
def classes : Array Class := #[k0, k1, k2, k3, k4, k5, k6, k7, k8, k9]
def interned : List (Array UInt16 × Addr) := []
def slotsUsed : Nat := 3
def theMethod : MethodId := ⟨1, 1⟩
def args0 : Array Value := #[.int 63, .int 5, .int 7, .int 8, .int 9, .int 10]
def aboutOver (below : List Frame) : State where
  vm := { classes := classes, interned := interned.toArray }
  heap := heap
  slotsUsed := slotsUsed
  threads := #[{ frames := .invoking theMethod args0 :: below }]
def below0 : List Frame := [.native { method := ⟨0, 0⟩, args := #[] }]
def about1 : State := aboutOver below0
def p0 : Program := .bare "" "" ""
def e0 : Env := launch0.env 0 0 0
theorem w_frames : about1.frames = Frame.invoking theMethod args0 :: below0 := rfl
set_option maxRecDepth 65536 in
theorem w_args : argsFit about1.vm theMethod args0 = true := by decide +kernel
set_option maxRecDepth 65536 in
theorem w_heap : heapFits about1 = true := by decide +kernel
set_option maxRecDepth 65536 in
theorem w_runnable : about1.curStatus? = some .runnable := by decide +kernel
set_option maxRecDepth 65536 in
theorem w_alone : about1.alone = true := by decide +kernel
set_option maxRecDepth 65536 in
theorem w_named : about1.methodNamed? x = some theMethod := by decide +kernel
set_option maxRecDepth 65536 in
theorem w_hears : about1.hears theMethod below0 = true := by decide +kernel
set_option maxRecDepth 65536 in
theorem w_ripe : about1.ripe theMethod args0 below0 = true := by decide +kernel
theorem w_running : about1.status = .running := rfl
set_option maxRecDepth 65536 in
theorem w_room : about1.hasRoom e0.platform room_1 = true :=
  launch0.hasRoom_least _ room_1 (by decide +kernel) (by decide +kernel) (by decide +kernel) (by decide +kernel) (by decide +kernel) (by decide +kernel)
theorem allAtoms_all (ts : List Jvm.Cond) (a : Array Jvm.Value) (st : Jvm.State) : (allAtoms ts).before a st = ts.all (fun c => c.before a st) := by
  induction ts with
  | nil => rfl
  | cons c t ih =>
    show (Jvm.Cond.and c (allAtoms t)).before a st = _
    rw [Jvm.Cond.before_and, ih, List.all_cons]
def words1 : List Jvm.Cond := Jvm.Cond.code x code maxLocals ret :: tables_1
/-- a 'code' word, met by the world's own term for the bytes: nothing is compared byte by byte -/
theorem code_word {y : MethodName} {bytes : ByteArray} {mx : Nat} {rt : Option FieldType} {a : Array Value} {s : State} {m : MethodId} {meth : Method} {c : Code} (h1 : s.methodNamed? y = some m) (h2 : s.vm.method? m = some meth) (h3 : meth.code = some c) (h4 : c.code = bytes)
    (h5 : (c.maxLocals == mx && c.exceptionTable.isEmpty && decide (c.maxStack ≤ mostOperands) && decide (meth.sig.returnType = rt) && !meth.locks && decide (parseMethodDescriptor y.desc = some meth.sig)) = true) : (Jvm.Cond.code y bytes mx rt).before a s = true := by
  simp only [Bool.and_eq_true, beq_iff_eq, Bool.not_eq_true', decide_eq_true_eq] at h5
  obtain ⟨⟨⟨⟨⟨g1, g2⟩, g3⟩, g4⟩, g5⟩, g6⟩ := h5
  simp [Cond.before, Cond.holds, Cond.value, h1, h2, h3, h4, g1, g2, g3, g4, g5, g6]
def isCode : Jvm.Cond → Bool
  | .code _ _ _ _ => true
  | _ => false
theorem all_split {L : List Jvm.Cond} {P : Jvm.Cond → Bool} (h1 : L.all (fun c => isCode c || P c) = true) (h2 : ∀ c ∈ L.filter isCode, P c = true) : L.all P = true := by
  refine List.all_eq_true.mpr fun c hc => ?_
  have h := List.all_eq_true.mp h1 c hc
  rcases Bool.eq_false_or_eq_true (isCode c) with hi | hi
  · exact h2 c (List.mem_filter.mpr ⟨hc, hi⟩)
  · simpa [hi] using h
set_option maxRecDepth 65536 in
theorem w_c0 : (Jvm.Cond.code x code maxLocals ret).before args0 about1 = true := code_word (m := ⟨1, 1⟩) (meth := k1m1) (c := k1c1) (by decide +kernel) rfl rfl rfl (by decide +kernel)
set_option maxRecDepth 65536 in
theorem w_c1 : (Jvm.Cond.code ({ cls := "com/example/odds_on_axioms/oddsonaxioms/network/Condition", name := "<init>", desc := "([I[I)V" } : Jvm.MethodName) prog_38_method_1_code (3 : Nat) (Option.none : Option Jvm.ClassFile.FieldType)).before args0 about1 = true := code_word (m := ⟨2, 0⟩) (meth := k2m0) (c := k2c0) (by decide +kernel) rfl rfl rfl (by decide +kernel)
set_option maxRecDepth 65536 in
theorem w_c2 : (Jvm.Cond.code ({ cls := "java/lang/Object", name := "<init>", desc := "()V" } : Jvm.MethodName) object_method_1_code (1 : Nat) (Option.none : Option Jvm.ClassFile.FieldType)).before args0 about1 = true := code_word (m := ⟨0, 0⟩) (meth := k0m0) (c := k0c0) (by decide +kernel) rfl rfl rfl (by decide +kernel)
set_option maxRecDepth 65536 in
theorem w_c3 : (Jvm.Cond.code ({ cls := "com/example/odds_on_axioms/oddsonaxioms/network/Condition", name := "isEmpty", desc := "()Z" } : Jvm.MethodName) prog_38_method_9_code (1 : Nat) (Option.some Jvm.ClassFile.FieldType.boolean)).before args0 about1 = true := code_word (m := ⟨2, 3⟩) (meth := k2m3) (c := k2c3) (by decide +kernel) rfl rfl rfl (by decide +kernel)
set_option maxRecDepth 65536 in
theorem w_c4 : (Jvm.Cond.code ({ cls := "com/example/odds_on_axioms/oddsonaxioms/network/Condition", name := "state", desc := "(I)I" } : Jvm.MethodName) prog_38_method_7_code (3 : Nat) (Option.some Jvm.ClassFile.FieldType.int)).before args0 about1 = true := code_word (m := ⟨2, 2⟩) (meth := k2m2) (c := k2c2) (by decide +kernel) rfl rfl rfl (by decide +kernel)
set_option maxRecDepth 65536 in
theorem w_c5 : (Jvm.Cond.code ({ cls := "java/util/Arrays", name := "binarySearch", desc := "([II)I" } : Jvm.MethodName) jdk_65_method_57_code (2 : Nat) (Option.some Jvm.ClassFile.FieldType.int)).before args0 about1 = true := code_word (m := ⟨3, 1⟩) (meth := k3m1) (c := k3c1) (by decide +kernel) rfl rfl rfl (by decide +kernel)
set_option maxRecDepth 65536 in
theorem w_c6 : (Jvm.Cond.code ({ cls := "java/util/Arrays", name := "binarySearch0", desc := "([IIII)I" } : Jvm.MethodName) jdk_65_method_59_code (8 : Nat) (Option.some Jvm.ClassFile.FieldType.int)).before args0 about1 = true := code_word (m := ⟨3, 2⟩) (meth := k3m2) (c := k3c2) (by decide +kernel) rfl rfl rfl (by decide +kernel)
set_option maxRecDepth 65536 in
theorem w_c7 : (Jvm.Cond.code ({ cls := "com/example/odds_on_axioms/oddsonaxioms/network/Condition", name := "empty", desc := "()Lcom/example/odds_on_axioms/oddsonaxioms/network/Condition;" } : Jvm.MethodName) prog_38_method_2_code (0 : Nat) (Option.some (Jvm.ClassFile.FieldType.object "com/example/odds_on_axioms/oddsonaxioms/network/Condition"))).before args0 about1 = true := code_word (m := ⟨2, 1⟩) (meth := k2m1) (c := k2c1) (by decide +kernel) rfl rfl rfl (by decide +kernel)
def codes1 : List Jvm.Cond := [Jvm.Cond.code x code maxLocals ret, Jvm.Cond.code ({ cls := "com/example/odds_on_axioms/oddsonaxioms/network/Condition", name := "<init>", desc := "([I[I)V" } : Jvm.MethodName) prog_38_method_1_code (3 : Nat) (Option.none : Option Jvm.ClassFile.FieldType), Jvm.Cond.code ({ cls := "java/lang/Object", name := "<init>", desc := "()V" } : Jvm.MethodName) object_method_1_code (1 : Nat) (Option.none : Option Jvm.ClassFile.FieldType), Jvm.Cond.code ({ cls := "com/example/odds_on_axioms/oddsonaxioms/network/Condition", name := "isEmpty", desc := "()Z" } : Jvm.MethodName) prog_38_method_9_code (1 : Nat) (Option.some Jvm.ClassFile.FieldType.boolean), Jvm.Cond.code ({ cls := "com/example/odds_on_axioms/oddsonaxioms/network/Condition", name := "state", desc := "(I)I" } : Jvm.MethodName) prog_38_method_7_code (3 : Nat) (Option.some Jvm.ClassFile.FieldType.int), Jvm.Cond.code ({ cls := "java/util/Arrays", name := "binarySearch", desc := "([II)I" } : Jvm.MethodName) jdk_65_method_57_code (2 : Nat) (Option.some Jvm.ClassFile.FieldType.int), Jvm.Cond.code ({ cls := "java/util/Arrays", name := "binarySearch0", desc := "([IIII)I" } : Jvm.MethodName) jdk_65_method_59_code (8 : Nat) (Option.some Jvm.ClassFile.FieldType.int), Jvm.Cond.code ({ cls := "com/example/odds_on_axioms/oddsonaxioms/network/Condition", name := "empty", desc := "()Lcom/example/odds_on_axioms/oddsonaxioms/network/Condition;" } : Jvm.MethodName) prog_38_method_2_code (0 : Nat) (Option.some (Jvm.ClassFile.FieldType.object "com/example/odds_on_axioms/oddsonaxioms/network/Condition"))]
set_option maxRecDepth 65536 in
theorem codes_eq : words1.filter isCode = codes1 := rfl
theorem w_codes : ∀ c ∈ words1.filter isCode, c.before args0 about1 = true := by
  rw [codes_eq]
  intro c hc
  simp only [codes1, List.mem_cons, List.not_mem_nil, or_false] at hc
  rcases hc with rfl | rfl | rfl | rfl | rfl | rfl | rfl | rfl
  · exact w_c0
  · exact w_c1
  · exact w_c2
  · exact w_c3
  · exact w_c4
  · exact w_c5
  · exact w_c6
  · exact w_c7
set_option maxRecDepth 65536 in
theorem w_t1 : (words1.take 24).all (fun c => isCode c || c.before args0 about1) = true := by decide +kernel
set_option maxRecDepth 65536 in
theorem w_t2 : (words1.drop 24).all (fun c => isCode c || c.before args0 about1) = true := by decide +kernel
theorem w_tables : (allAtoms (Jvm.Cond.code x code maxLocals ret :: tables_1)).before args0 about1 = true := by
  rw [allAtoms_all]
  show words1.all (fun c => c.before args0 about1) = true
  refine all_split ?_ w_codes
  rw [← List.take_append_drop 24 words1, List.all_append, w_t1, w_t2]
  rfl
set_option maxRecDepth 65536 in
theorem w_case : (Jvm.Cond.and given_1 narrow_1).before args0 about1 = true := by decide +kernel
theorem w_applies : (headSpec (Jvm.Cond.code x code maxLocals ret :: tables_1) room_1).applies x e0.platform about1 = true :=
  (Spec.applies_iff w_frames).mpr ⟨w_running, w_runnable, w_alone, w_named, w_hears, w_ripe, w_room, w_tables⟩
theorem atStart : AtStart classFile x code maxLocals ret World_1 tables_1 room_1 Calls_1 rest_1 Pre_1 launch0 p0 e0 about1 theMethod args0 below0 :=
  ⟨lists_1, trivial, launch0.admits_env _ _ _, launch0.least_env, fairChoices_fair.cas, fairChoices_fair.clock, w_frames, w_args, w_heap, w_applies, trivial, trivial, w_case⟩
end start1
theorem witness_1 : WitnessClaimed_1 := ⟨start1.p0, start1.e0, start1.about1, start1.theMethod, start1.args0, start1.below0, start1.atStart⟩
end Jvm.Pilot.@@N@@
