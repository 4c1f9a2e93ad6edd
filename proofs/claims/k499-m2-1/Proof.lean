import JvmDerived
import JvmDerived.Pilot.@@N@@Statement
import JvmDerived.Pilot.@@N@@Code
set_option linter.unusedVariables false
set_option linter.unusedSimpArgs false
namespace Jvm.RoadKit
open Sem ClassFile Op Lib Jvm.Stand Jvm.Free Jvm.LawKit
section New
variable {p : Program} {l : Launch} {e : Env} {R : Room} {s : State} {m : MethodId} {args : Array Value} {below : List Frame} {meth : Method} {c : Code} {T : State} {locs : List Loc} {cells slots : Nat}
theorem retI (X : Stand p l e R s m args below meth c T locs cells slots) (hx : p.tables.exec = Jvm.exec) {pc : Nat} {Ls : Array Slot} {z : Int32} {rest : List Value} (hret : meth.sig.returnType = some .int) (hd : decode c.code pc = .ok (.ireturn, 1)) {fs : List Frame}
    (hl : ∀ (f : JFrame) (acts : List Action), f.method = m → f.locked = none → f.entered = [] → (doReturn e (T.setTop f) acts (some (.int z))).1 = T.setFrames fs) : Steps p.tables e below (T.setTop (mkF m pc Ls (.int z :: rest))) (T.setFrames fs) := by
  have hm' : T.vm.method? m = some meth := X.method'
  have hn : narrow .int (.int z) = .int z := rfl
  show Steps p.tables e below (T.setTop { method := m, pc := pc, locals := Ls, stack := _ :: rest, locked := none }) _
  jvm_step X.here [X.here.top, hx, hd, hm', hret, hn]
  first | (intro acts; rw [hl _ acts rfl rfl rfl]) | rw [hl _ _ rfl rfl rfl]
  exact Steps.refl _
end New
end Jvm.RoadKit
namespace Jvm.Pilot.@@N@@
open Jvm Jvm.ClassFile Sem Op Lib Jvm.Free Jvm.Stand Jvm.LawKit Jvm.RoadKit Bundle Jvm.Pilot.@@N@@.Jvm.D
/-- from the state A the run comes to the state B -/
def own_go (p : Program) (e : Env) (below : List Frame) (A B : State) : Prop := ∀ t, Steps p.tables e below B t → Steps p.tables e below A t
theorem own_wide {p : Program} {l : Launch} {e : Env} {R : Room} {s : State} {m : MethodId} {args : Array Value} {below : List Frame} {meth : Method} {c : Code} {T : State} {locs : List Loc} {cells slots k n : Nat} (X : Stand p l e R s m args below meth c T locs cells slots) (h1 : cells ≤ k) (h2 : slots ≤ n) : Stand p l e R s m args below meth c T locs k n :=
  { X with same := X.same.weaken (fun _ h _ => h) h1 h2 }
theorem own_getD {α : Type} (f : α → Value) : ∀ (l : List α) (d : α) (k : Nat), (l.map f).getD k (f d) = f (l.getD k d)
  | [], _, _ => rfl
  | _ :: _, _, 0 => rfl
  | _ :: t, d, k + 1 => own_getD f t d k
theorem d2_0 : decode jdk_30_method_1_code 0 = .ok (.aload_n 0, 1) := by decide +kernel
theorem d2_1 : decode jdk_30_method_1_code 1 = .ok (.invokespecial 1, 3) := by decide +kernel
theorem d2_4 : decode jdk_30_method_1_code 4 = .ok (.return_, 1) := by decide +kernel
theorem own_pn_java_lang_Record : plainName "java/lang/Record" = true := by first | (simp [plainName, overriddenIn]; done) | decide +kernel
theorem ef_2 (m : MethodId) (x0 : Addr) : entryFrame m #[(.ref x0)] 1 = mkF m 0 #[.val (.ref x0)] [] := by first | (simp [entryFrame, mkF, argsToLocals, Value.category]; done) | rfl
def Q2 (Z : State) (a1 : Addr) (h0 : Heap) (n0 : Nat) (v : Option Value) (h : Heap) (L : List Loc) : Prop := v = none ∧ Fr n0 L ∧ h = h0
set_option maxRecDepth 65536 in
set_option maxHeartbeats 40000000 in
theorem rm2 (l : Launch) (Z : State) (a0 : Array Value) (hw : ∀ d ∈ tables_1, d.before a0 Z = true) (ws : List Jvm.Cond) (a1 : Addr) (h0 : Heap) (n0 : Nat) (Z0 : n0 ≤ h0.size) :
    MetFree l (⟨"java/lang/Record", "<init>", "()V"⟩ : MethodName) (head1 (Jvm.Cond.code (⟨"java/lang/Record", "<init>", "()V"⟩ : MethodName) jdk_30_method_1_code 1 none :: ws) ({ frames := 1, cells := 0, slots := 0, locals := 12 } : Room)) (fun a U => a = #[(.ref a1)] ∧ Z.Warmed39 U.vm ∧ U.heap = h0) (fun _ _ _ _ _ => True) (fun _ U o U' => ∃ v L, o = .returned v ∧ Q2 Z a1 h0 n0 v U'.heap L ∧ FrameEnd U o U' L ({ frames := 1, cells := 0, slots := 0, locals := 12 } : Room).cells ({ frames := 1, cells := 0, slots := 0, locals := 12 } : Room).slots) := by
  refine MetFree.of_bodySF (plainFor_of_name own_pn_java_lang_Record) hisR ?_
  intro p e s m args below meth c s₁ Bd hml0 hP hK
  obtain ⟨rfl, hZ, hh⟩ := hP
  have hx := Bd.exec
  have hby := Bd.bytes
  have hml : c.maxLocals = 1 := hml0
  have hown : s.vm.findClass "java/lang/Record" = some m.cls := findClass_of_methodNamed Bd.named
  have hnm := (name_of_methodNamed Bd.named Bd.method).1
  have X0 : Stand p l e ({ frames := 1, cells := 0, slots := 0, locals := 12 } : Room) s m #[(.ref a1)] below meth c s₁ [] 0 0 := Stand.of_body Bd
  have e0 : s₁.heap = h0 := by rw [← hh, Bd.state]; rfl
  have N0 := Fr.nil n0
  have p0 : own_go p e below (s₁.setTop (entryFrame m #[(.ref a1)] 1)) (s₁.setTop (mkF m 0 #[.val (.ref a1)] [])) := fun t k => castTop (ef_2 m a1) k
  obtain ⟨T1, X1, e1, st1⟩ := initO X0 hx hZ hown (hw _ (List.mem_of_getElem? (i := 11) rfl)) (hw _ (List.mem_of_getElem? (i := 12) rfl)) (hw _ (List.mem_of_getElem? (i := 13) rfl)) e0 (g := (mkF m 1 #[.val (.ref a1)] [(.ref a1)])) rfl (by rw [hml]; rfl) rfl (hb hby d2_1) (by decide) (W := 0) (by show 2 * 0 + _ ≤ _; exact Nat.le_of_eq rfl) (by decide)
  have go2 : own_go p e below (s₁.setTop (entryFrame m #[(.ref a1)] 1)) (T1.setTop (mkF m 4 #[.val (.ref a1)] [])) := by
    intro t kt
    refine p0 t ?_
    show Steps p.tables e below (s₁.setTop (mkF m 0 #[.val (.ref a1)] [])) _
    refine XS.aloadN X0.here hx rfl (hb hby d2_0) rfl rfl ?_
    show Steps p.tables e below (s₁.setTop (mkF m 1 #[.val (.ref a1)] [(.ref a1)])) _
    refine st1 _ ?_
    exact kt
  obtain ⟨fs, hr, hrun, hended, hW, hsame⟩ := X1.leave (v := none) (fun _ => rfl)
  refine ⟨_, _, go2 _ ?_, hrun, hended, _, _, rfl, ?_, ⟨_, rfl⟩, hW, hsame.mono (by decide) (by decide)⟩
  · exact X1.returnOut hx Bd.returns (hb hby d2_4) hr
  · show Q2 Z a1 h0 n0 _ T1.heap _
    rw [e1]
    exact ⟨rfl, N0, rfl⟩
theorem d1_0 : decode prog_17_method_1_code 0 = .ok (.aload_n 0, 1) := by decide +kernel
theorem own_pd0 : parseMethodDescriptor "()V" = some ⟨[], none⟩ := by decide +kernel
theorem d1_1 : decode prog_17_method_1_code 1 = .ok (.invokespecial 1, 3) := by decide +kernel
theorem d1_4 : decode prog_17_method_1_code 4 = .ok (.aload_n 0, 1) := by decide +kernel
theorem d1_5 : decode prog_17_method_1_code 5 = .ok (.iload_n 1, 1) := by decide +kernel
theorem d1_6 : decode prog_17_method_1_code 6 = .ok (.putfield 7, 3) := by decide +kernel
theorem d1_9 : decode prog_17_method_1_code 9 = .ok (.aload_n 0, 1) := by decide +kernel
theorem d1_10 : decode prog_17_method_1_code 10 = .ok (.iload_n 2, 1) := by decide +kernel
theorem d1_11 : decode prog_17_method_1_code 11 = .ok (.putfield 13, 3) := by decide +kernel
theorem d1_14 : decode prog_17_method_1_code 14 = .ok (.aload_n 0, 1) := by decide +kernel
theorem d1_15 : decode prog_17_method_1_code 15 = .ok (.iload_n 3, 1) := by decide +kernel
theorem d1_16 : decode prog_17_method_1_code 16 = .ok (.putfield 16, 3) := by decide +kernel
theorem d1_19 : decode prog_17_method_1_code 19 = .ok (.aload_n 0, 1) := by decide +kernel
theorem d1_20 : decode prog_17_method_1_code 20 = .ok (.iload 4, 2) := by decide +kernel
theorem d1_22 : decode prog_17_method_1_code 22 = .ok (.putfield 19, 3) := by decide +kernel
theorem d1_25 : decode prog_17_method_1_code 25 = .ok (.return_, 1) := by decide +kernel
theorem own_pn_com_example_allegheny_allegheny_RequestId : plainName "com/example/allegheny/allegheny/RequestId" = true := by first | (simp [plainName, overriddenIn]; done) | decide +kernel
theorem ef_1 (m : MethodId) (x0 : Addr) (x1 : Int32) (x2 : Int32) (x3 : Int32) (x4 : Int32) : entryFrame m #[(.ref x0), (.int x1), (.int x2), (.int x3), (.int x4)] 5 = mkF m 0 #[.val (.ref x0), .val (.int x1), .val (.int x2), .val (.int x3), .val (.int x4)] [] := by first | (simp [entryFrame, mkF, argsToLocals, Value.category]; done) | rfl
def Q1 (Z : State) (a1 : Addr) (p2 : Int32) (p3 : Int32) (p4 : Int32) (p5 : Int32) (h0 : Heap) (n0 : Nat) (v : Option Value) (h : Heap) (L : List Loc) : Prop := v = none ∧ Fr n0 L ∧ Keep h0 h [a1] ∧ Exa Z h a1 "com/example/allegheny/allegheny/RequestId" ∧ Fld Z h a1 "com/example/allegheny/allegheny/RequestId" "clientId" "I" (.int p2) ∧ Fld Z h a1 "com/example/allegheny/allegheny/RequestId" "generation" "I" (.int p3) ∧ Fld Z h a1 "com/example/allegheny/allegheny/RequestId" "partitionId" "I" (.int p4) ∧ Fld Z h a1 "com/example/allegheny/allegheny/RequestId" "sequence" "I" (.int p5)
set_option maxRecDepth 65536 in
set_option maxHeartbeats 40000000 in
theorem rm1 (l : Launch) (Z : State) (a0 : Array Value) (hw : ∀ d ∈ tables_1, d.before a0 Z = true) (ws : List Jvm.Cond) (a1 : Addr) (p2 : Int32) (p3 : Int32) (p4 : Int32) (p5 : Int32) (h0 : Heap) (n0 : Nat) (Z0 : n0 ≤ h0.size) (E_a1 : Exa Z h0 a1 "com/example/allegheny/allegheny/RequestId") (g_a1 : n0 ≤ a1) (F_clientId : Fld Z h0 a1 "com/example/allegheny/allegheny/RequestId" "clientId" "I" (.int (0 : Int32))) (F_generation : Fld Z h0 a1 "com/example/allegheny/allegheny/RequestId" "generation" "I" (.int (0 : Int32))) (F_partitionId : Fld Z h0 a1 "com/example/allegheny/allegheny/RequestId" "partitionId" "I" (.int (0 : Int32))) (F_sequence : Fld Z h0 a1 "com/example/allegheny/allegheny/RequestId" "sequence" "I" (.int (0 : Int32))) :
    MetFree l (⟨"com/example/allegheny/allegheny/RequestId", "<init>", "(IIII)V"⟩ : MethodName) (head1 (Jvm.Cond.code (⟨"com/example/allegheny/allegheny/RequestId", "<init>", "(IIII)V"⟩ : MethodName) prog_17_method_1_code 5 none :: ws) ({ frames := 2, cells := 0, slots := 0, locals := 24 } : Room)) (fun a U => a = #[(.ref a1), (.int p2), (.int p3), (.int p4), (.int p5)] ∧ Z.Warmed39 U.vm ∧ U.heap = h0) (fun _ _ _ _ _ => True) (fun _ U o U' => ∃ v L, o = .returned v ∧ Q1 Z a1 p2 p3 p4 p5 h0 n0 v U'.heap L ∧ FrameEnd U o U' L ({ frames := 2, cells := 0, slots := 0, locals := 24 } : Room).cells ({ frames := 2, cells := 0, slots := 0, locals := 24 } : Room).slots) := by
  refine MetFree.of_bodySF (plainFor_of_name own_pn_com_example_allegheny_allegheny_RequestId) hisR ?_
  intro p e s m args below meth c s₁ Bd hml0 hP hK
  obtain ⟨rfl, hZ, hh⟩ := hP
  have hx := Bd.exec
  have hby := Bd.bytes
  have hml : c.maxLocals = 5 := hml0
  have hown : s.vm.findClass "com/example/allegheny/allegheny/RequestId" = some m.cls := findClass_of_methodNamed Bd.named
  have hnm := (name_of_methodNamed Bd.named Bd.method).1
  have X0 : Stand p l e ({ frames := 2, cells := 0, slots := 0, locals := 24 } : Room) s m #[(.ref a1), (.int p2), (.int p3), (.int p4), (.int p5)] below meth c s₁ [] 0 0 := Stand.of_body Bd
  have e0 : s₁.heap = h0 := by rw [← hh, Bd.state]; rfl
  have N0 := Fr.nil n0
  have p0 : own_go p e below (s₁.setTop (entryFrame m #[(.ref a1), (.int p2), (.int p3), (.int p4), (.int p5)] 5)) (s₁.setTop (mkF m 0 #[.val (.ref a1), .val (.int p2), .val (.int p3), .val (.int p4), .val (.int p5)] [])) := fun t k => castTop (ef_1 m a1 p2 p3 p4 p5) k
  obtain ⟨_, _, ⟨T1, L1, k1, n1⟩, -, X1, ⟨Lc1, hQ1, l1, y1, z1⟩, st1⟩ := X0.specialBack hx (y := (⟨"java/lang/Record", "<init>", "()V"⟩ : MethodName)) rfl hown (mvT hZ (hw _ (List.mem_of_getElem? (i := 6) rfl))) (mvT hZ (hw _ (List.mem_of_getElem? (i := 7) rfl))) (mvT hZ (hw _ (List.mem_of_getElem? (i := 10) rfl))) (by decide) (backOf (W := 0) (rm2 l Z a0 hw [] a1  h0 n0 Z0 ) hZ (hw _ (List.mem_of_getElem? (i := 10) rfl)) (hw _ (List.mem_of_getElem? (i := 9) rfl)) (by decide) (by decide)) (g := (mkF m 1 #[.val (.ref a1), .val (.int p2), .val (.int p3), .val (.int p4), .val (.int p5)] [(.ref a1)])) rfl (by rw [hml]; rfl) (Steps.refl _) (a := a1) (argsL := []) (rest := []) (lenOf own_pd0 rfl) rfl (by show 2 * 0 + _ ≤ _; exact Nat.le_of_eq rfl) (hb hby d1_1) (fun _ _ => ⟨rfl, e0, (by decide : 0 + 0 ≤ _), (by decide : 0 + 0 ≤ _)⟩)
  dsimp only [Pt.U, Pt.locs, Pt.cells, Pt.slots] at X1 l1 y1 z1 st1 hQ1
  subst l1 y1 z1
  obtain ⟨rfl, Nq1, e1⟩ := hQ1
  have N1 := Fr.app N0 Nq1
  obtain ⟨T2, h2, X2, e2, W2, st2⟩ := putF X1 hx hZ hown (host := "") (Or.inl (hw _ (List.mem_of_getElem? (i := 14) rfl))) Via.refl e1 F_clientId E_a1 (Or.inr ⟨(hw _ (List.mem_of_getElem? (i := 15) rfl)), rfl, hnm⟩) (hw _ (List.mem_of_getElem? (i := 1) rfl)) (ty := .int) (by decide) rfl rfl (g := (mkF m 6 #[.val (.ref a1), .val (.int p2), .val (.int p3), .val (.int p4), .val (.int p5)] [(.int p2), (.ref a1)])) rfl rfl (hb hby d1_6)
  have Z2 : n0 ≤ h2.size := Nat.le_trans Z0 (Nat.le_of_eq W2.size.symm)
  have K2 : Keep h0 h2 [a1] := (Keep.refl h0 [a1]).wr W2 (Or.inl (List.mem_of_getElem? (i := 0) rfl))
  have N2 := Fr.snoc X2 N1 g_a1
  have Fw2 := F_clientId.same W2
  have f3 := (F_generation.other W2 (Or.inr (slot_ne (Or.inr (hw _ (List.mem_of_getElem? (i := 17) rfl))) (Or.inr (hw _ (List.mem_of_getElem? (i := 15) rfl))) (by decide) (t := .int) (t' := .int) (by decide) (by decide))))
  have f4 := (E_a1.wr W2)
  obtain ⟨T5, h5, X5, e5, W5, st5⟩ := putF X2 hx hZ hown (host := "") (Or.inl (hw _ (List.mem_of_getElem? (i := 16) rfl))) Via.refl e2 f3 f4 (Or.inr ⟨(hw _ (List.mem_of_getElem? (i := 17) rfl)), rfl, hnm⟩) (hw _ (List.mem_of_getElem? (i := 1) rfl)) (ty := .int) (by decide) rfl rfl (g := (mkF m 11 #[.val (.ref a1), .val (.int p2), .val (.int p3), .val (.int p4), .val (.int p5)] [(.int p3), (.ref a1)])) rfl rfl (hb hby d1_11)
  have Z5 : n0 ≤ h5.size := Nat.le_trans Z2 (Nat.le_of_eq W5.size.symm)
  have K5 : Keep h0 h5 [a1] := K2.wr W5 (Or.inl (List.mem_of_getElem? (i := 0) rfl))
  have N5 := Fr.snoc X5 N2 g_a1
  have Fw5 := f3.same W5
  have f6 := ((F_partitionId.other W2 (Or.inr (slot_ne (Or.inr (hw _ (List.mem_of_getElem? (i := 19) rfl))) (Or.inr (hw _ (List.mem_of_getElem? (i := 15) rfl))) (by decide) (t := .int) (t' := .int) (by decide) (by decide)))).other W5 (Or.inr (slot_ne (Or.inr (hw _ (List.mem_of_getElem? (i := 19) rfl))) (Or.inr (hw _ (List.mem_of_getElem? (i := 17) rfl))) (by decide) (t := .int) (t' := .int) (by decide) (by decide))))
  have f7 := (f4.wr W5)
  obtain ⟨T8, h8, X8, e8, W8, st8⟩ := putF X5 hx hZ hown (host := "") (Or.inl (hw _ (List.mem_of_getElem? (i := 18) rfl))) Via.refl e5 f6 f7 (Or.inr ⟨(hw _ (List.mem_of_getElem? (i := 19) rfl)), rfl, hnm⟩) (hw _ (List.mem_of_getElem? (i := 1) rfl)) (ty := .int) (by decide) rfl rfl (g := (mkF m 16 #[.val (.ref a1), .val (.int p2), .val (.int p3), .val (.int p4), .val (.int p5)] [(.int p4), (.ref a1)])) rfl rfl (hb hby d1_16)
  have Z8 : n0 ≤ h8.size := Nat.le_trans Z5 (Nat.le_of_eq W8.size.symm)
  have K8 : Keep h0 h8 [a1] := K5.wr W8 (Or.inl (List.mem_of_getElem? (i := 0) rfl))
  have N8 := Fr.snoc X8 N5 g_a1
  have Fw8 := f6.same W8
  have f9 := (((F_sequence.other W2 (Or.inr (slot_ne (Or.inr (hw _ (List.mem_of_getElem? (i := 21) rfl))) (Or.inr (hw _ (List.mem_of_getElem? (i := 15) rfl))) (by decide) (t := .int) (t' := .int) (by decide) (by decide)))).other W5 (Or.inr (slot_ne (Or.inr (hw _ (List.mem_of_getElem? (i := 21) rfl))) (Or.inr (hw _ (List.mem_of_getElem? (i := 17) rfl))) (by decide) (t := .int) (t' := .int) (by decide) (by decide)))).other W8 (Or.inr (slot_ne (Or.inr (hw _ (List.mem_of_getElem? (i := 21) rfl))) (Or.inr (hw _ (List.mem_of_getElem? (i := 19) rfl))) (by decide) (t := .int) (t' := .int) (by decide) (by decide))))
  have f10 := (f7.wr W8)
  obtain ⟨T11, h11, X11, e11, W11, st11⟩ := putF X8 hx hZ hown (host := "") (Or.inl (hw _ (List.mem_of_getElem? (i := 20) rfl))) Via.refl e8 f9 f10 (Or.inr ⟨(hw _ (List.mem_of_getElem? (i := 21) rfl)), rfl, hnm⟩) (hw _ (List.mem_of_getElem? (i := 1) rfl)) (ty := .int) (by decide) rfl rfl (g := (mkF m 22 #[.val (.ref a1), .val (.int p2), .val (.int p3), .val (.int p4), .val (.int p5)] [(.int p5), (.ref a1)])) rfl rfl (hb hby d1_22)
  have Z11 : n0 ≤ h11.size := Nat.le_trans Z8 (Nat.le_of_eq W11.size.symm)
  have K11 : Keep h0 h11 [a1] := K8.wr W11 (Or.inl (List.mem_of_getElem? (i := 0) rfl))
  have N11 := Fr.snoc X11 N8 g_a1
  have Fw11 := f9.same W11
  have go12 : own_go p e below (s₁.setTop (entryFrame m #[(.ref a1), (.int p2), (.int p3), (.int p4), (.int p5)] 5)) (T11.setTop (mkF m 25 #[.val (.ref a1), .val (.int p2), .val (.int p3), .val (.int p4), .val (.int p5)] [])) := by
    intro t kt
    refine p0 t ?_
    show Steps p.tables e below (s₁.setTop (mkF m 0 #[.val (.ref a1), .val (.int p2), .val (.int p3), .val (.int p4), .val (.int p5)] [])) _
    refine XS.aloadN X0.here hx rfl (hb hby d1_0) rfl rfl ?_
    show Steps p.tables e below (s₁.setTop (mkF m 1 #[.val (.ref a1), .val (.int p2), .val (.int p3), .val (.int p4), .val (.int p5)] [(.ref a1)])) _
    refine st1.trans ?_
    show Steps p.tables e below (T1.setTop (mkF m 4 #[.val (.ref a1), .val (.int p2), .val (.int p3), .val (.int p4), .val (.int p5)] [])) _
    refine XS.aloadN X1.here hx rfl (hb hby d1_4) rfl rfl ?_
    show Steps p.tables e below (T1.setTop (mkF m 5 #[.val (.ref a1), .val (.int p2), .val (.int p3), .val (.int p4), .val (.int p5)] [(.ref a1)])) _
    refine XS.iloadN X1.here hx rfl (hb hby d1_5) rfl ?_
    show Steps p.tables e below (T1.setTop (mkF m 6 #[.val (.ref a1), .val (.int p2), .val (.int p3), .val (.int p4), .val (.int p5)] [(.int p2), (.ref a1)])) _
    refine st2 _ ?_
    show Steps p.tables e below (T2.setTop (mkF m 9 #[.val (.ref a1), .val (.int p2), .val (.int p3), .val (.int p4), .val (.int p5)] [])) _
    refine XS.aloadN X2.here hx rfl (hb hby d1_9) rfl rfl ?_
    show Steps p.tables e below (T2.setTop (mkF m 10 #[.val (.ref a1), .val (.int p2), .val (.int p3), .val (.int p4), .val (.int p5)] [(.ref a1)])) _
    refine XS.iloadN X2.here hx rfl (hb hby d1_10) rfl ?_
    show Steps p.tables e below (T2.setTop (mkF m 11 #[.val (.ref a1), .val (.int p2), .val (.int p3), .val (.int p4), .val (.int p5)] [(.int p3), (.ref a1)])) _
    refine st5 _ ?_
    show Steps p.tables e below (T5.setTop (mkF m 14 #[.val (.ref a1), .val (.int p2), .val (.int p3), .val (.int p4), .val (.int p5)] [])) _
    refine XS.aloadN X5.here hx rfl (hb hby d1_14) rfl rfl ?_
    show Steps p.tables e below (T5.setTop (mkF m 15 #[.val (.ref a1), .val (.int p2), .val (.int p3), .val (.int p4), .val (.int p5)] [(.ref a1)])) _
    refine XS.iloadN X5.here hx rfl (hb hby d1_15) rfl ?_
    show Steps p.tables e below (T5.setTop (mkF m 16 #[.val (.ref a1), .val (.int p2), .val (.int p3), .val (.int p4), .val (.int p5)] [(.int p4), (.ref a1)])) _
    refine st8 _ ?_
    show Steps p.tables e below (T8.setTop (mkF m 19 #[.val (.ref a1), .val (.int p2), .val (.int p3), .val (.int p4), .val (.int p5)] [])) _
    refine XS.aloadN X8.here hx rfl (hb hby d1_19) rfl rfl ?_
    show Steps p.tables e below (T8.setTop (mkF m 20 #[.val (.ref a1), .val (.int p2), .val (.int p3), .val (.int p4), .val (.int p5)] [(.ref a1)])) _
    refine XS.iload X8.here hx rfl (hb hby d1_20) rfl ?_
    show Steps p.tables e below (T8.setTop (mkF m 22 #[.val (.ref a1), .val (.int p2), .val (.int p3), .val (.int p4), .val (.int p5)] [(.int p5), (.ref a1)])) _
    refine st11 _ ?_
    exact kt
  obtain ⟨fs, hr, hrun, hended, hW, hsame⟩ := X11.leave (v := none) (fun _ => rfl)
  refine ⟨_, _, go12 _ ?_, hrun, hended, _, _, rfl, ?_, ⟨_, rfl⟩, hW, hsame.mono (by decide) (by decide)⟩
  · exact X11.returnOut hx Bd.returns (hb hby d1_25) hr
  · show Q1 Z a1 p2 p3 p4 p5 h0 n0 _ T11.heap _
    rw [e11]
    have f13 := (f10.wr W11)
    have f14 := (((Fw2.other W5 (Or.inr (slot_ne (Or.inr (hw _ (List.mem_of_getElem? (i := 15) rfl))) (Or.inr (hw _ (List.mem_of_getElem? (i := 17) rfl))) (by decide) (t := .int) (t' := .int) (by decide) (by decide)))).other W8 (Or.inr (slot_ne (Or.inr (hw _ (List.mem_of_getElem? (i := 15) rfl))) (Or.inr (hw _ (List.mem_of_getElem? (i := 19) rfl))) (by decide) (t := .int) (t' := .int) (by decide) (by decide)))).other W11 (Or.inr (slot_ne (Or.inr (hw _ (List.mem_of_getElem? (i := 15) rfl))) (Or.inr (hw _ (List.mem_of_getElem? (i := 21) rfl))) (by decide) (t := .int) (t' := .int) (by decide) (by decide))))
    have f15 := ((Fw5.other W8 (Or.inr (slot_ne (Or.inr (hw _ (List.mem_of_getElem? (i := 17) rfl))) (Or.inr (hw _ (List.mem_of_getElem? (i := 19) rfl))) (by decide) (t := .int) (t' := .int) (by decide) (by decide)))).other W11 (Or.inr (slot_ne (Or.inr (hw _ (List.mem_of_getElem? (i := 17) rfl))) (Or.inr (hw _ (List.mem_of_getElem? (i := 21) rfl))) (by decide) (t := .int) (t' := .int) (by decide) (by decide))))
    have f16 := (Fw8.other W11 (Or.inr (slot_ne (Or.inr (hw _ (List.mem_of_getElem? (i := 19) rfl))) (Or.inr (hw _ (List.mem_of_getElem? (i := 21) rfl))) (by decide) (t := .int) (t' := .int) (by decide) (by decide))))
    exact ⟨rfl, N11, K11, f13, f14, f15, f16, Fw11⟩
theorem d4_0 : decode prog_48_method_1_code 0 = .ok (.aload_n 0, 1) := by decide +kernel
theorem d4_1 : decode prog_48_method_1_code 1 = .ok (.invokespecial 1, 3) := by decide +kernel
theorem d4_4 : decode prog_48_method_1_code 4 = .ok (.aload_n 0, 1) := by decide +kernel
theorem d4_5 : decode prog_48_method_1_code 5 = .ok (.aload_n 1, 1) := by decide +kernel
theorem d4_6 : decode prog_48_method_1_code 6 = .ok (.putfield 7, 3) := by decide +kernel
theorem d4_9 : decode prog_48_method_1_code 9 = .ok (.aload_n 0, 1) := by decide +kernel
theorem d4_10 : decode prog_48_method_1_code 10 = .ok (.lload_n 2, 1) := by decide +kernel
theorem d4_11 : decode prog_48_method_1_code 11 = .ok (.putfield 13, 3) := by decide +kernel
theorem d4_14 : decode prog_48_method_1_code 14 = .ok (.aload_n 0, 1) := by decide +kernel
theorem d4_15 : decode prog_48_method_1_code 15 = .ok (.aload 4, 2) := by decide +kernel
theorem d4_17 : decode prog_48_method_1_code 17 = .ok (.putfield 17, 3) := by decide +kernel
theorem d4_20 : decode prog_48_method_1_code 20 = .ok (.aload_n 0, 1) := by decide +kernel
theorem d4_21 : decode prog_48_method_1_code 21 = .ok (.aload 5, 2) := by decide +kernel
theorem d4_23 : decode prog_48_method_1_code 23 = .ok (.putfield 21, 3) := by decide +kernel
theorem d4_26 : decode prog_48_method_1_code 26 = .ok (.aload_n 0, 1) := by decide +kernel
theorem d4_27 : decode prog_48_method_1_code 27 = .ok (.iload 6, 2) := by decide +kernel
theorem d4_29 : decode prog_48_method_1_code 29 = .ok (.putfield 24, 3) := by decide +kernel
theorem d4_32 : decode prog_48_method_1_code 32 = .ok (.aload_n 0, 1) := by decide +kernel
theorem d4_33 : decode prog_48_method_1_code 33 = .ok (.aload 7, 2) := by decide +kernel
theorem d4_35 : decode prog_48_method_1_code 35 = .ok (.putfield 28, 3) := by decide +kernel
theorem d4_38 : decode prog_48_method_1_code 38 = .ok (.aload_n 0, 1) := by decide +kernel
theorem d4_39 : decode prog_48_method_1_code 39 = .ok (.iload 8, 2) := by decide +kernel
theorem d4_41 : decode prog_48_method_1_code 41 = .ok (.putfield 32, 3) := by decide +kernel
theorem d4_44 : decode prog_48_method_1_code 44 = .ok (.return_, 1) := by decide +kernel
theorem own_pn_com_example_allegheny_allegheny_protocol_Message_AppendRequest : plainName "com/example/allegheny/allegheny/protocol/Message$AppendRequest" = true := by first | (simp [plainName, overriddenIn]; done) | decide +kernel
theorem ef_4 (m : MethodId) (x0 : Addr) (x1 : Addr) (x2 : Int64) (x3 : Addr) (x4 : Addr) (x5 : Int32) (x6 : Addr) (x7 : Int32) : entryFrame m #[(.ref x0), (.ref x1), (.long x2), (.ref x3), (.ref x4), (.int x5), (.ref x6), (.int x7)] 9 = mkF m 0 #[.val (.ref x0), .val (.ref x1), .val (.long x2), .second, .val (.ref x3), .val (.ref x4), .val (.int x5), .val (.ref x6), .val (.int x7)] [] := by first | (simp [entryFrame, mkF, argsToLocals, Value.category]; done) | rfl
def Q4 (Z : State) (a1 : Addr) (x2 : Addr) (q3 : Int64) (x4 : Addr) (x5 : Addr) (p6 : Int32) (x7 : Addr) (p8 : Int32) (h0 : Heap) (n0 : Nat) (v : Option Value) (h : Heap) (L : List Loc) : Prop := v = none ∧ Fr n0 L ∧ Keep h0 h [a1] ∧ Exa Z h a1 "com/example/allegheny/allegheny/protocol/Message$AppendRequest" ∧ Fld Z h a1 "com/example/allegheny/allegheny/protocol/Message$AppendRequest" "requestId" "Lcom/example/allegheny/allegheny/RequestId;" (.ref x2) ∧ Fld Z h a1 "com/example/allegheny/allegheny/protocol/Message$AppendRequest" "highWaterMark" "J" (.long q3) ∧ Fld Z h a1 "com/example/allegheny/allegheny/protocol/Message$AppendRequest" "writeLockHashes" "[I" (.ref x4) ∧ Fld Z h a1 "com/example/allegheny/allegheny/protocol/Message$AppendRequest" "readLockHashes" "[I" (.ref x5) ∧ Fld Z h a1 "com/example/allegheny/allegheny/protocol/Message$AppendRequest" "header" "I" (.int p6) ∧ Fld Z h a1 "com/example/allegheny/allegheny/protocol/Message$AppendRequest" "data" "[B" (.ref x7) ∧ Fld Z h a1 "com/example/allegheny/allegheny/protocol/Message$AppendRequest" "dataCrc" "I" (.int p8)
set_option maxRecDepth 65536 in
set_option maxHeartbeats 40000000 in
theorem rm4 (l : Launch) (Z : State) (a0 : Array Value) (hw : ∀ d ∈ tables_1, d.before a0 Z = true) (ws : List Jvm.Cond) (a1 : Addr) (x2 : Addr) (q3 : Int64) (x4 : Addr) (x5 : Addr) (p6 : Int32) (x7 : Addr) (p8 : Int32) (h0 : Heap) (n0 : Nat) (Z0 : n0 ≤ h0.size) (E_a1 : Exa Z h0 a1 "com/example/allegheny/allegheny/protocol/Message$AppendRequest") (g_a1 : n0 ≤ a1) (F_requestId : Fld Z h0 a1 "com/example/allegheny/allegheny/protocol/Message$AppendRequest" "requestId" "Lcom/example/allegheny/allegheny/RequestId;" .null) (F_highWaterMark : Fld Z h0 a1 "com/example/allegheny/allegheny/protocol/Message$AppendRequest" "highWaterMark" "J" (.long (0 : Int64))) (F_writeLockHashes : Fld Z h0 a1 "com/example/allegheny/allegheny/protocol/Message$AppendRequest" "writeLockHashes" "[I" .null) (F_readLockHashes : Fld Z h0 a1 "com/example/allegheny/allegheny/protocol/Message$AppendRequest" "readLockHashes" "[I" .null) (F_header : Fld Z h0 a1 "com/example/allegheny/allegheny/protocol/Message$AppendRequest" "header" "I" (.int (0 : Int32))) (F_data : Fld Z h0 a1 "com/example/allegheny/allegheny/protocol/Message$AppendRequest" "data" "[B" .null) (F_dataCrc : Fld Z h0 a1 "com/example/allegheny/allegheny/protocol/Message$AppendRequest" "dataCrc" "I" (.int (0 : Int32))) :
    MetFree l (⟨"com/example/allegheny/allegheny/protocol/Message$AppendRequest", "<init>", "(Lcom/example/allegheny/allegheny/RequestId;J[I[II[BI)V"⟩ : MethodName) (head1 (Jvm.Cond.code (⟨"com/example/allegheny/allegheny/protocol/Message$AppendRequest", "<init>", "(Lcom/example/allegheny/allegheny/RequestId;J[I[II[BI)V"⟩ : MethodName) prog_48_method_1_code 9 none :: ws) ({ frames := 2, cells := 0, slots := 0, locals := 24 } : Room)) (fun a U => a = #[(.ref a1), (.ref x2), (.long q3), (.ref x4), (.ref x5), (.int p6), (.ref x7), (.int p8)] ∧ Z.Warmed39 U.vm ∧ U.heap = h0) (fun _ _ _ _ _ => True) (fun _ U o U' => ∃ v L, o = .returned v ∧ Q4 Z a1 x2 q3 x4 x5 p6 x7 p8 h0 n0 v U'.heap L ∧ FrameEnd U o U' L ({ frames := 2, cells := 0, slots := 0, locals := 24 } : Room).cells ({ frames := 2, cells := 0, slots := 0, locals := 24 } : Room).slots) := by
  refine MetFree.of_bodySF (plainFor_of_name own_pn_com_example_allegheny_allegheny_protocol_Message_AppendRequest) hisR ?_
  intro p e s m args below meth c s₁ Bd hml0 hP hK
  obtain ⟨rfl, hZ, hh⟩ := hP
  have hx := Bd.exec
  have hby := Bd.bytes
  have hml : c.maxLocals = 9 := hml0
  have hown : s.vm.findClass "com/example/allegheny/allegheny/protocol/Message$AppendRequest" = some m.cls := findClass_of_methodNamed Bd.named
  have hnm := (name_of_methodNamed Bd.named Bd.method).1
  have X0 : Stand p l e ({ frames := 2, cells := 0, slots := 0, locals := 24 } : Room) s m #[(.ref a1), (.ref x2), (.long q3), (.ref x4), (.ref x5), (.int p6), (.ref x7), (.int p8)] below meth c s₁ [] 0 0 := Stand.of_body Bd
  have e0 : s₁.heap = h0 := by rw [← hh, Bd.state]; rfl
  have N0 := Fr.nil n0
  have p0 : own_go p e below (s₁.setTop (entryFrame m #[(.ref a1), (.ref x2), (.long q3), (.ref x4), (.ref x5), (.int p6), (.ref x7), (.int p8)] 9)) (s₁.setTop (mkF m 0 #[.val (.ref a1), .val (.ref x2), .val (.long q3), .second, .val (.ref x4), .val (.ref x5), .val (.int p6), .val (.ref x7), .val (.int p8)] [])) := fun t k => castTop (ef_4 m a1 x2 q3 x4 x5 p6 x7 p8) k
  obtain ⟨_, _, ⟨T1, L1, k1, n1⟩, -, X1, ⟨Lc1, hQ1, l1, y1, z1⟩, st1⟩ := X0.specialBack hx (y := (⟨"java/lang/Record", "<init>", "()V"⟩ : MethodName)) rfl hown (mvT hZ (hw _ (List.mem_of_getElem? (i := 30) rfl))) (mvT hZ (hw _ (List.mem_of_getElem? (i := 7) rfl))) (mvT hZ (hw _ (List.mem_of_getElem? (i := 10) rfl))) (by decide) (backOf (W := 0) (rm2 l Z a0 hw [] a1  h0 n0 Z0 ) hZ (hw _ (List.mem_of_getElem? (i := 10) rfl)) (hw _ (List.mem_of_getElem? (i := 9) rfl)) (by decide) (by decide)) (g := (mkF m 1 #[.val (.ref a1), .val (.ref x2), .val (.long q3), .second, .val (.ref x4), .val (.ref x5), .val (.int p6), .val (.ref x7), .val (.int p8)] [(.ref a1)])) rfl (by rw [hml]; rfl) (Steps.refl _) (a := a1) (argsL := []) (rest := []) (lenOf own_pd0 rfl) rfl (by show 2 * 0 + _ ≤ _; exact Nat.le_of_eq rfl) (hb hby d4_1) (fun _ _ => ⟨rfl, e0, (by decide : 0 + 0 ≤ _), (by decide : 0 + 0 ≤ _)⟩)
  dsimp only [Pt.U, Pt.locs, Pt.cells, Pt.slots] at X1 l1 y1 z1 st1 hQ1
  subst l1 y1 z1
  obtain ⟨rfl, Nq1, e1⟩ := hQ1
  have N1 := Fr.app N0 Nq1
  obtain ⟨T2, h2, X2, e2, W2, st2⟩ := putF X1 hx hZ hown (host := "") (Or.inl (hw _ (List.mem_of_getElem? (i := 31) rfl))) Via.refl e1 F_requestId E_a1 (Or.inr ⟨(hw _ (List.mem_of_getElem? (i := 32) rfl)), rfl, hnm⟩) (hw _ (List.mem_of_getElem? (i := 25) rfl)) (ty := (.object "com/example/allegheny/allegheny/RequestId")) (by decide) rfl rfl (g := (mkF m 6 #[.val (.ref a1), .val (.ref x2), .val (.long q3), .second, .val (.ref x4), .val (.ref x5), .val (.int p6), .val (.ref x7), .val (.int p8)] [(.ref x2), (.ref a1)])) rfl rfl (hb hby d4_6)
  have Z2 : n0 ≤ h2.size := Nat.le_trans Z0 (Nat.le_of_eq W2.size.symm)
  have K2 : Keep h0 h2 [a1] := (Keep.refl h0 [a1]).wr W2 (Or.inl (List.mem_of_getElem? (i := 0) rfl))
  have N2 := Fr.snoc X2 N1 g_a1
  have Fw2 := F_requestId.same W2
  have f3 := (F_highWaterMark.other W2 (Or.inr (slot_ne (Or.inr (hw _ (List.mem_of_getElem? (i := 34) rfl))) (Or.inr (hw _ (List.mem_of_getElem? (i := 32) rfl))) (by decide) (t := .long) (t' := (.object "com/example/allegheny/allegheny/RequestId")) (by decide) (by decide))))
  have f4 := (E_a1.wr W2)
  obtain ⟨T5, h5, X5, e5, W5, st5⟩ := putF X2 hx hZ hown (host := "") (Or.inl (hw _ (List.mem_of_getElem? (i := 33) rfl))) Via.refl e2 f3 f4 (Or.inr ⟨(hw _ (List.mem_of_getElem? (i := 34) rfl)), rfl, hnm⟩) (hw _ (List.mem_of_getElem? (i := 25) rfl)) (ty := .long) (by decide) rfl rfl (g := (mkF m 11 #[.val (.ref a1), .val (.ref x2), .val (.long q3), .second, .val (.ref x4), .val (.ref x5), .val (.int p6), .val (.ref x7), .val (.int p8)] [(.long q3), (.ref a1)])) rfl rfl (hb hby d4_11)
  have Z5 : n0 ≤ h5.size := Nat.le_trans Z2 (Nat.le_of_eq W5.size.symm)
  have K5 : Keep h0 h5 [a1] := K2.wr W5 (Or.inl (List.mem_of_getElem? (i := 0) rfl))
  have N5 := Fr.snoc X5 N2 g_a1
  have Fw5 := f3.same W5
  have f6 := ((F_writeLockHashes.other W2 (Or.inr (slot_ne (Or.inr (hw _ (List.mem_of_getElem? (i := 36) rfl))) (Or.inr (hw _ (List.mem_of_getElem? (i := 32) rfl))) (by decide) (t := (.array .int)) (t' := (.object "com/example/allegheny/allegheny/RequestId")) (by decide) (by decide)))).other W5 (Or.inr (slot_ne (Or.inr (hw _ (List.mem_of_getElem? (i := 36) rfl))) (Or.inr (hw _ (List.mem_of_getElem? (i := 34) rfl))) (by decide) (t := (.array .int)) (t' := .long) (by decide) (by decide))))
  have f7 := (f4.wr W5)
  obtain ⟨T8, h8, X8, e8, W8, st8⟩ := putF X5 hx hZ hown (host := "") (Or.inl (hw _ (List.mem_of_getElem? (i := 35) rfl))) Via.refl e5 f6 f7 (Or.inr ⟨(hw _ (List.mem_of_getElem? (i := 36) rfl)), rfl, hnm⟩) (hw _ (List.mem_of_getElem? (i := 25) rfl)) (ty := (.array .int)) (by decide) rfl rfl (g := (mkF m 17 #[.val (.ref a1), .val (.ref x2), .val (.long q3), .second, .val (.ref x4), .val (.ref x5), .val (.int p6), .val (.ref x7), .val (.int p8)] [(.ref x4), (.ref a1)])) rfl rfl (hb hby d4_17)
  have Z8 : n0 ≤ h8.size := Nat.le_trans Z5 (Nat.le_of_eq W8.size.symm)
  have K8 : Keep h0 h8 [a1] := K5.wr W8 (Or.inl (List.mem_of_getElem? (i := 0) rfl))
  have N8 := Fr.snoc X8 N5 g_a1
  have Fw8 := f6.same W8
  have f9 := (((F_readLockHashes.other W2 (Or.inr (slot_ne (Or.inr (hw _ (List.mem_of_getElem? (i := 38) rfl))) (Or.inr (hw _ (List.mem_of_getElem? (i := 32) rfl))) (by decide) (t := (.array .int)) (t' := (.object "com/example/allegheny/allegheny/RequestId")) (by decide) (by decide)))).other W5 (Or.inr (slot_ne (Or.inr (hw _ (List.mem_of_getElem? (i := 38) rfl))) (Or.inr (hw _ (List.mem_of_getElem? (i := 34) rfl))) (by decide) (t := (.array .int)) (t' := .long) (by decide) (by decide)))).other W8 (Or.inr (slot_ne (Or.inr (hw _ (List.mem_of_getElem? (i := 38) rfl))) (Or.inr (hw _ (List.mem_of_getElem? (i := 36) rfl))) (by decide) (t := (.array .int)) (t' := (.array .int)) (by decide) (by decide))))
  have f10 := (f7.wr W8)
  obtain ⟨T11, h11, X11, e11, W11, st11⟩ := putF X8 hx hZ hown (host := "") (Or.inl (hw _ (List.mem_of_getElem? (i := 37) rfl))) Via.refl e8 f9 f10 (Or.inr ⟨(hw _ (List.mem_of_getElem? (i := 38) rfl)), rfl, hnm⟩) (hw _ (List.mem_of_getElem? (i := 25) rfl)) (ty := (.array .int)) (by decide) rfl rfl (g := (mkF m 23 #[.val (.ref a1), .val (.ref x2), .val (.long q3), .second, .val (.ref x4), .val (.ref x5), .val (.int p6), .val (.ref x7), .val (.int p8)] [(.ref x5), (.ref a1)])) rfl rfl (hb hby d4_23)
  have Z11 : n0 ≤ h11.size := Nat.le_trans Z8 (Nat.le_of_eq W11.size.symm)
  have K11 : Keep h0 h11 [a1] := K8.wr W11 (Or.inl (List.mem_of_getElem? (i := 0) rfl))
  have N11 := Fr.snoc X11 N8 g_a1
  have Fw11 := f9.same W11
  have go12 : own_go p e below (s₁.setTop (entryFrame m #[(.ref a1), (.ref x2), (.long q3), (.ref x4), (.ref x5), (.int p6), (.ref x7), (.int p8)] 9)) (T11.setTop (mkF m 27 #[.val (.ref a1), .val (.ref x2), .val (.long q3), .second, .val (.ref x4), .val (.ref x5), .val (.int p6), .val (.ref x7), .val (.int p8)] [(.ref a1)])) := by
    intro t kt
    refine p0 t ?_
    show Steps p.tables e below (s₁.setTop (mkF m 0 #[.val (.ref a1), .val (.ref x2), .val (.long q3), .second, .val (.ref x4), .val (.ref x5), .val (.int p6), .val (.ref x7), .val (.int p8)] [])) _
    refine XS.aloadN X0.here hx rfl (hb hby d4_0) rfl rfl ?_
    show Steps p.tables e below (s₁.setTop (mkF m 1 #[.val (.ref a1), .val (.ref x2), .val (.long q3), .second, .val (.ref x4), .val (.ref x5), .val (.int p6), .val (.ref x7), .val (.int p8)] [(.ref a1)])) _
    refine st1.trans ?_
    show Steps p.tables e below (T1.setTop (mkF m 4 #[.val (.ref a1), .val (.ref x2), .val (.long q3), .second, .val (.ref x4), .val (.ref x5), .val (.int p6), .val (.ref x7), .val (.int p8)] [])) _
    refine XS.aloadN X1.here hx rfl (hb hby d4_4) rfl rfl ?_
    show Steps p.tables e below (T1.setTop (mkF m 5 #[.val (.ref a1), .val (.ref x2), .val (.long q3), .second, .val (.ref x4), .val (.ref x5), .val (.int p6), .val (.ref x7), .val (.int p8)] [(.ref a1)])) _
    refine XS.aloadN X1.here hx rfl (hb hby d4_5) rfl rfl ?_
    show Steps p.tables e below (T1.setTop (mkF m 6 #[.val (.ref a1), .val (.ref x2), .val (.long q3), .second, .val (.ref x4), .val (.ref x5), .val (.int p6), .val (.ref x7), .val (.int p8)] [(.ref x2), (.ref a1)])) _
    refine st2 _ ?_
    show Steps p.tables e below (T2.setTop (mkF m 9 #[.val (.ref a1), .val (.ref x2), .val (.long q3), .second, .val (.ref x4), .val (.ref x5), .val (.int p6), .val (.ref x7), .val (.int p8)] [])) _
    refine XS.aloadN X2.here hx rfl (hb hby d4_9) rfl rfl ?_
    show Steps p.tables e below (T2.setTop (mkF m 10 #[.val (.ref a1), .val (.ref x2), .val (.long q3), .second, .val (.ref x4), .val (.ref x5), .val (.int p6), .val (.ref x7), .val (.int p8)] [(.ref a1)])) _
    refine XS.lloadN X2.here hx rfl (hb hby d4_10) rfl ?_
    show Steps p.tables e below (T2.setTop (mkF m 11 #[.val (.ref a1), .val (.ref x2), .val (.long q3), .second, .val (.ref x4), .val (.ref x5), .val (.int p6), .val (.ref x7), .val (.int p8)] [(.long q3), (.ref a1)])) _
    refine st5 _ ?_
    show Steps p.tables e below (T5.setTop (mkF m 14 #[.val (.ref a1), .val (.ref x2), .val (.long q3), .second, .val (.ref x4), .val (.ref x5), .val (.int p6), .val (.ref x7), .val (.int p8)] [])) _
    refine XS.aloadN X5.here hx rfl (hb hby d4_14) rfl rfl ?_
    show Steps p.tables e below (T5.setTop (mkF m 15 #[.val (.ref a1), .val (.ref x2), .val (.long q3), .second, .val (.ref x4), .val (.ref x5), .val (.int p6), .val (.ref x7), .val (.int p8)] [(.ref a1)])) _
    refine XS.aload X5.here hx rfl (hb hby d4_15) rfl rfl ?_
    show Steps p.tables e below (T5.setTop (mkF m 17 #[.val (.ref a1), .val (.ref x2), .val (.long q3), .second, .val (.ref x4), .val (.ref x5), .val (.int p6), .val (.ref x7), .val (.int p8)] [(.ref x4), (.ref a1)])) _
    refine st8 _ ?_
    show Steps p.tables e below (T8.setTop (mkF m 20 #[.val (.ref a1), .val (.ref x2), .val (.long q3), .second, .val (.ref x4), .val (.ref x5), .val (.int p6), .val (.ref x7), .val (.int p8)] [])) _
    refine XS.aloadN X8.here hx rfl (hb hby d4_20) rfl rfl ?_
    show Steps p.tables e below (T8.setTop (mkF m 21 #[.val (.ref a1), .val (.ref x2), .val (.long q3), .second, .val (.ref x4), .val (.ref x5), .val (.int p6), .val (.ref x7), .val (.int p8)] [(.ref a1)])) _
    refine XS.aload X8.here hx rfl (hb hby d4_21) rfl rfl ?_
    show Steps p.tables e below (T8.setTop (mkF m 23 #[.val (.ref a1), .val (.ref x2), .val (.long q3), .second, .val (.ref x4), .val (.ref x5), .val (.int p6), .val (.ref x7), .val (.int p8)] [(.ref x5), (.ref a1)])) _
    refine st11 _ ?_
    show Steps p.tables e below (T11.setTop (mkF m 26 #[.val (.ref a1), .val (.ref x2), .val (.long q3), .second, .val (.ref x4), .val (.ref x5), .val (.int p6), .val (.ref x7), .val (.int p8)] [])) _
    refine XS.aloadN X11.here hx rfl (hb hby d4_26) rfl rfl ?_
    exact kt
  have f13 := ((((F_header.other W2 (Or.inr (slot_ne (Or.inr (hw _ (List.mem_of_getElem? (i := 40) rfl))) (Or.inr (hw _ (List.mem_of_getElem? (i := 32) rfl))) (by decide) (t := .int) (t' := (.object "com/example/allegheny/allegheny/RequestId")) (by decide) (by decide)))).other W5 (Or.inr (slot_ne (Or.inr (hw _ (List.mem_of_getElem? (i := 40) rfl))) (Or.inr (hw _ (List.mem_of_getElem? (i := 34) rfl))) (by decide) (t := .int) (t' := .long) (by decide) (by decide)))).other W8 (Or.inr (slot_ne (Or.inr (hw _ (List.mem_of_getElem? (i := 40) rfl))) (Or.inr (hw _ (List.mem_of_getElem? (i := 36) rfl))) (by decide) (t := .int) (t' := (.array .int)) (by decide) (by decide)))).other W11 (Or.inr (slot_ne (Or.inr (hw _ (List.mem_of_getElem? (i := 40) rfl))) (Or.inr (hw _ (List.mem_of_getElem? (i := 38) rfl))) (by decide) (t := .int) (t' := (.array .int)) (by decide) (by decide))))
  have f14 := (f10.wr W11)
  obtain ⟨T15, h15, X15, e15, W15, st15⟩ := putF X11 hx hZ hown (host := "") (Or.inl (hw _ (List.mem_of_getElem? (i := 39) rfl))) Via.refl e11 f13 f14 (Or.inr ⟨(hw _ (List.mem_of_getElem? (i := 40) rfl)), rfl, hnm⟩) (hw _ (List.mem_of_getElem? (i := 25) rfl)) (ty := .int) (by decide) rfl rfl (g := (mkF m 29 #[.val (.ref a1), .val (.ref x2), .val (.long q3), .second, .val (.ref x4), .val (.ref x5), .val (.int p6), .val (.ref x7), .val (.int p8)] [(.int p6), (.ref a1)])) rfl rfl (hb hby d4_29)
  have Z15 : n0 ≤ h15.size := Nat.le_trans Z11 (Nat.le_of_eq W15.size.symm)
  have K15 : Keep h0 h15 [a1] := K11.wr W15 (Or.inl (List.mem_of_getElem? (i := 0) rfl))
  have N15 := Fr.snoc X15 N11 g_a1
  have Fw15 := f13.same W15
  have f16 := (((((F_data.other W2 (Or.inr (slot_ne (Or.inr (hw _ (List.mem_of_getElem? (i := 42) rfl))) (Or.inr (hw _ (List.mem_of_getElem? (i := 32) rfl))) (by decide) (t := (.array .byte)) (t' := (.object "com/example/allegheny/allegheny/RequestId")) (by decide) (by decide)))).other W5 (Or.inr (slot_ne (Or.inr (hw _ (List.mem_of_getElem? (i := 42) rfl))) (Or.inr (hw _ (List.mem_of_getElem? (i := 34) rfl))) (by decide) (t := (.array .byte)) (t' := .long) (by decide) (by decide)))).other W8 (Or.inr (slot_ne (Or.inr (hw _ (List.mem_of_getElem? (i := 42) rfl))) (Or.inr (hw _ (List.mem_of_getElem? (i := 36) rfl))) (by decide) (t := (.array .byte)) (t' := (.array .int)) (by decide) (by decide)))).other W11 (Or.inr (slot_ne (Or.inr (hw _ (List.mem_of_getElem? (i := 42) rfl))) (Or.inr (hw _ (List.mem_of_getElem? (i := 38) rfl))) (by decide) (t := (.array .byte)) (t' := (.array .int)) (by decide) (by decide)))).other W15 (Or.inr (slot_ne (Or.inr (hw _ (List.mem_of_getElem? (i := 42) rfl))) (Or.inr (hw _ (List.mem_of_getElem? (i := 40) rfl))) (by decide) (t := (.array .byte)) (t' := .int) (by decide) (by decide))))
  have f17 := (f14.wr W15)
  obtain ⟨T18, h18, X18, e18, W18, st18⟩ := putF X15 hx hZ hown (host := "") (Or.inl (hw _ (List.mem_of_getElem? (i := 41) rfl))) Via.refl e15 f16 f17 (Or.inr ⟨(hw _ (List.mem_of_getElem? (i := 42) rfl)), rfl, hnm⟩) (hw _ (List.mem_of_getElem? (i := 25) rfl)) (ty := (.array .byte)) (by decide) rfl rfl (g := (mkF m 35 #[.val (.ref a1), .val (.ref x2), .val (.long q3), .second, .val (.ref x4), .val (.ref x5), .val (.int p6), .val (.ref x7), .val (.int p8)] [(.ref x7), (.ref a1)])) rfl rfl (hb hby d4_35)
  have Z18 : n0 ≤ h18.size := Nat.le_trans Z15 (Nat.le_of_eq W18.size.symm)
  have K18 : Keep h0 h18 [a1] := K15.wr W18 (Or.inl (List.mem_of_getElem? (i := 0) rfl))
  have N18 := Fr.snoc X18 N15 g_a1
  have Fw18 := f16.same W18
  have f19 := ((((((F_dataCrc.other W2 (Or.inr (slot_ne (Or.inr (hw _ (List.mem_of_getElem? (i := 44) rfl))) (Or.inr (hw _ (List.mem_of_getElem? (i := 32) rfl))) (by decide) (t := .int) (t' := (.object "com/example/allegheny/allegheny/RequestId")) (by decide) (by decide)))).other W5 (Or.inr (slot_ne (Or.inr (hw _ (List.mem_of_getElem? (i := 44) rfl))) (Or.inr (hw _ (List.mem_of_getElem? (i := 34) rfl))) (by decide) (t := .int) (t' := .long) (by decide) (by decide)))).other W8 (Or.inr (slot_ne (Or.inr (hw _ (List.mem_of_getElem? (i := 44) rfl))) (Or.inr (hw _ (List.mem_of_getElem? (i := 36) rfl))) (by decide) (t := .int) (t' := (.array .int)) (by decide) (by decide)))).other W11 (Or.inr (slot_ne (Or.inr (hw _ (List.mem_of_getElem? (i := 44) rfl))) (Or.inr (hw _ (List.mem_of_getElem? (i := 38) rfl))) (by decide) (t := .int) (t' := (.array .int)) (by decide) (by decide)))).other W15 (Or.inr (slot_ne (Or.inr (hw _ (List.mem_of_getElem? (i := 44) rfl))) (Or.inr (hw _ (List.mem_of_getElem? (i := 40) rfl))) (by decide) (t := .int) (t' := .int) (by decide) (by decide)))).other W18 (Or.inr (slot_ne (Or.inr (hw _ (List.mem_of_getElem? (i := 44) rfl))) (Or.inr (hw _ (List.mem_of_getElem? (i := 42) rfl))) (by decide) (t := .int) (t' := (.array .byte)) (by decide) (by decide))))
  have f20 := (f17.wr W18)
  obtain ⟨T21, h21, X21, e21, W21, st21⟩ := putF X18 hx hZ hown (host := "") (Or.inl (hw _ (List.mem_of_getElem? (i := 43) rfl))) Via.refl e18 f19 f20 (Or.inr ⟨(hw _ (List.mem_of_getElem? (i := 44) rfl)), rfl, hnm⟩) (hw _ (List.mem_of_getElem? (i := 25) rfl)) (ty := .int) (by decide) rfl rfl (g := (mkF m 41 #[.val (.ref a1), .val (.ref x2), .val (.long q3), .second, .val (.ref x4), .val (.ref x5), .val (.int p6), .val (.ref x7), .val (.int p8)] [(.int p8), (.ref a1)])) rfl rfl (hb hby d4_41)
  have Z21 : n0 ≤ h21.size := Nat.le_trans Z18 (Nat.le_of_eq W21.size.symm)
  have K21 : Keep h0 h21 [a1] := K18.wr W21 (Or.inl (List.mem_of_getElem? (i := 0) rfl))
  have N21 := Fr.snoc X21 N18 g_a1
  have Fw21 := f19.same W21
  have go22 : own_go p e below (s₁.setTop (entryFrame m #[(.ref a1), (.ref x2), (.long q3), (.ref x4), (.ref x5), (.int p6), (.ref x7), (.int p8)] 9)) (T21.setTop (mkF m 44 #[.val (.ref a1), .val (.ref x2), .val (.long q3), .second, .val (.ref x4), .val (.ref x5), .val (.int p6), .val (.ref x7), .val (.int p8)] [])) := by
    intro t kt
    refine go12 t ?_
    show Steps p.tables e below (T11.setTop (mkF m 27 #[.val (.ref a1), .val (.ref x2), .val (.long q3), .second, .val (.ref x4), .val (.ref x5), .val (.int p6), .val (.ref x7), .val (.int p8)] [(.ref a1)])) _
    refine XS.iload X11.here hx rfl (hb hby d4_27) rfl ?_
    show Steps p.tables e below (T11.setTop (mkF m 29 #[.val (.ref a1), .val (.ref x2), .val (.long q3), .second, .val (.ref x4), .val (.ref x5), .val (.int p6), .val (.ref x7), .val (.int p8)] [(.int p6), (.ref a1)])) _
    refine st15 _ ?_
    show Steps p.tables e below (T15.setTop (mkF m 32 #[.val (.ref a1), .val (.ref x2), .val (.long q3), .second, .val (.ref x4), .val (.ref x5), .val (.int p6), .val (.ref x7), .val (.int p8)] [])) _
    refine XS.aloadN X15.here hx rfl (hb hby d4_32) rfl rfl ?_
    show Steps p.tables e below (T15.setTop (mkF m 33 #[.val (.ref a1), .val (.ref x2), .val (.long q3), .second, .val (.ref x4), .val (.ref x5), .val (.int p6), .val (.ref x7), .val (.int p8)] [(.ref a1)])) _
    refine XS.aload X15.here hx rfl (hb hby d4_33) rfl rfl ?_
    show Steps p.tables e below (T15.setTop (mkF m 35 #[.val (.ref a1), .val (.ref x2), .val (.long q3), .second, .val (.ref x4), .val (.ref x5), .val (.int p6), .val (.ref x7), .val (.int p8)] [(.ref x7), (.ref a1)])) _
    refine st18 _ ?_
    show Steps p.tables e below (T18.setTop (mkF m 38 #[.val (.ref a1), .val (.ref x2), .val (.long q3), .second, .val (.ref x4), .val (.ref x5), .val (.int p6), .val (.ref x7), .val (.int p8)] [])) _
    refine XS.aloadN X18.here hx rfl (hb hby d4_38) rfl rfl ?_
    show Steps p.tables e below (T18.setTop (mkF m 39 #[.val (.ref a1), .val (.ref x2), .val (.long q3), .second, .val (.ref x4), .val (.ref x5), .val (.int p6), .val (.ref x7), .val (.int p8)] [(.ref a1)])) _
    refine XS.iload X18.here hx rfl (hb hby d4_39) rfl ?_
    show Steps p.tables e below (T18.setTop (mkF m 41 #[.val (.ref a1), .val (.ref x2), .val (.long q3), .second, .val (.ref x4), .val (.ref x5), .val (.int p6), .val (.ref x7), .val (.int p8)] [(.int p8), (.ref a1)])) _
    refine st21 _ ?_
    exact kt
  obtain ⟨fs, hr, hrun, hended, hW, hsame⟩ := X21.leave (v := none) (fun _ => rfl)
  refine ⟨_, _, go22 _ ?_, hrun, hended, _, _, rfl, ?_, ⟨_, rfl⟩, hW, hsame.mono (by decide) (by decide)⟩
  · exact X21.returnOut hx Bd.returns (hb hby d4_44) hr
  · show Q4 Z a1 x2 q3 x4 x5 p6 x7 p8 h0 n0 _ T21.heap _
    rw [e21]
    have f23 := (f20.wr W21)
    have f24 := ((((((Fw2.other W5 (Or.inr (slot_ne (Or.inr (hw _ (List.mem_of_getElem? (i := 32) rfl))) (Or.inr (hw _ (List.mem_of_getElem? (i := 34) rfl))) (by decide) (t := (.object "com/example/allegheny/allegheny/RequestId")) (t' := .long) (by decide) (by decide)))).other W8 (Or.inr (slot_ne (Or.inr (hw _ (List.mem_of_getElem? (i := 32) rfl))) (Or.inr (hw _ (List.mem_of_getElem? (i := 36) rfl))) (by decide) (t := (.object "com/example/allegheny/allegheny/RequestId")) (t' := (.array .int)) (by decide) (by decide)))).other W11 (Or.inr (slot_ne (Or.inr (hw _ (List.mem_of_getElem? (i := 32) rfl))) (Or.inr (hw _ (List.mem_of_getElem? (i := 38) rfl))) (by decide) (t := (.object "com/example/allegheny/allegheny/RequestId")) (t' := (.array .int)) (by decide) (by decide)))).other W15 (Or.inr (slot_ne (Or.inr (hw _ (List.mem_of_getElem? (i := 32) rfl))) (Or.inr (hw _ (List.mem_of_getElem? (i := 40) rfl))) (by decide) (t := (.object "com/example/allegheny/allegheny/RequestId")) (t' := .int) (by decide) (by decide)))).other W18 (Or.inr (slot_ne (Or.inr (hw _ (List.mem_of_getElem? (i := 32) rfl))) (Or.inr (hw _ (List.mem_of_getElem? (i := 42) rfl))) (by decide) (t := (.object "com/example/allegheny/allegheny/RequestId")) (t' := (.array .byte)) (by decide) (by decide)))).other W21 (Or.inr (slot_ne (Or.inr (hw _ (List.mem_of_getElem? (i := 32) rfl))) (Or.inr (hw _ (List.mem_of_getElem? (i := 44) rfl))) (by decide) (t := (.object "com/example/allegheny/allegheny/RequestId")) (t' := .int) (by decide) (by decide))))
    have f25 := (((((Fw5.other W8 (Or.inr (slot_ne (Or.inr (hw _ (List.mem_of_getElem? (i := 34) rfl))) (Or.inr (hw _ (List.mem_of_getElem? (i := 36) rfl))) (by decide) (t := .long) (t' := (.array .int)) (by decide) (by decide)))).other W11 (Or.inr (slot_ne (Or.inr (hw _ (List.mem_of_getElem? (i := 34) rfl))) (Or.inr (hw _ (List.mem_of_getElem? (i := 38) rfl))) (by decide) (t := .long) (t' := (.array .int)) (by decide) (by decide)))).other W15 (Or.inr (slot_ne (Or.inr (hw _ (List.mem_of_getElem? (i := 34) rfl))) (Or.inr (hw _ (List.mem_of_getElem? (i := 40) rfl))) (by decide) (t := .long) (t' := .int) (by decide) (by decide)))).other W18 (Or.inr (slot_ne (Or.inr (hw _ (List.mem_of_getElem? (i := 34) rfl))) (Or.inr (hw _ (List.mem_of_getElem? (i := 42) rfl))) (by decide) (t := .long) (t' := (.array .byte)) (by decide) (by decide)))).other W21 (Or.inr (slot_ne (Or.inr (hw _ (List.mem_of_getElem? (i := 34) rfl))) (Or.inr (hw _ (List.mem_of_getElem? (i := 44) rfl))) (by decide) (t := .long) (t' := .int) (by decide) (by decide))))
    have f26 := ((((Fw8.other W11 (Or.inr (slot_ne (Or.inr (hw _ (List.mem_of_getElem? (i := 36) rfl))) (Or.inr (hw _ (List.mem_of_getElem? (i := 38) rfl))) (by decide) (t := (.array .int)) (t' := (.array .int)) (by decide) (by decide)))).other W15 (Or.inr (slot_ne (Or.inr (hw _ (List.mem_of_getElem? (i := 36) rfl))) (Or.inr (hw _ (List.mem_of_getElem? (i := 40) rfl))) (by decide) (t := (.array .int)) (t' := .int) (by decide) (by decide)))).other W18 (Or.inr (slot_ne (Or.inr (hw _ (List.mem_of_getElem? (i := 36) rfl))) (Or.inr (hw _ (List.mem_of_getElem? (i := 42) rfl))) (by decide) (t := (.array .int)) (t' := (.array .byte)) (by decide) (by decide)))).other W21 (Or.inr (slot_ne (Or.inr (hw _ (List.mem_of_getElem? (i := 36) rfl))) (Or.inr (hw _ (List.mem_of_getElem? (i := 44) rfl))) (by decide) (t := (.array .int)) (t' := .int) (by decide) (by decide))))
    have f27 := (((Fw11.other W15 (Or.inr (slot_ne (Or.inr (hw _ (List.mem_of_getElem? (i := 38) rfl))) (Or.inr (hw _ (List.mem_of_getElem? (i := 40) rfl))) (by decide) (t := (.array .int)) (t' := .int) (by decide) (by decide)))).other W18 (Or.inr (slot_ne (Or.inr (hw _ (List.mem_of_getElem? (i := 38) rfl))) (Or.inr (hw _ (List.mem_of_getElem? (i := 42) rfl))) (by decide) (t := (.array .int)) (t' := (.array .byte)) (by decide) (by decide)))).other W21 (Or.inr (slot_ne (Or.inr (hw _ (List.mem_of_getElem? (i := 38) rfl))) (Or.inr (hw _ (List.mem_of_getElem? (i := 44) rfl))) (by decide) (t := (.array .int)) (t' := .int) (by decide) (by decide))))
    have f28 := ((Fw15.other W18 (Or.inr (slot_ne (Or.inr (hw _ (List.mem_of_getElem? (i := 40) rfl))) (Or.inr (hw _ (List.mem_of_getElem? (i := 42) rfl))) (by decide) (t := .int) (t' := (.array .byte)) (by decide) (by decide)))).other W21 (Or.inr (slot_ne (Or.inr (hw _ (List.mem_of_getElem? (i := 40) rfl))) (Or.inr (hw _ (List.mem_of_getElem? (i := 44) rfl))) (by decide) (t := .int) (t' := .int) (by decide) (by decide))))
    have f29 := (Fw18.other W21 (Or.inr (slot_ne (Or.inr (hw _ (List.mem_of_getElem? (i := 42) rfl))) (Or.inr (hw _ (List.mem_of_getElem? (i := 44) rfl))) (by decide) (t := (.array .byte)) (t' := .int) (by decide) (by decide))))
    exact ⟨rfl, N21, K21, f23, f24, f25, f26, f27, f28, f29, Fw21⟩
theorem d5_0 : decode prog_48_method_6_code 0 = .ok (.iconst 4, 1) := by decide +kernel
theorem d5_1 : decode prog_48_method_6_code 1 = .ok (.iconst 2, 1) := by decide +kernel
theorem d5_2 : decode prog_48_method_6_code 2 = .ok (.aload_n 0, 1) := by decide +kernel
theorem d5_3 : decode prog_48_method_6_code 3 = .ok (.getfield 17, 3) := by decide +kernel
theorem d5_6 : decode prog_48_method_6_code 6 = .ok (.arraylength, 1) := by decide +kernel
theorem d5_7 : decode prog_48_method_6_code 7 = .ok (.iadd, 1) := by decide +kernel
theorem d5_8 : decode prog_48_method_6_code 8 = .ok (.aload_n 0, 1) := by decide +kernel
theorem d5_9 : decode prog_48_method_6_code 9 = .ok (.getfield 21, 3) := by decide +kernel
theorem d5_12 : decode prog_48_method_6_code 12 = .ok (.arraylength, 1) := by decide +kernel
theorem d5_13 : decode prog_48_method_6_code 13 = .ok (.iadd, 1) := by decide +kernel
theorem d5_14 : decode prog_48_method_6_code 14 = .ok (.imul, 1) := by decide +kernel
theorem d5_15 : decode prog_48_method_6_code 15 = .ok (.istore_n 1, 1) := by decide +kernel
theorem d5_16 : decode prog_48_method_6_code 16 = .ok (.bipush 24, 2) := by decide +kernel
theorem d5_18 : decode prog_48_method_6_code 18 = .ok (.iload_n 1, 1) := by decide +kernel
theorem d5_19 : decode prog_48_method_6_code 19 = .ok (.iadd, 1) := by decide +kernel
theorem d5_20 : decode prog_48_method_6_code 20 = .ok (.bipush 12, 2) := by decide +kernel
theorem d5_22 : decode prog_48_method_6_code 22 = .ok (.iadd, 1) := by decide +kernel
theorem d5_23 : decode prog_48_method_6_code 23 = .ok (.aload_n 0, 1) := by decide +kernel
theorem d5_24 : decode prog_48_method_6_code 24 = .ok (.getfield 28, 3) := by decide +kernel
theorem d5_27 : decode prog_48_method_6_code 27 = .ok (.arraylength, 1) := by decide +kernel
theorem d5_28 : decode prog_48_method_6_code 28 = .ok (.iadd, 1) := by decide +kernel
theorem d5_29 : decode prog_48_method_6_code 29 = .ok (.ireturn, 1) := by decide +kernel
theorem ef_5 (m : MethodId) (x0 : Addr) : entryFrame m #[(.ref x0)] 2 = mkF m 0 #[.val (.ref x0), .unset] [] := by first | (simp [entryFrame, mkF, argsToLocals, Value.category]; done) | rfl
def Q5 (Z : State) (a1 : Addr) (t1 : Addr) (k1 : ClassId) (z1 : Int32) (t2 : Addr) (k2 : ClassId) (z2 : Int32) (t3 : Addr) (k3 : ClassId) (z3 : Int32) (h0 : Heap) (n0 : Nat) (v : Option Value) (h : Heap) (L : List Loc) : Prop := v = some (.int ((((24 : Int32) + ((4 : Int32) * (((2 : Int32) + z1) + z2))) + (12 : Int32)) + z3)) ∧ Fr n0 L ∧ h = h0
set_option maxRecDepth 65536 in
set_option maxHeartbeats 40000000 in
theorem rm5 (l : Launch) (Z : State) (a0 : Array Value) (hw : ∀ d ∈ tables_1, d.before a0 Z = true) (ws : List Jvm.Cond) (a1 : Addr) (t1 : Addr) (k1 : ClassId) (z1 : Int32) (t2 : Addr) (k2 : ClassId) (z2 : Int32) (t3 : Addr) (k3 : ClassId) (z3 : Int32) (h0 : Heap) (n0 : Nat) (Z0 : n0 ≤ h0.size) (F_writeLockHashes : Fld Z h0 a1 "com/example/allegheny/allegheny/protocol/Message$AppendRequest" "writeLockHashes" "[I" (.ref t1)) (V_t1 : Arv Z h0 t1 k1 .int z1 [] (.int (0 : Int32))) (F_readLockHashes : Fld Z h0 a1 "com/example/allegheny/allegheny/protocol/Message$AppendRequest" "readLockHashes" "[I" (.ref t2)) (V_t2 : Arv Z h0 t2 k2 .int z2 [] (.int (0 : Int32))) (F_data : Fld Z h0 a1 "com/example/allegheny/allegheny/protocol/Message$AppendRequest" "data" "[B" (.ref t3)) (V_t3 : Arv Z h0 t3 k3 .byte z3 [] (.int (0 : Int32))) :
    MetFree l (⟨"com/example/allegheny/allegheny/protocol/Message$AppendRequest", "bodySize", "()I"⟩ : MethodName) (head1 (Jvm.Cond.code (⟨"com/example/allegheny/allegheny/protocol/Message$AppendRequest", "bodySize", "()I"⟩ : MethodName) prog_48_method_6_code 2 (some .int) :: ws) ({ frames := 0, cells := 0, slots := 0, locals := 0 } : Room)) (fun a U => a = #[(.ref a1)] ∧ Z.Warmed39 U.vm ∧ U.heap = h0) (fun _ _ _ _ _ => True) (fun _ U o U' => ∃ v L, o = .returned v ∧ Q5 Z a1 t1 k1 z1 t2 k2 z2 t3 k3 z3 h0 n0 v U'.heap L ∧ FrameEnd U o U' L ({ frames := 0, cells := 0, slots := 0, locals := 0 } : Room).cells ({ frames := 0, cells := 0, slots := 0, locals := 0 } : Room).slots) := by
  refine MetFree.of_bodySF (plainFor_of_name own_pn_com_example_allegheny_allegheny_protocol_Message_AppendRequest) hisR ?_
  intro p e s m args below meth c s₁ Bd hml0 hP hK
  obtain ⟨rfl, hZ, hh⟩ := hP
  have hx := Bd.exec
  have hby := Bd.bytes
  have hml : c.maxLocals = 2 := hml0
  have hown : s.vm.findClass "com/example/allegheny/allegheny/protocol/Message$AppendRequest" = some m.cls := findClass_of_methodNamed Bd.named
  have hnm := (name_of_methodNamed Bd.named Bd.method).1
  have X0 : Stand p l e ({ frames := 0, cells := 0, slots := 0, locals := 0 } : Room) s m #[(.ref a1)] below meth c s₁ [] 0 0 := Stand.of_body Bd
  have e0 : s₁.heap = h0 := by rw [← hh, Bd.state]; rfl
  have N0 := Fr.nil n0
  have p0 : own_go p e below (s₁.setTop (entryFrame m #[(.ref a1)] 2)) (s₁.setTop (mkF m 0 #[.val (.ref a1), .unset] [])) := fun t k => castTop (ef_5 m a1) k
  obtain ⟨T1, X1, e1, st1⟩ := getF X0 hx hZ hown (host := "") (Or.inl (hw _ (List.mem_of_getElem? (i := 35) rfl))) Via.refl e0 F_writeLockHashes (g := (mkF m 3 #[.val (.ref a1), .unset] [(.ref a1), (.int (2 : Int32)), (.int (4 : Int32))])) rfl rfl (hb hby d5_3)
  obtain ⟨cl2, Ar2, -, S2, M2, -, -⟩ := id V_t1
  obtain ⟨T3, X3, e3, st3⟩ := getF X1 hx hZ hown (host := "") (Or.inl (hw _ (List.mem_of_getElem? (i := 37) rfl))) Via.refl e1 F_readLockHashes (g := (mkF m 9 #[.val (.ref a1), .unset] [(.ref a1), (.int ((2 : Int32) + z1)), (.int (4 : Int32))])) rfl rfl (hb hby d5_9)
  obtain ⟨cl4, Ar4, -, S4, M4, -, -⟩ := id V_t2
  obtain ⟨v5, hv_v5⟩ : ∃ z : Int32, z = ((4 : Int32) * (((2 : Int32) + z1) + z2)) := ⟨_, rfl⟩
  have go6 : own_go p e below (s₁.setTop (entryFrame m #[(.ref a1)] 2)) (T3.setTop (mkF m 18 #[.val (.ref a1), .val (.int v5)] [(.int (24 : Int32))])) := by
    intro t kt
    refine p0 t ?_
    show Steps p.tables e below (s₁.setTop (mkF m 0 #[.val (.ref a1), .unset] [])) _
    refine XS.iconst X0.here hx rfl (hb hby d5_0) ?_
    show Steps p.tables e below (s₁.setTop (mkF m 1 #[.val (.ref a1), .unset] [(.int (4 : Int32))])) _
    refine XS.iconst X0.here hx rfl (hb hby d5_1) ?_
    show Steps p.tables e below (s₁.setTop (mkF m 2 #[.val (.ref a1), .unset] [(.int (2 : Int32)), (.int (4 : Int32))])) _
    refine XS.aloadN X0.here hx rfl (hb hby d5_2) rfl rfl ?_
    show Steps p.tables e below (s₁.setTop (mkF m 3 #[.val (.ref a1), .unset] [(.ref a1), (.int (2 : Int32)), (.int (4 : Int32))])) _
    refine st1 _ ?_
    show Steps p.tables e below (T1.setTop (mkF m 6 #[.val (.ref a1), .unset] [(.ref t1), (.int (2 : Int32)), (.int (4 : Int32))])) _
    refine X1.arraylength hx (by rw [e1]; exact Ar2.1) (State.isArrayOf_alike hZ.alike Ar2.2.1) (g := (mkF m 6 #[.val (.ref a1), .unset] [(.ref t1), (.int (2 : Int32)), (.int (4 : Int32))])) rfl rfl (hb hby d5_6) _ ?_
    rw [len_of S2 M2]
    show Steps p.tables e below (T1.setTop (mkF m 7 #[.val (.ref a1), .unset] [(.int z1), (.int (2 : Int32)), (.int (4 : Int32))])) _
    refine XS.iadd X1.here hx rfl (hb hby d5_7) rfl ?_
    show Steps p.tables e below (T1.setTop (mkF m 8 #[.val (.ref a1), .unset] [(.int ((2 : Int32) + z1)), (.int (4 : Int32))])) _
    refine XS.aloadN X1.here hx rfl (hb hby d5_8) rfl rfl ?_
    show Steps p.tables e below (T1.setTop (mkF m 9 #[.val (.ref a1), .unset] [(.ref a1), (.int ((2 : Int32) + z1)), (.int (4 : Int32))])) _
    refine st3 _ ?_
    show Steps p.tables e below (T3.setTop (mkF m 12 #[.val (.ref a1), .unset] [(.ref t2), (.int ((2 : Int32) + z1)), (.int (4 : Int32))])) _
    refine X3.arraylength hx (by rw [e3]; exact Ar4.1) (State.isArrayOf_alike hZ.alike Ar4.2.1) (g := (mkF m 12 #[.val (.ref a1), .unset] [(.ref t2), (.int ((2 : Int32) + z1)), (.int (4 : Int32))])) rfl rfl (hb hby d5_12) _ ?_
    rw [len_of S4 M4]
    show Steps p.tables e below (T3.setTop (mkF m 13 #[.val (.ref a1), .unset] [(.int z2), (.int ((2 : Int32) + z1)), (.int (4 : Int32))])) _
    refine XS.iadd X3.here hx rfl (hb hby d5_13) rfl ?_
    show Steps p.tables e below (T3.setTop (mkF m 14 #[.val (.ref a1), .unset] [(.int (((2 : Int32) + z1) + z2)), (.int (4 : Int32))])) _
    refine XS.imul X3.here hx rfl (hb hby d5_14) rfl ?_
    show Steps p.tables e below (T3.setTop (mkF m 15 #[.val (.ref a1), .unset] [(.int ((4 : Int32) * (((2 : Int32) + z1) + z2)))])) _
    rw [← hv_v5]
    show Steps p.tables e below (T3.setTop (mkF m 15 #[.val (.ref a1), .unset] [(.int v5)])) _
    refine XS.istoreN X3.here hx rfl (hb hby d5_15) rfl (l' := #[.val (.ref a1), .val (.int v5)]) rfl ?_
    show Steps p.tables e below (T3.setTop (mkF m 16 #[.val (.ref a1), .val (.int v5)] [])) _
    refine XS.bipush X3.here hx rfl (hb hby d5_16) ?_
    exact kt
  obtain ⟨T7, X7, e7, st7⟩ := getF X3 hx hZ hown (host := "") (Or.inl (hw _ (List.mem_of_getElem? (i := 41) rfl))) Via.refl e3 F_data (g := (mkF m 24 #[.val (.ref a1), .val (.int v5)] [(.ref a1), (.int (((24 : Int32) + v5) + (12 : Int32)))])) rfl rfl (hb hby d5_24)
  obtain ⟨cl8, Ar8, -, S8, M8, -, -⟩ := id V_t3
  have go9 : own_go p e below (s₁.setTop (entryFrame m #[(.ref a1)] 2)) (T7.setTop (mkF m 29 #[.val (.ref a1), .val (.int v5)] [(.int ((((24 : Int32) + v5) + (12 : Int32)) + z3))])) := by
    intro t kt
    refine go6 t ?_
    show Steps p.tables e below (T3.setTop (mkF m 18 #[.val (.ref a1), .val (.int v5)] [(.int (24 : Int32))])) _
    refine XS.iloadN X3.here hx rfl (hb hby d5_18) rfl ?_
    show Steps p.tables e below (T3.setTop (mkF m 19 #[.val (.ref a1), .val (.int v5)] [(.int v5), (.int (24 : Int32))])) _
    refine XS.iadd X3.here hx rfl (hb hby d5_19) rfl ?_
    show Steps p.tables e below (T3.setTop (mkF m 20 #[.val (.ref a1), .val (.int v5)] [(.int ((24 : Int32) + v5))])) _
    refine XS.bipush X3.here hx rfl (hb hby d5_20) ?_
    show Steps p.tables e below (T3.setTop (mkF m 22 #[.val (.ref a1), .val (.int v5)] [(.int (12 : Int32)), (.int ((24 : Int32) + v5))])) _
    refine XS.iadd X3.here hx rfl (hb hby d5_22) rfl ?_
    show Steps p.tables e below (T3.setTop (mkF m 23 #[.val (.ref a1), .val (.int v5)] [(.int (((24 : Int32) + v5) + (12 : Int32)))])) _
    refine XS.aloadN X3.here hx rfl (hb hby d5_23) rfl rfl ?_
    show Steps p.tables e below (T3.setTop (mkF m 24 #[.val (.ref a1), .val (.int v5)] [(.ref a1), (.int (((24 : Int32) + v5) + (12 : Int32)))])) _
    refine st7 _ ?_
    show Steps p.tables e below (T7.setTop (mkF m 27 #[.val (.ref a1), .val (.int v5)] [(.ref t3), (.int (((24 : Int32) + v5) + (12 : Int32)))])) _
    refine X7.arraylength hx (by rw [e7]; exact Ar8.1) (State.isArrayOf_alike hZ.alike Ar8.2.1) (g := (mkF m 27 #[.val (.ref a1), .val (.int v5)] [(.ref t3), (.int (((24 : Int32) + v5) + (12 : Int32)))])) rfl rfl (hb hby d5_27) _ ?_
    rw [len_of S8 M8]
    show Steps p.tables e below (T7.setTop (mkF m 28 #[.val (.ref a1), .val (.int v5)] [(.int z3), (.int (((24 : Int32) + v5) + (12 : Int32)))])) _
    refine XS.iadd X7.here hx rfl (hb hby d5_28) rfl ?_
    exact kt
  obtain ⟨fs, hr, hrun, hended, hW, hsame⟩ := X7.leave (v := some (.int ((((24 : Int32) + v5) + (12 : Int32)) + z3))) (fun h => by rw [Bd.returns] at h; cases h)
  refine ⟨_, _, go9 _ ?_, hrun, hended, _, _, rfl, ?_, ⟨_, rfl⟩, hW, hsame.mono (by decide) (by decide)⟩
  · exact retI X7 hx Bd.returns (hb hby d5_29) hr
  · show Q5 Z a1 t1 k1 z1 t2 k2 z2 t3 k3 z3 h0 n0 _ T7.heap _
    rw [e7]
    exact ⟨by simp only [*], N0, rfl⟩
theorem own_cap (x m : Int32) (n : Nat) (hm : 0 ≤ m.toInt) (hn : m.toInt ≤ n) : ¬ (x &&& m) < 0 ∧ (x &&& m).toNatClampNeg ≤ n := by
  have b := c_and x m hm
  generalize (x &&& m) = y at b
  refine ⟨?_, ?_⟩
  · rw [Int32.lt_iff_toInt_lt]
    have e0 : (0 : Int32).toInt = 0 := rfl
    omega
  · show y.toInt.toNat ≤ n
    omega
theorem own_main (a b d : Int32) : ((((24 : Int32) + ((4 : Int32) * (((2 : Int32) + a) + b))) + (12 : Int32)) + d) = (((((((16 : Int32) + (8 : Int32)) + ((4 : Int32) + ((4 : Int32) * a))) + ((4 : Int32) + ((4 : Int32) * b))) + (4 : Int32)) + ((4 : Int32) + d)) + (4 : Int32)) := by grind
theorem own_pd1 : parseMethodDescriptor "(IIII)V" = some ⟨[.int, .int, .int, .int], none⟩ := by decide +kernel
theorem own_pd2 : parseMethodDescriptor "(Lcom/example/allegheny/allegheny/RequestId;J[I[II[BI)V" = some ⟨[(.object "com/example/allegheny/allegheny/RequestId"), .long, (.array .int), (.array .int), .int, (.array .byte), .int], none⟩ := by decide +kernel
theorem own_pd3 : parseMethodDescriptor "()I" = some ⟨[], some .int⟩ := by decide +kernel
theorem own_pn_com_example_allegheny_allegheny_protocol_AppendRequestBodySizePinLaw : plainName "com/example/allegheny/allegheny/protocol/AppendRequestBodySizePinLaw" = true := by first | (simp [plainName, overriddenIn]; done) | decide +kernel
theorem ef_0 (m : MethodId) (x0 : Int32) (x1 : Int32) (x2 : Int32) (x3 : Int64) (x4 : Int32) (x5 : Int32) : entryFrame m #[(.int x0), (.int x1), (.int x2), (.long x3), (.int x4), (.int x5)] maxLocals = mkF m 0 #[.val (.int x0), .val (.int x1), .val (.int x2), .val (.long x3), .second, .val (.int x4), .val (.int x5), .unset, .unset, .unset, .unset, .unset, .unset, .unset, .unset, .unset, .unset, .unset, .unset, .unset, .unset, .unset, .unset] [] := by first | (simp [entryFrame, mkF, argsToLocals, Value.category, maxLocals]; done) | rfl
def Q0 (Z : State) (p1 : Int32) (p2 : Int32) (p3 : Int32) (q4 : Int64) (p5 : Int32) (p6 : Int32) (h0 : Heap) (n0 : Nat) (v : Option Value) (h : Heap) (L : List Loc) : Prop := v = some (.int 1) ∧ Fr n0 L
set_option maxRecDepth 65536 in
set_option maxHeartbeats 40000000 in
theorem rm0 (l : Launch) (Z : State) (a0 : Array Value) (hw : ∀ d ∈ tables_1, d.before a0 Z = true) (ws : List Jvm.Cond) (p1 : Int32) (p2 : Int32) (p3 : Int32) (q4 : Int64) (p5 : Int32) (p6 : Int32) (h0 : Heap) (n0 : Nat) (Z0 : n0 ≤ h0.size) :
    MetFree l x (head1 (Jvm.Cond.code x code maxLocals ret :: ws) room_1) (fun a U => a = #[(.int p1), (.int p2), (.int p3), (.long q4), (.int p5), (.int p6)] ∧ Z.Warmed39 U.vm ∧ U.heap = h0) (fun _ _ _ _ _ => True) (fun _ U o U' => ∃ v L, o = .returned v ∧ Q0 Z p1 p2 p3 q4 p5 p6 h0 n0 v U'.heap L ∧ FrameEnd U o U' L 24 704) := by
  refine MetFree.of_bodySF (plainFor_of_name own_pn_com_example_allegheny_allegheny_protocol_AppendRequestBodySizePinLaw) hisR ?_
  intro p e s m args below meth c s₁ Bd hml0 hP hK
  obtain ⟨rfl, hZ, hh⟩ := hP
  have hx := Bd.exec
  have hby := Bd.bytes
  have hml : c.maxLocals = 23 := hml0
  have hown : s.vm.findClass "com/example/allegheny/allegheny/protocol/AppendRequestBodySizePinLaw" = some m.cls := findClass_of_methodNamed Bd.named
  have hnm := (name_of_methodNamed Bd.named Bd.method).1
  have X0 : Stand p l e room_1 s m #[(.int p1), (.int p2), (.int p3), (.long q4), (.int p5), (.int p6)] below meth c s₁ [] 0 0 := Stand.of_body Bd
  have e0 : s₁.heap = h0 := by rw [← hh, Bd.state]; rfl
  have N0 := Fr.nil n0
  have p0 : own_go p e below (s₁.setTop (entryFrame m #[(.int p1), (.int p2), (.int p3), (.long q4), (.int p5), (.int p6)] maxLocals)) (s₁.setTop (mkF m 0 #[.val (.int p1), .val (.int p2), .val (.int p3), .val (.long q4), .second, .val (.int p5), .val (.int p6), .unset, .unset, .unset, .unset, .unset, .unset, .unset, .unset, .unset, .unset, .unset, .unset, .unset, .unset, .unset, .unset] [])) := fun t k => castTop (ef_0 m p1 p2 p3 q4 p5 p6) k
  obtain ⟨v1, hv_v1⟩ : ∃ z : Int32, z = (p1 &&& (15 : Int32)) := ⟨_, rfl⟩
  obtain ⟨v2, hv_v2⟩ : ∃ z : Int32, z = (p2 &&& (15 : Int32)) := ⟨_, rfl⟩
  obtain ⟨v3, hv_v3⟩ : ∃ z : Int32, z = (p3 &&& (255 : Int32)) := ⟨_, rfl⟩
  have go4 : own_go p e below (s₁.setTop (entryFrame m #[(.int p1), (.int p2), (.int p3), (.long q4), (.int p5), (.int p6)] maxLocals)) (s₁.setTop (mkF m 19 #[.val (.int p1), .val (.int p2), .val (.int p3), .val (.long q4), .second, .val (.int p5), .val (.int p6), .val (.int v1), .val (.int v2), .val (.int v3), .unset, .unset, .unset, .unset, .unset, .unset, .unset, .unset, .unset, .unset, .unset, .unset, .unset] [])) := by
    intro t kt
    refine p0 t ?_
    show Steps p.tables e below (s₁.setTop (mkF m 0 #[.val (.int p1), .val (.int p2), .val (.int p3), .val (.long q4), .second, .val (.int p5), .val (.int p6), .unset, .unset, .unset, .unset, .unset, .unset, .unset, .unset, .unset, .unset, .unset, .unset, .unset, .unset, .unset, .unset] [])) _
    refine XS.iloadN X0.here hx rfl (hb hby at_0) rfl ?_
    show Steps p.tables e below (s₁.setTop (mkF m 1 #[.val (.int p1), .val (.int p2), .val (.int p3), .val (.long q4), .second, .val (.int p5), .val (.int p6), .unset, .unset, .unset, .unset, .unset, .unset, .unset, .unset, .unset, .unset, .unset, .unset, .unset, .unset, .unset, .unset] [(.int p1)])) _
    refine XS.bipush X0.here hx rfl (hb hby at_1) ?_
    show Steps p.tables e below (s₁.setTop (mkF m 3 #[.val (.int p1), .val (.int p2), .val (.int p3), .val (.long q4), .second, .val (.int p5), .val (.int p6), .unset, .unset, .unset, .unset, .unset, .unset, .unset, .unset, .unset, .unset, .unset, .unset, .unset, .unset, .unset, .unset] [(.int (15 : Int32)), (.int p1)])) _
    refine XS.iand X0.here hx rfl (hb hby at_3) rfl ?_
    show Steps p.tables e below (s₁.setTop (mkF m 4 #[.val (.int p1), .val (.int p2), .val (.int p3), .val (.long q4), .second, .val (.int p5), .val (.int p6), .unset, .unset, .unset, .unset, .unset, .unset, .unset, .unset, .unset, .unset, .unset, .unset, .unset, .unset, .unset, .unset] [(.int (p1 &&& (15 : Int32)))])) _
    rw [← hv_v1]
    show Steps p.tables e below (s₁.setTop (mkF m 4 #[.val (.int p1), .val (.int p2), .val (.int p3), .val (.long q4), .second, .val (.int p5), .val (.int p6), .unset, .unset, .unset, .unset, .unset, .unset, .unset, .unset, .unset, .unset, .unset, .unset, .unset, .unset, .unset, .unset] [(.int v1)])) _
    refine XS.istore X0.here hx rfl (hb hby at_4) rfl (l' := #[.val (.int p1), .val (.int p2), .val (.int p3), .val (.long q4), .second, .val (.int p5), .val (.int p6), .val (.int v1), .unset, .unset, .unset, .unset, .unset, .unset, .unset, .unset, .unset, .unset, .unset, .unset, .unset, .unset, .unset]) rfl ?_
    show Steps p.tables e below (s₁.setTop (mkF m 6 #[.val (.int p1), .val (.int p2), .val (.int p3), .val (.long q4), .second, .val (.int p5), .val (.int p6), .val (.int v1), .unset, .unset, .unset, .unset, .unset, .unset, .unset, .unset, .unset, .unset, .unset, .unset, .unset, .unset, .unset] [])) _
    refine XS.iloadN X0.here hx rfl (hb hby at_6) rfl ?_
    show Steps p.tables e below (s₁.setTop (mkF m 7 #[.val (.int p1), .val (.int p2), .val (.int p3), .val (.long q4), .second, .val (.int p5), .val (.int p6), .val (.int v1), .unset, .unset, .unset, .unset, .unset, .unset, .unset, .unset, .unset, .unset, .unset, .unset, .unset, .unset, .unset] [(.int p2)])) _
    refine XS.bipush X0.here hx rfl (hb hby at_7) ?_
    show Steps p.tables e below (s₁.setTop (mkF m 9 #[.val (.int p1), .val (.int p2), .val (.int p3), .val (.long q4), .second, .val (.int p5), .val (.int p6), .val (.int v1), .unset, .unset, .unset, .unset, .unset, .unset, .unset, .unset, .unset, .unset, .unset, .unset, .unset, .unset, .unset] [(.int (15 : Int32)), (.int p2)])) _
    refine XS.iand X0.here hx rfl (hb hby at_9) rfl ?_
    show Steps p.tables e below (s₁.setTop (mkF m 10 #[.val (.int p1), .val (.int p2), .val (.int p3), .val (.long q4), .second, .val (.int p5), .val (.int p6), .val (.int v1), .unset, .unset, .unset, .unset, .unset, .unset, .unset, .unset, .unset, .unset, .unset, .unset, .unset, .unset, .unset] [(.int (p2 &&& (15 : Int32)))])) _
    rw [← hv_v2]
    show Steps p.tables e below (s₁.setTop (mkF m 10 #[.val (.int p1), .val (.int p2), .val (.int p3), .val (.long q4), .second, .val (.int p5), .val (.int p6), .val (.int v1), .unset, .unset, .unset, .unset, .unset, .unset, .unset, .unset, .unset, .unset, .unset, .unset, .unset, .unset, .unset] [(.int v2)])) _
    refine XS.istore X0.here hx rfl (hb hby at_10) rfl (l' := #[.val (.int p1), .val (.int p2), .val (.int p3), .val (.long q4), .second, .val (.int p5), .val (.int p6), .val (.int v1), .val (.int v2), .unset, .unset, .unset, .unset, .unset, .unset, .unset, .unset, .unset, .unset, .unset, .unset, .unset, .unset]) rfl ?_
    show Steps p.tables e below (s₁.setTop (mkF m 12 #[.val (.int p1), .val (.int p2), .val (.int p3), .val (.long q4), .second, .val (.int p5), .val (.int p6), .val (.int v1), .val (.int v2), .unset, .unset, .unset, .unset, .unset, .unset, .unset, .unset, .unset, .unset, .unset, .unset, .unset, .unset] [])) _
    refine XS.iloadN X0.here hx rfl (hb hby at_12) rfl ?_
    show Steps p.tables e below (s₁.setTop (mkF m 13 #[.val (.int p1), .val (.int p2), .val (.int p3), .val (.long q4), .second, .val (.int p5), .val (.int p6), .val (.int v1), .val (.int v2), .unset, .unset, .unset, .unset, .unset, .unset, .unset, .unset, .unset, .unset, .unset, .unset, .unset, .unset] [(.int p3)])) _
    refine XS.sipush X0.here hx rfl (hb hby at_13) ?_
    show Steps p.tables e below (s₁.setTop (mkF m 16 #[.val (.int p1), .val (.int p2), .val (.int p3), .val (.long q4), .second, .val (.int p5), .val (.int p6), .val (.int v1), .val (.int v2), .unset, .unset, .unset, .unset, .unset, .unset, .unset, .unset, .unset, .unset, .unset, .unset, .unset, .unset] [(.int (255 : Int32)), (.int p3)])) _
    refine XS.iand X0.here hx rfl (hb hby at_16) rfl ?_
    show Steps p.tables e below (s₁.setTop (mkF m 17 #[.val (.int p1), .val (.int p2), .val (.int p3), .val (.long q4), .second, .val (.int p5), .val (.int p6), .val (.int v1), .val (.int v2), .unset, .unset, .unset, .unset, .unset, .unset, .unset, .unset, .unset, .unset, .unset, .unset, .unset, .unset] [(.int (p3 &&& (255 : Int32)))])) _
    rw [← hv_v3]
    show Steps p.tables e below (s₁.setTop (mkF m 17 #[.val (.int p1), .val (.int p2), .val (.int p3), .val (.long q4), .second, .val (.int p5), .val (.int p6), .val (.int v1), .val (.int v2), .unset, .unset, .unset, .unset, .unset, .unset, .unset, .unset, .unset, .unset, .unset, .unset, .unset, .unset] [(.int v3)])) _
    refine XS.istore X0.here hx rfl (hb hby at_17) rfl (l' := #[.val (.int p1), .val (.int p2), .val (.int p3), .val (.long q4), .second, .val (.int p5), .val (.int p6), .val (.int v1), .val (.int v2), .val (.int v3), .unset, .unset, .unset, .unset, .unset, .unset, .unset, .unset, .unset, .unset, .unset, .unset, .unset]) rfl ?_
    exact kt
  obtain ⟨T5, h5, X5, e5, E5, A5, D5, -, st5⟩ := newO X0 hx hZ hown (hw _ (List.mem_of_getElem? (i := 0) rfl)) (hw _ (List.mem_of_getElem? (i := 1) rfl)) (hw _ (List.mem_of_getElem? (i := 2) rfl)) e0 (g := (mkF m 19 #[.val (.int p1), .val (.int p2), .val (.int p3), .val (.long q4), .second, .val (.int p5), .val (.int p6), .val (.int v1), .val (.int v2), .val (.int v3), .unset, .unset, .unset, .unset, .unset, .unset, .unset, .unset, .unset, .unset, .unset, .unset, .unset] [])) rfl (hb hby at_19) (by decide) (by decide)
  obtain ⟨b5, g5⟩ : ∃ z, z = h0.size := ⟨_, rfl⟩
  rw [← g5] at A5 D5 st5
  have g_b5 : n0 ≤ b5 := Nat.le_trans Z0 (Nat.le_of_eq g5.symm)
  have Z5 : n0 ≤ h5.size := Nat.le_trans Z0 E5.1
  have F5_clientId : Fld Z h5 b5 "com/example/allegheny/allegheny/RequestId" "clientId" "I" (.int (0 : Int32)) := D5 (Or.inr (hw _ (List.mem_of_getElem? (i := 15) rfl))) (ty := .int) (by decide)
  have F5_generation : Fld Z h5 b5 "com/example/allegheny/allegheny/RequestId" "generation" "I" (.int (0 : Int32)) := D5 (Or.inr (hw _ (List.mem_of_getElem? (i := 17) rfl))) (ty := .int) (by decide)
  have F5_partitionId : Fld Z h5 b5 "com/example/allegheny/allegheny/RequestId" "partitionId" "I" (.int (0 : Int32)) := D5 (Or.inr (hw _ (List.mem_of_getElem? (i := 19) rfl))) (ty := .int) (by decide)
  have F5_sequence : Fld Z h5 b5 "com/example/allegheny/allegheny/RequestId" "sequence" "I" (.int (0 : Int32)) := D5 (Or.inr (hw _ (List.mem_of_getElem? (i := 21) rfl))) (ty := .int) (by decide)
  obtain ⟨_, _, ⟨T6, L6, k6, n6⟩, -, X6, ⟨Lc6, hQ6, l6, y6, z6⟩, st6⟩ := X5.specialBack hx (y := (⟨"com/example/allegheny/allegheny/RequestId", "<init>", "(IIII)V"⟩ : MethodName)) rfl hown (mvT hZ (hw _ (List.mem_of_getElem? (i := 3) rfl))) (mvT hZ (hw _ (List.mem_of_getElem? (i := 4) rfl))) (mvT hZ (hw _ (List.mem_of_getElem? (i := 5) rfl))) (by decide) (backOf (W := 1) (rm1 l Z a0 hw [] b5 p5 p6 p1 p2  h5 n0 Z5 A5 g_b5 F5_clientId F5_generation F5_partitionId F5_sequence) hZ (hw _ (List.mem_of_getElem? (i := 5) rfl)) (hw _ (List.mem_of_getElem? (i := 2) rfl)) (by decide) (by decide)) (g := (mkF m 29 #[.val (.int p1), .val (.int p2), .val (.int p3), .val (.long q4), .second, .val (.int p5), .val (.int p6), .val (.int v1), .val (.int v2), .val (.int v3), .unset, .unset, .unset, .unset, .unset, .unset, .unset, .unset, .unset, .unset, .unset, .unset, .unset] [(.int p2), (.int p1), (.int p6), (.int p5), (.ref b5), (.ref b5)])) rfl (by rw [hml]; rfl) (Steps.refl _) (a := b5) (argsL := [(.int p5), (.int p6), (.int p1), (.int p2)]) (rest := [(.ref b5)]) (lenOf own_pd1 rfl) rfl (by show 2 * 0 + _ ≤ _; exact Nat.le_of_eq rfl) (hb hby at_29) (fun _ _ => ⟨rfl, e5, (by decide : 1 + 0 ≤ _), (by decide : 4 + 0 ≤ _)⟩)
  dsimp only [Pt.U, Pt.locs, Pt.cells, Pt.slots] at X6 l6 y6 z6 st6 hQ6
  subst l6 y6 z6
  obtain ⟨rfl, Nq6, Kq6, Eq6, Fq6_clientId, Fq6_generation, Fq6_partitionId, Fq6_sequence⟩ := hQ6
  have N6 := Fr.app N0 Nq6
  have Z6 : n0 ≤ T6.heap.size := Nat.le_trans Z5 Kq6.1
  have hcap_v1 : ¬ v1 < 0 ∧ (v1).toNatClampNeg ≤ 15 := by rw [hv_v1]; exact own_cap _ _ _ (by decide) (by decide)
  obtain ⟨T7, h7, k7, X7, e7, E7, A7, st7⟩ := newP X6 hx hZ (hw _ (List.mem_of_getElem? (i := 22) rfl)) rfl (g := (mkF m 36 #[.val (.int p1), .val (.int p2), .val (.int p3), .val (.long q4), .second, .val (.int p5), .val (.int p6), .val (.int v1), .val (.int v2), .val (.int v3), .val (.ref b5), .unset, .unset, .unset, .unset, .unset, .unset, .unset, .unset, .unset, .unset, .unset, .unset] [(.int v1)])) rfl (hb hby at_36) rfl hcap_v1.1 (cap := 15) hcap_v1.2 (by decide) (by decide) (by decide)
  obtain ⟨b7, g7⟩ : ∃ z, z = T6.heap.size := ⟨_, rfl⟩
  rw [← g7] at A7 st7
  have ne8 : b5 ≠ b7 := Nat.ne_of_lt (Nat.lt_of_lt_of_le Eq6.lt (Nat.le_of_eq g7.symm))
  have g_b7 : n0 ≤ b7 := Nat.le_trans Z6 (Nat.le_of_eq g7.symm)
  have Z7 : n0 ≤ h7.size := Nat.le_trans Z6 E7.1
  have V7 : Arv Z h7 b7 k7 .int v1 [] (.int (0 : Int32)) := Arv.new A7 hcap_v1.1
  have hcap_v2 : ¬ v2 < 0 ∧ (v2).toNatClampNeg ≤ 15 := by rw [hv_v2]; exact own_cap _ _ _ (by decide) (by decide)
  obtain ⟨T9, h9, k9, X9, e9, E9, A9, st9⟩ := newP X7 hx hZ (hw _ (List.mem_of_getElem? (i := 22) rfl)) e7 (g := (mkF m 42 #[.val (.int p1), .val (.int p2), .val (.int p3), .val (.long q4), .second, .val (.int p5), .val (.int p6), .val (.int v1), .val (.int v2), .val (.int v3), .val (.ref b5), .val (.ref b7), .unset, .unset, .unset, .unset, .unset, .unset, .unset, .unset, .unset, .unset, .unset] [(.int v2)])) rfl (hb hby at_42) rfl hcap_v2.1 (cap := 15) hcap_v2.2 (by decide) (by decide) (by decide)
  obtain ⟨b9, g9⟩ : ∃ z, z = h7.size := ⟨_, rfl⟩
  rw [← g9] at A9 st9
  have f11 := (Eq6.ext E7)
  have ne10 : b5 ≠ b9 := Nat.ne_of_lt (Nat.lt_of_lt_of_le f11.lt (Nat.le_of_eq g9.symm))
  have ne12 : b7 ≠ b9 := Nat.ne_of_lt (Nat.lt_of_lt_of_le V7.lt (Nat.le_of_eq g9.symm))
  have g_b9 : n0 ≤ b9 := Nat.le_trans Z7 (Nat.le_of_eq g9.symm)
  have Z9 : n0 ≤ h9.size := Nat.le_trans Z7 E9.1
  have V9 : Arv Z h9 b9 k9 .int v2 [] (.int (0 : Int32)) := Arv.new A9 hcap_v2.1
  have go13 : own_go p e below (s₁.setTop (entryFrame m #[(.int p1), (.int p2), (.int p3), (.long q4), (.int p5), (.int p6)] maxLocals)) (T9.setTop (mkF m 48 #[.val (.int p1), .val (.int p2), .val (.int p3), .val (.long q4), .second, .val (.int p5), .val (.int p6), .val (.int v1), .val (.int v2), .val (.int v3), .val (.ref b5), .val (.ref b7), .val (.ref b9), .unset, .unset, .unset, .unset, .unset, .unset, .unset, .unset, .unset, .unset] [(.int v3)])) := by
    intro t kt
    refine go4 t ?_
    show Steps p.tables e below (s₁.setTop (mkF m 19 #[.val (.int p1), .val (.int p2), .val (.int p3), .val (.long q4), .second, .val (.int p5), .val (.int p6), .val (.int v1), .val (.int v2), .val (.int v3), .unset, .unset, .unset, .unset, .unset, .unset, .unset, .unset, .unset, .unset, .unset, .unset, .unset] [])) _
    refine st5 _ ?_
    show Steps p.tables e below (T5.setTop (mkF m 22 #[.val (.int p1), .val (.int p2), .val (.int p3), .val (.long q4), .second, .val (.int p5), .val (.int p6), .val (.int v1), .val (.int v2), .val (.int v3), .unset, .unset, .unset, .unset, .unset, .unset, .unset, .unset, .unset, .unset, .unset, .unset, .unset] [(.ref b5)])) _
    refine XS.dup X5.here hx rfl (hb hby at_22) rfl rfl ?_
    show Steps p.tables e below (T5.setTop (mkF m 23 #[.val (.int p1), .val (.int p2), .val (.int p3), .val (.long q4), .second, .val (.int p5), .val (.int p6), .val (.int v1), .val (.int v2), .val (.int v3), .unset, .unset, .unset, .unset, .unset, .unset, .unset, .unset, .unset, .unset, .unset, .unset, .unset] [(.ref b5), (.ref b5)])) _
    refine XS.iload X5.here hx rfl (hb hby at_23) rfl ?_
    show Steps p.tables e below (T5.setTop (mkF m 25 #[.val (.int p1), .val (.int p2), .val (.int p3), .val (.long q4), .second, .val (.int p5), .val (.int p6), .val (.int v1), .val (.int v2), .val (.int v3), .unset, .unset, .unset, .unset, .unset, .unset, .unset, .unset, .unset, .unset, .unset, .unset, .unset] [(.int p5), (.ref b5), (.ref b5)])) _
    refine XS.iload X5.here hx rfl (hb hby at_25) rfl ?_
    show Steps p.tables e below (T5.setTop (mkF m 27 #[.val (.int p1), .val (.int p2), .val (.int p3), .val (.long q4), .second, .val (.int p5), .val (.int p6), .val (.int v1), .val (.int v2), .val (.int v3), .unset, .unset, .unset, .unset, .unset, .unset, .unset, .unset, .unset, .unset, .unset, .unset, .unset] [(.int p6), (.int p5), (.ref b5), (.ref b5)])) _
    refine XS.iloadN X5.here hx rfl (hb hby at_27) rfl ?_
    show Steps p.tables e below (T5.setTop (mkF m 28 #[.val (.int p1), .val (.int p2), .val (.int p3), .val (.long q4), .second, .val (.int p5), .val (.int p6), .val (.int v1), .val (.int v2), .val (.int v3), .unset, .unset, .unset, .unset, .unset, .unset, .unset, .unset, .unset, .unset, .unset, .unset, .unset] [(.int p1), (.int p6), (.int p5), (.ref b5), (.ref b5)])) _
    refine XS.iloadN X5.here hx rfl (hb hby at_28) rfl ?_
    show Steps p.tables e below (T5.setTop (mkF m 29 #[.val (.int p1), .val (.int p2), .val (.int p3), .val (.long q4), .second, .val (.int p5), .val (.int p6), .val (.int v1), .val (.int v2), .val (.int v3), .unset, .unset, .unset, .unset, .unset, .unset, .unset, .unset, .unset, .unset, .unset, .unset, .unset] [(.int p2), (.int p1), (.int p6), (.int p5), (.ref b5), (.ref b5)])) _
    refine st6.trans ?_
    show Steps p.tables e below (T6.setTop (mkF m 32 #[.val (.int p1), .val (.int p2), .val (.int p3), .val (.long q4), .second, .val (.int p5), .val (.int p6), .val (.int v1), .val (.int v2), .val (.int v3), .unset, .unset, .unset, .unset, .unset, .unset, .unset, .unset, .unset, .unset, .unset, .unset, .unset] [(.ref b5)])) _
    refine XS.astore X6.here hx rfl (hb hby at_32) rfl rfl (l' := #[.val (.int p1), .val (.int p2), .val (.int p3), .val (.long q4), .second, .val (.int p5), .val (.int p6), .val (.int v1), .val (.int v2), .val (.int v3), .val (.ref b5), .unset, .unset, .unset, .unset, .unset, .unset, .unset, .unset, .unset, .unset, .unset, .unset]) rfl ?_
    show Steps p.tables e below (T6.setTop (mkF m 34 #[.val (.int p1), .val (.int p2), .val (.int p3), .val (.long q4), .second, .val (.int p5), .val (.int p6), .val (.int v1), .val (.int v2), .val (.int v3), .val (.ref b5), .unset, .unset, .unset, .unset, .unset, .unset, .unset, .unset, .unset, .unset, .unset, .unset] [])) _
    refine XS.iload X6.here hx rfl (hb hby at_34) rfl ?_
    show Steps p.tables e below (T6.setTop (mkF m 36 #[.val (.int p1), .val (.int p2), .val (.int p3), .val (.long q4), .second, .val (.int p5), .val (.int p6), .val (.int v1), .val (.int v2), .val (.int v3), .val (.ref b5), .unset, .unset, .unset, .unset, .unset, .unset, .unset, .unset, .unset, .unset, .unset, .unset] [(.int v1)])) _
    refine st7 _ ?_
    show Steps p.tables e below (T7.setTop (mkF m 38 #[.val (.int p1), .val (.int p2), .val (.int p3), .val (.long q4), .second, .val (.int p5), .val (.int p6), .val (.int v1), .val (.int v2), .val (.int v3), .val (.ref b5), .unset, .unset, .unset, .unset, .unset, .unset, .unset, .unset, .unset, .unset, .unset, .unset] [(.ref b7)])) _
    refine XS.astore X7.here hx rfl (hb hby at_38) rfl rfl (l' := #[.val (.int p1), .val (.int p2), .val (.int p3), .val (.long q4), .second, .val (.int p5), .val (.int p6), .val (.int v1), .val (.int v2), .val (.int v3), .val (.ref b5), .val (.ref b7), .unset, .unset, .unset, .unset, .unset, .unset, .unset, .unset, .unset, .unset, .unset]) rfl ?_
    show Steps p.tables e below (T7.setTop (mkF m 40 #[.val (.int p1), .val (.int p2), .val (.int p3), .val (.long q4), .second, .val (.int p5), .val (.int p6), .val (.int v1), .val (.int v2), .val (.int v3), .val (.ref b5), .val (.ref b7), .unset, .unset, .unset, .unset, .unset, .unset, .unset, .unset, .unset, .unset, .unset] [])) _
    refine XS.iload X7.here hx rfl (hb hby at_40) rfl ?_
    show Steps p.tables e below (T7.setTop (mkF m 42 #[.val (.int p1), .val (.int p2), .val (.int p3), .val (.long q4), .second, .val (.int p5), .val (.int p6), .val (.int v1), .val (.int v2), .val (.int v3), .val (.ref b5), .val (.ref b7), .unset, .unset, .unset, .unset, .unset, .unset, .unset, .unset, .unset, .unset, .unset] [(.int v2)])) _
    refine st9 _ ?_
    show Steps p.tables e below (T9.setTop (mkF m 44 #[.val (.int p1), .val (.int p2), .val (.int p3), .val (.long q4), .second, .val (.int p5), .val (.int p6), .val (.int v1), .val (.int v2), .val (.int v3), .val (.ref b5), .val (.ref b7), .unset, .unset, .unset, .unset, .unset, .unset, .unset, .unset, .unset, .unset, .unset] [(.ref b9)])) _
    refine XS.astore X9.here hx rfl (hb hby at_44) rfl rfl (l' := #[.val (.int p1), .val (.int p2), .val (.int p3), .val (.long q4), .second, .val (.int p5), .val (.int p6), .val (.int v1), .val (.int v2), .val (.int v3), .val (.ref b5), .val (.ref b7), .val (.ref b9), .unset, .unset, .unset, .unset, .unset, .unset, .unset, .unset, .unset, .unset]) rfl ?_
    show Steps p.tables e below (T9.setTop (mkF m 46 #[.val (.int p1), .val (.int p2), .val (.int p3), .val (.long q4), .second, .val (.int p5), .val (.int p6), .val (.int v1), .val (.int v2), .val (.int v3), .val (.ref b5), .val (.ref b7), .val (.ref b9), .unset, .unset, .unset, .unset, .unset, .unset, .unset, .unset, .unset, .unset] [])) _
    refine XS.iload X9.here hx rfl (hb hby at_46) rfl ?_
    exact kt
  have hcap_v3 : ¬ v3 < 0 ∧ (v3).toNatClampNeg ≤ 255 := by rw [hv_v3]; exact own_cap _ _ _ (by decide) (by decide)
  obtain ⟨T14, h14, k14, X14, e14, E14, A14, st14⟩ := newP X9 hx hZ (hw _ (List.mem_of_getElem? (i := 23) rfl)) e9 (g := (mkF m 48 #[.val (.int p1), .val (.int p2), .val (.int p3), .val (.long q4), .second, .val (.int p5), .val (.int p6), .val (.int v1), .val (.int v2), .val (.int v3), .val (.ref b5), .val (.ref b7), .val (.ref b9), .unset, .unset, .unset, .unset, .unset, .unset, .unset, .unset, .unset, .unset] [(.int v3)])) rfl (hb hby at_48) rfl hcap_v3.1 (cap := 255) hcap_v3.2 (by decide) (by decide) (by decide)
  obtain ⟨b14, g14⟩ : ∃ z, z = h9.size := ⟨_, rfl⟩
  rw [← g14] at A14 st14
  have f16 := (f11.ext E9)
  have ne15 : b5 ≠ b14 := Nat.ne_of_lt (Nat.lt_of_lt_of_le f16.lt (Nat.le_of_eq g14.symm))
  have f18 := (V7.ext E9)
  have ne17 : b7 ≠ b14 := Nat.ne_of_lt (Nat.lt_of_lt_of_le f18.lt (Nat.le_of_eq g14.symm))
  have ne19 : b9 ≠ b14 := Nat.ne_of_lt (Nat.lt_of_lt_of_le V9.lt (Nat.le_of_eq g14.symm))
  have g_b14 : n0 ≤ b14 := Nat.le_trans Z9 (Nat.le_of_eq g14.symm)
  have Z14 : n0 ≤ h14.size := Nat.le_trans Z9 E14.1
  have V14 : Arv Z h14 b14 k14 .byte v3 [] (.int (0 : Int32)) := Arv.new A14 hcap_v3.1
  obtain ⟨T20, h20, X20, e20, E20, A20, D20, -, st20⟩ := newO X14 hx hZ hown (hw _ (List.mem_of_getElem? (i := 24) rfl)) (hw _ (List.mem_of_getElem? (i := 25) rfl)) (hw _ (List.mem_of_getElem? (i := 26) rfl)) e14 (g := (mkF m 52 #[.val (.int p1), .val (.int p2), .val (.int p3), .val (.long q4), .second, .val (.int p5), .val (.int p6), .val (.int v1), .val (.int v2), .val (.int v3), .val (.ref b5), .val (.ref b7), .val (.ref b9), .val (.ref b14), .unset, .unset, .unset, .unset, .unset, .unset, .unset, .unset, .unset] [])) rfl (hb hby at_52) (by decide) (by decide)
  obtain ⟨b20, g20⟩ : ∃ z, z = h14.size := ⟨_, rfl⟩
  rw [← g20] at A20 D20 st20
  have f22 := (f16.ext E14)
  have ne21 : b5 ≠ b20 := Nat.ne_of_lt (Nat.lt_of_lt_of_le f22.lt (Nat.le_of_eq g20.symm))
  have f24 := (f18.ext E14)
  have ne23 : b7 ≠ b20 := Nat.ne_of_lt (Nat.lt_of_lt_of_le f24.lt (Nat.le_of_eq g20.symm))
  have f26 := (V9.ext E14)
  have ne25 : b9 ≠ b20 := Nat.ne_of_lt (Nat.lt_of_lt_of_le f26.lt (Nat.le_of_eq g20.symm))
  have ne27 : b14 ≠ b20 := Nat.ne_of_lt (Nat.lt_of_lt_of_le V14.lt (Nat.le_of_eq g20.symm))
  have g_b20 : n0 ≤ b20 := Nat.le_trans Z14 (Nat.le_of_eq g20.symm)
  have Z20 : n0 ≤ h20.size := Nat.le_trans Z14 E20.1
  have F20_requestId : Fld Z h20 b20 "com/example/allegheny/allegheny/protocol/Message$AppendRequest" "requestId" "Lcom/example/allegheny/allegheny/RequestId;" .null := D20 (Or.inr (hw _ (List.mem_of_getElem? (i := 32) rfl))) (ty := (.object "com/example/allegheny/allegheny/RequestId")) (by decide)
  have F20_highWaterMark : Fld Z h20 b20 "com/example/allegheny/allegheny/protocol/Message$AppendRequest" "highWaterMark" "J" (.long (0 : Int64)) := D20 (Or.inr (hw _ (List.mem_of_getElem? (i := 34) rfl))) (ty := .long) (by decide)
  have F20_writeLockHashes : Fld Z h20 b20 "com/example/allegheny/allegheny/protocol/Message$AppendRequest" "writeLockHashes" "[I" .null := D20 (Or.inr (hw _ (List.mem_of_getElem? (i := 36) rfl))) (ty := (.array .int)) (by decide)
  have F20_readLockHashes : Fld Z h20 b20 "com/example/allegheny/allegheny/protocol/Message$AppendRequest" "readLockHashes" "[I" .null := D20 (Or.inr (hw _ (List.mem_of_getElem? (i := 38) rfl))) (ty := (.array .int)) (by decide)
  have F20_header : Fld Z h20 b20 "com/example/allegheny/allegheny/protocol/Message$AppendRequest" "header" "I" (.int (0 : Int32)) := D20 (Or.inr (hw _ (List.mem_of_getElem? (i := 40) rfl))) (ty := .int) (by decide)
  have F20_data : Fld Z h20 b20 "com/example/allegheny/allegheny/protocol/Message$AppendRequest" "data" "[B" .null := D20 (Or.inr (hw _ (List.mem_of_getElem? (i := 42) rfl))) (ty := (.array .byte)) (by decide)
  have F20_dataCrc : Fld Z h20 b20 "com/example/allegheny/allegheny/protocol/Message$AppendRequest" "dataCrc" "I" (.int (0 : Int32)) := D20 (Or.inr (hw _ (List.mem_of_getElem? (i := 44) rfl))) (ty := .int) (by decide)
  obtain ⟨_, _, ⟨T28, L28, k28, n28⟩, -, X28, ⟨Lc28, hQ28, l28, y28, z28⟩, st28⟩ := X20.specialBack hx (y := (⟨"com/example/allegheny/allegheny/protocol/Message$AppendRequest", "<init>", "(Lcom/example/allegheny/allegheny/RequestId;J[I[II[BI)V"⟩ : MethodName)) rfl hown (mvT hZ (hw _ (List.mem_of_getElem? (i := 27) rfl))) (mvT hZ (hw _ (List.mem_of_getElem? (i := 28) rfl))) (mvT hZ (hw _ (List.mem_of_getElem? (i := 29) rfl))) (by decide) (backOf (W := 1) (rm4 l Z a0 hw [] b20 b5 q4 b7 b9 p5 b14 p6  h20 n0 Z20 A20 g_b20 F20_requestId F20_highWaterMark F20_writeLockHashes F20_readLockHashes F20_header F20_data F20_dataCrc) hZ (hw _ (List.mem_of_getElem? (i := 29) rfl)) (hw _ (List.mem_of_getElem? (i := 26) rfl)) (by decide) (by decide)) (g := (mkF m 69 #[.val (.int p1), .val (.int p2), .val (.int p3), .val (.long q4), .second, .val (.int p5), .val (.int p6), .val (.int v1), .val (.int v2), .val (.int v3), .val (.ref b5), .val (.ref b7), .val (.ref b9), .val (.ref b14), .unset, .unset, .unset, .unset, .unset, .unset, .unset, .unset, .unset] [(.int p6), (.ref b14), (.int p5), (.ref b9), (.ref b7), (.long q4), (.ref b5), (.ref b20), (.ref b20)])) rfl (by rw [hml]; rfl) (Steps.refl _) (a := b20) (argsL := [(.ref b5), (.long q4), (.ref b7), (.ref b9), (.int p5), (.ref b14), (.int p6)]) (rest := [(.ref b20)]) (lenOf own_pd2 rfl) rfl (by show 2 * 0 + _ ≤ _; exact Nat.le_of_eq rfl) (hb hby at_69) (fun _ _ => ⟨rfl, e20, (by decide : 5 + 0 ≤ _), (by decide : 296 + 0 ≤ _)⟩)
  dsimp only [Pt.U, Pt.locs, Pt.cells, Pt.slots] at X28 l28 y28 z28 st28 hQ28
  subst l28 y28 z28
  obtain ⟨rfl, Nq28, Kq28, Eq28, Fq28_requestId, Fq28_highWaterMark, Fq28_writeLockHashes, Fq28_readLockHashes, Fq28_header, Fq28_data, Fq28_dataCrc⟩ := hQ28
  have N28 := Fr.app N6 Nq28
  have Z28 : n0 ≤ T28.heap.size := Nat.le_trans Z20 Kq28.1
  have go29 : own_go p e below (s₁.setTop (entryFrame m #[(.int p1), (.int p2), (.int p3), (.long q4), (.int p5), (.int p6)] maxLocals)) (T28.setTop (mkF m 78 #[.val (.int p1), .val (.int p2), .val (.int p3), .val (.long q4), .second, .val (.int p5), .val (.int p6), .val (.int v1), .val (.int v2), .val (.int v3), .val (.ref b5), .val (.ref b7), .val (.ref b9), .val (.ref b14), .val (.ref b20), .val (.int (16 : Int32)), .unset, .unset, .unset, .unset, .unset, .unset, .unset] [])) := by
    intro t kt
    refine go13 t ?_
    show Steps p.tables e below (T9.setTop (mkF m 48 #[.val (.int p1), .val (.int p2), .val (.int p3), .val (.long q4), .second, .val (.int p5), .val (.int p6), .val (.int v1), .val (.int v2), .val (.int v3), .val (.ref b5), .val (.ref b7), .val (.ref b9), .unset, .unset, .unset, .unset, .unset, .unset, .unset, .unset, .unset, .unset] [(.int v3)])) _
    refine st14 _ ?_
    show Steps p.tables e below (T14.setTop (mkF m 50 #[.val (.int p1), .val (.int p2), .val (.int p3), .val (.long q4), .second, .val (.int p5), .val (.int p6), .val (.int v1), .val (.int v2), .val (.int v3), .val (.ref b5), .val (.ref b7), .val (.ref b9), .unset, .unset, .unset, .unset, .unset, .unset, .unset, .unset, .unset, .unset] [(.ref b14)])) _
    refine XS.astore X14.here hx rfl (hb hby at_50) rfl rfl (l' := #[.val (.int p1), .val (.int p2), .val (.int p3), .val (.long q4), .second, .val (.int p5), .val (.int p6), .val (.int v1), .val (.int v2), .val (.int v3), .val (.ref b5), .val (.ref b7), .val (.ref b9), .val (.ref b14), .unset, .unset, .unset, .unset, .unset, .unset, .unset, .unset, .unset]) rfl ?_
    show Steps p.tables e below (T14.setTop (mkF m 52 #[.val (.int p1), .val (.int p2), .val (.int p3), .val (.long q4), .second, .val (.int p5), .val (.int p6), .val (.int v1), .val (.int v2), .val (.int v3), .val (.ref b5), .val (.ref b7), .val (.ref b9), .val (.ref b14), .unset, .unset, .unset, .unset, .unset, .unset, .unset, .unset, .unset] [])) _
    refine st20 _ ?_
    show Steps p.tables e below (T20.setTop (mkF m 55 #[.val (.int p1), .val (.int p2), .val (.int p3), .val (.long q4), .second, .val (.int p5), .val (.int p6), .val (.int v1), .val (.int v2), .val (.int v3), .val (.ref b5), .val (.ref b7), .val (.ref b9), .val (.ref b14), .unset, .unset, .unset, .unset, .unset, .unset, .unset, .unset, .unset] [(.ref b20)])) _
    refine XS.dup X20.here hx rfl (hb hby at_55) rfl rfl ?_
    show Steps p.tables e below (T20.setTop (mkF m 56 #[.val (.int p1), .val (.int p2), .val (.int p3), .val (.long q4), .second, .val (.int p5), .val (.int p6), .val (.int v1), .val (.int v2), .val (.int v3), .val (.ref b5), .val (.ref b7), .val (.ref b9), .val (.ref b14), .unset, .unset, .unset, .unset, .unset, .unset, .unset, .unset, .unset] [(.ref b20), (.ref b20)])) _
    refine XS.aload X20.here hx rfl (hb hby at_56) rfl rfl ?_
    show Steps p.tables e below (T20.setTop (mkF m 58 #[.val (.int p1), .val (.int p2), .val (.int p3), .val (.long q4), .second, .val (.int p5), .val (.int p6), .val (.int v1), .val (.int v2), .val (.int v3), .val (.ref b5), .val (.ref b7), .val (.ref b9), .val (.ref b14), .unset, .unset, .unset, .unset, .unset, .unset, .unset, .unset, .unset] [(.ref b5), (.ref b20), (.ref b20)])) _
    refine XS.lloadN X20.here hx rfl (hb hby at_58) rfl ?_
    show Steps p.tables e below (T20.setTop (mkF m 59 #[.val (.int p1), .val (.int p2), .val (.int p3), .val (.long q4), .second, .val (.int p5), .val (.int p6), .val (.int v1), .val (.int v2), .val (.int v3), .val (.ref b5), .val (.ref b7), .val (.ref b9), .val (.ref b14), .unset, .unset, .unset, .unset, .unset, .unset, .unset, .unset, .unset] [(.long q4), (.ref b5), (.ref b20), (.ref b20)])) _
    refine XS.aload X20.here hx rfl (hb hby at_59) rfl rfl ?_
    show Steps p.tables e below (T20.setTop (mkF m 61 #[.val (.int p1), .val (.int p2), .val (.int p3), .val (.long q4), .second, .val (.int p5), .val (.int p6), .val (.int v1), .val (.int v2), .val (.int v3), .val (.ref b5), .val (.ref b7), .val (.ref b9), .val (.ref b14), .unset, .unset, .unset, .unset, .unset, .unset, .unset, .unset, .unset] [(.ref b7), (.long q4), (.ref b5), (.ref b20), (.ref b20)])) _
    refine XS.aload X20.here hx rfl (hb hby at_61) rfl rfl ?_
    show Steps p.tables e below (T20.setTop (mkF m 63 #[.val (.int p1), .val (.int p2), .val (.int p3), .val (.long q4), .second, .val (.int p5), .val (.int p6), .val (.int v1), .val (.int v2), .val (.int v3), .val (.ref b5), .val (.ref b7), .val (.ref b9), .val (.ref b14), .unset, .unset, .unset, .unset, .unset, .unset, .unset, .unset, .unset] [(.ref b9), (.ref b7), (.long q4), (.ref b5), (.ref b20), (.ref b20)])) _
    refine XS.iload X20.here hx rfl (hb hby at_63) rfl ?_
    show Steps p.tables e below (T20.setTop (mkF m 65 #[.val (.int p1), .val (.int p2), .val (.int p3), .val (.long q4), .second, .val (.int p5), .val (.int p6), .val (.int v1), .val (.int v2), .val (.int v3), .val (.ref b5), .val (.ref b7), .val (.ref b9), .val (.ref b14), .unset, .unset, .unset, .unset, .unset, .unset, .unset, .unset, .unset] [(.int p5), (.ref b9), (.ref b7), (.long q4), (.ref b5), (.ref b20), (.ref b20)])) _
    refine XS.aload X20.here hx rfl (hb hby at_65) rfl rfl ?_
    show Steps p.tables e below (T20.setTop (mkF m 67 #[.val (.int p1), .val (.int p2), .val (.int p3), .val (.long q4), .second, .val (.int p5), .val (.int p6), .val (.int v1), .val (.int v2), .val (.int v3), .val (.ref b5), .val (.ref b7), .val (.ref b9), .val (.ref b14), .unset, .unset, .unset, .unset, .unset, .unset, .unset, .unset, .unset] [(.ref b14), (.int p5), (.ref b9), (.ref b7), (.long q4), (.ref b5), (.ref b20), (.ref b20)])) _
    refine XS.iload X20.here hx rfl (hb hby at_67) rfl ?_
    show Steps p.tables e below (T20.setTop (mkF m 69 #[.val (.int p1), .val (.int p2), .val (.int p3), .val (.long q4), .second, .val (.int p5), .val (.int p6), .val (.int v1), .val (.int v2), .val (.int v3), .val (.ref b5), .val (.ref b7), .val (.ref b9), .val (.ref b14), .unset, .unset, .unset, .unset, .unset, .unset, .unset, .unset, .unset] [(.int p6), (.ref b14), (.int p5), (.ref b9), (.ref b7), (.long q4), (.ref b5), (.ref b20), (.ref b20)])) _
    refine st28.trans ?_
    show Steps p.tables e below (T28.setTop (mkF m 72 #[.val (.int p1), .val (.int p2), .val (.int p3), .val (.long q4), .second, .val (.int p5), .val (.int p6), .val (.int v1), .val (.int v2), .val (.int v3), .val (.ref b5), .val (.ref b7), .val (.ref b9), .val (.ref b14), .unset, .unset, .unset, .unset, .unset, .unset, .unset, .unset, .unset] [(.ref b20)])) _
    refine XS.astore X28.here hx rfl (hb hby at_72) rfl rfl (l' := #[.val (.int p1), .val (.int p2), .val (.int p3), .val (.long q4), .second, .val (.int p5), .val (.int p6), .val (.int v1), .val (.int v2), .val (.int v3), .val (.ref b5), .val (.ref b7), .val (.ref b9), .val (.ref b14), .val (.ref b20), .unset, .unset, .unset, .unset, .unset, .unset, .unset, .unset]) rfl ?_
    show Steps p.tables e below (T28.setTop (mkF m 74 #[.val (.int p1), .val (.int p2), .val (.int p3), .val (.long q4), .second, .val (.int p5), .val (.int p6), .val (.int v1), .val (.int v2), .val (.int v3), .val (.ref b5), .val (.ref b7), .val (.ref b9), .val (.ref b14), .val (.ref b20), .unset, .unset, .unset, .unset, .unset, .unset, .unset, .unset] [])) _
    refine XS.bipush X28.here hx rfl (hb hby at_74) ?_
    show Steps p.tables e below (T28.setTop (mkF m 76 #[.val (.int p1), .val (.int p2), .val (.int p3), .val (.long q4), .second, .val (.int p5), .val (.int p6), .val (.int v1), .val (.int v2), .val (.int v3), .val (.ref b5), .val (.ref b7), .val (.ref b9), .val (.ref b14), .val (.ref b20), .unset, .unset, .unset, .unset, .unset, .unset, .unset, .unset] [(.int (16 : Int32))])) _
    refine XS.istore X28.here hx rfl (hb hby at_76) rfl (l' := #[.val (.int p1), .val (.int p2), .val (.int p3), .val (.long q4), .second, .val (.int p5), .val (.int p6), .val (.int v1), .val (.int v2), .val (.int v3), .val (.ref b5), .val (.ref b7), .val (.ref b9), .val (.ref b14), .val (.ref b20), .val (.int (16 : Int32)), .unset, .unset, .unset, .unset, .unset, .unset, .unset]) rfl ?_
    exact kt
  obtain ⟨v30, hv_v30⟩ : ∃ z : Int32, z = ((4 : Int32) + ((4 : Int32) * v1)) := ⟨_, rfl⟩
  obtain ⟨v31, hv_v31⟩ : ∃ z : Int32, z = ((4 : Int32) + ((4 : Int32) * v2)) := ⟨_, rfl⟩
  have go32 : own_go p e below (s₁.setTop (entryFrame m #[(.int p1), (.int p2), (.int p3), (.long q4), (.int p5), (.int p6)] maxLocals)) (T28.setTop (mkF m 98 #[.val (.int p1), .val (.int p2), .val (.int p3), .val (.long q4), .second, .val (.int p5), .val (.int p6), .val (.int v1), .val (.int v2), .val (.int v3), .val (.ref b5), .val (.ref b7), .val (.ref b9), .val (.ref b14), .val (.ref b20), .val (.int (16 : Int32)), .val (.int (8 : Int32)), .val (.int v30), .val (.int v31), .unset, .unset, .unset, .unset] [])) := by
    intro t kt
    refine go29 t ?_
    show Steps p.tables e below (T28.setTop (mkF m 78 #[.val (.int p1), .val (.int p2), .val (.int p3), .val (.long q4), .second, .val (.int p5), .val (.int p6), .val (.int v1), .val (.int v2), .val (.int v3), .val (.ref b5), .val (.ref b7), .val (.ref b9), .val (.ref b14), .val (.ref b20), .val (.int (16 : Int32)), .unset, .unset, .unset, .unset, .unset, .unset, .unset] [])) _
    refine XS.bipush X28.here hx rfl (hb hby at_78) ?_
    show Steps p.tables e below (T28.setTop (mkF m 80 #[.val (.int p1), .val (.int p2), .val (.int p3), .val (.long q4), .second, .val (.int p5), .val (.int p6), .val (.int v1), .val (.int v2), .val (.int v3), .val (.ref b5), .val (.ref b7), .val (.ref b9), .val (.ref b14), .val (.ref b20), .val (.int (16 : Int32)), .unset, .unset, .unset, .unset, .unset, .unset, .unset] [(.int (8 : Int32))])) _
    refine XS.istore X28.here hx rfl (hb hby at_80) rfl (l' := #[.val (.int p1), .val (.int p2), .val (.int p3), .val (.long q4), .second, .val (.int p5), .val (.int p6), .val (.int v1), .val (.int v2), .val (.int v3), .val (.ref b5), .val (.ref b7), .val (.ref b9), .val (.ref b14), .val (.ref b20), .val (.int (16 : Int32)), .val (.int (8 : Int32)), .unset, .unset, .unset, .unset, .unset, .unset]) rfl ?_
    show Steps p.tables e below (T28.setTop (mkF m 82 #[.val (.int p1), .val (.int p2), .val (.int p3), .val (.long q4), .second, .val (.int p5), .val (.int p6), .val (.int v1), .val (.int v2), .val (.int v3), .val (.ref b5), .val (.ref b7), .val (.ref b9), .val (.ref b14), .val (.ref b20), .val (.int (16 : Int32)), .val (.int (8 : Int32)), .unset, .unset, .unset, .unset, .unset, .unset] [])) _
    refine XS.iconst X28.here hx rfl (hb hby at_82) ?_
    show Steps p.tables e below (T28.setTop (mkF m 83 #[.val (.int p1), .val (.int p2), .val (.int p3), .val (.long q4), .second, .val (.int p5), .val (.int p6), .val (.int v1), .val (.int v2), .val (.int v3), .val (.ref b5), .val (.ref b7), .val (.ref b9), .val (.ref b14), .val (.ref b20), .val (.int (16 : Int32)), .val (.int (8 : Int32)), .unset, .unset, .unset, .unset, .unset, .unset] [(.int (4 : Int32))])) _
    refine XS.iconst X28.here hx rfl (hb hby at_83) ?_
    show Steps p.tables e below (T28.setTop (mkF m 84 #[.val (.int p1), .val (.int p2), .val (.int p3), .val (.long q4), .second, .val (.int p5), .val (.int p6), .val (.int v1), .val (.int v2), .val (.int v3), .val (.ref b5), .val (.ref b7), .val (.ref b9), .val (.ref b14), .val (.ref b20), .val (.int (16 : Int32)), .val (.int (8 : Int32)), .unset, .unset, .unset, .unset, .unset, .unset] [(.int (4 : Int32)), (.int (4 : Int32))])) _
    refine XS.iload X28.here hx rfl (hb hby at_84) rfl ?_
    show Steps p.tables e below (T28.setTop (mkF m 86 #[.val (.int p1), .val (.int p2), .val (.int p3), .val (.long q4), .second, .val (.int p5), .val (.int p6), .val (.int v1), .val (.int v2), .val (.int v3), .val (.ref b5), .val (.ref b7), .val (.ref b9), .val (.ref b14), .val (.ref b20), .val (.int (16 : Int32)), .val (.int (8 : Int32)), .unset, .unset, .unset, .unset, .unset, .unset] [(.int v1), (.int (4 : Int32)), (.int (4 : Int32))])) _
    refine XS.imul X28.here hx rfl (hb hby at_86) rfl ?_
    show Steps p.tables e below (T28.setTop (mkF m 87 #[.val (.int p1), .val (.int p2), .val (.int p3), .val (.long q4), .second, .val (.int p5), .val (.int p6), .val (.int v1), .val (.int v2), .val (.int v3), .val (.ref b5), .val (.ref b7), .val (.ref b9), .val (.ref b14), .val (.ref b20), .val (.int (16 : Int32)), .val (.int (8 : Int32)), .unset, .unset, .unset, .unset, .unset, .unset] [(.int ((4 : Int32) * v1)), (.int (4 : Int32))])) _
    refine XS.iadd X28.here hx rfl (hb hby at_87) rfl ?_
    show Steps p.tables e below (T28.setTop (mkF m 88 #[.val (.int p1), .val (.int p2), .val (.int p3), .val (.long q4), .second, .val (.int p5), .val (.int p6), .val (.int v1), .val (.int v2), .val (.int v3), .val (.ref b5), .val (.ref b7), .val (.ref b9), .val (.ref b14), .val (.ref b20), .val (.int (16 : Int32)), .val (.int (8 : Int32)), .unset, .unset, .unset, .unset, .unset, .unset] [(.int ((4 : Int32) + ((4 : Int32) * v1)))])) _
    rw [← hv_v30]
    show Steps p.tables e below (T28.setTop (mkF m 88 #[.val (.int p1), .val (.int p2), .val (.int p3), .val (.long q4), .second, .val (.int p5), .val (.int p6), .val (.int v1), .val (.int v2), .val (.int v3), .val (.ref b5), .val (.ref b7), .val (.ref b9), .val (.ref b14), .val (.ref b20), .val (.int (16 : Int32)), .val (.int (8 : Int32)), .unset, .unset, .unset, .unset, .unset, .unset] [(.int v30)])) _
    refine XS.istore X28.here hx rfl (hb hby at_88) rfl (l' := #[.val (.int p1), .val (.int p2), .val (.int p3), .val (.long q4), .second, .val (.int p5), .val (.int p6), .val (.int v1), .val (.int v2), .val (.int v3), .val (.ref b5), .val (.ref b7), .val (.ref b9), .val (.ref b14), .val (.ref b20), .val (.int (16 : Int32)), .val (.int (8 : Int32)), .val (.int v30), .unset, .unset, .unset, .unset, .unset]) rfl ?_
    show Steps p.tables e below (T28.setTop (mkF m 90 #[.val (.int p1), .val (.int p2), .val (.int p3), .val (.long q4), .second, .val (.int p5), .val (.int p6), .val (.int v1), .val (.int v2), .val (.int v3), .val (.ref b5), .val (.ref b7), .val (.ref b9), .val (.ref b14), .val (.ref b20), .val (.int (16 : Int32)), .val (.int (8 : Int32)), .val (.int v30), .unset, .unset, .unset, .unset, .unset] [])) _
    refine XS.iconst X28.here hx rfl (hb hby at_90) ?_
    show Steps p.tables e below (T28.setTop (mkF m 91 #[.val (.int p1), .val (.int p2), .val (.int p3), .val (.long q4), .second, .val (.int p5), .val (.int p6), .val (.int v1), .val (.int v2), .val (.int v3), .val (.ref b5), .val (.ref b7), .val (.ref b9), .val (.ref b14), .val (.ref b20), .val (.int (16 : Int32)), .val (.int (8 : Int32)), .val (.int v30), .unset, .unset, .unset, .unset, .unset] [(.int (4 : Int32))])) _
    refine XS.iconst X28.here hx rfl (hb hby at_91) ?_
    show Steps p.tables e below (T28.setTop (mkF m 92 #[.val (.int p1), .val (.int p2), .val (.int p3), .val (.long q4), .second, .val (.int p5), .val (.int p6), .val (.int v1), .val (.int v2), .val (.int v3), .val (.ref b5), .val (.ref b7), .val (.ref b9), .val (.ref b14), .val (.ref b20), .val (.int (16 : Int32)), .val (.int (8 : Int32)), .val (.int v30), .unset, .unset, .unset, .unset, .unset] [(.int (4 : Int32)), (.int (4 : Int32))])) _
    refine XS.iload X28.here hx rfl (hb hby at_92) rfl ?_
    show Steps p.tables e below (T28.setTop (mkF m 94 #[.val (.int p1), .val (.int p2), .val (.int p3), .val (.long q4), .second, .val (.int p5), .val (.int p6), .val (.int v1), .val (.int v2), .val (.int v3), .val (.ref b5), .val (.ref b7), .val (.ref b9), .val (.ref b14), .val (.ref b20), .val (.int (16 : Int32)), .val (.int (8 : Int32)), .val (.int v30), .unset, .unset, .unset, .unset, .unset] [(.int v2), (.int (4 : Int32)), (.int (4 : Int32))])) _
    refine XS.imul X28.here hx rfl (hb hby at_94) rfl ?_
    show Steps p.tables e below (T28.setTop (mkF m 95 #[.val (.int p1), .val (.int p2), .val (.int p3), .val (.long q4), .second, .val (.int p5), .val (.int p6), .val (.int v1), .val (.int v2), .val (.int v3), .val (.ref b5), .val (.ref b7), .val (.ref b9), .val (.ref b14), .val (.ref b20), .val (.int (16 : Int32)), .val (.int (8 : Int32)), .val (.int v30), .unset, .unset, .unset, .unset, .unset] [(.int ((4 : Int32) * v2)), (.int (4 : Int32))])) _
    refine XS.iadd X28.here hx rfl (hb hby at_95) rfl ?_
    show Steps p.tables e below (T28.setTop (mkF m 96 #[.val (.int p1), .val (.int p2), .val (.int p3), .val (.long q4), .second, .val (.int p5), .val (.int p6), .val (.int v1), .val (.int v2), .val (.int v3), .val (.ref b5), .val (.ref b7), .val (.ref b9), .val (.ref b14), .val (.ref b20), .val (.int (16 : Int32)), .val (.int (8 : Int32)), .val (.int v30), .unset, .unset, .unset, .unset, .unset] [(.int ((4 : Int32) + ((4 : Int32) * v2)))])) _
    rw [← hv_v31]
    show Steps p.tables e below (T28.setTop (mkF m 96 #[.val (.int p1), .val (.int p2), .val (.int p3), .val (.long q4), .second, .val (.int p5), .val (.int p6), .val (.int v1), .val (.int v2), .val (.int v3), .val (.ref b5), .val (.ref b7), .val (.ref b9), .val (.ref b14), .val (.ref b20), .val (.int (16 : Int32)), .val (.int (8 : Int32)), .val (.int v30), .unset, .unset, .unset, .unset, .unset] [(.int v31)])) _
    refine XS.istore X28.here hx rfl (hb hby at_96) rfl (l' := #[.val (.int p1), .val (.int p2), .val (.int p3), .val (.long q4), .second, .val (.int p5), .val (.int p6), .val (.int v1), .val (.int v2), .val (.int v3), .val (.ref b5), .val (.ref b7), .val (.ref b9), .val (.ref b14), .val (.ref b20), .val (.int (16 : Int32)), .val (.int (8 : Int32)), .val (.int v30), .val (.int v31), .unset, .unset, .unset, .unset]) rfl ?_
    exact kt
  obtain ⟨v33, hv_v33⟩ : ∃ z : Int32, z = ((4 : Int32) + v3) := ⟨_, rfl⟩
  have go34 : own_go p e below (s₁.setTop (entryFrame m #[(.int p1), (.int p2), (.int p3), (.long q4), (.int p5), (.int p6)] maxLocals)) (T28.setTop (mkF m 120 #[.val (.int p1), .val (.int p2), .val (.int p3), .val (.long q4), .second, .val (.int p5), .val (.int p6), .val (.int v1), .val (.int v2), .val (.int v3), .val (.ref b5), .val (.ref b7), .val (.ref b9), .val (.ref b14), .val (.ref b20), .val (.int (16 : Int32)), .val (.int (8 : Int32)), .val (.int v30), .val (.int v31), .val (.int (4 : Int32)), .val (.int v33), .val (.int (4 : Int32)), .unset] [(.int v31), (.int (((16 : Int32) + (8 : Int32)) + v30))])) := by
    intro t kt
    refine go32 t ?_
    show Steps p.tables e below (T28.setTop (mkF m 98 #[.val (.int p1), .val (.int p2), .val (.int p3), .val (.long q4), .second, .val (.int p5), .val (.int p6), .val (.int v1), .val (.int v2), .val (.int v3), .val (.ref b5), .val (.ref b7), .val (.ref b9), .val (.ref b14), .val (.ref b20), .val (.int (16 : Int32)), .val (.int (8 : Int32)), .val (.int v30), .val (.int v31), .unset, .unset, .unset, .unset] [])) _
    refine XS.iconst X28.here hx rfl (hb hby at_98) ?_
    show Steps p.tables e below (T28.setTop (mkF m 99 #[.val (.int p1), .val (.int p2), .val (.int p3), .val (.long q4), .second, .val (.int p5), .val (.int p6), .val (.int v1), .val (.int v2), .val (.int v3), .val (.ref b5), .val (.ref b7), .val (.ref b9), .val (.ref b14), .val (.ref b20), .val (.int (16 : Int32)), .val (.int (8 : Int32)), .val (.int v30), .val (.int v31), .unset, .unset, .unset, .unset] [(.int (4 : Int32))])) _
    refine XS.istore X28.here hx rfl (hb hby at_99) rfl (l' := #[.val (.int p1), .val (.int p2), .val (.int p3), .val (.long q4), .second, .val (.int p5), .val (.int p6), .val (.int v1), .val (.int v2), .val (.int v3), .val (.ref b5), .val (.ref b7), .val (.ref b9), .val (.ref b14), .val (.ref b20), .val (.int (16 : Int32)), .val (.int (8 : Int32)), .val (.int v30), .val (.int v31), .val (.int (4 : Int32)), .unset, .unset, .unset]) rfl ?_
    show Steps p.tables e below (T28.setTop (mkF m 101 #[.val (.int p1), .val (.int p2), .val (.int p3), .val (.long q4), .second, .val (.int p5), .val (.int p6), .val (.int v1), .val (.int v2), .val (.int v3), .val (.ref b5), .val (.ref b7), .val (.ref b9), .val (.ref b14), .val (.ref b20), .val (.int (16 : Int32)), .val (.int (8 : Int32)), .val (.int v30), .val (.int v31), .val (.int (4 : Int32)), .unset, .unset, .unset] [])) _
    refine XS.iconst X28.here hx rfl (hb hby at_101) ?_
    show Steps p.tables e below (T28.setTop (mkF m 102 #[.val (.int p1), .val (.int p2), .val (.int p3), .val (.long q4), .second, .val (.int p5), .val (.int p6), .val (.int v1), .val (.int v2), .val (.int v3), .val (.ref b5), .val (.ref b7), .val (.ref b9), .val (.ref b14), .val (.ref b20), .val (.int (16 : Int32)), .val (.int (8 : Int32)), .val (.int v30), .val (.int v31), .val (.int (4 : Int32)), .unset, .unset, .unset] [(.int (4 : Int32))])) _
    refine XS.iload X28.here hx rfl (hb hby at_102) rfl ?_
    show Steps p.tables e below (T28.setTop (mkF m 104 #[.val (.int p1), .val (.int p2), .val (.int p3), .val (.long q4), .second, .val (.int p5), .val (.int p6), .val (.int v1), .val (.int v2), .val (.int v3), .val (.ref b5), .val (.ref b7), .val (.ref b9), .val (.ref b14), .val (.ref b20), .val (.int (16 : Int32)), .val (.int (8 : Int32)), .val (.int v30), .val (.int v31), .val (.int (4 : Int32)), .unset, .unset, .unset] [(.int v3), (.int (4 : Int32))])) _
    refine XS.iadd X28.here hx rfl (hb hby at_104) rfl ?_
    show Steps p.tables e below (T28.setTop (mkF m 105 #[.val (.int p1), .val (.int p2), .val (.int p3), .val (.long q4), .second, .val (.int p5), .val (.int p6), .val (.int v1), .val (.int v2), .val (.int v3), .val (.ref b5), .val (.ref b7), .val (.ref b9), .val (.ref b14), .val (.ref b20), .val (.int (16 : Int32)), .val (.int (8 : Int32)), .val (.int v30), .val (.int v31), .val (.int (4 : Int32)), .unset, .unset, .unset] [(.int ((4 : Int32) + v3))])) _
    rw [← hv_v33]
    show Steps p.tables e below (T28.setTop (mkF m 105 #[.val (.int p1), .val (.int p2), .val (.int p3), .val (.long q4), .second, .val (.int p5), .val (.int p6), .val (.int v1), .val (.int v2), .val (.int v3), .val (.ref b5), .val (.ref b7), .val (.ref b9), .val (.ref b14), .val (.ref b20), .val (.int (16 : Int32)), .val (.int (8 : Int32)), .val (.int v30), .val (.int v31), .val (.int (4 : Int32)), .unset, .unset, .unset] [(.int v33)])) _
    refine XS.istore X28.here hx rfl (hb hby at_105) rfl (l' := #[.val (.int p1), .val (.int p2), .val (.int p3), .val (.long q4), .second, .val (.int p5), .val (.int p6), .val (.int v1), .val (.int v2), .val (.int v3), .val (.ref b5), .val (.ref b7), .val (.ref b9), .val (.ref b14), .val (.ref b20), .val (.int (16 : Int32)), .val (.int (8 : Int32)), .val (.int v30), .val (.int v31), .val (.int (4 : Int32)), .val (.int v33), .unset, .unset]) rfl ?_
    show Steps p.tables e below (T28.setTop (mkF m 107 #[.val (.int p1), .val (.int p2), .val (.int p3), .val (.long q4), .second, .val (.int p5), .val (.int p6), .val (.int v1), .val (.int v2), .val (.int v3), .val (.ref b5), .val (.ref b7), .val (.ref b9), .val (.ref b14), .val (.ref b20), .val (.int (16 : Int32)), .val (.int (8 : Int32)), .val (.int v30), .val (.int v31), .val (.int (4 : Int32)), .val (.int v33), .unset, .unset] [])) _
    refine XS.iconst X28.here hx rfl (hb hby at_107) ?_
    show Steps p.tables e below (T28.setTop (mkF m 108 #[.val (.int p1), .val (.int p2), .val (.int p3), .val (.long q4), .second, .val (.int p5), .val (.int p6), .val (.int v1), .val (.int v2), .val (.int v3), .val (.ref b5), .val (.ref b7), .val (.ref b9), .val (.ref b14), .val (.ref b20), .val (.int (16 : Int32)), .val (.int (8 : Int32)), .val (.int v30), .val (.int v31), .val (.int (4 : Int32)), .val (.int v33), .unset, .unset] [(.int (4 : Int32))])) _
    refine XS.istore X28.here hx rfl (hb hby at_108) rfl (l' := #[.val (.int p1), .val (.int p2), .val (.int p3), .val (.long q4), .second, .val (.int p5), .val (.int p6), .val (.int v1), .val (.int v2), .val (.int v3), .val (.ref b5), .val (.ref b7), .val (.ref b9), .val (.ref b14), .val (.ref b20), .val (.int (16 : Int32)), .val (.int (8 : Int32)), .val (.int v30), .val (.int v31), .val (.int (4 : Int32)), .val (.int v33), .val (.int (4 : Int32)), .unset]) rfl ?_
    show Steps p.tables e below (T28.setTop (mkF m 110 #[.val (.int p1), .val (.int p2), .val (.int p3), .val (.long q4), .second, .val (.int p5), .val (.int p6), .val (.int v1), .val (.int v2), .val (.int v3), .val (.ref b5), .val (.ref b7), .val (.ref b9), .val (.ref b14), .val (.ref b20), .val (.int (16 : Int32)), .val (.int (8 : Int32)), .val (.int v30), .val (.int v31), .val (.int (4 : Int32)), .val (.int v33), .val (.int (4 : Int32)), .unset] [])) _
    refine XS.iload X28.here hx rfl (hb hby at_110) rfl ?_
    show Steps p.tables e below (T28.setTop (mkF m 112 #[.val (.int p1), .val (.int p2), .val (.int p3), .val (.long q4), .second, .val (.int p5), .val (.int p6), .val (.int v1), .val (.int v2), .val (.int v3), .val (.ref b5), .val (.ref b7), .val (.ref b9), .val (.ref b14), .val (.ref b20), .val (.int (16 : Int32)), .val (.int (8 : Int32)), .val (.int v30), .val (.int v31), .val (.int (4 : Int32)), .val (.int v33), .val (.int (4 : Int32)), .unset] [(.int (16 : Int32))])) _
    refine XS.iload X28.here hx rfl (hb hby at_112) rfl ?_
    show Steps p.tables e below (T28.setTop (mkF m 114 #[.val (.int p1), .val (.int p2), .val (.int p3), .val (.long q4), .second, .val (.int p5), .val (.int p6), .val (.int v1), .val (.int v2), .val (.int v3), .val (.ref b5), .val (.ref b7), .val (.ref b9), .val (.ref b14), .val (.ref b20), .val (.int (16 : Int32)), .val (.int (8 : Int32)), .val (.int v30), .val (.int v31), .val (.int (4 : Int32)), .val (.int v33), .val (.int (4 : Int32)), .unset] [(.int (8 : Int32)), (.int (16 : Int32))])) _
    refine XS.iadd X28.here hx rfl (hb hby at_114) rfl ?_
    show Steps p.tables e below (T28.setTop (mkF m 115 #[.val (.int p1), .val (.int p2), .val (.int p3), .val (.long q4), .second, .val (.int p5), .val (.int p6), .val (.int v1), .val (.int v2), .val (.int v3), .val (.ref b5), .val (.ref b7), .val (.ref b9), .val (.ref b14), .val (.ref b20), .val (.int (16 : Int32)), .val (.int (8 : Int32)), .val (.int v30), .val (.int v31), .val (.int (4 : Int32)), .val (.int v33), .val (.int (4 : Int32)), .unset] [(.int ((16 : Int32) + (8 : Int32)))])) _
    refine XS.iload X28.here hx rfl (hb hby at_115) rfl ?_
    show Steps p.tables e below (T28.setTop (mkF m 117 #[.val (.int p1), .val (.int p2), .val (.int p3), .val (.long q4), .second, .val (.int p5), .val (.int p6), .val (.int v1), .val (.int v2), .val (.int v3), .val (.ref b5), .val (.ref b7), .val (.ref b9), .val (.ref b14), .val (.ref b20), .val (.int (16 : Int32)), .val (.int (8 : Int32)), .val (.int v30), .val (.int v31), .val (.int (4 : Int32)), .val (.int v33), .val (.int (4 : Int32)), .unset] [(.int v30), (.int ((16 : Int32) + (8 : Int32)))])) _
    refine XS.iadd X28.here hx rfl (hb hby at_117) rfl ?_
    show Steps p.tables e below (T28.setTop (mkF m 118 #[.val (.int p1), .val (.int p2), .val (.int p3), .val (.long q4), .second, .val (.int p5), .val (.int p6), .val (.int v1), .val (.int v2), .val (.int v3), .val (.ref b5), .val (.ref b7), .val (.ref b9), .val (.ref b14), .val (.ref b20), .val (.int (16 : Int32)), .val (.int (8 : Int32)), .val (.int v30), .val (.int v31), .val (.int (4 : Int32)), .val (.int v33), .val (.int (4 : Int32)), .unset] [(.int (((16 : Int32) + (8 : Int32)) + v30))])) _
    refine XS.iload X28.here hx rfl (hb hby at_118) rfl ?_
    exact kt
  obtain ⟨v35, hv_v35⟩ : ∃ z : Int32, z = (((((((16 : Int32) + (8 : Int32)) + v30) + v31) + (4 : Int32)) + v33) + (4 : Int32)) := ⟨_, rfl⟩
  have f37 := ((f24.ext E20).keep Kq28 (ninS ne23 nin0))
  have f38 := ((f26.ext E20).keep Kq28 (ninS ne25 nin0))
  have f39 := ((V14.ext E20).keep Kq28 (ninS ne27 nin0))
  obtain ⟨cq36, kq36, q36a, q36b, q36c⟩ := isOf hZ rfl Eq28
  obtain ⟨_, _, ⟨T36, L36, k36, n36⟩, -, X36, ⟨Lc36, hQ36, l36, y36, z36⟩, st36⟩ := X28.virtualBack hx (y := (⟨"com/example/allegheny/allegheny/protocol/Message$AppendRequest", "bodySize", "()I"⟩ : MethodName)) (z := (⟨"com/example/allegheny/allegheny/protocol/Message$AppendRequest", "bodySize", "()I"⟩ : MethodName)) hown (mvT hZ (hw _ (List.mem_of_getElem? (i := 45) rfl))) (mvT hZ (hw _ (List.mem_of_getElem? (i := 46) rfl))) (notFace_of_selects (args := #[]) (mvT hZ (hw _ (List.mem_of_getElem? (i := 48) rfl)))) (mvT hZ (hw _ (List.mem_of_getElem? (i := 48) rfl))) (mvT hZ (hw _ (List.mem_of_getElem? (i := 47) rfl))) (by decide) (backOf (W := 0) (rm5 l Z a0 hw [] b20 b7 k7 v1 b9 k9 v2 b14 k14 v3 T28.heap n0 Z28 Fq28_writeLockHashes f37 Fq28_readLockHashes f38 Fq28_data f39) hZ (hw _ (List.mem_of_getElem? (i := 49) rfl)) (hw _ (List.mem_of_getElem? (i := 26) rfl)) (by decide) (by decide)) q36a q36c (g := (mkF m 134 #[.val (.int p1), .val (.int p2), .val (.int p3), .val (.long q4), .second, .val (.int p5), .val (.int p6), .val (.int v1), .val (.int v2), .val (.int v3), .val (.ref b5), .val (.ref b7), .val (.ref b9), .val (.ref b14), .val (.ref b20), .val (.int (16 : Int32)), .val (.int (8 : Int32)), .val (.int v30), .val (.int v31), .val (.int (4 : Int32)), .val (.int v33), .val (.int (4 : Int32)), .val (.int v35)] [(.ref b20)])) rfl (by rw [hml]; rfl) (Steps.refl _) (argsL := []) (rest := []) (lenOf own_pd3 rfl) rfl (by show 2 * 0 + _ ≤ _; exact Nat.le_of_eq rfl) (hb hby at_134) (fun _ _ => ⟨rfl, rfl, (by decide : 5 + 0 ≤ _), (by decide : 296 + 0 ≤ _)⟩)
  dsimp only [Pt.U, Pt.locs, Pt.cells, Pt.slots] at X36 l36 y36 z36 st36 hQ36
  subst l36 y36 z36
  obtain ⟨rfl, Nq36, e36⟩ := hQ36
  have N36 := Fr.app N28 Nq36
  have hc40_139 : ((((24 : Int32) + ((4 : Int32) * (((2 : Int32) + v1) + v2))) + (12 : Int32)) + v3) = v35 := by simp only [*]; exact own_main _ _ _
  have go41 : own_go p e below (s₁.setTop (entryFrame m #[(.int p1), (.int p2), (.int p3), (.long q4), (.int p5), (.int p6)] maxLocals)) (T36.setTop (mkF m 147 #[.val (.int p1), .val (.int p2), .val (.int p3), .val (.long q4), .second, .val (.int p5), .val (.int p6), .val (.int v1), .val (.int v2), .val (.int v3), .val (.ref b5), .val (.ref b7), .val (.ref b9), .val (.ref b14), .val (.ref b20), .val (.int (16 : Int32)), .val (.int (8 : Int32)), .val (.int v30), .val (.int v31), .val (.int (4 : Int32)), .val (.int v33), .val (.int (4 : Int32)), .val (.int v35)] [(.int (1 : Int32))])) := by
    intro t kt
    refine go34 t ?_
    show Steps p.tables e below (T28.setTop (mkF m 120 #[.val (.int p1), .val (.int p2), .val (.int p3), .val (.long q4), .second, .val (.int p5), .val (.int p6), .val (.int v1), .val (.int v2), .val (.int v3), .val (.ref b5), .val (.ref b7), .val (.ref b9), .val (.ref b14), .val (.ref b20), .val (.int (16 : Int32)), .val (.int (8 : Int32)), .val (.int v30), .val (.int v31), .val (.int (4 : Int32)), .val (.int v33), .val (.int (4 : Int32)), .unset] [(.int v31), (.int (((16 : Int32) + (8 : Int32)) + v30))])) _
    refine XS.iadd X28.here hx rfl (hb hby at_120) rfl ?_
    show Steps p.tables e below (T28.setTop (mkF m 121 #[.val (.int p1), .val (.int p2), .val (.int p3), .val (.long q4), .second, .val (.int p5), .val (.int p6), .val (.int v1), .val (.int v2), .val (.int v3), .val (.ref b5), .val (.ref b7), .val (.ref b9), .val (.ref b14), .val (.ref b20), .val (.int (16 : Int32)), .val (.int (8 : Int32)), .val (.int v30), .val (.int v31), .val (.int (4 : Int32)), .val (.int v33), .val (.int (4 : Int32)), .unset] [(.int ((((16 : Int32) + (8 : Int32)) + v30) + v31))])) _
    refine XS.iload X28.here hx rfl (hb hby at_121) rfl ?_
    show Steps p.tables e below (T28.setTop (mkF m 123 #[.val (.int p1), .val (.int p2), .val (.int p3), .val (.long q4), .second, .val (.int p5), .val (.int p6), .val (.int v1), .val (.int v2), .val (.int v3), .val (.ref b5), .val (.ref b7), .val (.ref b9), .val (.ref b14), .val (.ref b20), .val (.int (16 : Int32)), .val (.int (8 : Int32)), .val (.int v30), .val (.int v31), .val (.int (4 : Int32)), .val (.int v33), .val (.int (4 : Int32)), .unset] [(.int (4 : Int32)), (.int ((((16 : Int32) + (8 : Int32)) + v30) + v31))])) _
    refine XS.iadd X28.here hx rfl (hb hby at_123) rfl ?_
    show Steps p.tables e below (T28.setTop (mkF m 124 #[.val (.int p1), .val (.int p2), .val (.int p3), .val (.long q4), .second, .val (.int p5), .val (.int p6), .val (.int v1), .val (.int v2), .val (.int v3), .val (.ref b5), .val (.ref b7), .val (.ref b9), .val (.ref b14), .val (.ref b20), .val (.int (16 : Int32)), .val (.int (8 : Int32)), .val (.int v30), .val (.int v31), .val (.int (4 : Int32)), .val (.int v33), .val (.int (4 : Int32)), .unset] [(.int (((((16 : Int32) + (8 : Int32)) + v30) + v31) + (4 : Int32)))])) _
    refine XS.iload X28.here hx rfl (hb hby at_124) rfl ?_
    show Steps p.tables e below (T28.setTop (mkF m 126 #[.val (.int p1), .val (.int p2), .val (.int p3), .val (.long q4), .second, .val (.int p5), .val (.int p6), .val (.int v1), .val (.int v2), .val (.int v3), .val (.ref b5), .val (.ref b7), .val (.ref b9), .val (.ref b14), .val (.ref b20), .val (.int (16 : Int32)), .val (.int (8 : Int32)), .val (.int v30), .val (.int v31), .val (.int (4 : Int32)), .val (.int v33), .val (.int (4 : Int32)), .unset] [(.int v33), (.int (((((16 : Int32) + (8 : Int32)) + v30) + v31) + (4 : Int32)))])) _
    refine XS.iadd X28.here hx rfl (hb hby at_126) rfl ?_
    show Steps p.tables e below (T28.setTop (mkF m 127 #[.val (.int p1), .val (.int p2), .val (.int p3), .val (.long q4), .second, .val (.int p5), .val (.int p6), .val (.int v1), .val (.int v2), .val (.int v3), .val (.ref b5), .val (.ref b7), .val (.ref b9), .val (.ref b14), .val (.ref b20), .val (.int (16 : Int32)), .val (.int (8 : Int32)), .val (.int v30), .val (.int v31), .val (.int (4 : Int32)), .val (.int v33), .val (.int (4 : Int32)), .unset] [(.int ((((((16 : Int32) + (8 : Int32)) + v30) + v31) + (4 : Int32)) + v33))])) _
    refine XS.iload X28.here hx rfl (hb hby at_127) rfl ?_
    show Steps p.tables e below (T28.setTop (mkF m 129 #[.val (.int p1), .val (.int p2), .val (.int p3), .val (.long q4), .second, .val (.int p5), .val (.int p6), .val (.int v1), .val (.int v2), .val (.int v3), .val (.ref b5), .val (.ref b7), .val (.ref b9), .val (.ref b14), .val (.ref b20), .val (.int (16 : Int32)), .val (.int (8 : Int32)), .val (.int v30), .val (.int v31), .val (.int (4 : Int32)), .val (.int v33), .val (.int (4 : Int32)), .unset] [(.int (4 : Int32)), (.int ((((((16 : Int32) + (8 : Int32)) + v30) + v31) + (4 : Int32)) + v33))])) _
    refine XS.iadd X28.here hx rfl (hb hby at_129) rfl ?_
    show Steps p.tables e below (T28.setTop (mkF m 130 #[.val (.int p1), .val (.int p2), .val (.int p3), .val (.long q4), .second, .val (.int p5), .val (.int p6), .val (.int v1), .val (.int v2), .val (.int v3), .val (.ref b5), .val (.ref b7), .val (.ref b9), .val (.ref b14), .val (.ref b20), .val (.int (16 : Int32)), .val (.int (8 : Int32)), .val (.int v30), .val (.int v31), .val (.int (4 : Int32)), .val (.int v33), .val (.int (4 : Int32)), .unset] [(.int (((((((16 : Int32) + (8 : Int32)) + v30) + v31) + (4 : Int32)) + v33) + (4 : Int32)))])) _
    rw [← hv_v35]
    show Steps p.tables e below (T28.setTop (mkF m 130 #[.val (.int p1), .val (.int p2), .val (.int p3), .val (.long q4), .second, .val (.int p5), .val (.int p6), .val (.int v1), .val (.int v2), .val (.int v3), .val (.ref b5), .val (.ref b7), .val (.ref b9), .val (.ref b14), .val (.ref b20), .val (.int (16 : Int32)), .val (.int (8 : Int32)), .val (.int v30), .val (.int v31), .val (.int (4 : Int32)), .val (.int v33), .val (.int (4 : Int32)), .unset] [(.int v35)])) _
    refine XS.istore X28.here hx rfl (hb hby at_130) rfl (l' := #[.val (.int p1), .val (.int p2), .val (.int p3), .val (.long q4), .second, .val (.int p5), .val (.int p6), .val (.int v1), .val (.int v2), .val (.int v3), .val (.ref b5), .val (.ref b7), .val (.ref b9), .val (.ref b14), .val (.ref b20), .val (.int (16 : Int32)), .val (.int (8 : Int32)), .val (.int v30), .val (.int v31), .val (.int (4 : Int32)), .val (.int v33), .val (.int (4 : Int32)), .val (.int v35)]) rfl ?_
    show Steps p.tables e below (T28.setTop (mkF m 132 #[.val (.int p1), .val (.int p2), .val (.int p3), .val (.long q4), .second, .val (.int p5), .val (.int p6), .val (.int v1), .val (.int v2), .val (.int v3), .val (.ref b5), .val (.ref b7), .val (.ref b9), .val (.ref b14), .val (.ref b20), .val (.int (16 : Int32)), .val (.int (8 : Int32)), .val (.int v30), .val (.int v31), .val (.int (4 : Int32)), .val (.int v33), .val (.int (4 : Int32)), .val (.int v35)] [])) _
    refine XS.aload X28.here hx rfl (hb hby at_132) rfl rfl ?_
    show Steps p.tables e below (T28.setTop (mkF m 134 #[.val (.int p1), .val (.int p2), .val (.int p3), .val (.long q4), .second, .val (.int p5), .val (.int p6), .val (.int v1), .val (.int v2), .val (.int v3), .val (.ref b5), .val (.ref b7), .val (.ref b9), .val (.ref b14), .val (.ref b20), .val (.int (16 : Int32)), .val (.int (8 : Int32)), .val (.int v30), .val (.int v31), .val (.int (4 : Int32)), .val (.int v33), .val (.int (4 : Int32)), .val (.int v35)] [(.ref b20)])) _
    refine st36.trans ?_
    show Steps p.tables e below (T36.setTop (mkF m 137 #[.val (.int p1), .val (.int p2), .val (.int p3), .val (.long q4), .second, .val (.int p5), .val (.int p6), .val (.int v1), .val (.int v2), .val (.int v3), .val (.ref b5), .val (.ref b7), .val (.ref b9), .val (.ref b14), .val (.ref b20), .val (.int (16 : Int32)), .val (.int (8 : Int32)), .val (.int v30), .val (.int v31), .val (.int (4 : Int32)), .val (.int v33), .val (.int (4 : Int32)), .val (.int v35)] [(.int ((((24 : Int32) + ((4 : Int32) * (((2 : Int32) + v1) + v2))) + (12 : Int32)) + v3))])) _
    refine XS.iload X36.here hx rfl (hb hby at_137) rfl ?_
    show Steps p.tables e below (T36.setTop (mkF m 139 #[.val (.int p1), .val (.int p2), .val (.int p3), .val (.long q4), .second, .val (.int p5), .val (.int p6), .val (.int v1), .val (.int v2), .val (.int v3), .val (.ref b5), .val (.ref b7), .val (.ref b9), .val (.ref b14), .val (.ref b20), .val (.int (16 : Int32)), .val (.int (8 : Int32)), .val (.int v30), .val (.int v31), .val (.int (4 : Int32)), .val (.int v33), .val (.int (4 : Int32)), .val (.int v35)] [(.int v35), (.int ((((24 : Int32) + ((4 : Int32) * (((2 : Int32) + v1) + v2))) + (12 : Int32)) + v3))])) _
    refine XS.icmpNo X36.here hx rfl (hb hby at_139) rfl (teq hc40_139).2 ?_
    show Steps p.tables e below (T36.setTop (mkF m 142 #[.val (.int p1), .val (.int p2), .val (.int p3), .val (.long q4), .second, .val (.int p5), .val (.int p6), .val (.int v1), .val (.int v2), .val (.int v3), .val (.ref b5), .val (.ref b7), .val (.ref b9), .val (.ref b14), .val (.ref b20), .val (.int (16 : Int32)), .val (.int (8 : Int32)), .val (.int v30), .val (.int v31), .val (.int (4 : Int32)), .val (.int v33), .val (.int (4 : Int32)), .val (.int v35)] [])) _
    refine XS.iconst X36.here hx rfl (hb hby at_142) ?_
    show Steps p.tables e below (T36.setTop (mkF m 143 #[.val (.int p1), .val (.int p2), .val (.int p3), .val (.long q4), .second, .val (.int p5), .val (.int p6), .val (.int v1), .val (.int v2), .val (.int v3), .val (.ref b5), .val (.ref b7), .val (.ref b9), .val (.ref b14), .val (.ref b20), .val (.int (16 : Int32)), .val (.int (8 : Int32)), .val (.int v30), .val (.int v31), .val (.int (4 : Int32)), .val (.int v33), .val (.int (4 : Int32)), .val (.int v35)] [(.int (1 : Int32))])) _
    refine XS.goto X36.here hx rfl (pc0 := 143) (pc' := 147) rfl (hb hby at_143) (by decide) (by decide) ?_
    exact kt
  obtain ⟨fs, hr, hrun, hended, hW, hsame⟩ := X36.leave (v := some (.int (1 : Int32))) (fun h => by rw [Bd.returns] at h; cases h)
  refine ⟨_, _, go41 _ ?_, hrun, hended, _, _, rfl, ?_, ⟨_, rfl⟩, hW, hsame.mono (by decide) (by decide)⟩
  · exact retN X36 hx (t := .boolean) Bd.returns (by simp) (hb hby at_147) hr
  · show Q0 Z p1 p2 p3 q4 p5 p6 h0 n0 _ T36.heap _
    rw [e36]
    exact ⟨rfl, N36⟩
set_option maxRecDepth 65536 in
set_option maxHeartbeats 40000000 in
theorem comes_1 {Post : Tables → Env → Array Value → State → Outcome → State → Prop} (hpost : ∀ tb e args s v u, (limb_1_1.after args s (.returned v) u = true ∧ limb_1_2.after args s (.returned v) u = true ∧ True) → FrameEnd s (.returned v) u (Jvm.fieldLocs frame_1_writes args s ++ Jvm.arrayLocs frame_1_arrays args s ++ Jvm.staticLocs frame_1_statics s) 24 704 → Post tb e args s (.returned v) u) :
    ArmFor flags0 classFile x code maxLocals ret World_1 tables_1 room_1 Calls_1 rest_1 Pre_1 Post := by
  intro l hfl _ _ p e ha hc hk s m args below hf hA hF happ hP
  obtain ⟨hcalls, hrest, hpre⟩ := hP
  obtain ⟨-, -, -, hnamed, -, -, -, hat⟩ := (Spec.applies_iff hf).mp happ
  obtain ⟨hg, hn⟩ := and_e (Cond.before_iff.mp (show (Jvm.Cond.and given_1 narrow_1).before args s = true from hpre))
  obtain ⟨ga0, gb0⟩ := and_e hg
  obtain ⟨ga1, gb1⟩ := and_e gb0
  obtain ⟨ga2, gb2⟩ := and_e gb1
  obtain ⟨ga3, gb3⟩ := and_e gb2
  obtain ⟨ga4, gb4⟩ := and_e gb3
  obtain ⟨ga5, gb5⟩ := and_e gb4
  obtain ⟨w0, w1, w2, w3, w4, w5, rfl⟩ : ∃ w0 w1 w2 w3 w4 w5 : Value, args = #[w0, w1, w2, w3, w4, w5] := by
    have hs : args.size = 6 := by simpa [Cond.value, given_1] using ga0
    obtain ⟨L⟩ := args
    match L, hs with
    | [w0, w1, w2, w3, w4, w5], _ => exact ⟨w0, w1, w2, w3, w4, w5, rfl⟩
  have hw := fun d (hd : d ∈ tables_1) => atoms_spec (ws := Jvm.Cond.code x code maxLocals ret :: tables_1) hat d (List.mem_cons_of_mem _ hd)
  have hfit : Fit s := fun {y c} hc i hi => by
    obtain ⟨ha, rfl⟩ := Array.getElem?_eq_some_iff.mp hc
    have q := List.all_eq_true.mp ((Array.all_eq_true_iff_forall_mem.mp hF) _ (Array.getElem_mem ha)) i (List.mem_range.mpr hi)
    simpa [Array.getElem?_eq_getElem hi] using q
  obtain ⟨i0, ei0⟩ := is_v ga1
  obtain rfl : w0 = (.int i0) := Option.some.inj ei0
  obtain ⟨i1, ei1⟩ := is_v ga2
  obtain rfl : w1 = (.int i1) := Option.some.inj ei1
  obtain ⟨i2, ei2⟩ := is_v ga3
  obtain rfl : w2 = (.int i2) := Option.some.inj ei2
  obtain ⟨i3, ei3⟩ := isL_v ga4
  obtain rfl : w3 = (.long i3) := Option.some.inj ei3
  obtain ⟨i4, ei4⟩ := is_v ga5
  obtain rfl : w4 = (.int i4) := Option.some.inj ei4
  obtain ⟨i5, ei5⟩ := is_v gb5
  obtain rfl : w5 = (.int i5) := Option.some.inj ei5
  obtain ⟨n, o, h1, h2, h3, _, L, rfl, ⟨rfl, N⟩, hq⟩ := rm0 l s _ hw tables_1 i0 i1 i2 i3 i4 i5  s.heap s.heap.size (Nat.le_refl _)  p e ha hc hk s m _ below hf ((Spec.applies_iff_loose hf).mp happ).1 ⟨rfl, State.Warmed39.refl s, rfl⟩ trivial
  refine ⟨n, _, h1, h2, h3, hpost _ _ _ _ _ _ ⟨Cond.after_iff.mpr rfl, Cond.after_iff.mpr (eq_i res_at (Term.int_eval (1)) rfl), trivial⟩ ⟨hq.1, hq.2.1, (hq.2.2.sift fun y hy => Or.inr (N y hy)).mono (by decide) (by decide)⟩⟩
theorem main_1_1 : Claimed_1_1 := comes_1 fun _ _ _ _ _ _ h hF => ⟨h.1, hF⟩
theorem main_1_2 : Claimed_1_2 := comes_1 fun _ _ _ _ _ _ h hF => ⟨h.2.1, hF⟩
end Jvm.Pilot.@@N@@
namespace Jvm.Pilot.@@N@@
open Jvm Jvm.ClassFile Sem Op Lib Jvm.Free Jvm.Stand Jvm.Pilot.@@N@@.Jvm.D
/-! MADE BY PROGRAM (witnessworld.py) out of the Statement's table words and the real class files: 12 classes; the members and pool entries that the words name. The judged class is class 1, her method 1. -/
namespace start1
open Jvm.ClassFile
def u (s : String) : CpInfo := .utf8 (stringToUtf16 s)
/-- a pool by its gaps: so many unusable entries, then the entry; so many at the end -/
def gap : Nat → List CpInfo → List CpInfo
  | 0, r => r
  | n + 1, r => .unusable :: gap n r
def poolList (es : List (Nat × CpInfo)) (last : Nat) : List CpInfo := es.foldr (fun e r => gap e.1 (e.2 :: r)) (gap last [])
def pool (es : List (Nat × CpInfo)) (last : Nat) : Array CpInfo := ⟨poolList es last⟩
def fileOf (pool : Array CpInfo) (this : Nat) (attrs : Array Attribute := #[]) (ms : Array MethodInfo := #[]) (fl : Nat := 33) (sup : Nat := 0) (ifs : Array Nat := #[]) (fds : Array FieldInfo := #[]) : ClassFile where
  minorVersion := 0
  majorVersion := 65
  constantPool := pool
  accessFlags := fl
  thisClass := this
  superClass := sup
  interfaces := ifs
  fields := fds
  methods := ms
  attributes := attrs
def plain (name : String) (sup : Option ClassId) : Class where
  name := name
  kind := .ordinary
  loader := none
  accessFlags := 33
  super := sup
  interfaces := #[]
  cf := none
  fields := #[]
  methods := #[]
  instanceTypes := #[]
  staticTypes := #[]
  resolved := #[]
  callSites := []
  init := .initialized
  statics := none
  mirror := none

def pool0 : Array CpInfo := pool [(5, u "<init>"), (0, u "()V"), (1, .class_ 10), (1, u "java/lang/Object")] 113

def k0c0 : Code := { maxStack := 0, maxLocals := 1, code := object_method_1_code, exceptionTable := #[], attributes := #[] }
def k0m0 : Method := { name := "<init>", desc := "()V", sig := { parameters := [], returnType := none }, accessFlags := 1, code := some k0c0 }
/-- java/lang/Object -/
def k0 : Class := { plain "java/lang/Object" none with
  accessFlags := 33
  interfaces := #[]
  cf := some (fileOf pool0 8 #[] #[{ accessFlags := 1, nameIndex := 5, descriptorIndex := 6, attributes := #[] }] 33 0 #[] #[])
  fields := #[]
  methods := #[k0m0]
  instanceTypes := #[]
  staticTypes := #[]
  resolved := Array.replicate 124 none
  statics := none }

def pool1 : Array CpInfo := pool [(2, .class_ 4), (1, u "java/lang/Object"), (0, u "<init>"), (0, u "()V"), (0, .class_ 8), (0, u "com/example/allegheny/allegheny/RequestId"), (0, .methodref 7 10), (0, .nameAndType 5 11), (0, u "(IIII)V"), (0, .class_ 13), (0, u "com/example/allegheny/allegheny/protocol/Message$AppendRequest"), (0, .methodref 12 15), (0, .nameAndType 5 16), (0, u "(Lcom/example/allegheny/allegheny/RequestId;J[I[II[BI)V"), (0, .methodref 12 18), (0, .nameAndType 19 20), (0, u "bodySize"), (0, u "()I"), (0, .class_ 22), (0, u "com/example/allegheny/allegheny/protocol/AppendRequestBodySizePinLaw"), (2, u "law"), (0, u "(IIIJII)Z")] 11

def k1m0 : Method := { name := "<init>", desc := "()V", sig := { parameters := [], returnType := none }, accessFlags := 2, code := none }
def k1c1 : Code := { maxStack := 10, maxLocals := 23, code := code, exceptionTable := #[], attributes := #[] }
def k1m1 : Method := { name := "law", desc := "(IIIJII)Z", sig := { parameters := [.int, .int, .int, .long, .int, .int], returnType := some .boolean }, accessFlags := 9, code := some k1c1 }
/-- com/example/allegheny/allegheny/protocol/AppendRequestBodySizePinLaw -/
def k1 : Class := { plain "com/example/allegheny/allegheny/protocol/AppendRequestBodySizePinLaw" (some 0) with
  accessFlags := 49
  interfaces := #[]
  cf := some (fileOf pool1 21 #[] #[{ accessFlags := 2, nameIndex := 5, descriptorIndex := 6, attributes := #[] }, { accessFlags := 9, nameIndex := 25, descriptorIndex := 26, attributes := #[] }] 49 2 #[] #[])
  fields := #[]
  methods := #[k1m0, k1m1]
  instanceTypes := #[]
  staticTypes := #[]
  resolved := Array.replicate 38 none
  statics := none }

def pool2 : Array CpInfo := pool [(1, .methodref 2 3), (0, .class_ 4), (0, .nameAndType 5 6), (0, u "java/lang/Object"), (0, u "<init>"), (0, u "()V"), (0, .class_ 8), (0, u "java/lang/Record")] 13

def k2c0 : Code := { maxStack := 1, maxLocals := 1, code := jdk_30_method_1_code, exceptionTable := #[], attributes := #[] }
def k2m0 : Method := { name := "<init>", desc := "()V", sig := { parameters := [], returnType := none }, accessFlags := 4, code := some k2c0 }
/-- java/lang/Record -/
def k2 : Class := { plain "java/lang/Record" (some 0) with
  accessFlags := 1057
  interfaces := #[]
  cf := some (fileOf pool2 7 #[] #[{ accessFlags := 4, nameIndex := 5, descriptorIndex := 6, attributes := #[] }] 1057 2 #[] #[])
  fields := #[]
  methods := #[k2m0]
  instanceTypes := #[]
  staticTypes := #[]
  resolved := Array.replicate 22 none
  statics := none }

def pool3 : Array CpInfo := pool [(1, .methodref 2 3), (0, .class_ 4), (0, .nameAndType 5 6), (0, u "java/lang/Record"), (0, u "<init>"), (0, u "()V"), (0, .fieldref 8 9), (0, .class_ 10), (0, .nameAndType 11 12), (0, u "com/example/allegheny/allegheny/RequestId"), (0, u "clientId"), (0, u "I"), (0, .fieldref 8 14), (0, .nameAndType 15 12), (0, u "generation"), (0, .fieldref 8 17), (0, .nameAndType 18 12), (0, u "partitionId"), (0, .fieldref 8 20), (0, .nameAndType 21 12), (0, u "sequence"), (8, u "(IIII)V"), (18, u "NONE"), (0, u "Lcom/example/allegheny/allegheny/RequestId;"), (0, u "BYTES")] 44

def k3c0 : Code := { maxStack := 2, maxLocals := 5, code := prog_17_method_1_code, exceptionTable := #[], attributes := #[] }
def k3m0 : Method := { name := "<init>", desc := "(IIII)V", sig := { parameters := [.int, .int, .int, .int], returnType := none }, accessFlags := 1, code := some k3c0 }
/-- com/example/allegheny/allegheny/RequestId -/
def k3 : Class := { plain "com/example/allegheny/allegheny/RequestId" (some 2) with
  accessFlags := 49
  interfaces := #[]
  cf := some (fileOf pool3 8 #[] #[{ accessFlags := 1, nameIndex := 5, descriptorIndex := 30, attributes := #[] }] 49 2 #[] #[{ accessFlags := 18, nameIndex := 11, descriptorIndex := 12, attributes := #[] }, { accessFlags := 18, nameIndex := 15, descriptorIndex := 12, attributes := #[] }, { accessFlags := 18, nameIndex := 18, descriptorIndex := 12, attributes := #[] }, { accessFlags := 18, nameIndex := 21, descriptorIndex := 12, attributes := #[] }, { accessFlags := 25, nameIndex := 51, descriptorIndex := 12, attributes := #[] }, { accessFlags := 25, nameIndex := 49, descriptorIndex := 50, attributes := #[] }])
  fields := #[{ name := "clientId", type := .int, accessFlags := 18, slot := 0, constantValue := 0 }, { name := "generation", type := .int, accessFlags := 18, slot := 1, constantValue := 0 }, { name := "partitionId", type := .int, accessFlags := 18, slot := 2, constantValue := 0 }, { name := "sequence", type := .int, accessFlags := 18, slot := 3, constantValue := 0 }, { name := "BYTES", type := .int, accessFlags := 25, slot := 0, constantValue := 0 }, { name := "NONE", type := (.object "com/example/allegheny/allegheny/RequestId"), accessFlags := 25, slot := 1, constantValue := 0 }]
  methods := #[k3m0]
  instanceTypes := #[.int, .int, .int, .int]
  staticTypes := #[.int, (.object "com/example/allegheny/allegheny/RequestId")]
  resolved := Array.replicate 96 none
  statics := none }

def pool4 : Array CpInfo := pool [(1, .class_ 2), (0, u "com/example/allegheny/allegheny/protocol/Message$ErrorResponse"), (13, .class_ 18), (1, u "com/example/allegheny/allegheny/protocol/Message"), (31, .class_ 51), (0, u "java/lang/Object"), (0, u "MAGIC"), (0, u "I"), (2, u "VERSION"), (18, .class_ 76), (0, u "com/example/allegheny/allegheny/protocol/Message$SessionRefused"), (0, .class_ 78), (0, u "com/example/allegheny/allegheny/protocol/Message$RecordCrcResponse"), (0, .class_ 80), (0, u "com/example/allegheny/allegheny/protocol/Message$RecordCrcRequest"), (0, .class_ 82), (0, u "com/example/allegheny/allegheny/protocol/Message$TruncateRequest"), (0, .class_ 84), (0, u "com/example/allegheny/allegheny/protocol/Message$FetchResponse"), (0, .class_ 86), (0, u "com/example/allegheny/allegheny/protocol/Message$FetchRequest"), (0, .class_ 88), (0, u "com/example/allegheny/allegheny/protocol/Message$StoreResponse"), (0, .class_ 90), (0, u "com/example/allegheny/allegheny/protocol/Message$StoreRequest"), (0, .class_ 92), (0, u "com/example/allegheny/allegheny/protocol/Message$SessionStartResponse"), (0, .class_ 94), (0, u "com/example/allegheny/allegheny/protocol/Message$SessionStartRequest"), (0, .class_ 96), (0, u "com/example/allegheny/allegheny/protocol/Message$StorageStateResponse"), (0, .class_ 98), (0, u "com/example/allegheny/allegheny/protocol/Message$StorageStateRequest"), (0, .class_ 100), (0, u "com/example/allegheny/allegheny/protocol/Message$HighWaterMarkResponse"), (0, .class_ 102), (0, u "com/example/allegheny/allegheny/protocol/Message$HighWaterMarkRequest"), (0, .class_ 104), (0, u "com/example/allegheny/allegheny/protocol/Message$TransactionDataFailure"), (0, .class_ 106), (0, u "com/example/allegheny/allegheny/protocol/Message$TransactionData"), (0, .class_ 108), (0, u "com/example/allegheny/allegheny/protocol/Message$TransactionDataRequest"), (0, .class_ 110), (0, u "com/example/allegheny/allegheny/protocol/Message$FeedData"), (0, .class_ 112), (0, u "com/example/allegheny/allegheny/protocol/Message$FeedStart"), (0, .class_ 114), (0, u "com/example/allegheny/allegheny/protocol/Message$FeedRequest"), (0, .class_ 116), (0, u "com/example/allegheny/allegheny/protocol/Message$LockFailure"), (0, .class_ 118), (0, u "com/example/allegheny/allegheny/protocol/Message$AppendRequest"), (0, .class_ 120), (0, u "com/example/allegheny/allegheny/protocol/Message$MountResponse"), (0, .class_ 122), (0, u "com/example/allegheny/allegheny/protocol/Message$MountRequest"), (0, .class_ 124), (0, u "com/example/allegheny/allegheny/protocol/Message$Welcome"), (0, .class_ 126), (0, u "com/example/allegheny/allegheny/protocol/Message$Hello")] 43

/-- com/example/allegheny/allegheny/protocol/Message -/
def k4 : Class := { plain "com/example/allegheny/allegheny/protocol/Message" (some 0) with
  accessFlags := 1537
  interfaces := #[]
  cf := some (fileOf pool4 16 #[.nestMembers #[75, 77, 79, 81, 83, 85, 87, 89, 91, 93, 95, 97, 1, 99, 101, 103, 105, 107, 109, 111, 113, 115, 117, 119, 121, 123, 125]] #[] 1537 50 #[] #[{ accessFlags := 25, nameIndex := 52, descriptorIndex := 53, attributes := #[] }, { accessFlags := 25, nameIndex := 56, descriptorIndex := 53, attributes := #[] }])
  fields := #[{ name := "MAGIC", type := .int, accessFlags := 25, slot := 0, constantValue := 0 }, { name := "VERSION", type := .int, accessFlags := 25, slot := 1, constantValue := 0 }]
  methods := #[]
  instanceTypes := #[]
  staticTypes := #[.int, .int]
  resolved := Array.replicate 170 none
  statics := none }

def pool5 : Array CpInfo := pool [(1, .methodref 2 3), (0, .class_ 4), (0, .nameAndType 5 6), (0, u "java/lang/Record"), (0, u "<init>"), (0, u "()V"), (0, .fieldref 8 9), (0, .class_ 10), (0, .nameAndType 11 12), (0, u "com/example/allegheny/allegheny/protocol/Message$AppendRequest"), (0, u "requestId"), (0, u "Lcom/example/allegheny/allegheny/RequestId;"), (0, .fieldref 8 14), (0, .nameAndType 15 16), (0, u "highWaterMark"), (0, u "J"), (0, .fieldref 8 18), (0, .nameAndType 19 20), (0, u "writeLockHashes"), (0, u "[I"), (0, .fieldref 8 22), (0, .nameAndType 23 20), (0, u "readLockHashes"), (0, .fieldref 8 25), (0, .nameAndType 26 27), (0, u "header"), (0, u "I"), (0, .fieldref 8 29), (0, .nameAndType 30 31), (0, u "data"), (0, u "[B"), (0, .fieldref 8 33), (0, .nameAndType 34 27), (0, u "dataCrc"), (12, u "(Lcom/example/allegheny/allegheny/RequestId;J[I[II[BI)V"), (5, u "()I"), (76, .class_ 131), (0, u "com/example/allegheny/allegheny/protocol/Message"), (17, u "bodySize")] 34

def k5c0 : Code := { maxStack := 3, maxLocals := 9, code := prog_48_method_1_code, exceptionTable := #[], attributes := #[] }
def k5m0 : Method := { name := "<init>", desc := "(Lcom/example/allegheny/allegheny/RequestId;J[I[II[BI)V", sig := { parameters := [(.object "com/example/allegheny/allegheny/RequestId"), .long, (.array .int), (.array .int), .int, (.array .byte), .int], returnType := none }, accessFlags := 1, code := some k5c0 }
def k5c1 : Code := { maxStack := 3, maxLocals := 2, code := prog_48_method_6_code, exceptionTable := #[], attributes := #[] }
def k5m1 : Method := { name := "bodySize", desc := "()I", sig := { parameters := [], returnType := some .int }, accessFlags := 1, code := some k5c1 }
/-- com/example/allegheny/allegheny/protocol/Message$AppendRequest -/
def k5 : Class := { plain "com/example/allegheny/allegheny/protocol/Message$AppendRequest" (some 2) with
  accessFlags := 49
  interfaces := #[4]
  cf := some (fileOf pool5 8 #[.nestHost 130] #[{ accessFlags := 1, nameIndex := 5, descriptorIndex := 47, attributes := #[] }, { accessFlags := 1, nameIndex := 149, descriptorIndex := 53, attributes := #[] }] 49 2 #[130] #[{ accessFlags := 18, nameIndex := 11, descriptorIndex := 12, attributes := #[] }, { accessFlags := 18, nameIndex := 15, descriptorIndex := 16, attributes := #[] }, { accessFlags := 18, nameIndex := 19, descriptorIndex := 20, attributes := #[] }, { accessFlags := 18, nameIndex := 23, descriptorIndex := 20, attributes := #[] }, { accessFlags := 18, nameIndex := 26, descriptorIndex := 27, attributes := #[] }, { accessFlags := 18, nameIndex := 30, descriptorIndex := 31, attributes := #[] }, { accessFlags := 18, nameIndex := 34, descriptorIndex := 27, attributes := #[] }])
  fields := #[{ name := "requestId", type := (.object "com/example/allegheny/allegheny/RequestId"), accessFlags := 18, slot := 0, constantValue := 0 }, { name := "highWaterMark", type := .long, accessFlags := 18, slot := 1, constantValue := 0 }, { name := "writeLockHashes", type := (.array .int), accessFlags := 18, slot := 2, constantValue := 0 }, { name := "readLockHashes", type := (.array .int), accessFlags := 18, slot := 3, constantValue := 0 }, { name := "header", type := .int, accessFlags := 18, slot := 4, constantValue := 0 }, { name := "data", type := (.array .byte), accessFlags := 18, slot := 5, constantValue := 0 }, { name := "dataCrc", type := .int, accessFlags := 18, slot := 6, constantValue := 0 }]
  methods := #[k5m0, k5m1]
  instanceTypes := #[(.object "com/example/allegheny/allegheny/RequestId"), .long, (.array .int), (.array .int), .int, (.array .byte), .int]
  staticTypes := #[]
  resolved := Array.replicate 184 none
  statics := none }

def pool6 : Array CpInfo := pool [(1, u "java/lang/Cloneable"), (0, .class_ 1), (0, u "java/lang/Object"), (0, .class_ 3)] 3

/-- java/lang/Cloneable -/
def k6 : Class := { plain "java/lang/Cloneable" (some 0) with
  accessFlags := 1537
  interfaces := #[]
  cf := some (fileOf pool6 2 #[] #[] 1537 4 #[] #[])
  fields := #[]
  methods := #[]
  instanceTypes := #[]
  staticTypes := #[]
  resolved := Array.replicate 8 none
  statics := none }

def pool7 : Array CpInfo := pool [(1, u "java/io/Serializable"), (0, .class_ 1), (0, u "java/lang/Object"), (0, .class_ 3)] 3

/-- java/io/Serializable -/
def k7 : Class := { plain "java/io/Serializable" (some 0) with
  accessFlags := 1537
  interfaces := #[]
  cf := some (fileOf pool7 2 #[] #[] 1537 4 #[] #[])
  fields := #[]
  methods := #[]
  instanceTypes := #[]
  staticTypes := #[]
  resolved := Array.replicate 8 none
  statics := none }

/-- the primitive byte -/
def k8 : Class := { plain "byte" none with kind := .primitive 'B', accessFlags := 0x411 }
/-- [B -/
def k9 : Class := { plain "[B" (some 0) with kind := .array 8 .byte, interfaces := #[6, 7], accessFlags := 1041 }

/-- the primitive int -/
def k10 : Class := { plain "int" none with kind := .primitive 'I', accessFlags := 0x411 }
/-- [I -/
def k11 : Class := { plain "[I" (some 0) with kind := .array 10 .int, interfaces := #[6, 7], accessFlags := 1041 }

def heap : Heap := #[]
def classes : Array Class := #[k0, k1, k2, k3, k4, k5, k6, k7, k8, k9, k10, k11]
def interned : List (Array UInt16 × Addr) := []
def slotsUsed : Nat := 0
def theMethod : MethodId := ⟨1, 1⟩
def args0 : Array Value := #[.int 3, .int 4, .int 5, .long 6, .int 7, .int 8]
def aboutOver (below : List Frame) : State where
  vm := { classes := classes, interned := interned.toArray }
  heap := heap
  slotsUsed := slotsUsed
  threads := #[{ frames := .invoking theMethod args0 :: below }]
def below0 : List Frame := [.native { method := ⟨0, 0⟩, args := #[] }]
def about1 : State := aboutOver below0
def p0 : Program := .bare "" "" ""
def e0 : Env := launch0.env 0 0 0
theorem w_frames : about1.frames = Frame.invoking theMethod args0 :: below0 := rfl
set_option maxRecDepth 65536 in
theorem w_args : argsFit about1.vm theMethod args0 = true := by decide +kernel
set_option maxRecDepth 65536 in
theorem w_heap : heapFits about1 = true := by decide +kernel
set_option maxRecDepth 65536 in
theorem w_runnable : about1.curStatus? = some .runnable := by decide +kernel
set_option maxRecDepth 65536 in
theorem w_alone : about1.alone = true := by decide +kernel
set_option maxRecDepth 65536 in
theorem w_named : about1.methodNamed? x = some theMethod := by decide +kernel
set_option maxRecDepth 65536 in
theorem w_hears : about1.hears theMethod below0 = true := by decide +kernel
set_option maxRecDepth 65536 in
theorem w_ripe : about1.ripe theMethod args0 below0 = true := by decide +kernel
theorem w_running : about1.status = .running := rfl
set_option maxRecDepth 65536 in
theorem w_room : about1.hasRoom e0.platform room_1 = true :=
  launch0.hasRoom_least _ room_1 (by decide +kernel) (by decide +kernel) (by decide +kernel) (by decide +kernel) (by decide +kernel) (by decide +kernel)
theorem allAtoms_all (ts : List Jvm.Cond) (a : Array Jvm.Value) (st : Jvm.State) : (allAtoms ts).before a st = ts.all (fun c => c.before a st) := by
  induction ts with
  | nil => rfl
  | cons c t ih =>
    show (Jvm.Cond.and c (allAtoms t)).before a st = _
    rw [Jvm.Cond.before_and, ih, List.all_cons]
def words1 : List Jvm.Cond := Jvm.Cond.code x code maxLocals ret :: tables_1
/-- a 'code' word, met by the world's own term for the bytes: nothing is compared byte by byte -/
theorem code_word {y : MethodName} {bytes : ByteArray} {mx : Nat} {rt : Option FieldType} {a : Array Value} {s : State} {m : MethodId} {meth : Method} {c : Code} (h1 : s.methodNamed? y = some m) (h2 : s.vm.method? m = some meth) (h3 : meth.code = some c) (h4 : c.code = bytes)
    (h5 : (c.maxLocals == mx && c.exceptionTable.isEmpty && decide (c.maxStack ≤ mostOperands) && decide (meth.sig.returnType = rt) && !meth.locks && decide (parseMethodDescriptor y.desc = some meth.sig)) = true) : (Jvm.Cond.code y bytes mx rt).before a s = true := by
  simp only [Bool.and_eq_true, beq_iff_eq, Bool.not_eq_true', decide_eq_true_eq] at h5
  obtain ⟨⟨⟨⟨⟨g1, g2⟩, g3⟩, g4⟩, g5⟩, g6⟩ := h5
  simp [Cond.before, Cond.holds, Cond.value, h1, h2, h3, h4, g1, g2, g3, g4, g5, g6]
def isCode : Jvm.Cond → Bool
  | .code _ _ _ _ => true
  | _ => false
theorem all_split {L : List Jvm.Cond} {P : Jvm.Cond → Bool} (h1 : L.all (fun c => isCode c || P c) = true) (h2 : ∀ c ∈ L.filter isCode, P c = true) : L.all P = true := by
  refine List.all_eq_true.mpr fun c hc => ?_
  have h := List.all_eq_true.mp h1 c hc
  rcases Bool.eq_false_or_eq_true (isCode c) with hi | hi
  · exact h2 c (List.mem_filter.mpr ⟨hc, hi⟩)
  · simpa [hi] using h
set_option maxRecDepth 65536 in
theorem w_c0 : (Jvm.Cond.code x code maxLocals ret).before args0 about1 = true := code_word (m := ⟨1, 1⟩) (meth := k1m1) (c := k1c1) (by decide +kernel) rfl rfl rfl (by decide +kernel)
set_option maxRecDepth 65536 in
theorem w_c1 : (Jvm.Cond.code ({ cls := "com/example/allegheny/allegheny/RequestId", name := "<init>", desc := "(IIII)V" } : Jvm.MethodName) prog_17_method_1_code (5 : Nat) (Option.none : Option Jvm.ClassFile.FieldType)).before args0 about1 = true := code_word (m := ⟨3, 0⟩) (meth := k3m0) (c := k3c0) (by decide +kernel) rfl rfl rfl (by decide +kernel)
set_option maxRecDepth 65536 in
theorem w_c2 : (Jvm.Cond.code ({ cls := "java/lang/Record", name := "<init>", desc := "()V" } : Jvm.MethodName) jdk_30_method_1_code (1 : Nat) (Option.none : Option Jvm.ClassFile.FieldType)).before args0 about1 = true := code_word (m := ⟨2, 0⟩) (meth := k2m0) (c := k2c0) (by decide +kernel) rfl rfl rfl (by decide +kernel)
set_option maxRecDepth 65536 in
theorem w_c3 : (Jvm.Cond.code ({ cls := "java/lang/Object", name := "<init>", desc := "()V" } : Jvm.MethodName) object_method_1_code (1 : Nat) (Option.none : Option Jvm.ClassFile.FieldType)).before args0 about1 = true := code_word (m := ⟨0, 0⟩) (meth := k0m0) (c := k0c0) (by decide +kernel) rfl rfl rfl (by decide +kernel)
set_option maxRecDepth 65536 in
theorem w_c4 : (Jvm.Cond.code ({ cls := "com/example/allegheny/allegheny/protocol/Message$AppendRequest", name := "<init>", desc := "(Lcom/example/allegheny/allegheny/RequestId;J[I[II[BI)V" } : Jvm.MethodName) prog_48_method_1_code (9 : Nat) (Option.none : Option Jvm.ClassFile.FieldType)).before args0 about1 = true := code_word (m := ⟨5, 0⟩) (meth := k5m0) (c := k5c0) (by decide +kernel) rfl rfl rfl (by decide +kernel)
set_option maxRecDepth 65536 in
theorem w_c5 : (Jvm.Cond.code ({ cls := "com/example/allegheny/allegheny/protocol/Message$AppendRequest", name := "bodySize", desc := "()I" } : Jvm.MethodName) prog_48_method_6_code (2 : Nat) (Option.some Jvm.ClassFile.FieldType.int)).before args0 about1 = true := code_word (m := ⟨5, 1⟩) (meth := k5m1) (c := k5c1) (by decide +kernel) rfl rfl rfl (by decide +kernel)
def codes1 : List Jvm.Cond := [Jvm.Cond.code x code maxLocals ret, Jvm.Cond.code ({ cls := "com/example/allegheny/allegheny/RequestId", name := "<init>", desc := "(IIII)V" } : Jvm.MethodName) prog_17_method_1_code (5 : Nat) (Option.none : Option Jvm.ClassFile.FieldType), Jvm.Cond.code ({ cls := "java/lang/Record", name := "<init>", desc := "()V" } : Jvm.MethodName) jdk_30_method_1_code (1 : Nat) (Option.none : Option Jvm.ClassFile.FieldType), Jvm.Cond.code ({ cls := "java/lang/Object", name := "<init>", desc := "()V" } : Jvm.MethodName) object_method_1_code (1 : Nat) (Option.none : Option Jvm.ClassFile.FieldType), Jvm.Cond.code ({ cls := "com/example/allegheny/allegheny/protocol/Message$AppendRequest", name := "<init>", desc := "(Lcom/example/allegheny/allegheny/RequestId;J[I[II[BI)V" } : Jvm.MethodName) prog_48_method_1_code (9 : Nat) (Option.none : Option Jvm.ClassFile.FieldType), Jvm.Cond.code ({ cls := "com/example/allegheny/allegheny/protocol/Message$AppendRequest", name := "bodySize", desc := "()I" } : Jvm.MethodName) prog_48_method_6_code (2 : Nat) (Option.some Jvm.ClassFile.FieldType.int)]
set_option maxRecDepth 65536 in
theorem codes_eq : words1.filter isCode = codes1 := rfl
theorem w_codes : ∀ c ∈ words1.filter isCode, c.before args0 about1 = true := by
  rw [codes_eq]
  intro c hc
  simp only [codes1, List.mem_cons, List.not_mem_nil, or_false] at hc
  rcases hc with rfl | rfl | rfl | rfl | rfl | rfl
  · exact w_c0
  · exact w_c1
  · exact w_c2
  · exact w_c3
  · exact w_c4
  · exact w_c5
set_option maxRecDepth 65536 in
theorem w_t1 : (words1.take 24).all (fun c => isCode c || c.before args0 about1) = true := by decide +kernel
set_option maxRecDepth 65536 in
theorem w_t2 : ((words1.drop 24).take 24).all (fun c => isCode c || c.before args0 about1) = true := by decide +kernel
set_option maxRecDepth 65536 in
theorem w_t3 : ((words1.drop 24).drop 24).all (fun c => isCode c || c.before args0 about1) = true := by decide +kernel
theorem w_tables : (allAtoms (Jvm.Cond.code x code maxLocals ret :: tables_1)).before args0 about1 = true := by
  rw [allAtoms_all]
  show words1.all (fun c => c.before args0 about1) = true
  refine all_split ?_ w_codes
  rw [← List.take_append_drop 24 words1, List.all_append, w_t1, ← List.take_append_drop 24 (words1.drop 24), List.all_append, w_t2, w_t3]
  rfl
set_option maxRecDepth 65536 in
theorem w_case : (Jvm.Cond.and given_1 narrow_1).before args0 about1 = true := by decide +kernel
theorem w_applies : (headSpec (Jvm.Cond.code x code maxLocals ret :: tables_1) room_1).applies x e0.platform about1 = true :=
  (Spec.applies_iff w_frames).mpr ⟨w_running, w_runnable, w_alone, w_named, w_hears, w_ripe, w_room, w_tables⟩
theorem atStart : AtStart classFile x code maxLocals ret World_1 tables_1 room_1 Calls_1 rest_1 Pre_1 launch0 p0 e0 about1 theMethod args0 below0 :=
  ⟨lists_1, trivial, launch0.admits_env _ _ _, launch0.least_env, fairChoices_fair.cas, fairChoices_fair.clock, w_frames, w_args, w_heap, w_applies, trivial, trivial, w_case⟩
end start1
theorem witness_1 : WitnessClaimed_1 := ⟨start1.p0, start1.e0, start1.about1, start1.theMethod, start1.args0, start1.below0, start1.atStart⟩
end Jvm.Pilot.@@N@@
