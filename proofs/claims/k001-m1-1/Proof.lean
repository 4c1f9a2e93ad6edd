import JvmDerived
import JvmDerived.Pilot.@@N@@Statement
import JvmDerived.Pilot.@@N@@Code
set_option linter.unusedVariables false
set_option linter.unusedSimpArgs false
namespace Jvm.RoadKit
open Sem ClassFile Op Lib Jvm.Stand Jvm.Free Jvm.LawKit
section New
variable {p : Program} {l : Launch} {e : Env} {R : Room} {s : State} {m : MethodId} {args : Array Value} {below : List Frame} {meth : Method} {c : Code} {T : State} {locs : List Loc} {cells slots : Nat}
theorem retI (X : Stand p l e R s m args below meth c T locs cells slots) (hx : p.tables.exec = Jvm.exec) {pc : Nat} {Ls : Array Slot} {z : Int32} {rest : List Value} (hret : meth.sig.returnType = some .int) (hd : decode c.code pc = .ok (.ireturn, 1)) {fs : List Frame}
    (hl : ∀ (f : JFrame) (acts : List Action), f.method = m → f.locked = none → f.entered = [] → (doReturn e (T.setTop f) acts (some (.int z))).1 = T.setFrames fs) : Steps p.tables e below (T.setTop (mkF m pc Ls (.int z :: rest))) (T.setFrames fs) := by
  have hm' : T.vm.method? m = some meth := X.method'
  have hn : narrow .int (.int z) = .int z := rfl
  show Steps p.tables e below (T.setTop { method := m, pc := pc, locals := Ls, stack := _ :: rest, locked := none }) _
  jvm_step X.here [X.here.top, hx, hd, hm', hret, hn]
  first | (intro acts; rw [hl _ acts rfl rfl rfl]) | rw [hl _ _ rfl rfl rfl]
  exact Steps.refl _
end New
end Jvm.RoadKit
namespace Jvm.Pilot.@@N@@
open Jvm Jvm.ClassFile Sem Op Lib Jvm.Free Jvm.Stand Jvm.LawKit Jvm.RoadKit Bundle Jvm.Pilot.@@N@@.Jvm.D
/-- from the state A the run comes to the state B -/
def own_go (p : Program) (e : Env) (below : List Frame) (A B : State) : Prop := ∀ t, Steps p.tables e below B t → Steps p.tables e below A t
theorem own_wide {p : Program} {l : Launch} {e : Env} {R : Room} {s : State} {m : MethodId} {args : Array Value} {below : List Frame} {meth : Method} {c : Code} {T : State} {locs : List Loc} {cells slots k n : Nat} (X : Stand p l e R s m args below meth c T locs cells slots) (h1 : cells ≤ k) (h2 : slots ≤ n) : Stand p l e R s m args below meth c T locs k n :=
  { X with same := X.same.weaken (fun _ h _ => h) h1 h2 }
theorem own_getD {α : Type} (f : α → Value) : ∀ (l : List α) (d : α) (k : Nat), (l.map f).getD k (f d) = f (l.getD k d)
  | [], _, _ => rfl
  | _ :: _, _, 0 => rfl
  | _ :: t, d, k + 1 => own_getD f t d k
theorem own_root {Z : State} {a0 : Array Value} {O K : String} {n : Nat} (w : (Jvm.Cond.noSuperclass O).before a0 Z = true) (wk : (Jvm.Cond.instantiable K n).before a0 Z = true) (hn : O ≠ K) : NS Z O K := by
  obtain ⟨c, k, h1, h2, h3, -, -⟩ := Cond.noSuperclass_spec w
  obtain ⟨t, k', g1, -⟩ := Cond.instantiable_spec wk
  have ne := ids_ne h1 g1 hn
  refine ⟨c, t, h1, g1, fun fuel => ?_⟩
  cases fuel with
  | zero => rfl
  | succ f => simp [Vm.isSubclassAux, ne, h2, h3]
theorem own_no {Z : State} {a0 : Array Value} {C S K : String} {n : Nat} (w : (Jvm.Cond.superclass C S).before a0 Z = true) (wk : (Jvm.Cond.instantiable K n).before a0 Z = true) (m : NS Z C K) (hn : C ≠ K) : ∃ c t, Z.vm.findClass C = some c ∧ Z.vm.findClass K = some t ∧ Z.vm.assignable c t = false := by
  obtain ⟨c, t, h0, g0, n3⟩ := m
  obtain ⟨p, k, kp, h1, h2, h3, h4, h5, -, h7⟩ := Cond.superclass_spec h0 w
  obtain ⟨t', k', g1, g2, g3, g5, -⟩ := Cond.instantiable_spec wk
  cases g0.symm.trans g1
  have ne := ids_ne h0 g0 hn
  simp only [Bool.or_eq_false_iff] at g5
  refine ⟨c, t, h0, g0, ?_⟩
  show Z.vm.assignableAux (255 + 1) c t = false
  simp [Vm.assignableAux, ne, h2, g2, h5, g3, g5.1, Vm.isSubclass, n3]
theorem d1_0 : decode prog_29_method_1_code 0 = .ok (.aload_n 0, 1) := by decide +kernel
theorem d1_1 : decode prog_29_method_1_code 1 = .ok (.invokespecial 1, 3) := by decide +kernel
theorem d1_4 : decode prog_29_method_1_code 4 = .ok (.aload_n 0, 1) := by decide +kernel
theorem d1_5 : decode prog_29_method_1_code 5 = .ok (.lload_n 1, 1) := by decide +kernel
theorem d1_6 : decode prog_29_method_1_code 6 = .ok (.putfield 7, 3) := by decide +kernel
theorem d1_9 : decode prog_29_method_1_code 9 = .ok (.aload_n 0, 1) := by decide +kernel
theorem d1_10 : decode prog_29_method_1_code 10 = .ok (.lload_n 3, 1) := by decide +kernel
theorem d1_11 : decode prog_29_method_1_code 11 = .ok (.putfield 13, 3) := by decide +kernel
theorem d1_14 : decode prog_29_method_1_code 14 = .ok (.aload_n 0, 1) := by decide +kernel
theorem d1_15 : decode prog_29_method_1_code 15 = .ok (.iload 5, 2) := by decide +kernel
theorem d1_17 : decode prog_29_method_1_code 17 = .ok (.putfield 16, 3) := by decide +kernel
theorem d1_20 : decode prog_29_method_1_code 20 = .ok (.return_, 1) := by decide +kernel
theorem own_pn_com_example_wilt_wilt_session_Session : plainName "com/example/wilt/wilt/session/Session" = true := by first | (simp [plainName, overriddenIn]; done) | decide +kernel
theorem ef_1 (m : MethodId) (x0 : Addr) (x1 : Int64) (x2 : Int64) (x3 : Int32) : entryFrame m #[(.ref x0), (.long x1), (.long x2), (.int x3)] 6 = mkF m 0 #[.val (.ref x0), .val (.long x1), .second, .val (.long x2), .second, .val (.int x3)] [] := by first | (simp [entryFrame, mkF, argsToLocals, Value.category]; done) | rfl
def Q1 (Z : State) (a1 : Addr) (q2 : Int64) (q3 : Int64) (p4 : Int32) (h0 : Heap) (n0 : Nat) (v : Option Value) (h : Heap) (L : List Loc) : Prop := v = none ∧ Fr n0 L ∧ Keep h0 h [a1] ∧ Exa Z h a1 "com/example/wilt/wilt/session/Session" ∧ Fld Z h a1 "com/example/wilt/wilt/session/Session" "id" "J" (.long q2) ∧ Fld Z h a1 "com/example/wilt/wilt/session/Session" "timeout" "J" (.long q3) ∧ Fld Z h a1 "com/example/wilt/wilt/session/Session" "global" "Z" (.int (nar .boolean p4))
set_option maxRecDepth 65536 in
set_option maxHeartbeats 40000000 in
theorem rm1 (l : Launch) (Z : State) (a0 : Array Value) (hw : ∀ d ∈ tables_1, d.before a0 Z = true) (ws : List Jvm.Cond) (a1 : Addr) (q2 : Int64) (q3 : Int64) (p4 : Int32) (h0 : Heap) (n0 : Nat) (Z0 : n0 ≤ h0.size) (E_a1 : Exa Z h0 a1 "com/example/wilt/wilt/session/Session") (g_a1 : n0 ≤ a1) (F_id : Fld Z h0 a1 "com/example/wilt/wilt/session/Session" "id" "J" (.long (0 : Int64))) (F_timeout : Fld Z h0 a1 "com/example/wilt/wilt/session/Session" "timeout" "J" (.long (0 : Int64))) (F_global : Fld Z h0 a1 "com/example/wilt/wilt/session/Session" "global" "Z" (.int (0 : Int32))) :
    MetFree l (⟨"com/example/wilt/wilt/session/Session", "<init>", "(JJZ)V"⟩ : MethodName) (head1 (Jvm.Cond.code (⟨"com/example/wilt/wilt/session/Session", "<init>", "(JJZ)V"⟩ : MethodName) prog_29_method_1_code 6 none :: ws) ({ frames := 1, cells := 0, slots := 0, locals := 12 } : Room)) (fun aax UU => aax = #[(.ref a1), (.long q2), (.long q3), (.int p4)] ∧ Z.Warmed39 UU.vm ∧ UU.heap = h0) (fun _ _ _ _ _ => True) (fun _ UU oux UU' => ∃ rvx Lrx, oux = .returned rvx ∧ Q1 Z a1 q2 q3 p4 h0 n0 rvx UU'.heap Lrx ∧ FrameEnd UU oux UU' Lrx ({ frames := 1, cells := 0, slots := 0, locals := 12 } : Room).cells ({ frames := 1, cells := 0, slots := 0, locals := 12 } : Room).slots) := by
  refine MetFree.of_bodySF (plainFor_of_name own_pn_com_example_wilt_wilt_session_Session) hisR ?_
  intro p e s m args below meth c s₁ Bd hml0 hP hK
  obtain ⟨rfl, hZ, hh⟩ := hP
  have hx := Bd.exec
  have hby := Bd.bytes
  have hml : c.maxLocals = 6 := hml0
  have hown : s.vm.findClass "com/example/wilt/wilt/session/Session" = some m.cls := findClass_of_methodNamed Bd.named
  have hnm := (name_of_methodNamed Bd.named Bd.method).1
  have X0 : Stand p l e ({ frames := 1, cells := 0, slots := 0, locals := 12 } : Room) s m #[(.ref a1), (.long q2), (.long q3), (.int p4)] below meth c s₁ [] 0 0 := Stand.of_body Bd
  have e0 : s₁.heap = h0 := by rw [← hh, Bd.state]; rfl
  have N0 := Fr.nil n0
  have p0 : own_go p e below (s₁.setTop (entryFrame m #[(.ref a1), (.long q2), (.long q3), (.int p4)] 6)) (s₁.setTop (mkF m 0 #[.val (.ref a1), .val (.long q2), .second, .val (.long q3), .second, .val (.int p4)] [])) := fun t k => castTop (ef_1 m a1 q2 q3 p4) k
  obtain ⟨T1, X1, e1, st1⟩ := initO X0 hx hZ hown (hw _ (List.mem_of_getElem? (i := 6) rfl)) (hw _ (List.mem_of_getElem? (i := 7) rfl)) (hw _ (List.mem_of_getElem? (i := 8) rfl)) e0 (g := (mkF m 1 #[.val (.ref a1), .val (.long q2), .second, .val (.long q3), .second, .val (.int p4)] [(.ref a1)])) rfl (by rw [hml]; rfl) rfl (hb hby d1_1) (by decide) (W := 0) (by show 2 * 0 + _ ≤ _; exact Nat.le_of_eq rfl) (by decide)
  obtain ⟨T2, h2, X2, e2, W2, st2⟩ := putF X1 hx hZ hown (host := "") (Or.inl (hw _ (List.mem_of_getElem? (i := 9) rfl))) Via.refl e1 F_id E_a1 (Or.inr ⟨(hw _ (List.mem_of_getElem? (i := 10) rfl)), rfl, hnm⟩) (hw _ (List.mem_of_getElem? (i := 1) rfl)) (ty := .long) (by decide) rfl rfl (g := (mkF m 6 #[.val (.ref a1), .val (.long q2), .second, .val (.long q3), .second, .val (.int p4)] [(.long q2), (.ref a1)])) rfl rfl (hb hby d1_6)
  have Z2 : n0 ≤ h2.size := Nat.le_trans Z0 (Nat.le_of_eq W2.size.symm)
  have K2 : Keep h0 h2 [a1] := (Keep.refl h0 [a1]).wr W2 (Or.inl (List.mem_of_getElem? (i := 0) rfl))
  have N2 := Fr.snoc X2 N0 g_a1
  have Fw2 := F_id.same W2
  have f3 := (F_timeout.other W2 (Or.inr (slot_ne (Or.inr (hw _ (List.mem_of_getElem? (i := 12) rfl))) (Or.inr (hw _ (List.mem_of_getElem? (i := 10) rfl))) (by decide) (t := .long) (t' := .long) (by decide) (by decide))))
  have f4 := (E_a1.wr W2)
  obtain ⟨T5, h5, X5, e5, W5, st5⟩ := putF X2 hx hZ hown (host := "") (Or.inl (hw _ (List.mem_of_getElem? (i := 11) rfl))) Via.refl e2 f3 f4 (Or.inr ⟨(hw _ (List.mem_of_getElem? (i := 12) rfl)), rfl, hnm⟩) (hw _ (List.mem_of_getElem? (i := 1) rfl)) (ty := .long) (by decide) rfl rfl (g := (mkF m 11 #[.val (.ref a1), .val (.long q2), .second, .val (.long q3), .second, .val (.int p4)] [(.long q3), (.ref a1)])) rfl rfl (hb hby d1_11)
  have Z5 : n0 ≤ h5.size := Nat.le_trans Z2 (Nat.le_of_eq W5.size.symm)
  have K5 : Keep h0 h5 [a1] := K2.wr W5 (Or.inl (List.mem_of_getElem? (i := 0) rfl))
  have N5 := Fr.snoc X5 N2 g_a1
  have Fw5 := f3.same W5
  have f6 := ((F_global.other W2 (Or.inr (slot_ne (Or.inr (hw _ (List.mem_of_getElem? (i := 14) rfl))) (Or.inr (hw _ (List.mem_of_getElem? (i := 10) rfl))) (by decide) (t := .boolean) (t' := .long) (by decide) (by decide)))).other W5 (Or.inr (slot_ne (Or.inr (hw _ (List.mem_of_getElem? (i := 14) rfl))) (Or.inr (hw _ (List.mem_of_getElem? (i := 12) rfl))) (by decide) (t := .boolean) (t' := .long) (by decide) (by decide))))
  have f7 := (f4.wr W5)
  obtain ⟨T8, h8, X8, e8, W8, st8⟩ := putFN X5 hx hZ hown (hw _ (List.mem_of_getElem? (i := 13) rfl)) Via.refl e5 f6 f7 (Or.inr ⟨(hw _ (List.mem_of_getElem? (i := 14) rfl)), rfl, hnm⟩) (hw _ (List.mem_of_getElem? (i := 1) rfl)) (ty := .boolean) (v' := .int (nar .boolean p4)) (by decide) rfl (fits_nar_bool _) (g := (mkF m 17 #[.val (.ref a1), .val (.long q2), .second, .val (.long q3), .second, .val (.int p4)] [(.int p4), (.ref a1)])) rfl rfl (hb hby d1_17)
  have Z8 : n0 ≤ h8.size := Nat.le_trans Z5 (Nat.le_of_eq W8.size.symm)
  have K8 : Keep h0 h8 [a1] := K5.wr W8 (Or.inl (List.mem_of_getElem? (i := 0) rfl))
  have N8 := Fr.snoc X8 N5 g_a1
  have Fw8 := f6.same W8
  have go9 : own_go p e below (s₁.setTop (entryFrame m #[(.ref a1), (.long q2), (.long q3), (.int p4)] 6)) (T8.setTop (mkF m 20 #[.val (.ref a1), .val (.long q2), .second, .val (.long q3), .second, .val (.int p4)] [])) := by
    intro ttx ktx
    refine p0 ttx ?_
    show Steps p.tables e below (s₁.setTop (mkF m 0 #[.val (.ref a1), .val (.long q2), .second, .val (.long q3), .second, .val (.int p4)] [])) _
    refine XS.aloadN X0.here hx rfl (hb hby d1_0) rfl rfl ?_
    show Steps p.tables e below (s₁.setTop (mkF m 1 #[.val (.ref a1), .val (.long q2), .second, .val (.long q3), .second, .val (.int p4)] [(.ref a1)])) _
    refine st1 _ ?_
    show Steps p.tables e below (T1.setTop (mkF m 4 #[.val (.ref a1), .val (.long q2), .second, .val (.long q3), .second, .val (.int p4)] [])) _
    refine XS.aloadN X1.here hx rfl (hb hby d1_4) rfl rfl ?_
    show Steps p.tables e below (T1.setTop (mkF m 5 #[.val (.ref a1), .val (.long q2), .second, .val (.long q3), .second, .val (.int p4)] [(.ref a1)])) _
    refine XS.lloadN X1.here hx rfl (hb hby d1_5) rfl ?_
    show Steps p.tables e below (T1.setTop (mkF m 6 #[.val (.ref a1), .val (.long q2), .second, .val (.long q3), .second, .val (.int p4)] [(.long q2), (.ref a1)])) _
    refine st2 _ ?_
    show Steps p.tables e below (T2.setTop (mkF m 9 #[.val (.ref a1), .val (.long q2), .second, .val (.long q3), .second, .val (.int p4)] [])) _
    refine XS.aloadN X2.here hx rfl (hb hby d1_9) rfl rfl ?_
    show Steps p.tables e below (T2.setTop (mkF m 10 #[.val (.ref a1), .val (.long q2), .second, .val (.long q3), .second, .val (.int p4)] [(.ref a1)])) _
    refine XS.lloadN X2.here hx rfl (hb hby d1_10) rfl ?_
    show Steps p.tables e below (T2.setTop (mkF m 11 #[.val (.ref a1), .val (.long q2), .second, .val (.long q3), .second, .val (.int p4)] [(.long q3), (.ref a1)])) _
    refine st5 _ ?_
    show Steps p.tables e below (T5.setTop (mkF m 14 #[.val (.ref a1), .val (.long q2), .second, .val (.long q3), .second, .val (.int p4)] [])) _
    refine XS.aloadN X5.here hx rfl (hb hby d1_14) rfl rfl ?_
    show Steps p.tables e below (T5.setTop (mkF m 15 #[.val (.ref a1), .val (.long q2), .second, .val (.long q3), .second, .val (.int p4)] [(.ref a1)])) _
    refine XS.iload X5.here hx rfl (hb hby d1_15) rfl ?_
    show Steps p.tables e below (T5.setTop (mkF m 17 #[.val (.ref a1), .val (.long q2), .second, .val (.long q3), .second, .val (.int p4)] [(.int p4), (.ref a1)])) _
    refine st8 _ ?_
    exact ktx
  obtain ⟨fs, hr, hrun, hended, hW, hsame⟩ := X8.leave (v := none) (fun _ => rfl)
  refine ⟨_, _, go9 _ ?_, hrun, hended, _, _, rfl, ?_, ⟨_, rfl⟩, hW, hsame.mono (by decide) (by decide)⟩
  · exact X8.returnOut hx Bd.returns (hb hby d1_20) hr
  · show Q1 Z a1 q2 q3 p4 h0 n0 _ T8.heap _
    rw [e8]
    have f10 := (f7.wr W8)
    have f11 := ((Fw2.other W5 (Or.inr (slot_ne (Or.inr (hw _ (List.mem_of_getElem? (i := 10) rfl))) (Or.inr (hw _ (List.mem_of_getElem? (i := 12) rfl))) (by decide) (t := .long) (t' := .long) (by decide) (by decide)))).other W8 (Or.inr (slot_ne (Or.inr (hw _ (List.mem_of_getElem? (i := 10) rfl))) (Or.inr (hw _ (List.mem_of_getElem? (i := 14) rfl))) (by decide) (t := .long) (t' := .boolean) (by decide) (by decide))))
    have f12 := (Fw5.other W8 (Or.inr (slot_ne (Or.inr (hw _ (List.mem_of_getElem? (i := 12) rfl))) (Or.inr (hw _ (List.mem_of_getElem? (i := 14) rfl))) (by decide) (t := .long) (t' := .boolean) (by decide) (by decide))))
    exact ⟨rfl, N8, K8, f10, f11, f12, Fw8⟩
theorem d6_0 : decode jdk_18_method_1_code 0 = .ok (.aload_n 0, 1) := by decide +kernel
theorem d6_1 : decode jdk_18_method_1_code 1 = .ok (.invokespecial 1, 3) := by decide +kernel
theorem d6_4 : decode jdk_18_method_1_code 4 = .ok (.return_, 1) := by decide +kernel
theorem own_pn_java_lang_Number : plainName "java/lang/Number" = true := by first | (simp [plainName, overriddenIn]; done) | decide +kernel
theorem ef_6 (m : MethodId) (x0 : Addr) : entryFrame m #[(.ref x0)] 1 = mkF m 0 #[.val (.ref x0)] [] := by first | (simp [entryFrame, mkF, argsToLocals, Value.category]; done) | rfl
def Q6 (Z : State) (a1 : Addr) (h0 : Heap) (n0 : Nat) (v : Option Value) (h : Heap) (L : List Loc) : Prop := v = none ∧ Fr n0 L ∧ h = h0
set_option maxRecDepth 65536 in
set_option maxHeartbeats 40000000 in
theorem rm6 (l : Launch) (Z : State) (a0 : Array Value) (hw : ∀ d ∈ tables_1, d.before a0 Z = true) (ws : List Jvm.Cond) (a1 : Addr) (h0 : Heap) (n0 : Nat) (Z0 : n0 ≤ h0.size) :
    MetFree l (⟨"java/lang/Number", "<init>", "()V"⟩ : MethodName) (head1 (Jvm.Cond.code (⟨"java/lang/Number", "<init>", "()V"⟩ : MethodName) jdk_18_method_1_code 1 none :: ws) ({ frames := 1, cells := 0, slots := 0, locals := 12 } : Room)) (fun aax UU => aax = #[(.ref a1)] ∧ Z.Warmed39 UU.vm ∧ UU.heap = h0) (fun _ _ _ _ _ => True) (fun _ UU oux UU' => ∃ rvx Lrx, oux = .returned rvx ∧ Q6 Z a1 h0 n0 rvx UU'.heap Lrx ∧ FrameEnd UU oux UU' Lrx ({ frames := 1, cells := 0, slots := 0, locals := 12 } : Room).cells ({ frames := 1, cells := 0, slots := 0, locals := 12 } : Room).slots) := by
  refine MetFree.of_bodySF (plainFor_of_name own_pn_java_lang_Number) hisR ?_
  intro p e s m args below meth c s₁ Bd hml0 hP hK
  obtain ⟨rfl, hZ, hh⟩ := hP
  have hx := Bd.exec
  have hby := Bd.bytes
  have hml : c.maxLocals = 1 := hml0
  have hown : s.vm.findClass "java/lang/Number" = some m.cls := findClass_of_methodNamed Bd.named
  have hnm := (name_of_methodNamed Bd.named Bd.method).1
  have X0 : Stand p l e ({ frames := 1, cells := 0, slots := 0, locals := 12 } : Room) s m #[(.ref a1)] below meth c s₁ [] 0 0 := Stand.of_body Bd
  have e0 : s₁.heap = h0 := by rw [← hh, Bd.state]; rfl
  have N0 := Fr.nil n0
  have p0 : own_go p e below (s₁.setTop (entryFrame m #[(.ref a1)] 1)) (s₁.setTop (mkF m 0 #[.val (.ref a1)] [])) := fun t k => castTop (ef_6 m a1) k
  obtain ⟨T1, X1, e1, st1⟩ := initO X0 hx hZ hown (hw _ (List.mem_of_getElem? (i := 42) rfl)) (hw _ (List.mem_of_getElem? (i := 7) rfl)) (hw _ (List.mem_of_getElem? (i := 8) rfl)) e0 (g := (mkF m 1 #[.val (.ref a1)] [(.ref a1)])) rfl (by rw [hml]; rfl) rfl (hb hby d6_1) (by decide) (W := 0) (by show 2 * 0 + _ ≤ _; exact Nat.le_of_eq rfl) (by decide)
  have go2 : own_go p e below (s₁.setTop (entryFrame m #[(.ref a1)] 1)) (T1.setTop (mkF m 4 #[.val (.ref a1)] [])) := by
    intro ttx ktx
    refine p0 ttx ?_
    show Steps p.tables e below (s₁.setTop (mkF m 0 #[.val (.ref a1)] [])) _
    refine XS.aloadN X0.here hx rfl (hb hby d6_0) rfl rfl ?_
    show Steps p.tables e below (s₁.setTop (mkF m 1 #[.val (.ref a1)] [(.ref a1)])) _
    refine st1 _ ?_
    exact ktx
  obtain ⟨fs, hr, hrun, hended, hW, hsame⟩ := X1.leave (v := none) (fun _ => rfl)
  refine ⟨_, _, go2 _ ?_, hrun, hended, _, _, rfl, ?_, ⟨_, rfl⟩, hW, hsame.mono (by decide) (by decide)⟩
  · exact X1.returnOut hx Bd.returns (hb hby d6_4) hr
  · show Q6 Z a1 h0 n0 _ T1.heap _
    rw [e1]
    exact ⟨rfl, N0, rfl⟩
theorem d5_0 : decode jdk_35_method_26_code 0 = .ok (.aload_n 0, 1) := by decide +kernel
theorem own_pd0 : parseMethodDescriptor "()V" = some ⟨[], none⟩ := by decide +kernel
theorem d5_1 : decode jdk_35_method_26_code 1 = .ok (.invokespecial 270, 3) := by decide +kernel
theorem d5_4 : decode jdk_35_method_26_code 4 = .ok (.aload_n 0, 1) := by decide +kernel
theorem d5_5 : decode jdk_35_method_26_code 5 = .ok (.lload_n 1, 1) := by decide +kernel
theorem d5_6 : decode jdk_35_method_26_code 6 = .ok (.putfield 273, 3) := by decide +kernel
theorem d5_9 : decode jdk_35_method_26_code 9 = .ok (.return_, 1) := by decide +kernel
theorem own_pn_java_lang_Long : plainName "java/lang/Long" = true := by first | (simp [plainName, overriddenIn]; done) | decide +kernel
theorem ef_5 (m : MethodId) (x0 : Addr) (x1 : Int64) : entryFrame m #[(.ref x0), (.long x1)] 3 = mkF m 0 #[.val (.ref x0), .val (.long x1), .second] [] := by first | (simp [entryFrame, mkF, argsToLocals, Value.category]; done) | rfl
def Q5 (Z : State) (a1 : Addr) (z : Int64) (h0 : Heap) (n0 : Nat) (v : Option Value) (h : Heap) (L : List Loc) : Prop := v = none ∧ Fr n0 L ∧ Keep h0 h [a1] ∧ Exa Z h a1 "java/lang/Long" ∧ Fld Z h a1 "java/lang/Long" "value" "J" (.long z)
set_option maxRecDepth 65536 in
set_option maxHeartbeats 40000000 in
theorem rm5 (l : Launch) (Z : State) (a0 : Array Value) (hw : ∀ d ∈ tables_1, d.before a0 Z = true) (ws : List Jvm.Cond) (a1 : Addr) (z : Int64) (h0 : Heap) (n0 : Nat) (Z0 : n0 ≤ h0.size) (E_a1 : Exa Z h0 a1 "java/lang/Long") (g_a1 : n0 ≤ a1) (F_value : Fld Z h0 a1 "java/lang/Long" "value" "J" (.long (0 : Int64))) :
    MetFree l (⟨"java/lang/Long", "<init>", "(J)V"⟩ : MethodName) (head1 (Jvm.Cond.code (⟨"java/lang/Long", "<init>", "(J)V"⟩ : MethodName) jdk_35_method_26_code 3 none :: ws) ({ frames := 2, cells := 0, slots := 0, locals := 24 } : Room)) (fun aax UU => aax = #[(.ref a1), (.long z)] ∧ Z.Warmed39 UU.vm ∧ UU.heap = h0) (fun _ _ _ _ _ => True) (fun _ UU oux UU' => ∃ rvx Lrx, oux = .returned rvx ∧ Q5 Z a1 z h0 n0 rvx UU'.heap Lrx ∧ FrameEnd UU oux UU' Lrx ({ frames := 2, cells := 0, slots := 0, locals := 24 } : Room).cells ({ frames := 2, cells := 0, slots := 0, locals := 24 } : Room).slots) := by
  refine MetFree.of_bodySF (plainFor_of_name own_pn_java_lang_Long) hisR ?_
  intro p e s m args below meth c s₁ Bd hml0 hP hK
  obtain ⟨rfl, hZ, hh⟩ := hP
  have hx := Bd.exec
  have hby := Bd.bytes
  have hml : c.maxLocals = 3 := hml0
  have hown : s.vm.findClass "java/lang/Long" = some m.cls := findClass_of_methodNamed Bd.named
  have hnm := (name_of_methodNamed Bd.named Bd.method).1
  have X0 : Stand p l e ({ frames := 2, cells := 0, slots := 0, locals := 24 } : Room) s m #[(.ref a1), (.long z)] below meth c s₁ [] 0 0 := Stand.of_body Bd
  have e0 : s₁.heap = h0 := by rw [← hh, Bd.state]; rfl
  have N0 := Fr.nil n0
  have p0 : own_go p e below (s₁.setTop (entryFrame m #[(.ref a1), (.long z)] 3)) (s₁.setTop (mkF m 0 #[.val (.ref a1), .val (.long z), .second] [])) := fun t k => castTop (ef_5 m a1 z) k
  obtain ⟨_, _, ⟨T1, L1, k1, n1⟩, -, X1, ⟨Lc1, hQ1, l1, y1, z1⟩, st1⟩ := X0.specialBack hx (y := (⟨"java/lang/Number", "<init>", "()V"⟩ : MethodName)) rfl hown (mvT hZ (hw _ (List.mem_of_getElem? (i := 36) rfl))) (mvT hZ (hw _ (List.mem_of_getElem? (i := 37) rfl))) (mvT hZ (hw _ (List.mem_of_getElem? (i := 41) rfl))) (by decide) (backOf (W := 0) (rm6 l Z a0 hw [] a1  h0 n0 Z0 ) hZ (hw _ (List.mem_of_getElem? (i := 41) rfl)) (hw _ (List.mem_of_getElem? (i := 40) rfl)) (by decide) (by decide)) (g := (mkF m 1 #[.val (.ref a1), .val (.long z), .second] [(.ref a1)])) rfl (by rw [hml]; rfl) (Steps.refl _) (a := a1) (argsL := []) (rest := []) (lenOf own_pd0 rfl) rfl (by show 2 * 0 + _ ≤ _; exact Nat.le_of_eq rfl) (hb hby d5_1) (fun _ _ => ⟨rfl, e0, (by decide : 0 + 0 ≤ _), (by decide : 0 + 0 ≤ _)⟩)
  dsimp only [Pt.U, Pt.locs, Pt.cells, Pt.slots] at X1 l1 y1 z1 st1 hQ1
  subst l1 y1 z1
  obtain ⟨rfl, Nq1, e1⟩ := hQ1
  have N1 := Fr.app N0 Nq1
  obtain ⟨T2, h2, X2, e2, W2, st2⟩ := putF X1 hx hZ hown (host := "") (Or.inl (hw _ (List.mem_of_getElem? (i := 43) rfl))) Via.refl e1 F_value E_a1 (Or.inr ⟨(hw _ (List.mem_of_getElem? (i := 44) rfl)), rfl, hnm⟩) (hw _ (List.mem_of_getElem? (i := 31) rfl)) (ty := .long) (by decide) rfl rfl (g := (mkF m 6 #[.val (.ref a1), .val (.long z), .second] [(.long z), (.ref a1)])) rfl rfl (hb hby d5_6)
  have Z2 : n0 ≤ h2.size := Nat.le_trans Z0 (Nat.le_of_eq W2.size.symm)
  have K2 : Keep h0 h2 [a1] := (Keep.refl h0 [a1]).wr W2 (Or.inl (List.mem_of_getElem? (i := 0) rfl))
  have N2 := Fr.snoc X2 N1 g_a1
  have Fw2 := F_value.same W2
  have go3 : own_go p e below (s₁.setTop (entryFrame m #[(.ref a1), (.long z)] 3)) (T2.setTop (mkF m 9 #[.val (.ref a1), .val (.long z), .second] [])) := by
    intro ttx ktx
    refine p0 ttx ?_
    show Steps p.tables e below (s₁.setTop (mkF m 0 #[.val (.ref a1), .val (.long z), .second] [])) _
    refine XS.aloadN X0.here hx rfl (hb hby d5_0) rfl rfl ?_
    show Steps p.tables e below (s₁.setTop (mkF m 1 #[.val (.ref a1), .val (.long z), .second] [(.ref a1)])) _
    refine st1.trans ?_
    show Steps p.tables e below (T1.setTop (mkF m 4 #[.val (.ref a1), .val (.long z), .second] [])) _
    refine XS.aloadN X1.here hx rfl (hb hby d5_4) rfl rfl ?_
    show Steps p.tables e below (T1.setTop (mkF m 5 #[.val (.ref a1), .val (.long z), .second] [(.ref a1)])) _
    refine XS.lloadN X1.here hx rfl (hb hby d5_5) rfl ?_
    show Steps p.tables e below (T1.setTop (mkF m 6 #[.val (.ref a1), .val (.long z), .second] [(.long z), (.ref a1)])) _
    refine st2 _ ?_
    exact ktx
  obtain ⟨fs, hr, hrun, hended, hW, hsame⟩ := X2.leave (v := none) (fun _ => rfl)
  refine ⟨_, _, go3 _ ?_, hrun, hended, _, _, rfl, ?_, ⟨_, rfl⟩, hW, hsame.mono (by decide) (by decide)⟩
  · exact X2.returnOut hx Bd.returns (hb hby d5_9) hr
  · show Q5 Z a1 z h0 n0 _ T2.heap _
    rw [e2]
    have f4 := (E_a1.wr W2)
    exact ⟨rfl, N2, K2, f4, Fw2⟩
theorem own_fld {a0 : Array Value} {s : State} {eT sub : Term} {LC d : String} {i : Nat} {b : Addr} {val : Value} (heB : eT.eval a0 s none [i] s = some (.ref b)) (hsub : sub.eval a0 s none [i] s = some val) (heq : (Jvm.Cond.eq (Term.field eT LC "value" d) sub).value a0 s none s [i] = some true) (hvi : (∃ x, val = .int x) ∨ ∃ x, val = .long x) : Fld s s.heap b LC "value" d val := by
  cases hfo : s.fieldOf? b LC "value" d with
  | none =>
    have hu : (Term.field eT LC "value" d).eval a0 s none [i] s = none := by simp [Term.eval, heB, hfo]
    simp [Cond.value, hu] at heq
  | some u =>
    have hu : (Term.field eT LC "value" d).eval a0 s none [i] s = some u := by simp [Term.eval, heB, hfo]
    rcases hvi with ⟨x, rfl⟩ | ⟨x, rfl⟩
    · cases u <;> simp [Cond.value, hu, hsub] at heq
      subst heq
      exact Fld.start hfo
    · cases u <;> simp [Cond.value, hu, hsub] at heq
      subst heq
      exact Fld.start hfo
theorem own_elem {a0 : Array Value} {s : State} {cT sub : Term} {LC d : String} {i : Nat} {t : Addr} {cl : Cell} {val : Value} (evC : cT.eval a0 s none [i] s = some (.ref t)) (hat : s.arrayAt? t = some cl) (hnn : ¬ i.toInt32 < 0) (hback : i.toInt32.toNatClampNeg = i) (hsub : sub.eval a0 s none [i] s = some val)
    (hex : (Jvm.Cond.exactly (Term.elem cT (Term.index 0)) LC).value a0 s none s [i] = some true) (heq : (Jvm.Cond.eq (Term.field (Term.elem cT (Term.index 0)) LC "value" d) sub).value a0 s none s [i] = some true) (hvi : (∃ x, val = .int x) ∨ ∃ x, val = .long x) : ∃ b : Addr, cl.slots[i]? = some (.ref b) ∧ Exa s s.heap b LC ∧ Fld s s.heap b LC "value" d val := by
  have evE : (Term.elem cT (Term.index 0)).eval a0 s none [i] s = cl.slots[i]? := by
    simp [Term.eval, evC, hnn, hat, hback]
  obtain ⟨b, cB, cellB, kB, heB, -⟩ := Cond.exactly_spec (show (Jvm.Cond.exactly (Term.elem cT (Term.index 0)) LC).holds a0 s none s [i] = true from by simp only [Cond.holds, hex]; rfl)
  exact ⟨b, evE.symm.trans heB, exa_at heB hex, own_fld heB hsub heq hvi⟩
def own_cache (Z : State) : Prop := ∃ (t : Addr) (cl : Cell), Sta Z Z.heap "java/lang/Long$LongCache" "cache" "[Ljava/lang/Long;" (.ref t) ∧ Arr Z Z.heap t cl (.object "java/lang/Long") ∧ ∀ w : Int64, ¬ w < -128 → ¬ 127 < w → ¬ ((w.toInt32 + 128) < 0 ∨ cl.slots.size ≤ (w.toInt32 + 128).toNatClampNeg) ∧ ∃ b : Addr, cl.slots[(w.toInt32 + 128).toNatClampNeg]? = some (.ref b) ∧ Exa Z Z.heap b "java/lang/Long" ∧ Fld Z Z.heap b "java/lang/Long" "value" "J" (.long w)
set_option maxRecDepth 65536 in
theorem own_cache_of {a0 : Array Value} {s : State} (hw : ∀ d ∈ tables_1, d.before a0 s = true) (hs : ∀ d ∈ jdkStatics_1, d.before a0 s = true) (hf : Fit s) : own_cache s := by
  obtain ⟨v, ev, -⟩ := static_fit hf (hs _ (List.mem_of_getElem? (i := 0) rfl)) (ty := .array (.object "java/lang/Long")) (by decide)
  obtain ⟨t, cl, rfl, hA, harr, hvm⟩ := IntBox.arrayOf_fwd (hs _ (List.mem_of_getElem? (i := 2) rfl)) ev
  have S : Sta s s.heap "java/lang/Long$LongCache" "cache" "[Ljava/lang/Long;" (.ref t) := Sta.start ev (Or.inl (hs _ (List.mem_of_getElem? (i := 1) rfl)))
  have hat := IntBox.arrayAt_of hA harr hvm
  obtain ⟨hsz, hsize⟩ := IntBox.length_fwd (hs _ (List.mem_of_getElem? (i := 4) rfl)) ev hA harr hvm
  have hsz256 : cl.slots.size = 256 := by
    have e : (cl.slots.size.toInt32).toInt = cl.slots.size := by
      have : (cl.slots.size.toInt32).toInt = (cl.slots.size : Int).bmod (2 ^ 32) := by simp [Nat.toInt32, Int32.size]
      rw [this]; simp [Int.bmod]; omega
    rw [hsize] at e
    have : ((256 : Int32)).toInt = 256 := by decide
    omega
  have hall := Cond.all_elim ev hat (Cond.before_iff.mp (hs _ (List.mem_of_getElem? (i := 5) rfl)))
  refine ⟨t, cl, S, ⟨hA, harr, hvm⟩, fun w h1 h2 => ?_⟩
  obtain ⟨hb, hlt⟩ := LongBox.place_okL w h1 h2
  refine ⟨by rw [hsz256]; exact hb, ?_⟩
  have hj := hall _ (by rw [hsz256]; exact hlt)
  obtain ⟨hex, heq⟩ := and_e hj
  obtain ⟨hnn, hback⟩ := IntBox.place_nonneg _ hlt
  have evC : (Jvm.Term.static "java/lang/Long$LongCache" "cache" "[Ljava/lang/Long;").eval a0 s none [(w.toInt32 + 128).toNatClampNeg] s = some (.ref t) := ev
  have hsub : (Term.op1 .i2l (Term.sub (Term.index 0) (Term.int 128))).eval a0 s none [(w.toInt32 + 128).toNatClampNeg] s = some (.long w) := by
    conv => rhs; rw [← LongBox.place_valL w h1 h2]
    rfl
  exact own_elem evC hat hnn hback hsub hex heq (Or.inr ⟨w, rfl⟩)
theorem d3_0 : decode jdk_35_method_24_code 0 = .ok (.sipush 128, 3) := by decide +kernel
theorem d3_3 : decode jdk_35_method_24_code 3 = .ok (.istore_n 2, 1) := by decide +kernel
theorem d3_4 : decode jdk_35_method_24_code 4 = .ok (.lload_n 0, 1) := by decide +kernel
theorem d3_5 : decode jdk_35_method_24_code 5 = .ok (.ldc2_w 230, 3) := by decide +kernel
theorem d3_8 : decode jdk_35_method_24_code 8 = .ok (.lcmp, 1) := by decide +kernel
theorem d3_9 : decode jdk_35_method_24_code 9 = .ok (.ifCond .lt 22, 3) := by decide +kernel
theorem d3_31 : decode jdk_35_method_24_code 31 = .ok (.new 1, 3) := by decide +kernel
theorem d3_34 : decode jdk_35_method_24_code 34 = .ok (.dup, 1) := by decide +kernel
theorem d3_35 : decode jdk_35_method_24_code 35 = .ok (.lload_n 0, 1) := by decide +kernel
theorem own_pd1 : parseMethodDescriptor "(J)V" = some ⟨[.long], none⟩ := by decide +kernel
theorem d3_36 : decode jdk_35_method_24_code 36 = .ok (.invokespecial 240, 3) := by decide +kernel
theorem d3_39 : decode jdk_35_method_24_code 39 = .ok (.areturn, 1) := by decide +kernel
theorem d3_12 : decode jdk_35_method_24_code 12 = .ok (.lload_n 0, 1) := by decide +kernel
theorem d3_13 : decode jdk_35_method_24_code 13 = .ok (.ldc2_w 232, 3) := by decide +kernel
theorem d3_16 : decode jdk_35_method_24_code 16 = .ok (.lcmp, 1) := by decide +kernel
theorem d3_17 : decode jdk_35_method_24_code 17 = .ok (.ifCond .gt 14, 3) := by decide +kernel
theorem d3_20 : decode jdk_35_method_24_code 20 = .ok (.getstatic 234, 3) := by decide +kernel
theorem d3_23 : decode jdk_35_method_24_code 23 = .ok (.lload_n 0, 1) := by decide +kernel
theorem d3_24 : decode jdk_35_method_24_code 24 = .ok (.l2i, 1) := by decide +kernel
theorem d3_25 : decode jdk_35_method_24_code 25 = .ok (.sipush 128, 3) := by decide +kernel
theorem d3_28 : decode jdk_35_method_24_code 28 = .ok (.iadd, 1) := by decide +kernel
theorem d3_29 : decode jdk_35_method_24_code 29 = .ok (.aaload, 1) := by decide +kernel
theorem d3_30 : decode jdk_35_method_24_code 30 = .ok (.areturn, 1) := by decide +kernel
theorem ef_VO (m : MethodId) (x0 : Int64) : entryFrame m #[(.long x0)] 3 = mkF m 0 #[.val (.long x0), .second, .unset] [] := by first | (simp [entryFrame, mkF, argsToLocals, Value.category]; done) | rfl
def QVO (Z : State) (z : Int64) (h0 : Heap) (n0 : Nat) (v : Option Value) (h : Heap) (L : List Loc) : Prop := ∃ b : Addr, v = some (.ref b) ∧ Fr n0 L ∧ Keep h0 h [] ∧ Exa Z h b "java/lang/Long" ∧ Fld Z h b "java/lang/Long" "value" "J" (.long z) ∧ (∀ x : Addr, n0 ≤ x → x < h0.size → b ≠ x)
set_option maxRecDepth 65536 in
set_option maxHeartbeats 40000000 in
theorem rmVO (l : Launch) (Z : State) (a0 : Array Value) (hw : ∀ d ∈ tables_1, d.before a0 Z = true) (ws : List Jvm.Cond) (z : Int64) (h0 : Heap) (n0 : Nat) (Z0 : n0 ≤ h0.size) (O0 : Old Z n0 h0) (hcache : own_cache Z) :
    MetFree l (⟨"java/lang/Long", "valueOf", "(J)Ljava/lang/Long;"⟩ : MethodName) (head1 (Jvm.Cond.code (⟨"java/lang/Long", "valueOf", "(J)Ljava/lang/Long;"⟩ : MethodName) jdk_35_method_24_code 3 (some (.object "java/lang/Long")) :: ws) ({ frames := 3, cells := 1, slots := 1, locals := 39 } : Room)) (fun aax UU => aax = #[(.long z)] ∧ Z.Warmed39 UU.vm ∧ UU.heap = h0) (fun _ _ _ _ _ => True) (fun _ UU oux UU' => ∃ rvx Lrx, oux = .returned rvx ∧ QVO Z z h0 n0 rvx UU'.heap Lrx ∧ FrameEnd UU oux UU' Lrx ({ frames := 3, cells := 1, slots := 1, locals := 39 } : Room).cells ({ frames := 3, cells := 1, slots := 1, locals := 39 } : Room).slots) := by
  refine MetFree.of_bodySF (plainFor_of_name own_pn_java_lang_Long) hisR ?_
  intro p e s m args below meth c s₁ Bd hml0 hP hK
  obtain ⟨rfl, hZ, hh⟩ := hP
  have hx := Bd.exec
  have hby := Bd.bytes
  have hml : c.maxLocals = 3 := hml0
  have hown : s.vm.findClass "java/lang/Long" = some m.cls := findClass_of_methodNamed Bd.named
  have hnm := (name_of_methodNamed Bd.named Bd.method).1
  have X0 : Stand p l e ({ frames := 3, cells := 1, slots := 1, locals := 39 } : Room) s m #[(.long z)] below meth c s₁ [] 0 0 := Stand.of_body Bd
  have e0 : s₁.heap = h0 := by rw [← hh, Bd.state]; rfl
  have N0 := Fr.nil n0
  have p0 : own_go p e below (s₁.setTop (entryFrame m #[(.long z)] 3)) (s₁.setTop (mkF m 0 #[.val (.long z), .second, .unset] [])) := fun t k => castTop (ef_VO m z) k
  obtain ⟨tc, clc, Sc, Arc, hcl⟩ := hcache
  have S0 := Sc.ext O0.2
  have Ar0 := Arc.ext O0.2
  have go1 : own_go p e below (s₁.setTop (entryFrame m #[(.long z)] 3)) (s₁.setTop (mkF m 9 #[.val (.long z), .second, .val (.int (128 : Int32))] [(.int (lcmpW z (-128 : Int64)))])) := by
    intro ttx ktx
    refine p0 ttx ?_
    show Steps p.tables e below (s₁.setTop (mkF m 0 #[.val (.long z), .second, .unset] [])) _
    refine XS.sipush X0.here hx rfl (hb hby d3_0) ?_
    show Steps p.tables e below (s₁.setTop (mkF m 3 #[.val (.long z), .second, .unset] [(.int (128 : Int32))])) _
    refine XS.istoreN X0.here hx rfl (hb hby d3_3) rfl (l' := #[.val (.long z), .second, .val (.int (128 : Int32))]) rfl ?_
    show Steps p.tables e below (s₁.setTop (mkF m 4 #[.val (.long z), .second, .val (.int (128 : Int32))] [])) _
    refine XS.lloadN X0.here hx rfl (hb hby d3_4) rfl ?_
    show Steps p.tables e below (s₁.setTop (mkF m 5 #[.val (.long z), .second, .val (.int (128 : Int32))] [(.long z)])) _
    refine X0.ldc2Long hx hown (mvT hZ (hw _ (List.mem_of_getElem? (i := 19) rfl))) (g := (mkF m 5 #[.val (.long z), .second, .val (.int (128 : Int32))] [(.long z)])) rfl (hb hby d3_5) _ ?_
    show Steps p.tables e below (s₁.setTop (mkF m 8 #[.val (.long z), .second, .val (.int (128 : Int32))] [(.long (-128 : Int64)), (.long z)])) _
    refine XS.lcmp X0.here hx rfl (hb hby d3_8) rfl ?_
    exact ktx
  by_cases hc2_9 : z < (-128 : Int64)
  · obtain ⟨T3, h3, X3, e3, E3, A3, D3, -, st3⟩ := newO X0 hx hZ hown (hw _ (List.mem_of_getElem? (i := 30) rfl)) (hw _ (List.mem_of_getElem? (i := 31) rfl)) (hw _ (List.mem_of_getElem? (i := 17) rfl)) e0 (g := (mkF m 31 #[.val (.long z), .second, .val (.int (128 : Int32))] [])) rfl (hb hby d3_31) (by decide) (by decide)
    obtain ⟨b3, g3⟩ : ∃ z, z = h0.size := ⟨_, rfl⟩
    rw [← g3] at A3 D3 st3
    have g_b3 : n0 ≤ b3 := Nat.le_trans Z0 (Nat.le_of_eq g3.symm)
    have sz_b3 : h0.size ≤ b3 := Nat.le_trans (Keep.refl h0 []).1 (Nat.le_of_eq g3.symm)
    have Z3 : n0 ≤ h3.size := Nat.le_trans Z0 E3.1
    have K3 : Keep h0 h3 [] := (Keep.refl h0 []).ext E3
    have F3_value : Fld Z h3 b3 "java/lang/Long" "value" "J" (.long (0 : Int64)) := D3 (Or.inr (hw _ (List.mem_of_getElem? (i := 44) rfl))) (ty := .long) (by decide)
    obtain ⟨_, _, ⟨T4, L4, k4, n4⟩, -, X4, ⟨Lc4, hQ4, l4, y4, z4⟩, st4⟩ := X3.specialBack hx (y := (⟨"java/lang/Long", "<init>", "(J)V"⟩ : MethodName)) rfl hown (mvT hZ (hw _ (List.mem_of_getElem? (i := 32) rfl))) (mvT hZ (hw _ (List.mem_of_getElem? (i := 33) rfl))) (mvT hZ (hw _ (List.mem_of_getElem? (i := 35) rfl))) (by decide) (backOf (W := 1) (rm5 l Z a0 hw [] b3 z  h3 n0 Z3 A3 g_b3 F3_value) hZ (hw _ (List.mem_of_getElem? (i := 35) rfl)) (hw _ (List.mem_of_getElem? (i := 17) rfl)) (by decide) (by decide)) (g := (mkF m 36 #[.val (.long z), .second, .val (.int (128 : Int32))] [(.long z), (.ref b3), (.ref b3)])) rfl (by rw [hml]; rfl) (Steps.refl _) (a := b3) (argsL := [(.long z)]) (rest := [(.ref b3)]) (lenOf own_pd1 rfl) rfl (by show 2 * 0 + _ ≤ _; exact Nat.le_of_eq rfl) (hb hby d3_36) (fun _ _ => ⟨rfl, e3, (by decide : 1 + 0 ≤ _), (by decide : 1 + 0 ≤ _)⟩)
    dsimp only [Pt.U, Pt.locs, Pt.cells, Pt.slots] at X4 l4 y4 z4 st4 hQ4
    subst l4 y4 z4
    obtain ⟨rfl, Nq4, Kq4, Eq4, Fq4_value⟩ := hQ4
    have N4 := Fr.app N0 Nq4
    have Z4 : n0 ≤ T4.heap.size := Nat.le_trans Z3 Kq4.1
    have K4 : Keep h0 T4.heap [] := K3.trans Kq4 (allS (Or.inr sz_b3) all0)
    have go5 : own_go p e below (s₁.setTop (entryFrame m #[(.long z)] 3)) (T4.setTop (mkF m 39 #[.val (.long z), .second, .val (.int (128 : Int32))] [(.ref b3)])) := by
      intro ttx ktx
      refine go1 ttx ?_
      show Steps p.tables e below (s₁.setTop (mkF m 9 #[.val (.long z), .second, .val (.int (128 : Int32))] [(.int (lcmpW z (-128 : Int64)))])) _
      refine XS.ifYes X0.here hx rfl (pc0 := 9) (pc' := 31) rfl (hb hby d3_9) rfl ((if0 _ _).trans (tlt ((lw_lt z (-128 : Int64)).mpr hc2_9)).1) (by decide) (by decide) ?_
      show Steps p.tables e below (s₁.setTop (mkF m 31 #[.val (.long z), .second, .val (.int (128 : Int32))] [])) _
      refine st3 _ ?_
      show Steps p.tables e below (T3.setTop (mkF m 34 #[.val (.long z), .second, .val (.int (128 : Int32))] [(.ref b3)])) _
      refine XS.dup X3.here hx rfl (hb hby d3_34) rfl rfl ?_
      show Steps p.tables e below (T3.setTop (mkF m 35 #[.val (.long z), .second, .val (.int (128 : Int32))] [(.ref b3), (.ref b3)])) _
      refine XS.lloadN X3.here hx rfl (hb hby d3_35) rfl ?_
      show Steps p.tables e below (T3.setTop (mkF m 36 #[.val (.long z), .second, .val (.int (128 : Int32))] [(.long z), (.ref b3), (.ref b3)])) _
      refine st4.trans ?_
      exact ktx
    obtain ⟨fs, hr, hrun, hended, hW, hsame⟩ := X4.leave (v := some (.ref b3)) (fun h => by rw [Bd.returns] at h; cases h)
    refine ⟨_, _, go5 _ ?_, hrun, hended, _, _, rfl, ?_, ⟨_, rfl⟩, hW, hsame.mono (by decide) (by decide)⟩
    · exact retOut X4 hx Bd.returns rfl (Or.inr (Or.inr (Or.inr (Or.inr ⟨rfl, rfl, rfl⟩)))) (hb hby d3_39) hr
    · show QVO Z z h0 n0 _ T4.heap _
      exact ⟨b3, rfl, N4, K4, Eq4, Fq4_value, fun x h1 h2 => Nat.ne_of_gt (Nat.lt_of_lt_of_le h2 sz_b3)⟩
  · have go6 : own_go p e below (s₁.setTop (entryFrame m #[(.long z)] 3)) (s₁.setTop (mkF m 17 #[.val (.long z), .second, .val (.int (128 : Int32))] [(.int (lcmpW z (127 : Int64)))])) := by
      intro ttx ktx
      refine go1 ttx ?_
      show Steps p.tables e below (s₁.setTop (mkF m 9 #[.val (.long z), .second, .val (.int (128 : Int32))] [(.int (lcmpW z (-128 : Int64)))])) _
      refine XS.ifNo X0.here hx rfl (hb hby d3_9) rfl ((if0 _ _).trans (flt (fun q => hc2_9 ((lw_lt z (-128 : Int64)).mp q))).1) ?_
      show Steps p.tables e below (s₁.setTop (mkF m 12 #[.val (.long z), .second, .val (.int (128 : Int32))] [])) _
      refine XS.lloadN X0.here hx rfl (hb hby d3_12) rfl ?_
      show Steps p.tables e below (s₁.setTop (mkF m 13 #[.val (.long z), .second, .val (.int (128 : Int32))] [(.long z)])) _
      refine X0.ldc2Long hx hown (mvT hZ (hw _ (List.mem_of_getElem? (i := 20) rfl))) (g := (mkF m 13 #[.val (.long z), .second, .val (.int (128 : Int32))] [(.long z)])) rfl (hb hby d3_13) _ ?_
      show Steps p.tables e below (s₁.setTop (mkF m 16 #[.val (.long z), .second, .val (.int (128 : Int32))] [(.long (127 : Int64)), (.long z)])) _
      refine XS.lcmp X0.here hx rfl (hb hby d3_16) rfl ?_
      exact ktx
    by_cases hc7_17 : (127 : Int64) < z
    · obtain ⟨T8, h8, X8, e8, E8, A8, D8, -, st8⟩ := newO X0 hx hZ hown (hw _ (List.mem_of_getElem? (i := 30) rfl)) (hw _ (List.mem_of_getElem? (i := 31) rfl)) (hw _ (List.mem_of_getElem? (i := 17) rfl)) e0 (g := (mkF m 31 #[.val (.long z), .second, .val (.int (128 : Int32))] [])) rfl (hb hby d3_31) (by decide) (by decide)
      obtain ⟨b8, g8⟩ : ∃ z, z = h0.size := ⟨_, rfl⟩
      rw [← g8] at A8 D8 st8
      have g_b8 : n0 ≤ b8 := Nat.le_trans Z0 (Nat.le_of_eq g8.symm)
      have sz_b8 : h0.size ≤ b8 := Nat.le_trans (Keep.refl h0 []).1 (Nat.le_of_eq g8.symm)
      have Z8 : n0 ≤ h8.size := Nat.le_trans Z0 E8.1
      have K8 : Keep h0 h8 [] := (Keep.refl h0 []).ext E8
      have F8_value : Fld Z h8 b8 "java/lang/Long" "value" "J" (.long (0 : Int64)) := D8 (Or.inr (hw _ (List.mem_of_getElem? (i := 44) rfl))) (ty := .long) (by decide)
      obtain ⟨_, _, ⟨T9, L9, k9, n9⟩, -, X9, ⟨Lc9, hQ9, l9, y9, z9⟩, st9⟩ := X8.specialBack hx (y := (⟨"java/lang/Long", "<init>", "(J)V"⟩ : MethodName)) rfl hown (mvT hZ (hw _ (List.mem_of_getElem? (i := 32) rfl))) (mvT hZ (hw _ (List.mem_of_getElem? (i := 33) rfl))) (mvT hZ (hw _ (List.mem_of_getElem? (i := 35) rfl))) (by decide) (backOf (W := 1) (rm5 l Z a0 hw [] b8 z  h8 n0 Z8 A8 g_b8 F8_value) hZ (hw _ (List.mem_of_getElem? (i := 35) rfl)) (hw _ (List.mem_of_getElem? (i := 17) rfl)) (by decide) (by decide)) (g := (mkF m 36 #[.val (.long z), .second, .val (.int (128 : Int32))] [(.long z), (.ref b8), (.ref b8)])) rfl (by rw [hml]; rfl) (Steps.refl _) (a := b8) (argsL := [(.long z)]) (rest := [(.ref b8)]) (lenOf own_pd1 rfl) rfl (by show 2 * 0 + _ ≤ _; exact Nat.le_of_eq rfl) (hb hby d3_36) (fun _ _ => ⟨rfl, e8, (by decide : 1 + 0 ≤ _), (by decide : 1 + 0 ≤ _)⟩)
      dsimp only [Pt.U, Pt.locs, Pt.cells, Pt.slots] at X9 l9 y9 z9 st9 hQ9
      subst l9 y9 z9
      obtain ⟨rfl, Nq9, Kq9, Eq9, Fq9_value⟩ := hQ9
      have N9 := Fr.app N0 Nq9
      have Z9 : n0 ≤ T9.heap.size := Nat.le_trans Z8 Kq9.1
      have K9 : Keep h0 T9.heap [] := K8.trans Kq9 (allS (Or.inr sz_b8) all0)
      have go10 : own_go p e below (s₁.setTop (entryFrame m #[(.long z)] 3)) (T9.setTop (mkF m 39 #[.val (.long z), .second, .val (.int (128 : Int32))] [(.ref b8)])) := by
        intro ttx ktx
        refine go6 ttx ?_
        show Steps p.tables e below (s₁.setTop (mkF m 17 #[.val (.long z), .second, .val (.int (128 : Int32))] [(.int (lcmpW z (127 : Int64)))])) _
        refine XS.ifYes X0.here hx rfl (pc0 := 17) (pc' := 31) rfl (hb hby d3_17) rfl ((if0 _ _).trans (tlt ((lw_gt z (127 : Int64)).mpr hc7_17)).2.2.1) (by decide) (by decide) ?_
        show Steps p.tables e below (s₁.setTop (mkF m 31 #[.val (.long z), .second, .val (.int (128 : Int32))] [])) _
        refine st8 _ ?_
        show Steps p.tables e below (T8.setTop (mkF m 34 #[.val (.long z), .second, .val (.int (128 : Int32))] [(.ref b8)])) _
        refine XS.dup X8.here hx rfl (hb hby d3_34) rfl rfl ?_
        show Steps p.tables e below (T8.setTop (mkF m 35 #[.val (.long z), .second, .val (.int (128 : Int32))] [(.ref b8), (.ref b8)])) _
        refine XS.lloadN X8.here hx rfl (hb hby d3_35) rfl ?_
        show Steps p.tables e below (T8.setTop (mkF m 36 #[.val (.long z), .second, .val (.int (128 : Int32))] [(.long z), (.ref b8), (.ref b8)])) _
        refine st9.trans ?_
        exact ktx
      obtain ⟨fs, hr, hrun, hended, hW, hsame⟩ := X9.leave (v := some (.ref b8)) (fun h => by rw [Bd.returns] at h; cases h)
      refine ⟨_, _, go10 _ ?_, hrun, hended, _, _, rfl, ?_, ⟨_, rfl⟩, hW, hsame.mono (by decide) (by decide)⟩
      · exact retOut X9 hx Bd.returns rfl (Or.inr (Or.inr (Or.inr (Or.inr ⟨rfl, rfl, rfl⟩)))) (hb hby d3_39) hr
      · show QVO Z z h0 n0 _ T9.heap _
        exact ⟨b8, rfl, N9, K9, Eq9, Fq9_value, fun x h1 h2 => Nat.ne_of_gt (Nat.lt_of_lt_of_le h2 sz_b8)⟩
    · obtain ⟨T11, X11, e11, st11⟩ := getS2 X0 hx hZ hown (host := "") (Or.inl (hw _ (List.mem_of_getElem? (i := 21) rfl))) Via.refl e0 S0 (g := (mkF m 20 #[.val (.long z), .second, .val (.int (128 : Int32))] [])) rfl (hb hby d3_20)
      have Ar12 := Ar0
      obtain ⟨hin12, bx, hat12, Ebx, Fbx⟩ := hcl z hc2_9 hc7_17
      have go13 : own_go p e below (s₁.setTop (entryFrame m #[(.long z)] 3)) (T11.setTop (mkF m 30 #[.val (.long z), .second, .val (.int (128 : Int32))] [(.ref bx)])) := by
        intro ttx ktx
        refine go6 ttx ?_
        show Steps p.tables e below (s₁.setTop (mkF m 17 #[.val (.long z), .second, .val (.int (128 : Int32))] [(.int (lcmpW z (127 : Int64)))])) _
        refine XS.ifNo X0.here hx rfl (hb hby d3_17) rfl ((if0 _ _).trans (flt (fun q => hc7_17 ((lw_gt z (127 : Int64)).mp q))).2.2.1) ?_
        show Steps p.tables e below (s₁.setTop (mkF m 20 #[.val (.long z), .second, .val (.int (128 : Int32))] [])) _
        refine st11 _ ?_
        show Steps p.tables e below (T11.setTop (mkF m 23 #[.val (.long z), .second, .val (.int (128 : Int32))] [(.ref tc)])) _
        refine XS.lloadN X11.here hx rfl (hb hby d3_23) rfl ?_
        show Steps p.tables e below (T11.setTop (mkF m 24 #[.val (.long z), .second, .val (.int (128 : Int32))] [(.long z), (.ref tc)])) _
        refine XS.l2i X11.here hx rfl (hb hby d3_24) rfl ?_
        show Steps p.tables e below (T11.setTop (mkF m 25 #[.val (.long z), .second, .val (.int (128 : Int32))] [(.int (z.toInt32)), (.ref tc)])) _
        refine XS.sipush X11.here hx rfl (hb hby d3_25) ?_
        show Steps p.tables e below (T11.setTop (mkF m 28 #[.val (.long z), .second, .val (.int (128 : Int32))] [(.int (128 : Int32)), (.int (z.toInt32)), (.ref tc)])) _
        refine XS.iadd X11.here hx rfl (hb hby d3_28) rfl ?_
        show Steps p.tables e below (T11.setTop (mkF m 29 #[.val (.long z), .second, .val (.int (128 : Int32))] [(.int ((z.toInt32) + (128 : Int32))), (.ref tc)])) _
        refine X11.aaload hx (j := ((z.toInt32) + (128 : Int32))) (v := (.ref bx)) (by rw [e11]; exact Ar12.1) (State.isArrayOf_alike hZ.alike Ar12.2.1) rfl Ar12.2.2 hin12 hat12 (g := (mkF m 29 #[.val (.long z), .second, .val (.int (128 : Int32))] [(.int ((z.toInt32) + (128 : Int32))), (.ref tc)])) rfl rfl (hb hby d3_29) _ ?_
        exact ktx
      obtain ⟨fs, hr, hrun, hended, hW, hsame⟩ := X11.leave (v := some (.ref bx)) (fun h => by rw [Bd.returns] at h; cases h)
      refine ⟨_, _, go13 _ ?_, hrun, hended, _, _, rfl, ?_, ⟨_, rfl⟩, hW, hsame.mono (by decide) (by decide)⟩
      · exact retOut X11 hx Bd.returns rfl (Or.inr (Or.inr (Or.inr (Or.inr ⟨rfl, rfl, rfl⟩)))) (hb hby d3_30) hr
      · show QVO Z z h0 n0 _ T11.heap _
        rw [e11]
        exact ⟨bx, rfl, N0, Keep.refl h0 [], Ebx.ext O0.2, Fbx.ext O0.2, fun x h1 h2 => Nat.ne_of_lt (Nat.lt_of_lt_of_le Ebx.lt (O0.1 ▸ h1))⟩
theorem d4_0 : decode prog_29_method_5_code 0 = .ok (.aload_n 1, 1) := by decide +kernel
theorem d4_1 : decode prog_29_method_5_code 1 = .ok (.instanceof 8, 3) := by decide +kernel
theorem d4_4 : decode prog_29_method_5_code 4 = .ok (.ifCond .eq 47, 3) := by decide +kernel
theorem d4_7 : decode prog_29_method_5_code 7 = .ok (.aload_n 1, 1) := by decide +kernel
theorem d4_8 : decode prog_29_method_5_code 8 = .ok (.checkcast 8, 3) := by decide +kernel
theorem d4_11 : decode prog_29_method_5_code 11 = .ok (.astore_n 2, 1) := by decide +kernel
theorem d4_12 : decode prog_29_method_5_code 12 = .ok (.aload_n 0, 1) := by decide +kernel
theorem d4_13 : decode prog_29_method_5_code 13 = .ok (.getfield 7, 3) := by decide +kernel
theorem d4_16 : decode prog_29_method_5_code 16 = .ok (.aload_n 2, 1) := by decide +kernel
theorem d4_17 : decode prog_29_method_5_code 17 = .ok (.getfield 7, 3) := by decide +kernel
theorem d4_20 : decode prog_29_method_5_code 20 = .ok (.lcmp, 1) := by decide +kernel
theorem d4_21 : decode prog_29_method_5_code 21 = .ok (.ifCond .ne 30, 3) := by decide +kernel
theorem d4_24 : decode prog_29_method_5_code 24 = .ok (.aload_n 0, 1) := by decide +kernel
theorem d4_25 : decode prog_29_method_5_code 25 = .ok (.getfield 13, 3) := by decide +kernel
theorem d4_28 : decode prog_29_method_5_code 28 = .ok (.aload_n 2, 1) := by decide +kernel
theorem d4_29 : decode prog_29_method_5_code 29 = .ok (.getfield 13, 3) := by decide +kernel
theorem d4_32 : decode prog_29_method_5_code 32 = .ok (.lcmp, 1) := by decide +kernel
theorem d4_33 : decode prog_29_method_5_code 33 = .ok (.ifCond .ne 18, 3) := by decide +kernel
theorem d4_36 : decode prog_29_method_5_code 36 = .ok (.aload_n 0, 1) := by decide +kernel
theorem d4_37 : decode prog_29_method_5_code 37 = .ok (.getfield 16, 3) := by decide +kernel
theorem d4_40 : decode prog_29_method_5_code 40 = .ok (.aload_n 2, 1) := by decide +kernel
theorem d4_41 : decode prog_29_method_5_code 41 = .ok (.getfield 16, 3) := by decide +kernel
theorem d4_44 : decode prog_29_method_5_code 44 = .ok (.if_icmp .ne 7, 3) := by decide +kernel
theorem d4_47 : decode prog_29_method_5_code 47 = .ok (.iconst 1, 1) := by decide +kernel
theorem d4_48 : decode prog_29_method_5_code 48 = .ok (.goto 4, 3) := by decide +kernel
theorem d4_52 : decode prog_29_method_5_code 52 = .ok (.ireturn, 1) := by decide +kernel
theorem d4_51 : decode prog_29_method_5_code 51 = .ok (.iconst 0, 1) := by decide +kernel
theorem ef_EQ (m : MethodId) (x0 : Addr) (x1 : Addr) : entryFrame m #[(.ref x0), (.ref x1)] 3 = mkF m 0 #[.val (.ref x0), .val (.ref x1), .unset] [] := by first | (simp [entryFrame, mkF, argsToLocals, Value.category]; done) | rfl
def QEQ (Z : State) (a1 : Addr) (a2 : Addr) (x_id : Int64) (x_timeout : Int64) (x_global : Int32) (y_id : Int64) (y_timeout : Int64) (y_global : Int32) (h0 : Heap) (n0 : Nat) (v : Option Value) (h : Heap) (L : List Loc) : Prop := v = some (.int (if x_id = y_id then (if x_timeout = y_timeout then (if x_global = y_global then (1 : Int32) else (0 : Int32)) else (0 : Int32)) else (0 : Int32))) ∧ Fr n0 L ∧ h = h0
set_option maxRecDepth 65536 in
set_option maxHeartbeats 40000000 in
theorem rmEQ (l : Launch) (Z : State) (a0 : Array Value) (hw : ∀ d ∈ tables_1, d.before a0 Z = true) (ws : List Jvm.Cond) (a1 : Addr) (a2 : Addr) (x_id : Int64) (x_timeout : Int64) (x_global : Int32) (y_id : Int64) (y_timeout : Int64) (y_global : Int32) (h0 : Heap) (n0 : Nat) (Z0 : n0 ≤ h0.size) (E_a2 : Exa Z h0 a2 "com/example/wilt/wilt/session/Session") (F_id_a1 : Fld Z h0 a1 "com/example/wilt/wilt/session/Session" "id" "J" (.long x_id)) (F_timeout_a1 : Fld Z h0 a1 "com/example/wilt/wilt/session/Session" "timeout" "J" (.long x_timeout)) (F_global_a1 : Fld Z h0 a1 "com/example/wilt/wilt/session/Session" "global" "Z" (.int x_global)) (F_id_a2 : Fld Z h0 a2 "com/example/wilt/wilt/session/Session" "id" "J" (.long y_id)) (F_timeout_a2 : Fld Z h0 a2 "com/example/wilt/wilt/session/Session" "timeout" "J" (.long y_timeout)) (F_global_a2 : Fld Z h0 a2 "com/example/wilt/wilt/session/Session" "global" "Z" (.int y_global)) :
    MetFree l (⟨"com/example/wilt/wilt/session/Session", "equals", "(Ljava/lang/Object;)Z"⟩ : MethodName) (head1 (Jvm.Cond.code (⟨"com/example/wilt/wilt/session/Session", "equals", "(Ljava/lang/Object;)Z"⟩ : MethodName) prog_29_method_5_code 3 (some .boolean) :: ws) ({ frames := 0, cells := 0, slots := 0, locals := 0 } : Room)) (fun aax UU => aax = #[(.ref a1), (.ref a2)] ∧ Z.Warmed39 UU.vm ∧ UU.heap = h0) (fun _ _ _ _ _ => True) (fun _ UU oux UU' => ∃ rvx Lrx, oux = .returned rvx ∧ QEQ Z a1 a2 x_id x_timeout x_global y_id y_timeout y_global h0 n0 rvx UU'.heap Lrx ∧ FrameEnd UU oux UU' Lrx ({ frames := 0, cells := 0, slots := 0, locals := 0 } : Room).cells ({ frames := 0, cells := 0, slots := 0, locals := 0 } : Room).slots) := by
  refine MetFree.of_bodySF (plainFor_of_name own_pn_com_example_wilt_wilt_session_Session) hisR ?_
  intro p e s m args below meth c s₁ Bd hml0 hP hK
  obtain ⟨rfl, hZ, hh⟩ := hP
  have hx := Bd.exec
  have hby := Bd.bytes
  have hml : c.maxLocals = 3 := hml0
  have hown : s.vm.findClass "com/example/wilt/wilt/session/Session" = some m.cls := findClass_of_methodNamed Bd.named
  have hnm := (name_of_methodNamed Bd.named Bd.method).1
  have X0 : Stand p l e ({ frames := 0, cells := 0, slots := 0, locals := 0 } : Room) s m #[(.ref a1), (.ref a2)] below meth c s₁ [] 0 0 := Stand.of_body Bd
  have e0 : s₁.heap = h0 := by rw [← hh, Bd.state]; rfl
  have N0 := Fr.nil n0
  have p0 : own_go p e below (s₁.setTop (entryFrame m #[(.ref a1), (.ref a2)] 3)) (s₁.setTop (mkF m 0 #[.val (.ref a1), .val (.ref a2), .unset] [])) := fun t k => castTop (ef_EQ m a1 a2) k
  obtain ⟨T1, X1, e1, st1⟩ := instY X0 hx hZ hown (hw _ (List.mem_of_getElem? (i := 28) rfl)) e0 (Ins.self E_a2) (g := (mkF m 1 #[.val (.ref a1), .val (.ref a2), .unset] [(.ref a2)])) rfl rfl (hb hby d4_1)
  have hc2_4 : ¬ ((1 : Int32) = (0 : Int32)) := (by decide)
  obtain ⟨T3, X3, e3, st3⟩ := castY X1 hx hZ hown (hw _ (List.mem_of_getElem? (i := 28) rfl)) e1 (Ins.self E_a2) (g := (mkF m 8 #[.val (.ref a1), .val (.ref a2), .unset] [(.ref a2)])) rfl rfl (hb hby d4_8)
  obtain ⟨T4, X4, e4, st4⟩ := getF X3 hx hZ hown (host := "") (Or.inl (hw _ (List.mem_of_getElem? (i := 9) rfl))) Via.refl e3 F_id_a1 (g := (mkF m 13 #[.val (.ref a1), .val (.ref a2), .val (.ref a2)] [(.ref a1)])) rfl rfl (hb hby d4_13)
  obtain ⟨T5, X5, e5, st5⟩ := getF X4 hx hZ hown (host := "") (Or.inl (hw _ (List.mem_of_getElem? (i := 9) rfl))) Via.refl e4 F_id_a2 (g := (mkF m 17 #[.val (.ref a1), .val (.ref a2), .val (.ref a2)] [(.ref a2), (.long x_id)])) rfl rfl (hb hby d4_17)
  have go6 : own_go p e below (s₁.setTop (entryFrame m #[(.ref a1), (.ref a2)] 3)) (T5.setTop (mkF m 21 #[.val (.ref a1), .val (.ref a2), .val (.ref a2)] [(.int (lcmpW x_id y_id))])) := by
    intro ttx ktx
    refine p0 ttx ?_
    show Steps p.tables e below (s₁.setTop (mkF m 0 #[.val (.ref a1), .val (.ref a2), .unset] [])) _
    refine XS.aloadN X0.here hx rfl (hb hby d4_0) rfl rfl ?_
    show Steps p.tables e below (s₁.setTop (mkF m 1 #[.val (.ref a1), .val (.ref a2), .unset] [(.ref a2)])) _
    refine st1 _ ?_
    show Steps p.tables e below (T1.setTop (mkF m 4 #[.val (.ref a1), .val (.ref a2), .unset] [(.int (1 : Int32))])) _
    refine XS.ifNo X1.here hx rfl (hb hby d4_4) rfl ((if0 _ _).trans (feq hc2_4).1) ?_
    show Steps p.tables e below (T1.setTop (mkF m 7 #[.val (.ref a1), .val (.ref a2), .unset] [])) _
    refine XS.aloadN X1.here hx rfl (hb hby d4_7) rfl rfl ?_
    show Steps p.tables e below (T1.setTop (mkF m 8 #[.val (.ref a1), .val (.ref a2), .unset] [(.ref a2)])) _
    refine st3 _ ?_
    show Steps p.tables e below (T3.setTop (mkF m 11 #[.val (.ref a1), .val (.ref a2), .unset] [(.ref a2)])) _
    refine XS.astoreN X3.here hx rfl (hb hby d4_11) rfl rfl (l' := #[.val (.ref a1), .val (.ref a2), .val (.ref a2)]) rfl ?_
    show Steps p.tables e below (T3.setTop (mkF m 12 #[.val (.ref a1), .val (.ref a2), .val (.ref a2)] [])) _
    refine XS.aloadN X3.here hx rfl (hb hby d4_12) rfl rfl ?_
    show Steps p.tables e below (T3.setTop (mkF m 13 #[.val (.ref a1), .val (.ref a2), .val (.ref a2)] [(.ref a1)])) _
    refine st4 _ ?_
    show Steps p.tables e below (T4.setTop (mkF m 16 #[.val (.ref a1), .val (.ref a2), .val (.ref a2)] [(.long x_id)])) _
    refine XS.aloadN X4.here hx rfl (hb hby d4_16) rfl rfl ?_
    show Steps p.tables e below (T4.setTop (mkF m 17 #[.val (.ref a1), .val (.ref a2), .val (.ref a2)] [(.ref a2), (.long x_id)])) _
    refine st5 _ ?_
    show Steps p.tables e below (T5.setTop (mkF m 20 #[.val (.ref a1), .val (.ref a2), .val (.ref a2)] [(.long y_id), (.long x_id)])) _
    refine XS.lcmp X5.here hx rfl (hb hby d4_20) rfl ?_
    exact ktx
  by_cases hc7_21 : x_id = y_id
  · obtain ⟨T8, X8, e8, st8⟩ := getF X5 hx hZ hown (host := "") (Or.inl (hw _ (List.mem_of_getElem? (i := 11) rfl))) Via.refl e5 F_timeout_a1 (g := (mkF m 25 #[.val (.ref a1), .val (.ref a2), .val (.ref a2)] [(.ref a1)])) rfl rfl (hb hby d4_25)
    obtain ⟨T9, X9, e9, st9⟩ := getF X8 hx hZ hown (host := "") (Or.inl (hw _ (List.mem_of_getElem? (i := 11) rfl))) Via.refl e8 F_timeout_a2 (g := (mkF m 29 #[.val (.ref a1), .val (.ref a2), .val (.ref a2)] [(.ref a2), (.long x_timeout)])) rfl rfl (hb hby d4_29)
    have go10 : own_go p e below (s₁.setTop (entryFrame m #[(.ref a1), (.ref a2)] 3)) (T9.setTop (mkF m 33 #[.val (.ref a1), .val (.ref a2), .val (.ref a2)] [(.int (lcmpW x_timeout y_timeout))])) := by
      intro ttx ktx
      refine go6 ttx ?_
      show Steps p.tables e below (T5.setTop (mkF m 21 #[.val (.ref a1), .val (.ref a2), .val (.ref a2)] [(.int (lcmpW x_id y_id))])) _
      refine XS.ifNo X5.here hx rfl (hb hby d4_21) rfl ((if0 _ _).trans (teq ((lw_eq x_id y_id).mpr hc7_21)).2) ?_
      show Steps p.tables e below (T5.setTop (mkF m 24 #[.val (.ref a1), .val (.ref a2), .val (.ref a2)] [])) _
      refine XS.aloadN X5.here hx rfl (hb hby d4_24) rfl rfl ?_
      show Steps p.tables e below (T5.setTop (mkF m 25 #[.val (.ref a1), .val (.ref a2), .val (.ref a2)] [(.ref a1)])) _
      refine st8 _ ?_
      show Steps p.tables e below (T8.setTop (mkF m 28 #[.val (.ref a1), .val (.ref a2), .val (.ref a2)] [(.long x_timeout)])) _
      refine XS.aloadN X8.here hx rfl (hb hby d4_28) rfl rfl ?_
      show Steps p.tables e below (T8.setTop (mkF m 29 #[.val (.ref a1), .val (.ref a2), .val (.ref a2)] [(.ref a2), (.long x_timeout)])) _
      refine st9 _ ?_
      show Steps p.tables e below (T9.setTop (mkF m 32 #[.val (.ref a1), .val (.ref a2), .val (.ref a2)] [(.long y_timeout), (.long x_timeout)])) _
      refine XS.lcmp X9.here hx rfl (hb hby d4_32) rfl ?_
      exact ktx
    by_cases hc11_33 : x_timeout = y_timeout
    · obtain ⟨T12, X12, e12, st12⟩ := getF X9 hx hZ hown (host := "") (Or.inl (hw _ (List.mem_of_getElem? (i := 13) rfl))) Via.refl e9 F_global_a1 (g := (mkF m 37 #[.val (.ref a1), .val (.ref a2), .val (.ref a2)] [(.ref a1)])) rfl rfl (hb hby d4_37)
      obtain ⟨T13, X13, e13, st13⟩ := getF X12 hx hZ hown (host := "") (Or.inl (hw _ (List.mem_of_getElem? (i := 13) rfl))) Via.refl e12 F_global_a2 (g := (mkF m 41 #[.val (.ref a1), .val (.ref a2), .val (.ref a2)] [(.ref a2), (.int x_global)])) rfl rfl (hb hby d4_41)
      have go14 : own_go p e below (s₁.setTop (entryFrame m #[(.ref a1), (.ref a2)] 3)) (T13.setTop (mkF m 44 #[.val (.ref a1), .val (.ref a2), .val (.ref a2)] [(.int y_global), (.int x_global)])) := by
        intro ttx ktx
        refine go10 ttx ?_
        show Steps p.tables e below (T9.setTop (mkF m 33 #[.val (.ref a1), .val (.ref a2), .val (.ref a2)] [(.int (lcmpW x_timeout y_timeout))])) _
        refine XS.ifNo X9.here hx rfl (hb hby d4_33) rfl ((if0 _ _).trans (teq ((lw_eq x_timeout y_timeout).mpr hc11_33)).2) ?_
        show Steps p.tables e below (T9.setTop (mkF m 36 #[.val (.ref a1), .val (.ref a2), .val (.ref a2)] [])) _
        refine XS.aloadN X9.here hx rfl (hb hby d4_36) rfl rfl ?_
        show Steps p.tables e below (T9.setTop (mkF m 37 #[.val (.ref a1), .val (.ref a2), .val (.ref a2)] [(.ref a1)])) _
        refine st12 _ ?_
        show Steps p.tables e below (T12.setTop (mkF m 40 #[.val (.ref a1), .val (.ref a2), .val (.ref a2)] [(.int x_global)])) _
        refine XS.aloadN X12.here hx rfl (hb hby d4_40) rfl rfl ?_
        show Steps p.tables e below (T12.setTop (mkF m 41 #[.val (.ref a1), .val (.ref a2), .val (.ref a2)] [(.ref a2), (.int x_global)])) _
        refine st13 _ ?_
        exact ktx
      by_cases hc15_44 : x_global = y_global
      · have go16 : own_go p e below (s₁.setTop (entryFrame m #[(.ref a1), (.ref a2)] 3)) (T13.setTop (mkF m 52 #[.val (.ref a1), .val (.ref a2), .val (.ref a2)] [(.int (1 : Int32))])) := by
          intro ttx ktx
          refine go14 ttx ?_
          show Steps p.tables e below (T13.setTop (mkF m 44 #[.val (.ref a1), .val (.ref a2), .val (.ref a2)] [(.int y_global), (.int x_global)])) _
          refine XS.icmpNo X13.here hx rfl (hb hby d4_44) rfl (teq hc15_44).2 ?_
          show Steps p.tables e below (T13.setTop (mkF m 47 #[.val (.ref a1), .val (.ref a2), .val (.ref a2)] [])) _
          refine XS.iconst X13.here hx rfl (hb hby d4_47) ?_
          show Steps p.tables e below (T13.setTop (mkF m 48 #[.val (.ref a1), .val (.ref a2), .val (.ref a2)] [(.int (1 : Int32))])) _
          refine XS.goto X13.here hx rfl (pc0 := 48) (pc' := 52) rfl (hb hby d4_48) (by decide) (by decide) ?_
          exact ktx
        obtain ⟨fs, hr, hrun, hended, hW, hsame⟩ := X13.leave (v := some (.int (1 : Int32))) (fun h => by rw [Bd.returns] at h; cases h)
        refine ⟨_, _, go16 _ ?_, hrun, hended, _, _, rfl, ?_, ⟨_, rfl⟩, hW, hsame.mono (by decide) (by decide)⟩
        · exact retN X13 hx (t := .boolean) Bd.returns (by simp) (hb hby d4_52) hr
        · show QEQ Z a1 a2 x_id x_timeout x_global y_id y_timeout y_global h0 n0 _ T13.heap _
          rw [e13]
          exact ⟨by simp [*], N0, rfl⟩
      · have go17 : own_go p e below (s₁.setTop (entryFrame m #[(.ref a1), (.ref a2)] 3)) (T13.setTop (mkF m 52 #[.val (.ref a1), .val (.ref a2), .val (.ref a2)] [(.int (0 : Int32))])) := by
          intro ttx ktx
          refine go14 ttx ?_
          show Steps p.tables e below (T13.setTop (mkF m 44 #[.val (.ref a1), .val (.ref a2), .val (.ref a2)] [(.int y_global), (.int x_global)])) _
          refine XS.icmpYes X13.here hx rfl (pc0 := 44) (pc' := 51) rfl (hb hby d4_44) rfl (feq hc15_44).2 (by decide) (by decide) ?_
          show Steps p.tables e below (T13.setTop (mkF m 51 #[.val (.ref a1), .val (.ref a2), .val (.ref a2)] [])) _
          refine XS.iconst X13.here hx rfl (hb hby d4_51) ?_
          exact ktx
        obtain ⟨fs, hr, hrun, hended, hW, hsame⟩ := X13.leave (v := some (.int (0 : Int32))) (fun h => by rw [Bd.returns] at h; cases h)
        refine ⟨_, _, go17 _ ?_, hrun, hended, _, _, rfl, ?_, ⟨_, rfl⟩, hW, hsame.mono (by decide) (by decide)⟩
        · exact retN X13 hx (t := .boolean) Bd.returns (by simp) (hb hby d4_52) hr
        · show QEQ Z a1 a2 x_id x_timeout x_global y_id y_timeout y_global h0 n0 _ T13.heap _
          rw [e13]
          exact ⟨by simp [*], N0, rfl⟩
    · have go18 : own_go p e below (s₁.setTop (entryFrame m #[(.ref a1), (.ref a2)] 3)) (T9.setTop (mkF m 52 #[.val (.ref a1), .val (.ref a2), .val (.ref a2)] [(.int (0 : Int32))])) := by
        intro ttx ktx
        refine go10 ttx ?_
        show Steps p.tables e below (T9.setTop (mkF m 33 #[.val (.ref a1), .val (.ref a2), .val (.ref a2)] [(.int (lcmpW x_timeout y_timeout))])) _
        refine XS.ifYes X9.here hx rfl (pc0 := 33) (pc' := 51) rfl (hb hby d4_33) rfl ((if0 _ _).trans (feq (fun q => hc11_33 ((lw_eq x_timeout y_timeout).mp q))).2) (by decide) (by decide) ?_
        show Steps p.tables e below (T9.setTop (mkF m 51 #[.val (.ref a1), .val (.ref a2), .val (.ref a2)] [])) _
        refine XS.iconst X9.here hx rfl (hb hby d4_51) ?_
        exact ktx
      obtain ⟨fs, hr, hrun, hended, hW, hsame⟩ := X9.leave (v := some (.int (0 : Int32))) (fun h => by rw [Bd.returns] at h; cases h)
      refine ⟨_, _, go18 _ ?_, hrun, hended, _, _, rfl, ?_, ⟨_, rfl⟩, hW, hsame.mono (by decide) (by decide)⟩
      · exact retN X9 hx (t := .boolean) Bd.returns (by simp) (hb hby d4_52) hr
      · show QEQ Z a1 a2 x_id x_timeout x_global y_id y_timeout y_global h0 n0 _ T9.heap _
        rw [e9]
        exact ⟨by simp [*], N0, rfl⟩
  · have go19 : own_go p e below (s₁.setTop (entryFrame m #[(.ref a1), (.ref a2)] 3)) (T5.setTop (mkF m 52 #[.val (.ref a1), .val (.ref a2), .val (.ref a2)] [(.int (0 : Int32))])) := by
      intro ttx ktx
      refine go6 ttx ?_
      show Steps p.tables e below (T5.setTop (mkF m 21 #[.val (.ref a1), .val (.ref a2), .val (.ref a2)] [(.int (lcmpW x_id y_id))])) _
      refine XS.ifYes X5.here hx rfl (pc0 := 21) (pc' := 51) rfl (hb hby d4_21) rfl ((if0 _ _).trans (feq (fun q => hc7_21 ((lw_eq x_id y_id).mp q))).2) (by decide) (by decide) ?_
      show Steps p.tables e below (T5.setTop (mkF m 51 #[.val (.ref a1), .val (.ref a2), .val (.ref a2)] [])) _
      refine XS.iconst X5.here hx rfl (hb hby d4_51) ?_
      exact ktx
    obtain ⟨fs, hr, hrun, hended, hW, hsame⟩ := X5.leave (v := some (.int (0 : Int32))) (fun h => by rw [Bd.returns] at h; cases h)
    refine ⟨_, _, go19 _ ?_, hrun, hended, _, _, rfl, ?_, ⟨_, rfl⟩, hW, hsame.mono (by decide) (by decide)⟩
    · exact retN X5 hx (t := .boolean) Bd.returns (by simp) (hb hby d4_52) hr
    · show QEQ Z a1 a2 x_id x_timeout x_global y_id y_timeout y_global h0 n0 _ T5.heap _
      rw [e5]
      exact ⟨by simp [*], N0, rfl⟩
theorem ef_EQN (m : MethodId) (x0 : Addr) : entryFrame m #[(.ref x0), .null] 3 = mkF m 0 #[.val (.ref x0), .val .null, .unset] [] := by first | (simp [entryFrame, mkF, argsToLocals, Value.category]; done) | rfl
def QEQN (Z : State) (a1 : Addr) (h0 : Heap) (n0 : Nat) (v : Option Value) (h : Heap) (L : List Loc) : Prop := v = some (.int (0 : Int32)) ∧ Fr n0 L ∧ h = h0
set_option maxRecDepth 65536 in
set_option maxHeartbeats 40000000 in
theorem rmEQN (l : Launch) (Z : State) (a0 : Array Value) (hw : ∀ d ∈ tables_1, d.before a0 Z = true) (ws : List Jvm.Cond) (a1 : Addr) (h0 : Heap) (n0 : Nat) (Z0 : n0 ≤ h0.size) :
    MetFree l (⟨"com/example/wilt/wilt/session/Session", "equals", "(Ljava/lang/Object;)Z"⟩ : MethodName) (head1 (Jvm.Cond.code (⟨"com/example/wilt/wilt/session/Session", "equals", "(Ljava/lang/Object;)Z"⟩ : MethodName) prog_29_method_5_code 3 (some .boolean) :: ws) ({ frames := 0, cells := 0, slots := 0, locals := 0 } : Room)) (fun aax UU => aax = #[(.ref a1), .null] ∧ Z.Warmed39 UU.vm ∧ UU.heap = h0) (fun _ _ _ _ _ => True) (fun _ UU oux UU' => ∃ rvx Lrx, oux = .returned rvx ∧ QEQN Z a1 h0 n0 rvx UU'.heap Lrx ∧ FrameEnd UU oux UU' Lrx ({ frames := 0, cells := 0, slots := 0, locals := 0 } : Room).cells ({ frames := 0, cells := 0, slots := 0, locals := 0 } : Room).slots) := by
  refine MetFree.of_bodySF (plainFor_of_name own_pn_com_example_wilt_wilt_session_Session) hisR ?_
  intro p e s m args below meth c s₁ Bd hml0 hP hK
  obtain ⟨rfl, hZ, hh⟩ := hP
  have hx := Bd.exec
  have hby := Bd.bytes
  have hml : c.maxLocals = 3 := hml0
  have hown : s.vm.findClass "com/example/wilt/wilt/session/Session" = some m.cls := findClass_of_methodNamed Bd.named
  have hnm := (name_of_methodNamed Bd.named Bd.method).1
  have X0 : Stand p l e ({ frames := 0, cells := 0, slots := 0, locals := 0 } : Room) s m #[(.ref a1), .null] below meth c s₁ [] 0 0 := Stand.of_body Bd
  have e0 : s₁.heap = h0 := by rw [← hh, Bd.state]; rfl
  have N0 := Fr.nil n0
  have p0 : own_go p e below (s₁.setTop (entryFrame m #[(.ref a1), .null] 3)) (s₁.setTop (mkF m 0 #[.val (.ref a1), .val .null, .unset] [])) := fun t k => castTop (ef_EQN m a1) k
  have hc1_4 : (0 : Int32) = (0 : Int32) := (by decide)
  have go2 : own_go p e below (s₁.setTop (entryFrame m #[(.ref a1), .null] 3)) (s₁.setTop (mkF m 52 #[.val (.ref a1), .val .null, .unset] [(.int (0 : Int32))])) := by
    intro ttx ktx
    refine p0 ttx ?_
    show Steps p.tables e below (s₁.setTop (mkF m 0 #[.val (.ref a1), .val .null, .unset] [])) _
    refine XS.aloadN X0.here hx rfl (hb hby d4_0) rfl rfl ?_
    show Steps p.tables e below (s₁.setTop (mkF m 1 #[.val (.ref a1), .val .null, .unset] [.null])) _
    refine X0.instanceofNull hx (g := (mkF m 1 #[.val (.ref a1), .val .null, .unset] [.null])) rfl rfl (hb hby d4_1) _ ?_
    show Steps p.tables e below (s₁.setTop (mkF m 4 #[.val (.ref a1), .val .null, .unset] [(.int (0 : Int32))])) _
    refine XS.ifYes X0.here hx rfl (pc0 := 4) (pc' := 51) rfl (hb hby d4_4) rfl ((if0 _ _).trans (teq hc1_4).1) (by decide) (by decide) ?_
    show Steps p.tables e below (s₁.setTop (mkF m 51 #[.val (.ref a1), .val .null, .unset] [])) _
    refine XS.iconst X0.here hx rfl (hb hby d4_51) ?_
    exact ktx
  obtain ⟨fs, hr, hrun, hended, hW, hsame⟩ := X0.leave (v := some (.int (0 : Int32))) (fun h => by rw [Bd.returns] at h; cases h)
  refine ⟨_, _, go2 _ ?_, hrun, hended, _, _, rfl, ?_, ⟨_, rfl⟩, hW, hsame.mono (by decide) (by decide)⟩
  · exact retN X0 hx (t := .boolean) Bd.returns (by simp) (hb hby d4_52) hr
  · show QEQN Z a1 h0 n0 _ s₁.heap _
    rw [e0]
    exact ⟨rfl, N0, rfl⟩
theorem ef_EQO (m : MethodId) (x0 : Addr) (x1 : Addr) : entryFrame m #[(.ref x0), (.ref x1)] 3 = mkF m 0 #[.val (.ref x0), .val (.ref x1), .unset] [] := by first | (simp [entryFrame, mkF, argsToLocals, Value.category]; done) | rfl
def QEQO (Z : State) (a1 : Addr) (a2 : Addr) (h0 : Heap) (n0 : Nat) (v : Option Value) (h : Heap) (L : List Loc) : Prop := v = some (.int (0 : Int32)) ∧ Fr n0 L ∧ h = h0
set_option maxRecDepth 65536 in
set_option maxHeartbeats 40000000 in
theorem rmEQO (l : Launch) (Z : State) (a0 : Array Value) (hw : ∀ d ∈ tables_1, d.before a0 Z = true) (ws : List Jvm.Cond) (a1 : Addr) (a2 : Addr) (h0 : Heap) (n0 : Nat) (Z0 : n0 ≤ h0.size) (E_a2 : Exa Z h0 a2 "java/lang/Long") :
    MetFree l (⟨"com/example/wilt/wilt/session/Session", "equals", "(Ljava/lang/Object;)Z"⟩ : MethodName) (head1 (Jvm.Cond.code (⟨"com/example/wilt/wilt/session/Session", "equals", "(Ljava/lang/Object;)Z"⟩ : MethodName) prog_29_method_5_code 3 (some .boolean) :: ws) ({ frames := 0, cells := 0, slots := 0, locals := 0 } : Room)) (fun aax UU => aax = #[(.ref a1), (.ref a2)] ∧ Z.Warmed39 UU.vm ∧ UU.heap = h0) (fun _ _ _ _ _ => True) (fun _ UU oux UU' => ∃ rvx Lrx, oux = .returned rvx ∧ QEQO Z a1 a2 h0 n0 rvx UU'.heap Lrx ∧ FrameEnd UU oux UU' Lrx ({ frames := 0, cells := 0, slots := 0, locals := 0 } : Room).cells ({ frames := 0, cells := 0, slots := 0, locals := 0 } : Room).slots) := by
  refine MetFree.of_bodySF (plainFor_of_name own_pn_com_example_wilt_wilt_session_Session) hisR ?_
  intro p e s m args below meth c s₁ Bd hml0 hP hK
  obtain ⟨rfl, hZ, hh⟩ := hP
  have hx := Bd.exec
  have hby := Bd.bytes
  have hml : c.maxLocals = 3 := hml0
  have hown : s.vm.findClass "com/example/wilt/wilt/session/Session" = some m.cls := findClass_of_methodNamed Bd.named
  have hnm := (name_of_methodNamed Bd.named Bd.method).1
  have X0 : Stand p l e ({ frames := 0, cells := 0, slots := 0, locals := 0 } : Room) s m #[(.ref a1), (.ref a2)] below meth c s₁ [] 0 0 := Stand.of_body Bd
  have e0 : s₁.heap = h0 := by rw [← hh, Bd.state]; rfl
  have N0 := Fr.nil n0
  have p0 : own_go p e below (s₁.setTop (entryFrame m #[(.ref a1), (.ref a2)] 3)) (s₁.setTop (mkF m 0 #[.val (.ref a1), .val (.ref a2), .unset] [])) := fun t k => castTop (ef_EQO m a1 a2) k
  obtain ⟨T1, X1, e1, st1⟩ := instNo X0 hx hZ hown (hw _ (List.mem_of_getElem? (i := 28) rfl)) e0 E_a2 (own_no (hw _ (List.mem_of_getElem? (i := 45) rfl)) (hw _ (List.mem_of_getElem? (i := 1) rfl)) (NS.step (hw _ (List.mem_of_getElem? (i := 45) rfl)) (NS.step (hw _ (List.mem_of_getElem? (i := 46) rfl)) (own_root (hw _ (List.mem_of_getElem? (i := 47) rfl)) (hw _ (List.mem_of_getElem? (i := 1) rfl)) (by decide)) (by decide)) (by decide)) (by decide)) (g := (mkF m 1 #[.val (.ref a1), .val (.ref a2), .unset] [(.ref a2)])) rfl rfl (hb hby d4_1)
  have hc2_4 : (0 : Int32) = (0 : Int32) := (by decide)
  have go3 : own_go p e below (s₁.setTop (entryFrame m #[(.ref a1), (.ref a2)] 3)) (T1.setTop (mkF m 52 #[.val (.ref a1), .val (.ref a2), .unset] [(.int (0 : Int32))])) := by
    intro ttx ktx
    refine p0 ttx ?_
    show Steps p.tables e below (s₁.setTop (mkF m 0 #[.val (.ref a1), .val (.ref a2), .unset] [])) _
    refine XS.aloadN X0.here hx rfl (hb hby d4_0) rfl rfl ?_
    show Steps p.tables e below (s₁.setTop (mkF m 1 #[.val (.ref a1), .val (.ref a2), .unset] [(.ref a2)])) _
    refine st1 _ ?_
    show Steps p.tables e below (T1.setTop (mkF m 4 #[.val (.ref a1), .val (.ref a2), .unset] [(.int (0 : Int32))])) _
    refine XS.ifYes X1.here hx rfl (pc0 := 4) (pc' := 51) rfl (hb hby d4_4) rfl ((if0 _ _).trans (teq hc2_4).1) (by decide) (by decide) ?_
    show Steps p.tables e below (T1.setTop (mkF m 51 #[.val (.ref a1), .val (.ref a2), .unset] [])) _
    refine XS.iconst X1.here hx rfl (hb hby d4_51) ?_
    exact ktx
  obtain ⟨fs, hr, hrun, hended, hW, hsame⟩ := X1.leave (v := some (.int (0 : Int32))) (fun h => by rw [Bd.returns] at h; cases h)
  refine ⟨_, _, go3 _ ?_, hrun, hended, _, _, rfl, ?_, ⟨_, rfl⟩, hW, hsame.mono (by decide) (by decide)⟩
  · exact retN X1 hx (t := .boolean) Bd.returns (by simp) (hb hby d4_52) hr
  · show QEQO Z a1 a2 h0 n0 _ T1.heap _
    rw [e1]
    exact ⟨rfl, N0, rfl⟩
theorem own_nb (x y : Int32) (hx : x = 0 ∨ x = 1) (hy : y = 0 ∨ y = 1) : (nar .boolean x = nar .boolean y) = (x = y) := by
  rcases hx with rfl | rfl <;> rcases hy with rfl | rfl <;> simp <;> decide
theorem own_e1 (a b c d : Int64) (x y : Int32) (hx : x = 0 ∨ x = 1) (hy : y = 0 ∨ y = 1) : (if a = b then (if c = d then (if nar .boolean x = nar .boolean y then (1 : Int32) else (0 : Int32)) else (0 : Int32)) else (0 : Int32)) = (if a = b then (if c = d then (if x = y then (1 : Int32) else (0 : Int32)) else (0 : Int32)) else (0 : Int32)) := by
  simp only [own_nb x y hx hy]
theorem own_e2 (a b c d : Int64) (x y : Int32) (hx : x = 0 ∨ x = 1) (hy : y = 0 ∨ y = 1) : (if b = a then (if d = c then (if nar .boolean y = nar .boolean x then (1 : Int32) else (0 : Int32)) else (0 : Int32)) else (0 : Int32)) = (if a = b then (if c = d then (if x = y then (1 : Int32) else (0 : Int32)) else (0 : Int32)) else (0 : Int32)) := by
  rw [own_e1 b a d c y x hy hx]
  simp only [eq_comm]
theorem own_01 (P : Prop) [Decidable P] (x : Int32) (h : x = if P then (0 : Int32) else (1 : Int32)) : x = 0 ∨ x = 1 := by subst h; split <;> simp
theorem own_pd2 : parseMethodDescriptor "(JJZ)V" = some ⟨[.long, .long, .boolean], none⟩ := by decide +kernel
theorem own_pd3 : parseMethodDescriptor "(J)Ljava/lang/Long;" = some ⟨[.long], some (.object "java/lang/Long")⟩ := by decide +kernel
theorem own_pd4 : parseMethodDescriptor "(Ljava/lang/Object;)Z" = some ⟨[(.object "java/lang/Object")], some .boolean⟩ := by decide +kernel
theorem own_pn_com_example_wilt_wilt_session_SessionEqualsPinLaw : plainName "com/example/wilt/wilt/session/SessionEqualsPinLaw" = true := by first | (simp [plainName, overriddenIn]; done) | decide +kernel
theorem ef_0 (m : MethodId) (x0 : Int64) (x1 : Int64) (x2 : Int64) (x3 : Int64) (x4 : Int32) : entryFrame m #[(.long x0), (.long x1), (.long x2), (.long x3), (.int x4)] maxLocals = mkF m 0 #[.val (.long x0), .second, .val (.long x1), .second, .val (.long x2), .second, .val (.long x3), .second, .val (.int x4), .unset, .unset, .unset, .unset, .unset, .unset, .unset, .unset, .unset, .unset, .unset, .unset] [] := by first | (simp [entryFrame, mkF, argsToLocals, Value.category, maxLocals]; done) | rfl
def Q0 (Z : State) (q1 : Int64) (q2 : Int64) (q3 : Int64) (q4 : Int64) (p5 : Int32) (h0 : Heap) (n0 : Nat) (v : Option Value) (h : Heap) (L : List Loc) : Prop := v = some (.int 1) ∧ Fr n0 L
set_option maxRecDepth 65536 in
set_option maxHeartbeats 40000000 in
theorem rm0 (l : Launch) (Z : State) (a0 : Array Value) (hw : ∀ d ∈ tables_1, d.before a0 Z = true) (ws : List Jvm.Cond) (q1 : Int64) (q2 : Int64) (q3 : Int64) (q4 : Int64) (p5 : Int32) (h0 : Heap) (n0 : Nat) (Z0 : n0 ≤ h0.size) (O0 : Old Z n0 h0) (hcache : own_cache Z) :
    MetFree l x (head1 (Jvm.Cond.code x code maxLocals ret :: ws) room_1) (fun aax UU => aax = #[(.long q1), (.long q2), (.long q3), (.long q4), (.int p5)] ∧ Z.Warmed39 UU.vm ∧ UU.heap = h0) (fun _ _ _ _ _ => True) (fun _ UU oux UU' => ∃ rvx Lrx, oux = .returned rvx ∧ Q0 Z q1 q2 q3 q4 p5 h0 n0 rvx UU'.heap Lrx ∧ FrameEnd UU oux UU' Lrx 16 128) := by
  refine MetFree.of_bodySF (plainFor_of_name own_pn_com_example_wilt_wilt_session_SessionEqualsPinLaw) hisR ?_
  intro p e s m args below meth c s₁ Bd hml0 hP hK
  obtain ⟨rfl, hZ, hh⟩ := hP
  have hx := Bd.exec
  have hby := Bd.bytes
  have hml : c.maxLocals = 21 := hml0
  have hown : s.vm.findClass "com/example/wilt/wilt/session/SessionEqualsPinLaw" = some m.cls := findClass_of_methodNamed Bd.named
  have hnm := (name_of_methodNamed Bd.named Bd.method).1
  have X0 : Stand p l e room_1 s m #[(.long q1), (.long q2), (.long q3), (.long q4), (.int p5)] below meth c s₁ [] 0 0 := Stand.of_body Bd
  have e0 : s₁.heap = h0 := by rw [← hh, Bd.state]; rfl
  have N0 := Fr.nil n0
  have p0 : own_go p e below (s₁.setTop (entryFrame m #[(.long q1), (.long q2), (.long q3), (.long q4), (.int p5)] maxLocals)) (s₁.setTop (mkF m 0 #[.val (.long q1), .second, .val (.long q2), .second, .val (.long q3), .second, .val (.long q4), .second, .val (.int p5), .unset, .unset, .unset, .unset, .unset, .unset, .unset, .unset, .unset, .unset, .unset, .unset] [])) := fun t k => castTop (ef_0 m q1 q2 q3 q4 p5) k
  have go1 : own_go p e below (s₁.setTop (entryFrame m #[(.long q1), (.long q2), (.long q3), (.long q4), (.int p5)] maxLocals)) (s₁.setTop (mkF m 4 #[.val (.long q1), .second, .val (.long q2), .second, .val (.long q3), .second, .val (.long q4), .second, .val (.int p5), .unset, .unset, .unset, .unset, .unset, .unset, .unset, .unset, .unset, .unset, .unset, .unset] [(.int (p5 &&& (1 : Int32)))])) := by
    intro ttx ktx
    refine p0 ttx ?_
    show Steps p.tables e below (s₁.setTop (mkF m 0 #[.val (.long q1), .second, .val (.long q2), .second, .val (.long q3), .second, .val (.long q4), .second, .val (.int p5), .unset, .unset, .unset, .unset, .unset, .unset, .unset, .unset, .unset, .unset, .unset, .unset] [])) _
    refine XS.iload X0.here hx rfl (hb hby at_0) rfl ?_
    show Steps p.tables e below (s₁.setTop (mkF m 2 #[.val (.long q1), .second, .val (.long q2), .second, .val (.long q3), .second, .val (.long q4), .second, .val (.int p5), .unset, .unset, .unset, .unset, .unset, .unset, .unset, .unset, .unset, .unset, .unset, .unset] [(.int p5)])) _
    refine XS.iconst X0.here hx rfl (hb hby at_2) ?_
    show Steps p.tables e below (s₁.setTop (mkF m 3 #[.val (.long q1), .second, .val (.long q2), .second, .val (.long q3), .second, .val (.long q4), .second, .val (.int p5), .unset, .unset, .unset, .unset, .unset, .unset, .unset, .unset, .unset, .unset, .unset, .unset] [(.int (1 : Int32)), (.int p5)])) _
    refine XS.iand X0.here hx rfl (hb hby at_3) rfl ?_
    exact ktx
  obtain ⟨v5, hv_v5, go6⟩ : ∃ (v5 : Int32), v5 = (if (p5 &&& (1 : Int32)) = (0 : Int32) then (0 : Int32) else (1 : Int32)) ∧ own_go p e below (s₁.setTop (entryFrame m #[(.long q1), (.long q2), (.long q3), (.long q4), (.int p5)] maxLocals)) (s₁.setTop (mkF m 12 #[.val (.long q1), .second, .val (.long q2), .second, .val (.long q3), .second, .val (.long q4), .second, .val (.int p5), .unset, .unset, .unset, .unset, .unset, .unset, .unset, .unset, .unset, .unset, .unset, .unset] [(.int v5)])) := by
    by_cases hc2_4 : (p5 &&& (1 : Int32)) = (0 : Int32)
    · have go3 : own_go p e below (s₁.setTop (entryFrame m #[(.long q1), (.long q2), (.long q3), (.long q4), (.int p5)] maxLocals)) (s₁.setTop (mkF m 12 #[.val (.long q1), .second, .val (.long q2), .second, .val (.long q3), .second, .val (.long q4), .second, .val (.int p5), .unset, .unset, .unset, .unset, .unset, .unset, .unset, .unset, .unset, .unset, .unset, .unset] [(.int (0 : Int32))])) := by
        intro ttx ktx
        refine go1 ttx ?_
        show Steps p.tables e below (s₁.setTop (mkF m 4 #[.val (.long q1), .second, .val (.long q2), .second, .val (.long q3), .second, .val (.long q4), .second, .val (.int p5), .unset, .unset, .unset, .unset, .unset, .unset, .unset, .unset, .unset, .unset, .unset, .unset] [(.int (p5 &&& (1 : Int32)))])) _
        refine XS.ifYes X0.here hx rfl (pc0 := 4) (pc' := 11) rfl (hb hby at_4) rfl ((if0 _ _).trans (teq hc2_4).1) (by decide) (by decide) ?_
        show Steps p.tables e below (s₁.setTop (mkF m 11 #[.val (.long q1), .second, .val (.long q2), .second, .val (.long q3), .second, .val (.long q4), .second, .val (.int p5), .unset, .unset, .unset, .unset, .unset, .unset, .unset, .unset, .unset, .unset, .unset, .unset] [])) _
        refine XS.iconst X0.here hx rfl (hb hby at_11) ?_
        exact ktx
      exact ⟨_, (if_pos hc2_4).symm, go3⟩
    · have go4 : own_go p e below (s₁.setTop (entryFrame m #[(.long q1), (.long q2), (.long q3), (.long q4), (.int p5)] maxLocals)) (s₁.setTop (mkF m 12 #[.val (.long q1), .second, .val (.long q2), .second, .val (.long q3), .second, .val (.long q4), .second, .val (.int p5), .unset, .unset, .unset, .unset, .unset, .unset, .unset, .unset, .unset, .unset, .unset, .unset] [(.int (1 : Int32))])) := by
        intro ttx ktx
        refine go1 ttx ?_
        show Steps p.tables e below (s₁.setTop (mkF m 4 #[.val (.long q1), .second, .val (.long q2), .second, .val (.long q3), .second, .val (.long q4), .second, .val (.int p5), .unset, .unset, .unset, .unset, .unset, .unset, .unset, .unset, .unset, .unset, .unset, .unset] [(.int (p5 &&& (1 : Int32)))])) _
        refine XS.ifNo X0.here hx rfl (hb hby at_4) rfl ((if0 _ _).trans (feq hc2_4).1) ?_
        show Steps p.tables e below (s₁.setTop (mkF m 7 #[.val (.long q1), .second, .val (.long q2), .second, .val (.long q3), .second, .val (.long q4), .second, .val (.int p5), .unset, .unset, .unset, .unset, .unset, .unset, .unset, .unset, .unset, .unset, .unset, .unset] [])) _
        refine XS.iconst X0.here hx rfl (hb hby at_7) ?_
        show Steps p.tables e below (s₁.setTop (mkF m 8 #[.val (.long q1), .second, .val (.long q2), .second, .val (.long q3), .second, .val (.long q4), .second, .val (.int p5), .unset, .unset, .unset, .unset, .unset, .unset, .unset, .unset, .unset, .unset, .unset, .unset] [(.int (1 : Int32))])) _
        refine XS.goto X0.here hx rfl (pc0 := 8) (pc' := 12) rfl (hb hby at_8) (by decide) (by decide) ?_
        exact ktx
      exact ⟨_, (if_neg hc2_4).symm, go4⟩
  have go7 : own_go p e below (s₁.setTop (entryFrame m #[(.long q1), (.long q2), (.long q3), (.long q4), (.int p5)] maxLocals)) (s₁.setTop (mkF m 18 #[.val (.long q1), .second, .val (.long q2), .second, .val (.long q3), .second, .val (.long q4), .second, .val (.int p5), .val (.int v5), .unset, .unset, .unset, .unset, .unset, .unset, .unset, .unset, .unset, .unset, .unset] [(.int (p5 &&& (2 : Int32)))])) := by
    intro ttx ktx
    refine go6 ttx ?_
    show Steps p.tables e below (s₁.setTop (mkF m 12 #[.val (.long q1), .second, .val (.long q2), .second, .val (.long q3), .second, .val (.long q4), .second, .val (.int p5), .unset, .unset, .unset, .unset, .unset, .unset, .unset, .unset, .unset, .unset, .unset, .unset] [(.int v5)])) _
    refine XS.istore X0.here hx rfl (hb hby at_12) rfl (l' := #[.val (.long q1), .second, .val (.long q2), .second, .val (.long q3), .second, .val (.long q4), .second, .val (.int p5), .val (.int v5), .unset, .unset, .unset, .unset, .unset, .unset, .unset, .unset, .unset, .unset, .unset]) rfl ?_
    show Steps p.tables e below (s₁.setTop (mkF m 14 #[.val (.long q1), .second, .val (.long q2), .second, .val (.long q3), .second, .val (.long q4), .second, .val (.int p5), .val (.int v5), .unset, .unset, .unset, .unset, .unset, .unset, .unset, .unset, .unset, .unset, .unset] [])) _
    refine XS.iload X0.here hx rfl (hb hby at_14) rfl ?_
    show Steps p.tables e below (s₁.setTop (mkF m 16 #[.val (.long q1), .second, .val (.long q2), .second, .val (.long q3), .second, .val (.long q4), .second, .val (.int p5), .val (.int v5), .unset, .unset, .unset, .unset, .unset, .unset, .unset, .unset, .unset, .unset, .unset] [(.int p5)])) _
    refine XS.iconst X0.here hx rfl (hb hby at_16) ?_
    show Steps p.tables e below (s₁.setTop (mkF m 17 #[.val (.long q1), .second, .val (.long q2), .second, .val (.long q3), .second, .val (.long q4), .second, .val (.int p5), .val (.int v5), .unset, .unset, .unset, .unset, .unset, .unset, .unset, .unset, .unset, .unset, .unset] [(.int (2 : Int32)), (.int p5)])) _
    refine XS.iand X0.here hx rfl (hb hby at_17) rfl ?_
    exact ktx
  obtain ⟨v11, hv_v11, go12⟩ : ∃ (v11 : Int32), v11 = (if (p5 &&& (2 : Int32)) = (0 : Int32) then (0 : Int32) else (1 : Int32)) ∧ own_go p e below (s₁.setTop (entryFrame m #[(.long q1), (.long q2), (.long q3), (.long q4), (.int p5)] maxLocals)) (s₁.setTop (mkF m 26 #[.val (.long q1), .second, .val (.long q2), .second, .val (.long q3), .second, .val (.long q4), .second, .val (.int p5), .val (.int v5), .unset, .unset, .unset, .unset, .unset, .unset, .unset, .unset, .unset, .unset, .unset] [(.int v11)])) := by
    by_cases hc8_18 : (p5 &&& (2 : Int32)) = (0 : Int32)
    · have go9 : own_go p e below (s₁.setTop (entryFrame m #[(.long q1), (.long q2), (.long q3), (.long q4), (.int p5)] maxLocals)) (s₁.setTop (mkF m 26 #[.val (.long q1), .second, .val (.long q2), .second, .val (.long q3), .second, .val (.long q4), .second, .val (.int p5), .val (.int v5), .unset, .unset, .unset, .unset, .unset, .unset, .unset, .unset, .unset, .unset, .unset] [(.int (0 : Int32))])) := by
        intro ttx ktx
        refine go7 ttx ?_
        show Steps p.tables e below (s₁.setTop (mkF m 18 #[.val (.long q1), .second, .val (.long q2), .second, .val (.long q3), .second, .val (.long q4), .second, .val (.int p5), .val (.int v5), .unset, .unset, .unset, .unset, .unset, .unset, .unset, .unset, .unset, .unset, .unset] [(.int (p5 &&& (2 : Int32)))])) _
        refine XS.ifYes X0.here hx rfl (pc0 := 18) (pc' := 25) rfl (hb hby at_18) rfl ((if0 _ _).trans (teq hc8_18).1) (by decide) (by decide) ?_
        show Steps p.tables e below (s₁.setTop (mkF m 25 #[.val (.long q1), .second, .val (.long q2), .second, .val (.long q3), .second, .val (.long q4), .second, .val (.int p5), .val (.int v5), .unset, .unset, .unset, .unset, .unset, .unset, .unset, .unset, .unset, .unset, .unset] [])) _
        refine XS.iconst X0.here hx rfl (hb hby at_25) ?_
        exact ktx
      exact ⟨_, (if_pos hc8_18).symm, go9⟩
    · have go10 : own_go p e below (s₁.setTop (entryFrame m #[(.long q1), (.long q2), (.long q3), (.long q4), (.int p5)] maxLocals)) (s₁.setTop (mkF m 26 #[.val (.long q1), .second, .val (.long q2), .second, .val (.long q3), .second, .val (.long q4), .second, .val (.int p5), .val (.int v5), .unset, .unset, .unset, .unset, .unset, .unset, .unset, .unset, .unset, .unset, .unset] [(.int (1 : Int32))])) := by
        intro ttx ktx
        refine go7 ttx ?_
        show Steps p.tables e below (s₁.setTop (mkF m 18 #[.val (.long q1), .second, .val (.long q2), .second, .val (.long q3), .second, .val (.long q4), .second, .val (.int p5), .val (.int v5), .unset, .unset, .unset, .unset, .unset, .unset, .unset, .unset, .unset, .unset, .unset] [(.int (p5 &&& (2 : Int32)))])) _
        refine XS.ifNo X0.here hx rfl (hb hby at_18) rfl ((if0 _ _).trans (feq hc8_18).1) ?_
        show Steps p.tables e below (s₁.setTop (mkF m 21 #[.val (.long q1), .second, .val (.long q2), .second, .val (.long q3), .second, .val (.long q4), .second, .val (.int p5), .val (.int v5), .unset, .unset, .unset, .unset, .unset, .unset, .unset, .unset, .unset, .unset, .unset] [])) _
        refine XS.iconst X0.here hx rfl (hb hby at_21) ?_
        show Steps p.tables e below (s₁.setTop (mkF m 22 #[.val (.long q1), .second, .val (.long q2), .second, .val (.long q3), .second, .val (.long q4), .second, .val (.int p5), .val (.int v5), .unset, .unset, .unset, .unset, .unset, .unset, .unset, .unset, .unset, .unset, .unset] [(.int (1 : Int32))])) _
        refine XS.goto X0.here hx rfl (pc0 := 22) (pc' := 26) rfl (hb hby at_22) (by decide) (by decide) ?_
        exact ktx
      exact ⟨_, (if_neg hc8_18).symm, go10⟩
  have go13 : own_go p e below (s₁.setTop (entryFrame m #[(.long q1), (.long q2), (.long q3), (.long q4), (.int p5)] maxLocals)) (s₁.setTop (mkF m 32 #[.val (.long q1), .second, .val (.long q2), .second, .val (.long q3), .second, .val (.long q4), .second, .val (.int p5), .val (.int v5), .val (.int v11), .unset, .unset, .unset, .unset, .unset, .unset, .unset, .unset, .unset, .unset] [(.int (p5 &&& (4 : Int32)))])) := by
    intro ttx ktx
    refine go12 ttx ?_
    show Steps p.tables e below (s₁.setTop (mkF m 26 #[.val (.long q1), .second, .val (.long q2), .second, .val (.long q3), .second, .val (.long q4), .second, .val (.int p5), .val (.int v5), .unset, .unset, .unset, .unset, .unset, .unset, .unset, .unset, .unset, .unset, .unset] [(.int v11)])) _
    refine XS.istore X0.here hx rfl (hb hby at_26) rfl (l' := #[.val (.long q1), .second, .val (.long q2), .second, .val (.long q3), .second, .val (.long q4), .second, .val (.int p5), .val (.int v5), .val (.int v11), .unset, .unset, .unset, .unset, .unset, .unset, .unset, .unset, .unset, .unset]) rfl ?_
    show Steps p.tables e below (s₁.setTop (mkF m 28 #[.val (.long q1), .second, .val (.long q2), .second, .val (.long q3), .second, .val (.long q4), .second, .val (.int p5), .val (.int v5), .val (.int v11), .unset, .unset, .unset, .unset, .unset, .unset, .unset, .unset, .unset, .unset] [])) _
    refine XS.iload X0.here hx rfl (hb hby at_28) rfl ?_
    show Steps p.tables e below (s₁.setTop (mkF m 30 #[.val (.long q1), .second, .val (.long q2), .second, .val (.long q3), .second, .val (.long q4), .second, .val (.int p5), .val (.int v5), .val (.int v11), .unset, .unset, .unset, .unset, .unset, .unset, .unset, .unset, .unset, .unset] [(.int p5)])) _
    refine XS.iconst X0.here hx rfl (hb hby at_30) ?_
    show Steps p.tables e below (s₁.setTop (mkF m 31 #[.val (.long q1), .second, .val (.long q2), .second, .val (.long q3), .second, .val (.long q4), .second, .val (.int p5), .val (.int v5), .val (.int v11), .unset, .unset, .unset, .unset, .unset, .unset, .unset, .unset, .unset, .unset] [(.int (4 : Int32)), (.int p5)])) _
    refine XS.iand X0.here hx rfl (hb hby at_31) rfl ?_
    exact ktx
  obtain ⟨v17, hv_v17, go18⟩ : ∃ (v17 : Int64), v17 = (if (p5 &&& (4 : Int32)) = (0 : Int32) then q2 else q1) ∧ own_go p e below (s₁.setTop (entryFrame m #[(.long q1), (.long q2), (.long q3), (.long q4), (.int p5)] maxLocals)) (s₁.setTop (mkF m 40 #[.val (.long q1), .second, .val (.long q2), .second, .val (.long q3), .second, .val (.long q4), .second, .val (.int p5), .val (.int v5), .val (.int v11), .unset, .unset, .unset, .unset, .unset, .unset, .unset, .unset, .unset, .unset] [(.long v17)])) := by
    by_cases hc14_32 : (p5 &&& (4 : Int32)) = (0 : Int32)
    · have go15 : own_go p e below (s₁.setTop (entryFrame m #[(.long q1), (.long q2), (.long q3), (.long q4), (.int p5)] maxLocals)) (s₁.setTop (mkF m 40 #[.val (.long q1), .second, .val (.long q2), .second, .val (.long q3), .second, .val (.long q4), .second, .val (.int p5), .val (.int v5), .val (.int v11), .unset, .unset, .unset, .unset, .unset, .unset, .unset, .unset, .unset, .unset] [(.long q2)])) := by
        intro ttx ktx
        refine go13 ttx ?_
        show Steps p.tables e below (s₁.setTop (mkF m 32 #[.val (.long q1), .second, .val (.long q2), .second, .val (.long q3), .second, .val (.long q4), .second, .val (.int p5), .val (.int v5), .val (.int v11), .unset, .unset, .unset, .unset, .unset, .unset, .unset, .unset, .unset, .unset] [(.int (p5 &&& (4 : Int32)))])) _
        refine XS.ifYes X0.here hx rfl (pc0 := 32) (pc' := 39) rfl (hb hby at_32) rfl ((if0 _ _).trans (teq hc14_32).1) (by decide) (by decide) ?_
        show Steps p.tables e below (s₁.setTop (mkF m 39 #[.val (.long q1), .second, .val (.long q2), .second, .val (.long q3), .second, .val (.long q4), .second, .val (.int p5), .val (.int v5), .val (.int v11), .unset, .unset, .unset, .unset, .unset, .unset, .unset, .unset, .unset, .unset] [])) _
        refine XS.lloadN X0.here hx rfl (hb hby at_39) rfl ?_
        exact ktx
      exact ⟨_, (if_pos hc14_32).symm, go15⟩
    · have go16 : own_go p e below (s₁.setTop (entryFrame m #[(.long q1), (.long q2), (.long q3), (.long q4), (.int p5)] maxLocals)) (s₁.setTop (mkF m 40 #[.val (.long q1), .second, .val (.long q2), .second, .val (.long q3), .second, .val (.long q4), .second, .val (.int p5), .val (.int v5), .val (.int v11), .unset, .unset, .unset, .unset, .unset, .unset, .unset, .unset, .unset, .unset] [(.long q1)])) := by
        intro ttx ktx
        refine go13 ttx ?_
        show Steps p.tables e below (s₁.setTop (mkF m 32 #[.val (.long q1), .second, .val (.long q2), .second, .val (.long q3), .second, .val (.long q4), .second, .val (.int p5), .val (.int v5), .val (.int v11), .unset, .unset, .unset, .unset, .unset, .unset, .unset, .unset, .unset, .unset] [(.int (p5 &&& (4 : Int32)))])) _
        refine XS.ifNo X0.here hx rfl (hb hby at_32) rfl ((if0 _ _).trans (feq hc14_32).1) ?_
        show Steps p.tables e below (s₁.setTop (mkF m 35 #[.val (.long q1), .second, .val (.long q2), .second, .val (.long q3), .second, .val (.long q4), .second, .val (.int p5), .val (.int v5), .val (.int v11), .unset, .unset, .unset, .unset, .unset, .unset, .unset, .unset, .unset, .unset] [])) _
        refine XS.lloadN X0.here hx rfl (hb hby at_35) rfl ?_
        show Steps p.tables e below (s₁.setTop (mkF m 36 #[.val (.long q1), .second, .val (.long q2), .second, .val (.long q3), .second, .val (.long q4), .second, .val (.int p5), .val (.int v5), .val (.int v11), .unset, .unset, .unset, .unset, .unset, .unset, .unset, .unset, .unset, .unset] [(.long q1)])) _
        refine XS.goto X0.here hx rfl (pc0 := 36) (pc' := 40) rfl (hb hby at_36) (by decide) (by decide) ?_
        exact ktx
      exact ⟨_, (if_neg hc14_32).symm, go16⟩
  have go19 : own_go p e below (s₁.setTop (entryFrame m #[(.long q1), (.long q2), (.long q3), (.long q4), (.int p5)] maxLocals)) (s₁.setTop (mkF m 47 #[.val (.long q1), .second, .val (.long q2), .second, .val (.long q3), .second, .val (.long q4), .second, .val (.int p5), .val (.int v5), .val (.int v11), .val (.long v17), .second, .unset, .unset, .unset, .unset, .unset, .unset, .unset, .unset] [(.int (p5 &&& (8 : Int32)))])) := by
    intro ttx ktx
    refine go18 ttx ?_
    show Steps p.tables e below (s₁.setTop (mkF m 40 #[.val (.long q1), .second, .val (.long q2), .second, .val (.long q3), .second, .val (.long q4), .second, .val (.int p5), .val (.int v5), .val (.int v11), .unset, .unset, .unset, .unset, .unset, .unset, .unset, .unset, .unset, .unset] [(.long v17)])) _
    refine XS.lstore X0.here hx rfl (hb hby at_40) rfl (l' := #[.val (.long q1), .second, .val (.long q2), .second, .val (.long q3), .second, .val (.long q4), .second, .val (.int p5), .val (.int v5), .val (.int v11), .val (.long v17), .second, .unset, .unset, .unset, .unset, .unset, .unset, .unset, .unset]) rfl ?_
    show Steps p.tables e below (s₁.setTop (mkF m 42 #[.val (.long q1), .second, .val (.long q2), .second, .val (.long q3), .second, .val (.long q4), .second, .val (.int p5), .val (.int v5), .val (.int v11), .val (.long v17), .second, .unset, .unset, .unset, .unset, .unset, .unset, .unset, .unset] [])) _
    refine XS.iload X0.here hx rfl (hb hby at_42) rfl ?_
    show Steps p.tables e below (s₁.setTop (mkF m 44 #[.val (.long q1), .second, .val (.long q2), .second, .val (.long q3), .second, .val (.long q4), .second, .val (.int p5), .val (.int v5), .val (.int v11), .val (.long v17), .second, .unset, .unset, .unset, .unset, .unset, .unset, .unset, .unset] [(.int p5)])) _
    refine XS.bipush X0.here hx rfl (hb hby at_44) ?_
    show Steps p.tables e below (s₁.setTop (mkF m 46 #[.val (.long q1), .second, .val (.long q2), .second, .val (.long q3), .second, .val (.long q4), .second, .val (.int p5), .val (.int v5), .val (.int v11), .val (.long v17), .second, .unset, .unset, .unset, .unset, .unset, .unset, .unset, .unset] [(.int (8 : Int32)), (.int p5)])) _
    refine XS.iand X0.here hx rfl (hb hby at_46) rfl ?_
    exact ktx
  obtain ⟨v23, hv_v23, go24⟩ : ∃ (v23 : Int64), v23 = (if (p5 &&& (8 : Int32)) = (0 : Int32) then q4 else q3) ∧ own_go p e below (s₁.setTop (entryFrame m #[(.long q1), (.long q2), (.long q3), (.long q4), (.int p5)] maxLocals)) (s₁.setTop (mkF m 57 #[.val (.long q1), .second, .val (.long q2), .second, .val (.long q3), .second, .val (.long q4), .second, .val (.int p5), .val (.int v5), .val (.int v11), .val (.long v17), .second, .unset, .unset, .unset, .unset, .unset, .unset, .unset, .unset] [(.long v23)])) := by
    by_cases hc20_47 : (p5 &&& (8 : Int32)) = (0 : Int32)
    · have go21 : own_go p e below (s₁.setTop (entryFrame m #[(.long q1), (.long q2), (.long q3), (.long q4), (.int p5)] maxLocals)) (s₁.setTop (mkF m 57 #[.val (.long q1), .second, .val (.long q2), .second, .val (.long q3), .second, .val (.long q4), .second, .val (.int p5), .val (.int v5), .val (.int v11), .val (.long v17), .second, .unset, .unset, .unset, .unset, .unset, .unset, .unset, .unset] [(.long q4)])) := by
        intro ttx ktx
        refine go19 ttx ?_
        show Steps p.tables e below (s₁.setTop (mkF m 47 #[.val (.long q1), .second, .val (.long q2), .second, .val (.long q3), .second, .val (.long q4), .second, .val (.int p5), .val (.int v5), .val (.int v11), .val (.long v17), .second, .unset, .unset, .unset, .unset, .unset, .unset, .unset, .unset] [(.int (p5 &&& (8 : Int32)))])) _
        refine XS.ifYes X0.here hx rfl (pc0 := 47) (pc' := 55) rfl (hb hby at_47) rfl ((if0 _ _).trans (teq hc20_47).1) (by decide) (by decide) ?_
        show Steps p.tables e below (s₁.setTop (mkF m 55 #[.val (.long q1), .second, .val (.long q2), .second, .val (.long q3), .second, .val (.long q4), .second, .val (.int p5), .val (.int v5), .val (.int v11), .val (.long v17), .second, .unset, .unset, .unset, .unset, .unset, .unset, .unset, .unset] [])) _
        refine XS.lload X0.here hx rfl (hb hby at_55) rfl ?_
        exact ktx
      exact ⟨_, (if_pos hc20_47).symm, go21⟩
    · have go22 : own_go p e below (s₁.setTop (entryFrame m #[(.long q1), (.long q2), (.long q3), (.long q4), (.int p5)] maxLocals)) (s₁.setTop (mkF m 57 #[.val (.long q1), .second, .val (.long q2), .second, .val (.long q3), .second, .val (.long q4), .second, .val (.int p5), .val (.int v5), .val (.int v11), .val (.long v17), .second, .unset, .unset, .unset, .unset, .unset, .unset, .unset, .unset] [(.long q3)])) := by
        intro ttx ktx
        refine go19 ttx ?_
        show Steps p.tables e below (s₁.setTop (mkF m 47 #[.val (.long q1), .second, .val (.long q2), .second, .val (.long q3), .second, .val (.long q4), .second, .val (.int p5), .val (.int v5), .val (.int v11), .val (.long v17), .second, .unset, .unset, .unset, .unset, .unset, .unset, .unset, .unset] [(.int (p5 &&& (8 : Int32)))])) _
        refine XS.ifNo X0.here hx rfl (hb hby at_47) rfl ((if0 _ _).trans (feq hc20_47).1) ?_
        show Steps p.tables e below (s₁.setTop (mkF m 50 #[.val (.long q1), .second, .val (.long q2), .second, .val (.long q3), .second, .val (.long q4), .second, .val (.int p5), .val (.int v5), .val (.int v11), .val (.long v17), .second, .unset, .unset, .unset, .unset, .unset, .unset, .unset, .unset] [])) _
        refine XS.lload X0.here hx rfl (hb hby at_50) rfl ?_
        show Steps p.tables e below (s₁.setTop (mkF m 52 #[.val (.long q1), .second, .val (.long q2), .second, .val (.long q3), .second, .val (.long q4), .second, .val (.int p5), .val (.int v5), .val (.int v11), .val (.long v17), .second, .unset, .unset, .unset, .unset, .unset, .unset, .unset, .unset] [(.long q3)])) _
        refine XS.goto X0.here hx rfl (pc0 := 52) (pc' := 57) rfl (hb hby at_52) (by decide) (by decide) ?_
        exact ktx
      exact ⟨_, (if_neg hc20_47).symm, go22⟩
  obtain ⟨v25, hv_v25⟩ : ∃ z : Int32, z = (((p5.toUInt32 >>> ((4 : Int32) &&& 31).toUInt32).toInt32) &&& (3 : Int32)) := ⟨_, rfl⟩
  obtain ⟨T26, h26, X26, e26, E26, A26, D26, -, st26⟩ := newO X0 hx hZ hown (hw _ (List.mem_of_getElem? (i := 0) rfl)) (hw _ (List.mem_of_getElem? (i := 1) rfl)) (hw _ (List.mem_of_getElem? (i := 2) rfl)) e0 (g := (mkF m 67 #[.val (.long q1), .second, .val (.long q2), .second, .val (.long q3), .second, .val (.long q4), .second, .val (.int p5), .val (.int v5), .val (.int v11), .val (.long v17), .second, .val (.long v23), .second, .val (.int v25), .unset, .unset, .unset, .unset, .unset] [])) rfl (hb hby at_67) (by decide) (by decide)
  obtain ⟨b26, g26⟩ : ∃ z, z = h0.size := ⟨_, rfl⟩
  rw [← g26] at A26 D26 st26
  have g_b26 : n0 ≤ b26 := Nat.le_trans Z0 (Nat.le_of_eq g26.symm)
  have Z26 : n0 ≤ h26.size := Nat.le_trans Z0 E26.1
  have O26 := O0.ext E26
  have F26_id : Fld Z h26 b26 "com/example/wilt/wilt/session/Session" "id" "J" (.long (0 : Int64)) := D26 (Or.inr (hw _ (List.mem_of_getElem? (i := 10) rfl))) (ty := .long) (by decide)
  have F26_timeout : Fld Z h26 b26 "com/example/wilt/wilt/session/Session" "timeout" "J" (.long (0 : Int64)) := D26 (Or.inr (hw _ (List.mem_of_getElem? (i := 12) rfl))) (ty := .long) (by decide)
  have F26_global : Fld Z h26 b26 "com/example/wilt/wilt/session/Session" "global" "Z" (.int (0 : Int32)) := D26 (Or.inr (hw _ (List.mem_of_getElem? (i := 14) rfl))) (ty := .boolean) (by decide)
  obtain ⟨_, _, ⟨T27, L27, k27, n27⟩, -, X27, ⟨Lc27, hQ27, l27, y27, z27⟩, st27⟩ := X26.specialBack hx (y := (⟨"com/example/wilt/wilt/session/Session", "<init>", "(JJZ)V"⟩ : MethodName)) rfl hown (mvT hZ (hw _ (List.mem_of_getElem? (i := 3) rfl))) (mvT hZ (hw _ (List.mem_of_getElem? (i := 4) rfl))) (mvT hZ (hw _ (List.mem_of_getElem? (i := 5) rfl))) (by decide) (backOf (W := 1) (rm1 l Z a0 hw [] b26 q1 q3 v5  h26 n0 Z26 A26 g_b26 F26_id F26_timeout F26_global) hZ (hw _ (List.mem_of_getElem? (i := 5) rfl)) (hw _ (List.mem_of_getElem? (i := 2) rfl)) (by decide) (by decide)) (g := (mkF m 76 #[.val (.long q1), .second, .val (.long q2), .second, .val (.long q3), .second, .val (.long q4), .second, .val (.int p5), .val (.int v5), .val (.int v11), .val (.long v17), .second, .val (.long v23), .second, .val (.int v25), .unset, .unset, .unset, .unset, .unset] [(.int v5), (.long q3), (.long q1), (.ref b26), (.ref b26)])) rfl (by rw [hml]; rfl) (Steps.refl _) (a := b26) (argsL := [(.long q1), (.long q3), (.int v5)]) (rest := [(.ref b26)]) (lenOf own_pd2 rfl) rfl (by show 2 * 0 + _ ≤ _; exact Nat.le_of_eq rfl) (hb hby at_76) (fun _ _ => ⟨rfl, e26, (by decide : 1 + 0 ≤ _), (by decide : 3 + 0 ≤ _)⟩)
  dsimp only [Pt.U, Pt.locs, Pt.cells, Pt.slots] at X27 l27 y27 z27 st27 hQ27
  subst l27 y27 z27
  obtain ⟨rfl, Nq27, Kq27, Eq27, Fq27_id, Fq27_timeout, Fq27_global⟩ := hQ27
  have N27 := Fr.app N0 Nq27
  have Z27 : n0 ≤ T27.heap.size := Nat.le_trans Z26 Kq27.1
  have O27 := O26.keep Kq27 (allS g_b26 all0)
  have go28 : own_go p e below (s₁.setTop (entryFrame m #[(.long q1), (.long q2), (.long q3), (.long q4), (.int p5)] maxLocals)) (T27.setTop (mkF m 81 #[.val (.long q1), .second, .val (.long q2), .second, .val (.long q3), .second, .val (.long q4), .second, .val (.int p5), .val (.int v5), .val (.int v11), .val (.long v17), .second, .val (.long v23), .second, .val (.int v25), .val (.ref b26), .unset, .unset, .unset, .unset] [])) := by
    intro ttx ktx
    refine go24 ttx ?_
    show Steps p.tables e below (s₁.setTop (mkF m 57 #[.val (.long q1), .second, .val (.long q2), .second, .val (.long q3), .second, .val (.long q4), .second, .val (.int p5), .val (.int v5), .val (.int v11), .val (.long v17), .second, .unset, .unset, .unset, .unset, .unset, .unset, .unset, .unset] [(.long v23)])) _
    refine XS.lstore X0.here hx rfl (hb hby at_57) rfl (l' := #[.val (.long q1), .second, .val (.long q2), .second, .val (.long q3), .second, .val (.long q4), .second, .val (.int p5), .val (.int v5), .val (.int v11), .val (.long v17), .second, .val (.long v23), .second, .unset, .unset, .unset, .unset, .unset, .unset]) rfl ?_
    show Steps p.tables e below (s₁.setTop (mkF m 59 #[.val (.long q1), .second, .val (.long q2), .second, .val (.long q3), .second, .val (.long q4), .second, .val (.int p5), .val (.int v5), .val (.int v11), .val (.long v17), .second, .val (.long v23), .second, .unset, .unset, .unset, .unset, .unset, .unset] [])) _
    refine XS.iload X0.here hx rfl (hb hby at_59) rfl ?_
    show Steps p.tables e below (s₁.setTop (mkF m 61 #[.val (.long q1), .second, .val (.long q2), .second, .val (.long q3), .second, .val (.long q4), .second, .val (.int p5), .val (.int v5), .val (.int v11), .val (.long v17), .second, .val (.long v23), .second, .unset, .unset, .unset, .unset, .unset, .unset] [(.int p5)])) _
    refine XS.iconst X0.here hx rfl (hb hby at_61) ?_
    show Steps p.tables e below (s₁.setTop (mkF m 62 #[.val (.long q1), .second, .val (.long q2), .second, .val (.long q3), .second, .val (.long q4), .second, .val (.int p5), .val (.int v5), .val (.int v11), .val (.long v17), .second, .val (.long v23), .second, .unset, .unset, .unset, .unset, .unset, .unset] [(.int (4 : Int32)), (.int p5)])) _
    refine XS.iushr X0.here hx rfl (hb hby at_62) rfl ?_
    show Steps p.tables e below (s₁.setTop (mkF m 63 #[.val (.long q1), .second, .val (.long q2), .second, .val (.long q3), .second, .val (.long q4), .second, .val (.int p5), .val (.int v5), .val (.int v11), .val (.long v17), .second, .val (.long v23), .second, .unset, .unset, .unset, .unset, .unset, .unset] [(.int ((p5.toUInt32 >>> ((4 : Int32) &&& 31).toUInt32).toInt32))])) _
    refine XS.iconst X0.here hx rfl (hb hby at_63) ?_
    show Steps p.tables e below (s₁.setTop (mkF m 64 #[.val (.long q1), .second, .val (.long q2), .second, .val (.long q3), .second, .val (.long q4), .second, .val (.int p5), .val (.int v5), .val (.int v11), .val (.long v17), .second, .val (.long v23), .second, .unset, .unset, .unset, .unset, .unset, .unset] [(.int (3 : Int32)), (.int ((p5.toUInt32 >>> ((4 : Int32) &&& 31).toUInt32).toInt32))])) _
    refine XS.iand X0.here hx rfl (hb hby at_64) rfl ?_
    show Steps p.tables e below (s₁.setTop (mkF m 65 #[.val (.long q1), .second, .val (.long q2), .second, .val (.long q3), .second, .val (.long q4), .second, .val (.int p5), .val (.int v5), .val (.int v11), .val (.long v17), .second, .val (.long v23), .second, .unset, .unset, .unset, .unset, .unset, .unset] [(.int (((p5.toUInt32 >>> ((4 : Int32) &&& 31).toUInt32).toInt32) &&& (3 : Int32)))])) _
    rw [← hv_v25]
    show Steps p.tables e below (s₁.setTop (mkF m 65 #[.val (.long q1), .second, .val (.long q2), .second, .val (.long q3), .second, .val (.long q4), .second, .val (.int p5), .val (.int v5), .val (.int v11), .val (.long v17), .second, .val (.long v23), .second, .unset, .unset, .unset, .unset, .unset, .unset] [(.int v25)])) _
    refine XS.istore X0.here hx rfl (hb hby at_65) rfl (l' := #[.val (.long q1), .second, .val (.long q2), .second, .val (.long q3), .second, .val (.long q4), .second, .val (.int p5), .val (.int v5), .val (.int v11), .val (.long v17), .second, .val (.long v23), .second, .val (.int v25), .unset, .unset, .unset, .unset, .unset]) rfl ?_
    show Steps p.tables e below (s₁.setTop (mkF m 67 #[.val (.long q1), .second, .val (.long q2), .second, .val (.long q3), .second, .val (.long q4), .second, .val (.int p5), .val (.int v5), .val (.int v11), .val (.long v17), .second, .val (.long v23), .second, .val (.int v25), .unset, .unset, .unset, .unset, .unset] [])) _
    refine st26 _ ?_
    show Steps p.tables e below (T26.setTop (mkF m 70 #[.val (.long q1), .second, .val (.long q2), .second, .val (.long q3), .second, .val (.long q4), .second, .val (.int p5), .val (.int v5), .val (.int v11), .val (.long v17), .second, .val (.long v23), .second, .val (.int v25), .unset, .unset, .unset, .unset, .unset] [(.ref b26)])) _
    refine XS.dup X26.here hx rfl (hb hby at_70) rfl rfl ?_
    show Steps p.tables e below (T26.setTop (mkF m 71 #[.val (.long q1), .second, .val (.long q2), .second, .val (.long q3), .second, .val (.long q4), .second, .val (.int p5), .val (.int v5), .val (.int v11), .val (.long v17), .second, .val (.long v23), .second, .val (.int v25), .unset, .unset, .unset, .unset, .unset] [(.ref b26), (.ref b26)])) _
    refine XS.lloadN X26.here hx rfl (hb hby at_71) rfl ?_
    show Steps p.tables e below (T26.setTop (mkF m 72 #[.val (.long q1), .second, .val (.long q2), .second, .val (.long q3), .second, .val (.long q4), .second, .val (.int p5), .val (.int v5), .val (.int v11), .val (.long v17), .second, .val (.long v23), .second, .val (.int v25), .unset, .unset, .unset, .unset, .unset] [(.long q1), (.ref b26), (.ref b26)])) _
    refine XS.lload X26.here hx rfl (hb hby at_72) rfl ?_
    show Steps p.tables e below (T26.setTop (mkF m 74 #[.val (.long q1), .second, .val (.long q2), .second, .val (.long q3), .second, .val (.long q4), .second, .val (.int p5), .val (.int v5), .val (.int v11), .val (.long v17), .second, .val (.long v23), .second, .val (.int v25), .unset, .unset, .unset, .unset, .unset] [(.long q3), (.long q1), (.ref b26), (.ref b26)])) _
    refine XS.iload X26.here hx rfl (hb hby at_74) rfl ?_
    show Steps p.tables e below (T26.setTop (mkF m 76 #[.val (.long q1), .second, .val (.long q2), .second, .val (.long q3), .second, .val (.long q4), .second, .val (.int p5), .val (.int v5), .val (.int v11), .val (.long v17), .second, .val (.long v23), .second, .val (.int v25), .unset, .unset, .unset, .unset, .unset] [(.int v5), (.long q3), (.long q1), (.ref b26), (.ref b26)])) _
    refine st27.trans ?_
    show Steps p.tables e below (T27.setTop (mkF m 79 #[.val (.long q1), .second, .val (.long q2), .second, .val (.long q3), .second, .val (.long q4), .second, .val (.int p5), .val (.int v5), .val (.int v11), .val (.long v17), .second, .val (.long v23), .second, .val (.int v25), .unset, .unset, .unset, .unset, .unset] [(.ref b26)])) _
    refine XS.astore X27.here hx rfl (hb hby at_79) rfl rfl (l' := #[.val (.long q1), .second, .val (.long q2), .second, .val (.long q3), .second, .val (.long q4), .second, .val (.int p5), .val (.int v5), .val (.int v11), .val (.long v17), .second, .val (.long v23), .second, .val (.int v25), .val (.ref b26), .unset, .unset, .unset, .unset]) rfl ?_
    exact ktx
  obtain ⟨T29, h29, X29, e29, E29, A29, D29, -, st29⟩ := newO X27 hx hZ hown (hw _ (List.mem_of_getElem? (i := 0) rfl)) (hw _ (List.mem_of_getElem? (i := 1) rfl)) (hw _ (List.mem_of_getElem? (i := 2) rfl)) rfl (g := (mkF m 81 #[.val (.long q1), .second, .val (.long q2), .second, .val (.long q3), .second, .val (.long q4), .second, .val (.int p5), .val (.int v5), .val (.int v11), .val (.long v17), .second, .val (.long v23), .second, .val (.int v25), .val (.ref b26), .unset, .unset, .unset, .unset] [])) rfl (hb hby at_81) (by decide) (by decide)
  obtain ⟨b29, g29⟩ : ∃ z, z = T27.heap.size := ⟨_, rfl⟩
  rw [← g29] at A29 D29 st29
  have ne30 : b26 ≠ b29 := Nat.ne_of_lt (Nat.lt_of_lt_of_le Eq27.lt (Nat.le_of_eq g29.symm))
  have g_b29 : n0 ≤ b29 := Nat.le_trans Z27 (Nat.le_of_eq g29.symm)
  have Z29 : n0 ≤ h29.size := Nat.le_trans Z27 E29.1
  have O29 := O27.ext E29
  have F29_id : Fld Z h29 b29 "com/example/wilt/wilt/session/Session" "id" "J" (.long (0 : Int64)) := D29 (Or.inr (hw _ (List.mem_of_getElem? (i := 10) rfl))) (ty := .long) (by decide)
  have F29_timeout : Fld Z h29 b29 "com/example/wilt/wilt/session/Session" "timeout" "J" (.long (0 : Int64)) := D29 (Or.inr (hw _ (List.mem_of_getElem? (i := 12) rfl))) (ty := .long) (by decide)
  have F29_global : Fld Z h29 b29 "com/example/wilt/wilt/session/Session" "global" "Z" (.int (0 : Int32)) := D29 (Or.inr (hw _ (List.mem_of_getElem? (i := 14) rfl))) (ty := .boolean) (by decide)
  obtain ⟨_, _, ⟨T31, L31, k31, n31⟩, -, X31, ⟨Lc31, hQ31, l31, y31, z31⟩, st31⟩ := X29.specialBack hx (y := (⟨"com/example/wilt/wilt/session/Session", "<init>", "(JJZ)V"⟩ : MethodName)) rfl hown (mvT hZ (hw _ (List.mem_of_getElem? (i := 3) rfl))) (mvT hZ (hw _ (List.mem_of_getElem? (i := 4) rfl))) (mvT hZ (hw _ (List.mem_of_getElem? (i := 5) rfl))) (by decide) (backOf (W := 1) (rm1 l Z a0 hw [] b29 v17 v23 v11  h29 n0 Z29 A29 g_b29 F29_id F29_timeout F29_global) hZ (hw _ (List.mem_of_getElem? (i := 5) rfl)) (hw _ (List.mem_of_getElem? (i := 2) rfl)) (by decide) (by decide)) (g := (mkF m 91 #[.val (.long q1), .second, .val (.long q2), .second, .val (.long q3), .second, .val (.long q4), .second, .val (.int p5), .val (.int v5), .val (.int v11), .val (.long v17), .second, .val (.long v23), .second, .val (.int v25), .val (.ref b26), .unset, .unset, .unset, .unset] [(.int v11), (.long v23), (.long v17), (.ref b29), (.ref b29)])) rfl (by rw [hml]; rfl) (Steps.refl _) (a := b29) (argsL := [(.long v17), (.long v23), (.int v11)]) (rest := [(.ref b29)]) (lenOf own_pd2 rfl) rfl (by show 2 * 0 + _ ≤ _; exact Nat.le_of_eq rfl) (hb hby at_91) (fun _ _ => ⟨rfl, e29, (by decide : 2 + 0 ≤ _), (by decide : 6 + 0 ≤ _)⟩)
  dsimp only [Pt.U, Pt.locs, Pt.cells, Pt.slots] at X31 l31 y31 z31 st31 hQ31
  subst l31 y31 z31
  obtain ⟨rfl, Nq31, Kq31, Eq31, Fq31_id, Fq31_timeout, Fq31_global⟩ := hQ31
  have N31 := Fr.app N27 Nq31
  have Z31 : n0 ≤ T31.heap.size := Nat.le_trans Z29 Kq31.1
  have O31 := O29.keep Kq31 (allS g_b29 all0)
  obtain ⟨_, _, ⟨T32, L32, k32, n32⟩, -, X32, ⟨Lc32, hQ32, l32, y32, z32⟩, st32⟩ := Jvm.LawKit.callS X31 hx (y := (⟨"java/lang/Long", "valueOf", "(J)Ljava/lang/Long;"⟩ : MethodName)) hown (mvT hZ (hw _ (List.mem_of_getElem? (i := 15) rfl))) (mvT hZ (hw _ (List.mem_of_getElem? (i := 16) rfl))) (mvT hZ (hw _ (List.mem_of_getElem? (i := 17) rfl))) (mvT hZ (hw _ (List.mem_of_getElem? (i := 18) rfl))) (by decide) (backOf (W := 0) (rmVO l Z a0 hw [] q1  T31.heap n0 Z31 O31 hcache) hZ (hw _ (List.mem_of_getElem? (i := 18) rfl)) (hw _ (List.mem_of_getElem? (i := 17) rfl)) (by decide) (by decide)) (g := (mkF m 97 #[.val (.long q1), .second, .val (.long q2), .second, .val (.long q3), .second, .val (.long q4), .second, .val (.int p5), .val (.int v5), .val (.int v11), .val (.long v17), .second, .val (.long v23), .second, .val (.int v25), .val (.ref b26), .val (.ref b29), .unset, .unset, .unset] [(.long q1)])) rfl (by rw [hml]; rfl) (argsL := [(.long q1)]) (rest := []) (lenOf own_pd3 rfl) rfl (by show 2 * 0 + _ ≤ _; exact Nat.le_of_eq rfl) (hb hby at_97) (fun _ _ => ⟨rfl, rfl, (by decide : 2 + 1 ≤ _), (by decide : 6 + 1 ≤ _)⟩)
  dsimp only [Pt.U, Pt.locs, Pt.cells, Pt.slots] at X32 l32 y32 z32 st32 hQ32
  subst l32 y32 z32
  obtain ⟨b32, rfl, Nq32, Kq32, Eq32, Fq32, Dq32⟩ := hQ32
  have N32 := Fr.app N31 Nq32
  have f34 := ((Eq27.ext E29).keep Kq31)
  have ne33 : b32 ≠ b26 := Dq32 b26 g_b26 f34.lt
  have ne35 : b32 ≠ b29 := Dq32 b29 g_b29 Eq31.lt
  have Z32 : n0 ≤ T32.heap.size := Nat.le_trans Z31 Kq32.1
  have O32 := O31.keep Kq32 all0
  have go36 : own_go p e below (s₁.setTop (entryFrame m #[(.long q1), (.long q2), (.long q3), (.long q4), (.int p5)] maxLocals)) (T32.setTop (mkF m 106 #[.val (.long q1), .second, .val (.long q2), .second, .val (.long q3), .second, .val (.long q4), .second, .val (.int p5), .val (.int v5), .val (.int v11), .val (.long v17), .second, .val (.long v23), .second, .val (.int v25), .val (.ref b26), .val (.ref b29), .val (.ref b32), .unset, .unset] [(.int (lcmpW q1 v17))])) := by
    intro ttx ktx
    refine go28 ttx ?_
    show Steps p.tables e below (T27.setTop (mkF m 81 #[.val (.long q1), .second, .val (.long q2), .second, .val (.long q3), .second, .val (.long q4), .second, .val (.int p5), .val (.int v5), .val (.int v11), .val (.long v17), .second, .val (.long v23), .second, .val (.int v25), .val (.ref b26), .unset, .unset, .unset, .unset] [])) _
    refine st29 _ ?_
    show Steps p.tables e below (T29.setTop (mkF m 84 #[.val (.long q1), .second, .val (.long q2), .second, .val (.long q3), .second, .val (.long q4), .second, .val (.int p5), .val (.int v5), .val (.int v11), .val (.long v17), .second, .val (.long v23), .second, .val (.int v25), .val (.ref b26), .unset, .unset, .unset, .unset] [(.ref b29)])) _
    refine XS.dup X29.here hx rfl (hb hby at_84) rfl rfl ?_
    show Steps p.tables e below (T29.setTop (mkF m 85 #[.val (.long q1), .second, .val (.long q2), .second, .val (.long q3), .second, .val (.long q4), .second, .val (.int p5), .val (.int v5), .val (.int v11), .val (.long v17), .second, .val (.long v23), .second, .val (.int v25), .val (.ref b26), .unset, .unset, .unset, .unset] [(.ref b29), (.ref b29)])) _
    refine XS.lload X29.here hx rfl (hb hby at_85) rfl ?_
    show Steps p.tables e below (T29.setTop (mkF m 87 #[.val (.long q1), .second, .val (.long q2), .second, .val (.long q3), .second, .val (.long q4), .second, .val (.int p5), .val (.int v5), .val (.int v11), .val (.long v17), .second, .val (.long v23), .second, .val (.int v25), .val (.ref b26), .unset, .unset, .unset, .unset] [(.long v17), (.ref b29), (.ref b29)])) _
    refine XS.lload X29.here hx rfl (hb hby at_87) rfl ?_
    show Steps p.tables e below (T29.setTop (mkF m 89 #[.val (.long q1), .second, .val (.long q2), .second, .val (.long q3), .second, .val (.long q4), .second, .val (.int p5), .val (.int v5), .val (.int v11), .val (.long v17), .second, .val (.long v23), .second, .val (.int v25), .val (.ref b26), .unset, .unset, .unset, .unset] [(.long v23), (.long v17), (.ref b29), (.ref b29)])) _
    refine XS.iload X29.here hx rfl (hb hby at_89) rfl ?_
    show Steps p.tables e below (T29.setTop (mkF m 91 #[.val (.long q1), .second, .val (.long q2), .second, .val (.long q3), .second, .val (.long q4), .second, .val (.int p5), .val (.int v5), .val (.int v11), .val (.long v17), .second, .val (.long v23), .second, .val (.int v25), .val (.ref b26), .unset, .unset, .unset, .unset] [(.int v11), (.long v23), (.long v17), (.ref b29), (.ref b29)])) _
    refine st31.trans ?_
    show Steps p.tables e below (T31.setTop (mkF m 94 #[.val (.long q1), .second, .val (.long q2), .second, .val (.long q3), .second, .val (.long q4), .second, .val (.int p5), .val (.int v5), .val (.int v11), .val (.long v17), .second, .val (.long v23), .second, .val (.int v25), .val (.ref b26), .unset, .unset, .unset, .unset] [(.ref b29)])) _
    refine XS.astore X31.here hx rfl (hb hby at_94) rfl rfl (l' := #[.val (.long q1), .second, .val (.long q2), .second, .val (.long q3), .second, .val (.long q4), .second, .val (.int p5), .val (.int v5), .val (.int v11), .val (.long v17), .second, .val (.long v23), .second, .val (.int v25), .val (.ref b26), .val (.ref b29), .unset, .unset, .unset]) rfl ?_
    show Steps p.tables e below (T31.setTop (mkF m 96 #[.val (.long q1), .second, .val (.long q2), .second, .val (.long q3), .second, .val (.long q4), .second, .val (.int p5), .val (.int v5), .val (.int v11), .val (.long v17), .second, .val (.long v23), .second, .val (.int v25), .val (.ref b26), .val (.ref b29), .unset, .unset, .unset] [])) _
    refine XS.lloadN X31.here hx rfl (hb hby at_96) rfl ?_
    show Steps p.tables e below (T31.setTop (mkF m 97 #[.val (.long q1), .second, .val (.long q2), .second, .val (.long q3), .second, .val (.long q4), .second, .val (.int p5), .val (.int v5), .val (.int v11), .val (.long v17), .second, .val (.long v23), .second, .val (.int v25), .val (.ref b26), .val (.ref b29), .unset, .unset, .unset] [(.long q1)])) _
    refine st32 _ ?_
    show Steps p.tables e below (T32.setTop (mkF m 100 #[.val (.long q1), .second, .val (.long q2), .second, .val (.long q3), .second, .val (.long q4), .second, .val (.int p5), .val (.int v5), .val (.int v11), .val (.long v17), .second, .val (.long v23), .second, .val (.int v25), .val (.ref b26), .val (.ref b29), .unset, .unset, .unset] [(.ref b32)])) _
    refine XS.astore X32.here hx rfl (hb hby at_100) rfl rfl (l' := #[.val (.long q1), .second, .val (.long q2), .second, .val (.long q3), .second, .val (.long q4), .second, .val (.int p5), .val (.int v5), .val (.int v11), .val (.long v17), .second, .val (.long v23), .second, .val (.int v25), .val (.ref b26), .val (.ref b29), .val (.ref b32), .unset, .unset]) rfl ?_
    show Steps p.tables e below (T32.setTop (mkF m 102 #[.val (.long q1), .second, .val (.long q2), .second, .val (.long q3), .second, .val (.long q4), .second, .val (.int p5), .val (.int v5), .val (.int v11), .val (.long v17), .second, .val (.long v23), .second, .val (.int v25), .val (.ref b26), .val (.ref b29), .val (.ref b32), .unset, .unset] [])) _
    refine XS.lloadN X32.here hx rfl (hb hby at_102) rfl ?_
    show Steps p.tables e below (T32.setTop (mkF m 103 #[.val (.long q1), .second, .val (.long q2), .second, .val (.long q3), .second, .val (.long q4), .second, .val (.int p5), .val (.int v5), .val (.int v11), .val (.long v17), .second, .val (.long v23), .second, .val (.int v25), .val (.ref b26), .val (.ref b29), .val (.ref b32), .unset, .unset] [(.long q1)])) _
    refine XS.lload X32.here hx rfl (hb hby at_103) rfl ?_
    show Steps p.tables e below (T32.setTop (mkF m 105 #[.val (.long q1), .second, .val (.long q2), .second, .val (.long q3), .second, .val (.long q4), .second, .val (.int p5), .val (.int v5), .val (.int v11), .val (.long v17), .second, .val (.long v23), .second, .val (.int v25), .val (.ref b26), .val (.ref b29), .val (.ref b32), .unset, .unset] [(.long v17), (.long q1)])) _
    refine XS.lcmp X32.here hx rfl (hb hby at_105) rfl ?_
    exact ktx
  obtain ⟨v50, hv_v50, go51⟩ : ∃ (v50 : Int32), v50 = (if q1 = v17 then (if q3 = v23 then (if v5 = v11 then (1 : Int32) else (0 : Int32)) else (0 : Int32)) else (0 : Int32)) ∧ own_go p e below (s₁.setTop (entryFrame m #[(.long q1), (.long q2), (.long q3), (.long q4), (.int p5)] maxLocals)) (T32.setTop (mkF m 129 #[.val (.long q1), .second, .val (.long q2), .second, .val (.long q3), .second, .val (.long q4), .second, .val (.int p5), .val (.int v5), .val (.int v11), .val (.long v17), .second, .val (.long v23), .second, .val (.int v25), .val (.ref b26), .val (.ref b29), .val (.ref b32), .unset, .unset] [(.int v50)])) := by
    by_cases hc37_106 : q1 = v17
    · have go38 : own_go p e below (s₁.setTop (entryFrame m #[(.long q1), (.long q2), (.long q3), (.long q4), (.int p5)] maxLocals)) (T32.setTop (mkF m 114 #[.val (.long q1), .second, .val (.long q2), .second, .val (.long q3), .second, .val (.long q4), .second, .val (.int p5), .val (.int v5), .val (.int v11), .val (.long v17), .second, .val (.long v23), .second, .val (.int v25), .val (.ref b26), .val (.ref b29), .val (.ref b32), .unset, .unset] [(.int (lcmpW q3 v23))])) := by
        intro ttx ktx
        refine go36 ttx ?_
        show Steps p.tables e below (T32.setTop (mkF m 106 #[.val (.long q1), .second, .val (.long q2), .second, .val (.long q3), .second, .val (.long q4), .second, .val (.int p5), .val (.int v5), .val (.int v11), .val (.long v17), .second, .val (.long v23), .second, .val (.int v25), .val (.ref b26), .val (.ref b29), .val (.ref b32), .unset, .unset] [(.int (lcmpW q1 v17))])) _
        refine XS.ifNo X32.here hx rfl (hb hby at_106) rfl ((if0 _ _).trans (teq ((lw_eq q1 v17).mpr hc37_106)).2) ?_
        show Steps p.tables e below (T32.setTop (mkF m 109 #[.val (.long q1), .second, .val (.long q2), .second, .val (.long q3), .second, .val (.long q4), .second, .val (.int p5), .val (.int v5), .val (.int v11), .val (.long v17), .second, .val (.long v23), .second, .val (.int v25), .val (.ref b26), .val (.ref b29), .val (.ref b32), .unset, .unset] [])) _
        refine XS.lload X32.here hx rfl (hb hby at_109) rfl ?_
        show Steps p.tables e below (T32.setTop (mkF m 111 #[.val (.long q1), .second, .val (.long q2), .second, .val (.long q3), .second, .val (.long q4), .second, .val (.int p5), .val (.int v5), .val (.int v11), .val (.long v17), .second, .val (.long v23), .second, .val (.int v25), .val (.ref b26), .val (.ref b29), .val (.ref b32), .unset, .unset] [(.long q3)])) _
        refine XS.lload X32.here hx rfl (hb hby at_111) rfl ?_
        show Steps p.tables e below (T32.setTop (mkF m 113 #[.val (.long q1), .second, .val (.long q2), .second, .val (.long q3), .second, .val (.long q4), .second, .val (.int p5), .val (.int v5), .val (.int v11), .val (.long v17), .second, .val (.long v23), .second, .val (.int v25), .val (.ref b26), .val (.ref b29), .val (.ref b32), .unset, .unset] [(.long v23), (.long q3)])) _
        refine XS.lcmp X32.here hx rfl (hb hby at_113) rfl ?_
        exact ktx
      obtain ⟨v47, hv_v47, go48⟩ : ∃ (v47 : Int32), v47 = (if q3 = v23 then (if v5 = v11 then (1 : Int32) else (0 : Int32)) else (0 : Int32)) ∧ own_go p e below (s₁.setTop (entryFrame m #[(.long q1), (.long q2), (.long q3), (.long q4), (.int p5)] maxLocals)) (T32.setTop (mkF m 129 #[.val (.long q1), .second, .val (.long q2), .second, .val (.long q3), .second, .val (.long q4), .second, .val (.int p5), .val (.int v5), .val (.int v11), .val (.long v17), .second, .val (.long v23), .second, .val (.int v25), .val (.ref b26), .val (.ref b29), .val (.ref b32), .unset, .unset] [(.int v47)])) := by
        by_cases hc39_114 : q3 = v23
        · have go40 : own_go p e below (s₁.setTop (entryFrame m #[(.long q1), (.long q2), (.long q3), (.long q4), (.int p5)] maxLocals)) (T32.setTop (mkF m 121 #[.val (.long q1), .second, .val (.long q2), .second, .val (.long q3), .second, .val (.long q4), .second, .val (.int p5), .val (.int v5), .val (.int v11), .val (.long v17), .second, .val (.long v23), .second, .val (.int v25), .val (.ref b26), .val (.ref b29), .val (.ref b32), .unset, .unset] [(.int v11), (.int v5)])) := by
            intro ttx ktx
            refine go38 ttx ?_
            show Steps p.tables e below (T32.setTop (mkF m 114 #[.val (.long q1), .second, .val (.long q2), .second, .val (.long q3), .second, .val (.long q4), .second, .val (.int p5), .val (.int v5), .val (.int v11), .val (.long v17), .second, .val (.long v23), .second, .val (.int v25), .val (.ref b26), .val (.ref b29), .val (.ref b32), .unset, .unset] [(.int (lcmpW q3 v23))])) _
            refine XS.ifNo X32.here hx rfl (hb hby at_114) rfl ((if0 _ _).trans (teq ((lw_eq q3 v23).mpr hc39_114)).2) ?_
            show Steps p.tables e below (T32.setTop (mkF m 117 #[.val (.long q1), .second, .val (.long q2), .second, .val (.long q3), .second, .val (.long q4), .second, .val (.int p5), .val (.int v5), .val (.int v11), .val (.long v17), .second, .val (.long v23), .second, .val (.int v25), .val (.ref b26), .val (.ref b29), .val (.ref b32), .unset, .unset] [])) _
            refine XS.iload X32.here hx rfl (hb hby at_117) rfl ?_
            show Steps p.tables e below (T32.setTop (mkF m 119 #[.val (.long q1), .second, .val (.long q2), .second, .val (.long q3), .second, .val (.long q4), .second, .val (.int p5), .val (.int v5), .val (.int v11), .val (.long v17), .second, .val (.long v23), .second, .val (.int v25), .val (.ref b26), .val (.ref b29), .val (.ref b32), .unset, .unset] [(.int v5)])) _
            refine XS.iload X32.here hx rfl (hb hby at_119) rfl ?_
            exact ktx
          obtain ⟨v44, hv_v44, go45⟩ : ∃ (v44 : Int32), v44 = (if v5 = v11 then (1 : Int32) else (0 : Int32)) ∧ own_go p e below (s₁.setTop (entryFrame m #[(.long q1), (.long q2), (.long q3), (.long q4), (.int p5)] maxLocals)) (T32.setTop (mkF m 129 #[.val (.long q1), .second, .val (.long q2), .second, .val (.long q3), .second, .val (.long q4), .second, .val (.int p5), .val (.int v5), .val (.int v11), .val (.long v17), .second, .val (.long v23), .second, .val (.int v25), .val (.ref b26), .val (.ref b29), .val (.ref b32), .unset, .unset] [(.int v44)])) := by
            by_cases hc41_121 : v5 = v11
            · have go42 : own_go p e below (s₁.setTop (entryFrame m #[(.long q1), (.long q2), (.long q3), (.long q4), (.int p5)] maxLocals)) (T32.setTop (mkF m 129 #[.val (.long q1), .second, .val (.long q2), .second, .val (.long q3), .second, .val (.long q4), .second, .val (.int p5), .val (.int v5), .val (.int v11), .val (.long v17), .second, .val (.long v23), .second, .val (.int v25), .val (.ref b26), .val (.ref b29), .val (.ref b32), .unset, .unset] [(.int (1 : Int32))])) := by
                intro ttx ktx
                refine go40 ttx ?_
                show Steps p.tables e below (T32.setTop (mkF m 121 #[.val (.long q1), .second, .val (.long q2), .second, .val (.long q3), .second, .val (.long q4), .second, .val (.int p5), .val (.int v5), .val (.int v11), .val (.long v17), .second, .val (.long v23), .second, .val (.int v25), .val (.ref b26), .val (.ref b29), .val (.ref b32), .unset, .unset] [(.int v11), (.int v5)])) _
                refine XS.icmpNo X32.here hx rfl (hb hby at_121) rfl (teq hc41_121).2 ?_
                show Steps p.tables e below (T32.setTop (mkF m 124 #[.val (.long q1), .second, .val (.long q2), .second, .val (.long q3), .second, .val (.long q4), .second, .val (.int p5), .val (.int v5), .val (.int v11), .val (.long v17), .second, .val (.long v23), .second, .val (.int v25), .val (.ref b26), .val (.ref b29), .val (.ref b32), .unset, .unset] [])) _
                refine XS.iconst X32.here hx rfl (hb hby at_124) ?_
                show Steps p.tables e below (T32.setTop (mkF m 125 #[.val (.long q1), .second, .val (.long q2), .second, .val (.long q3), .second, .val (.long q4), .second, .val (.int p5), .val (.int v5), .val (.int v11), .val (.long v17), .second, .val (.long v23), .second, .val (.int v25), .val (.ref b26), .val (.ref b29), .val (.ref b32), .unset, .unset] [(.int (1 : Int32))])) _
                refine XS.goto X32.here hx rfl (pc0 := 125) (pc' := 129) rfl (hb hby at_125) (by decide) (by decide) ?_
                exact ktx
              exact ⟨_, (if_pos hc41_121).symm, go42⟩
            · have go43 : own_go p e below (s₁.setTop (entryFrame m #[(.long q1), (.long q2), (.long q3), (.long q4), (.int p5)] maxLocals)) (T32.setTop (mkF m 129 #[.val (.long q1), .second, .val (.long q2), .second, .val (.long q3), .second, .val (.long q4), .second, .val (.int p5), .val (.int v5), .val (.int v11), .val (.long v17), .second, .val (.long v23), .second, .val (.int v25), .val (.ref b26), .val (.ref b29), .val (.ref b32), .unset, .unset] [(.int (0 : Int32))])) := by
                intro ttx ktx
                refine go40 ttx ?_
                show Steps p.tables e below (T32.setTop (mkF m 121 #[.val (.long q1), .second, .val (.long q2), .second, .val (.long q3), .second, .val (.long q4), .second, .val (.int p5), .val (.int v5), .val (.int v11), .val (.long v17), .second, .val (.long v23), .second, .val (.int v25), .val (.ref b26), .val (.ref b29), .val (.ref b32), .unset, .unset] [(.int v11), (.int v5)])) _
                refine XS.icmpYes X32.here hx rfl (pc0 := 121) (pc' := 128) rfl (hb hby at_121) rfl (feq hc41_121).2 (by decide) (by decide) ?_
                show Steps p.tables e below (T32.setTop (mkF m 128 #[.val (.long q1), .second, .val (.long q2), .second, .val (.long q3), .second, .val (.long q4), .second, .val (.int p5), .val (.int v5), .val (.int v11), .val (.long v17), .second, .val (.long v23), .second, .val (.int v25), .val (.ref b26), .val (.ref b29), .val (.ref b32), .unset, .unset] [])) _
                refine XS.iconst X32.here hx rfl (hb hby at_128) ?_
                exact ktx
              exact ⟨_, (if_neg hc41_121).symm, go43⟩
          subst hv_v44
          exact ⟨_, (if_pos hc39_114).symm, go45⟩
        · have go46 : own_go p e below (s₁.setTop (entryFrame m #[(.long q1), (.long q2), (.long q3), (.long q4), (.int p5)] maxLocals)) (T32.setTop (mkF m 129 #[.val (.long q1), .second, .val (.long q2), .second, .val (.long q3), .second, .val (.long q4), .second, .val (.int p5), .val (.int v5), .val (.int v11), .val (.long v17), .second, .val (.long v23), .second, .val (.int v25), .val (.ref b26), .val (.ref b29), .val (.ref b32), .unset, .unset] [(.int (0 : Int32))])) := by
            intro ttx ktx
            refine go38 ttx ?_
            show Steps p.tables e below (T32.setTop (mkF m 114 #[.val (.long q1), .second, .val (.long q2), .second, .val (.long q3), .second, .val (.long q4), .second, .val (.int p5), .val (.int v5), .val (.int v11), .val (.long v17), .second, .val (.long v23), .second, .val (.int v25), .val (.ref b26), .val (.ref b29), .val (.ref b32), .unset, .unset] [(.int (lcmpW q3 v23))])) _
            refine XS.ifYes X32.here hx rfl (pc0 := 114) (pc' := 128) rfl (hb hby at_114) rfl ((if0 _ _).trans (feq (fun q => hc39_114 ((lw_eq q3 v23).mp q))).2) (by decide) (by decide) ?_
            show Steps p.tables e below (T32.setTop (mkF m 128 #[.val (.long q1), .second, .val (.long q2), .second, .val (.long q3), .second, .val (.long q4), .second, .val (.int p5), .val (.int v5), .val (.int v11), .val (.long v17), .second, .val (.long v23), .second, .val (.int v25), .val (.ref b26), .val (.ref b29), .val (.ref b32), .unset, .unset] [])) _
            refine XS.iconst X32.here hx rfl (hb hby at_128) ?_
            exact ktx
          exact ⟨_, (if_neg hc39_114).symm, go46⟩
      subst hv_v47
      exact ⟨_, (if_pos hc37_106).symm, go48⟩
    · have go49 : own_go p e below (s₁.setTop (entryFrame m #[(.long q1), (.long q2), (.long q3), (.long q4), (.int p5)] maxLocals)) (T32.setTop (mkF m 129 #[.val (.long q1), .second, .val (.long q2), .second, .val (.long q3), .second, .val (.long q4), .second, .val (.int p5), .val (.int v5), .val (.int v11), .val (.long v17), .second, .val (.long v23), .second, .val (.int v25), .val (.ref b26), .val (.ref b29), .val (.ref b32), .unset, .unset] [(.int (0 : Int32))])) := by
        intro ttx ktx
        refine go36 ttx ?_
        show Steps p.tables e below (T32.setTop (mkF m 106 #[.val (.long q1), .second, .val (.long q2), .second, .val (.long q3), .second, .val (.long q4), .second, .val (.int p5), .val (.int v5), .val (.int v11), .val (.long v17), .second, .val (.long v23), .second, .val (.int v25), .val (.ref b26), .val (.ref b29), .val (.ref b32), .unset, .unset] [(.int (lcmpW q1 v17))])) _
        refine XS.ifYes X32.here hx rfl (pc0 := 106) (pc' := 128) rfl (hb hby at_106) rfl ((if0 _ _).trans (feq (fun q => hc37_106 ((lw_eq q1 v17).mp q))).2) (by decide) (by decide) ?_
        show Steps p.tables e below (T32.setTop (mkF m 128 #[.val (.long q1), .second, .val (.long q2), .second, .val (.long q3), .second, .val (.long q4), .second, .val (.int p5), .val (.int v5), .val (.int v11), .val (.long v17), .second, .val (.long v23), .second, .val (.int v25), .val (.ref b26), .val (.ref b29), .val (.ref b32), .unset, .unset] [])) _
        refine XS.iconst X32.here hx rfl (hb hby at_128) ?_
        exact ktx
      exact ⟨_, (if_neg hc37_106).symm, go49⟩
  have go52 : own_go p e below (s₁.setTop (entryFrame m #[(.long q1), (.long q2), (.long q3), (.long q4), (.int p5)] maxLocals)) (T32.setTop (mkF m 133 #[.val (.long q1), .second, .val (.long q2), .second, .val (.long q3), .second, .val (.long q4), .second, .val (.int p5), .val (.int v5), .val (.int v11), .val (.long v17), .second, .val (.long v23), .second, .val (.int v25), .val (.ref b26), .val (.ref b29), .val (.ref b32), .val (.int v50), .unset] [(.int v25)])) := by
    intro ttx ktx
    refine go51 ttx ?_
    show Steps p.tables e below (T32.setTop (mkF m 129 #[.val (.long q1), .second, .val (.long q2), .second, .val (.long q3), .second, .val (.long q4), .second, .val (.int p5), .val (.int v5), .val (.int v11), .val (.long v17), .second, .val (.long v23), .second, .val (.int v25), .val (.ref b26), .val (.ref b29), .val (.ref b32), .unset, .unset] [(.int v50)])) _
    refine XS.istore X32.here hx rfl (hb hby at_129) rfl (l' := #[.val (.long q1), .second, .val (.long q2), .second, .val (.long q3), .second, .val (.long q4), .second, .val (.int p5), .val (.int v5), .val (.int v11), .val (.long v17), .second, .val (.long v23), .second, .val (.int v25), .val (.ref b26), .val (.ref b29), .val (.ref b32), .val (.int v50), .unset]) rfl ?_
    show Steps p.tables e below (T32.setTop (mkF m 131 #[.val (.long q1), .second, .val (.long q2), .second, .val (.long q3), .second, .val (.long q4), .second, .val (.int p5), .val (.int v5), .val (.int v11), .val (.long v17), .second, .val (.long v23), .second, .val (.int v25), .val (.ref b26), .val (.ref b29), .val (.ref b32), .val (.int v50), .unset] [])) _
    refine XS.iload X32.here hx rfl (hb hby at_131) rfl ?_
    exact ktx
  by_cases hc53_133 : v25 = (0 : Int32)
  · have f55 := (Eq31.keep Kq32)
    have f56 := (((Fq27_id.ext E29).keep Kq31 (ninS ne30 nin0)).keep Kq32 nin0)
    have f57 := (((Fq27_timeout.ext E29).keep Kq31 (ninS ne30 nin0)).keep Kq32 nin0)
    have f58 := (((Fq27_global.ext E29).keep Kq31 (ninS ne30 nin0)).keep Kq32 nin0)
    have f59 := (Fq31_id.keep Kq32 nin0)
    have f60 := (Fq31_timeout.keep Kq32 nin0)
    have f61 := (Fq31_global.keep Kq32 nin0)
    have f62 := (f34.keep Kq32)
    obtain ⟨cq54, kq54, q54a, q54b, q54c⟩ := isOf hZ rfl f62
    obtain ⟨_, _, ⟨T54, L54, k54, n54⟩, -, X54, ⟨Lc54, hQ54, l54, y54, z54⟩, st54⟩ := X32.virtualBack hx (y := (⟨"com/example/wilt/wilt/session/Session", "equals", "(Ljava/lang/Object;)Z"⟩ : MethodName)) (z := (⟨"com/example/wilt/wilt/session/Session", "equals", "(Ljava/lang/Object;)Z"⟩ : MethodName)) hown (mvT hZ (hw _ (List.mem_of_getElem? (i := 23) rfl))) (mvT hZ (hw _ (List.mem_of_getElem? (i := 24) rfl))) (notFace_of_selects (args := #[]) (mvT hZ (hw _ (List.mem_of_getElem? (i := 26) rfl)))) (mvT hZ (hw _ (List.mem_of_getElem? (i := 26) rfl))) (mvT hZ (hw _ (List.mem_of_getElem? (i := 25) rfl))) (by decide) (backOf (W := 0) (rmEQ l Z a0 hw [] b26 b29 q1 q3 (nar .boolean v5) v17 v23 (nar .boolean v11) T32.heap n0 Z32 f55 f56 f57 f58 f59 f60 f61) hZ (hw _ (List.mem_of_getElem? (i := 27) rfl)) (hw _ (List.mem_of_getElem? (i := 2) rfl)) (by decide) (by decide)) q54a q54c (g := (mkF m 140 #[.val (.long q1), .second, .val (.long q2), .second, .val (.long q3), .second, .val (.long q4), .second, .val (.int p5), .val (.int v5), .val (.int v11), .val (.long v17), .second, .val (.long v23), .second, .val (.int v25), .val (.ref b26), .val (.ref b29), .val (.ref b32), .val (.int v50), .unset] [(.ref b29), (.ref b26)])) rfl (by rw [hml]; rfl) (Steps.refl _) (argsL := [(.ref b29)]) (rest := []) (lenOf own_pd4 rfl) rfl (by show 2 * 0 + _ ≤ _; exact Nat.le_of_eq rfl) (hb hby at_140) (fun _ _ => ⟨rfl, rfl, (by decide : 3 + 0 ≤ _), (by decide : 7 + 0 ≤ _)⟩)
    dsimp only [Pt.U, Pt.locs, Pt.cells, Pt.slots] at X54 l54 y54 z54 st54 hQ54
    subst l54 y54 z54
    obtain ⟨rfl, Nq54, e54⟩ := hQ54
    have N54 := Fr.app N32 Nq54
    have hc63_145 : (if q1 = v17 then (if q3 = v23 then (if (nar .boolean v5) = (nar .boolean v11) then (1 : Int32) else (0 : Int32)) else (0 : Int32)) else (0 : Int32)) = v50 := by rw [hv_v50]; exact own_e1 _ _ _ _ _ _ (own_01 _ _ hv_v5) (own_01 _ _ hv_v11)
    obtain ⟨cq64, kq64, q64a, q64b, q64c⟩ := isOf hZ e54 f55
    obtain ⟨_, _, ⟨T64, L64, k64, n64⟩, -, X64, ⟨Lc64, hQ64, l64, y64, z64⟩, st64⟩ := X54.virtualBack hx (y := (⟨"com/example/wilt/wilt/session/Session", "equals", "(Ljava/lang/Object;)Z"⟩ : MethodName)) (z := (⟨"com/example/wilt/wilt/session/Session", "equals", "(Ljava/lang/Object;)Z"⟩ : MethodName)) hown (mvT hZ (hw _ (List.mem_of_getElem? (i := 23) rfl))) (mvT hZ (hw _ (List.mem_of_getElem? (i := 24) rfl))) (notFace_of_selects (args := #[]) (mvT hZ (hw _ (List.mem_of_getElem? (i := 26) rfl)))) (mvT hZ (hw _ (List.mem_of_getElem? (i := 26) rfl))) (mvT hZ (hw _ (List.mem_of_getElem? (i := 25) rfl))) (by decide) (backOf (W := 0) (rmEQ l Z a0 hw [] b29 b26 v17 v23 (nar .boolean v11) q1 q3 (nar .boolean v5) T32.heap n0 Z32 f62 f59 f60 f61 f56 f57 f58) hZ (hw _ (List.mem_of_getElem? (i := 27) rfl)) (hw _ (List.mem_of_getElem? (i := 2) rfl)) (by decide) (by decide)) q64a q64c (g := (mkF m 152 #[.val (.long q1), .second, .val (.long q2), .second, .val (.long q3), .second, .val (.long q4), .second, .val (.int p5), .val (.int v5), .val (.int v11), .val (.long v17), .second, .val (.long v23), .second, .val (.int v25), .val (.ref b26), .val (.ref b29), .val (.ref b32), .val (.int v50), .unset] [(.ref b26), (.ref b29)])) rfl (by rw [hml]; rfl) (Steps.refl _) (argsL := [(.ref b26)]) (rest := []) (lenOf own_pd4 rfl) rfl (by show 2 * 0 + _ ≤ _; exact Nat.le_of_eq rfl) (hb hby at_152) (fun _ _ => ⟨rfl, e54, (by decide : 3 + 0 ≤ _), (by decide : 7 + 0 ≤ _)⟩)
    dsimp only [Pt.U, Pt.locs, Pt.cells, Pt.slots] at X64 l64 y64 z64 st64 hQ64
    subst l64 y64 z64
    obtain ⟨rfl, Nq64, e64⟩ := hQ64
    have N64 := Fr.app N54 Nq64
    have hc65_157 : (if v17 = q1 then (if v23 = q3 then (if (nar .boolean v11) = (nar .boolean v5) then (1 : Int32) else (0 : Int32)) else (0 : Int32)) else (0 : Int32)) = v50 := by rw [hv_v50]; exact own_e2 _ _ _ _ _ _ (own_01 _ _ hv_v5) (own_01 _ _ hv_v11)
    have go66 : own_go p e below (s₁.setTop (entryFrame m #[(.long q1), (.long q2), (.long q3), (.long q4), (.int p5)] maxLocals)) (T64.setTop (mkF m 165 #[.val (.long q1), .second, .val (.long q2), .second, .val (.long q3), .second, .val (.long q4), .second, .val (.int p5), .val (.int v5), .val (.int v11), .val (.long v17), .second, .val (.long v23), .second, .val (.int v25), .val (.ref b26), .val (.ref b29), .val (.ref b32), .val (.int v50), .unset] [(.int (1 : Int32))])) := by
      intro ttx ktx
      refine go52 ttx ?_
      show Steps p.tables e below (T32.setTop (mkF m 133 #[.val (.long q1), .second, .val (.long q2), .second, .val (.long q3), .second, .val (.long q4), .second, .val (.int p5), .val (.int v5), .val (.int v11), .val (.long v17), .second, .val (.long v23), .second, .val (.int v25), .val (.ref b26), .val (.ref b29), .val (.ref b32), .val (.int v50), .unset] [(.int v25)])) _
      refine XS.ifNo X32.here hx rfl (hb hby at_133) rfl ((if0 _ _).trans (teq hc53_133).2) ?_
      show Steps p.tables e below (T32.setTop (mkF m 136 #[.val (.long q1), .second, .val (.long q2), .second, .val (.long q3), .second, .val (.long q4), .second, .val (.int p5), .val (.int v5), .val (.int v11), .val (.long v17), .second, .val (.long v23), .second, .val (.int v25), .val (.ref b26), .val (.ref b29), .val (.ref b32), .val (.int v50), .unset] [])) _
      refine XS.aload X32.here hx rfl (hb hby at_136) rfl rfl ?_
      show Steps p.tables e below (T32.setTop (mkF m 138 #[.val (.long q1), .second, .val (.long q2), .second, .val (.long q3), .second, .val (.long q4), .second, .val (.int p5), .val (.int v5), .val (.int v11), .val (.long v17), .second, .val (.long v23), .second, .val (.int v25), .val (.ref b26), .val (.ref b29), .val (.ref b32), .val (.int v50), .unset] [(.ref b26)])) _
      refine XS.aload X32.here hx rfl (hb hby at_138) rfl rfl ?_
      show Steps p.tables e below (T32.setTop (mkF m 140 #[.val (.long q1), .second, .val (.long q2), .second, .val (.long q3), .second, .val (.long q4), .second, .val (.int p5), .val (.int v5), .val (.int v11), .val (.long v17), .second, .val (.long v23), .second, .val (.int v25), .val (.ref b26), .val (.ref b29), .val (.ref b32), .val (.int v50), .unset] [(.ref b29), (.ref b26)])) _
      refine st54.trans ?_
      show Steps p.tables e below (T54.setTop (mkF m 143 #[.val (.long q1), .second, .val (.long q2), .second, .val (.long q3), .second, .val (.long q4), .second, .val (.int p5), .val (.int v5), .val (.int v11), .val (.long v17), .second, .val (.long v23), .second, .val (.int v25), .val (.ref b26), .val (.ref b29), .val (.ref b32), .val (.int v50), .unset] [(.int (if q1 = v17 then (if q3 = v23 then (if (nar .boolean v5) = (nar .boolean v11) then (1 : Int32) else (0 : Int32)) else (0 : Int32)) else (0 : Int32)))])) _
      refine XS.iload X54.here hx rfl (hb hby at_143) rfl ?_
      show Steps p.tables e below (T54.setTop (mkF m 145 #[.val (.long q1), .second, .val (.long q2), .second, .val (.long q3), .second, .val (.long q4), .second, .val (.int p5), .val (.int v5), .val (.int v11), .val (.long v17), .second, .val (.long v23), .second, .val (.int v25), .val (.ref b26), .val (.ref b29), .val (.ref b32), .val (.int v50), .unset] [(.int v50), (.int (if q1 = v17 then (if q3 = v23 then (if (nar .boolean v5) = (nar .boolean v11) then (1 : Int32) else (0 : Int32)) else (0 : Int32)) else (0 : Int32)))])) _
      refine XS.icmpNo X54.here hx rfl (hb hby at_145) rfl (teq hc63_145).2 ?_
      show Steps p.tables e below (T54.setTop (mkF m 148 #[.val (.long q1), .second, .val (.long q2), .second, .val (.long q3), .second, .val (.long q4), .second, .val (.int p5), .val (.int v5), .val (.int v11), .val (.long v17), .second, .val (.long v23), .second, .val (.int v25), .val (.ref b26), .val (.ref b29), .val (.ref b32), .val (.int v50), .unset] [])) _
      refine XS.aload X54.here hx rfl (hb hby at_148) rfl rfl ?_
      show Steps p.tables e below (T54.setTop (mkF m 150 #[.val (.long q1), .second, .val (.long q2), .second, .val (.long q3), .second, .val (.long q4), .second, .val (.int p5), .val (.int v5), .val (.int v11), .val (.long v17), .second, .val (.long v23), .second, .val (.int v25), .val (.ref b26), .val (.ref b29), .val (.ref b32), .val (.int v50), .unset] [(.ref b29)])) _
      refine XS.aload X54.here hx rfl (hb hby at_150) rfl rfl ?_
      show Steps p.tables e below (T54.setTop (mkF m 152 #[.val (.long q1), .second, .val (.long q2), .second, .val (.long q3), .second, .val (.long q4), .second, .val (.int p5), .val (.int v5), .val (.int v11), .val (.long v17), .second, .val (.long v23), .second, .val (.int v25), .val (.ref b26), .val (.ref b29), .val (.ref b32), .val (.int v50), .unset] [(.ref b26), (.ref b29)])) _
      refine st64.trans ?_
      show Steps p.tables e below (T64.setTop (mkF m 155 #[.val (.long q1), .second, .val (.long q2), .second, .val (.long q3), .second, .val (.long q4), .second, .val (.int p5), .val (.int v5), .val (.int v11), .val (.long v17), .second, .val (.long v23), .second, .val (.int v25), .val (.ref b26), .val (.ref b29), .val (.ref b32), .val (.int v50), .unset] [(.int (if v17 = q1 then (if v23 = q3 then (if (nar .boolean v11) = (nar .boolean v5) then (1 : Int32) else (0 : Int32)) else (0 : Int32)) else (0 : Int32)))])) _
      refine XS.iload X64.here hx rfl (hb hby at_155) rfl ?_
      show Steps p.tables e below (T64.setTop (mkF m 157 #[.val (.long q1), .second, .val (.long q2), .second, .val (.long q3), .second, .val (.long q4), .second, .val (.int p5), .val (.int v5), .val (.int v11), .val (.long v17), .second, .val (.long v23), .second, .val (.int v25), .val (.ref b26), .val (.ref b29), .val (.ref b32), .val (.int v50), .unset] [(.int v50), (.int (if v17 = q1 then (if v23 = q3 then (if (nar .boolean v11) = (nar .boolean v5) then (1 : Int32) else (0 : Int32)) else (0 : Int32)) else (0 : Int32)))])) _
      refine XS.icmpNo X64.here hx rfl (hb hby at_157) rfl (teq hc65_157).2 ?_
      show Steps p.tables e below (T64.setTop (mkF m 160 #[.val (.long q1), .second, .val (.long q2), .second, .val (.long q3), .second, .val (.long q4), .second, .val (.int p5), .val (.int v5), .val (.int v11), .val (.long v17), .second, .val (.long v23), .second, .val (.int v25), .val (.ref b26), .val (.ref b29), .val (.ref b32), .val (.int v50), .unset] [])) _
      refine XS.iconst X64.here hx rfl (hb hby at_160) ?_
      show Steps p.tables e below (T64.setTop (mkF m 161 #[.val (.long q1), .second, .val (.long q2), .second, .val (.long q3), .second, .val (.long q4), .second, .val (.int p5), .val (.int v5), .val (.int v11), .val (.long v17), .second, .val (.long v23), .second, .val (.int v25), .val (.ref b26), .val (.ref b29), .val (.ref b32), .val (.int v50), .unset] [(.int (1 : Int32))])) _
      refine XS.goto X64.here hx rfl (pc0 := 161) (pc' := 165) rfl (hb hby at_161) (by decide) (by decide) ?_
      exact ktx
    obtain ⟨fs, hr, hrun, hended, hW, hsame⟩ := X64.leave (v := some (.int (1 : Int32))) (fun h => by rw [Bd.returns] at h; cases h)
    refine ⟨_, _, go66 _ ?_, hrun, hended, _, _, rfl, ?_, ⟨_, rfl⟩, hW, hsame.mono (by decide) (by decide)⟩
    · exact retN X64 hx (t := .boolean) Bd.returns (by simp) (hb hby at_165) hr
    · show Q0 Z q1 q2 q3 q4 p5 h0 n0 _ T64.heap _
      rw [e64]
      exact ⟨rfl, N64⟩
  · have go67 : own_go p e below (s₁.setTop (entryFrame m #[(.long q1), (.long q2), (.long q3), (.long q4), (.int p5)] maxLocals)) (T32.setTop (mkF m 169 #[.val (.long q1), .second, .val (.long q2), .second, .val (.long q3), .second, .val (.long q4), .second, .val (.int p5), .val (.int v5), .val (.int v11), .val (.long v17), .second, .val (.long v23), .second, .val (.int v25), .val (.ref b26), .val (.ref b29), .val (.ref b32), .val (.int v50), .unset] [(.int (1 : Int32)), (.int v25)])) := by
      intro ttx ktx
      refine go52 ttx ?_
      show Steps p.tables e below (T32.setTop (mkF m 133 #[.val (.long q1), .second, .val (.long q2), .second, .val (.long q3), .second, .val (.long q4), .second, .val (.int p5), .val (.int v5), .val (.int v11), .val (.long v17), .second, .val (.long v23), .second, .val (.int v25), .val (.ref b26), .val (.ref b29), .val (.ref b32), .val (.int v50), .unset] [(.int v25)])) _
      refine XS.ifYes X32.here hx rfl (pc0 := 133) (pc' := 166) rfl (hb hby at_133) rfl ((if0 _ _).trans (feq hc53_133).2) (by decide) (by decide) ?_
      show Steps p.tables e below (T32.setTop (mkF m 166 #[.val (.long q1), .second, .val (.long q2), .second, .val (.long q3), .second, .val (.long q4), .second, .val (.int p5), .val (.int v5), .val (.int v11), .val (.long v17), .second, .val (.long v23), .second, .val (.int v25), .val (.ref b26), .val (.ref b29), .val (.ref b32), .val (.int v50), .unset] [])) _
      refine XS.iload X32.here hx rfl (hb hby at_166) rfl ?_
      show Steps p.tables e below (T32.setTop (mkF m 168 #[.val (.long q1), .second, .val (.long q2), .second, .val (.long q3), .second, .val (.long q4), .second, .val (.int p5), .val (.int v5), .val (.int v11), .val (.long v17), .second, .val (.long v23), .second, .val (.int v25), .val (.ref b26), .val (.ref b29), .val (.ref b32), .val (.int v50), .unset] [(.int v25)])) _
      refine XS.iconst X32.here hx rfl (hb hby at_168) ?_
      exact ktx
    by_cases hc68_169 : v25 = (1 : Int32)
    · have f70 := (f34.keep Kq32)
      obtain ⟨cq69, kq69, q69a, q69b, q69c⟩ := isOf hZ rfl f70
      obtain ⟨_, _, ⟨T69, L69, k69, n69⟩, -, X69, ⟨Lc69, hQ69, l69, y69, z69⟩, st69⟩ := X32.virtualBack hx (y := (⟨"com/example/wilt/wilt/session/Session", "equals", "(Ljava/lang/Object;)Z"⟩ : MethodName)) (z := (⟨"com/example/wilt/wilt/session/Session", "equals", "(Ljava/lang/Object;)Z"⟩ : MethodName)) hown (mvT hZ (hw _ (List.mem_of_getElem? (i := 23) rfl))) (mvT hZ (hw _ (List.mem_of_getElem? (i := 24) rfl))) (notFace_of_selects (args := #[]) (mvT hZ (hw _ (List.mem_of_getElem? (i := 26) rfl)))) (mvT hZ (hw _ (List.mem_of_getElem? (i := 26) rfl))) (mvT hZ (hw _ (List.mem_of_getElem? (i := 25) rfl))) (by decide) (backOf (W := 0) (rmEQN l Z a0 hw [] b26  T32.heap n0 Z32 ) hZ (hw _ (List.mem_of_getElem? (i := 27) rfl)) (hw _ (List.mem_of_getElem? (i := 2) rfl)) (by decide) (by decide)) q69a q69c (g := (mkF m 179 #[.val (.long q1), .second, .val (.long q2), .second, .val (.long q3), .second, .val (.long q4), .second, .val (.int p5), .val (.int v5), .val (.int v11), .val (.long v17), .second, .val (.long v23), .second, .val (.int v25), .val (.ref b26), .val (.ref b29), .val (.ref b32), .val (.int v50), .val .null] [.null, (.ref b26)])) rfl (by rw [hml]; rfl) (Steps.refl _) (argsL := [.null]) (rest := []) (lenOf own_pd4 rfl) rfl (by show 2 * 0 + _ ≤ _; exact Nat.le_of_eq rfl) (hb hby at_179) (fun _ _ => ⟨rfl, rfl, (by decide : 3 + 0 ≤ _), (by decide : 7 + 0 ≤ _)⟩)
      dsimp only [Pt.U, Pt.locs, Pt.cells, Pt.slots] at X69 l69 y69 z69 st69 hQ69
      subst l69 y69 z69
      obtain ⟨rfl, Nq69, e69⟩ := hQ69
      have N69 := Fr.app N32 Nq69
      have hc71_182 : (0 : Int32) = (0 : Int32) := (by decide)
      have go72 : own_go p e below (s₁.setTop (entryFrame m #[(.long q1), (.long q2), (.long q3), (.long q4), (.int p5)] maxLocals)) (T69.setTop (mkF m 190 #[.val (.long q1), .second, .val (.long q2), .second, .val (.long q3), .second, .val (.long q4), .second, .val (.int p5), .val (.int v5), .val (.int v11), .val (.long v17), .second, .val (.long v23), .second, .val (.int v25), .val (.ref b26), .val (.ref b29), .val (.ref b32), .val (.int v50), .val .null] [(.int (1 : Int32))])) := by
        intro ttx ktx
        refine go67 ttx ?_
        show Steps p.tables e below (T32.setTop (mkF m 169 #[.val (.long q1), .second, .val (.long q2), .second, .val (.long q3), .second, .val (.long q4), .second, .val (.int p5), .val (.int v5), .val (.int v11), .val (.long v17), .second, .val (.long v23), .second, .val (.int v25), .val (.ref b26), .val (.ref b29), .val (.ref b32), .val (.int v50), .unset] [(.int (1 : Int32)), (.int v25)])) _
        refine XS.icmpNo X32.here hx rfl (hb hby at_169) rfl (teq hc68_169).2 ?_
        show Steps p.tables e below (T32.setTop (mkF m 172 #[.val (.long q1), .second, .val (.long q2), .second, .val (.long q3), .second, .val (.long q4), .second, .val (.int p5), .val (.int v5), .val (.int v11), .val (.long v17), .second, .val (.long v23), .second, .val (.int v25), .val (.ref b26), .val (.ref b29), .val (.ref b32), .val (.int v50), .unset] [])) _
        refine XS.aconstNull X32.here hx rfl (hb hby at_172) ?_
        show Steps p.tables e below (T32.setTop (mkF m 173 #[.val (.long q1), .second, .val (.long q2), .second, .val (.long q3), .second, .val (.long q4), .second, .val (.int p5), .val (.int v5), .val (.int v11), .val (.long v17), .second, .val (.long v23), .second, .val (.int v25), .val (.ref b26), .val (.ref b29), .val (.ref b32), .val (.int v50), .unset] [.null])) _
        refine XS.astore X32.here hx rfl (hb hby at_173) rfl rfl (l' := #[.val (.long q1), .second, .val (.long q2), .second, .val (.long q3), .second, .val (.long q4), .second, .val (.int p5), .val (.int v5), .val (.int v11), .val (.long v17), .second, .val (.long v23), .second, .val (.int v25), .val (.ref b26), .val (.ref b29), .val (.ref b32), .val (.int v50), .val .null]) rfl ?_
        show Steps p.tables e below (T32.setTop (mkF m 175 #[.val (.long q1), .second, .val (.long q2), .second, .val (.long q3), .second, .val (.long q4), .second, .val (.int p5), .val (.int v5), .val (.int v11), .val (.long v17), .second, .val (.long v23), .second, .val (.int v25), .val (.ref b26), .val (.ref b29), .val (.ref b32), .val (.int v50), .val .null] [])) _
        refine XS.aload X32.here hx rfl (hb hby at_175) rfl rfl ?_
        show Steps p.tables e below (T32.setTop (mkF m 177 #[.val (.long q1), .second, .val (.long q2), .second, .val (.long q3), .second, .val (.long q4), .second, .val (.int p5), .val (.int v5), .val (.int v11), .val (.long v17), .second, .val (.long v23), .second, .val (.int v25), .val (.ref b26), .val (.ref b29), .val (.ref b32), .val (.int v50), .val .null] [(.ref b26)])) _
        refine XS.aload X32.here hx rfl (hb hby at_177) rfl rfl ?_
        show Steps p.tables e below (T32.setTop (mkF m 179 #[.val (.long q1), .second, .val (.long q2), .second, .val (.long q3), .second, .val (.long q4), .second, .val (.int p5), .val (.int v5), .val (.int v11), .val (.long v17), .second, .val (.long v23), .second, .val (.int v25), .val (.ref b26), .val (.ref b29), .val (.ref b32), .val (.int v50), .val .null] [.null, (.ref b26)])) _
        refine st69.trans ?_
        show Steps p.tables e below (T69.setTop (mkF m 182 #[.val (.long q1), .second, .val (.long q2), .second, .val (.long q3), .second, .val (.long q4), .second, .val (.int p5), .val (.int v5), .val (.int v11), .val (.long v17), .second, .val (.long v23), .second, .val (.int v25), .val (.ref b26), .val (.ref b29), .val (.ref b32), .val (.int v50), .val .null] [(.int (0 : Int32))])) _
        refine XS.ifNo X69.here hx rfl (hb hby at_182) rfl ((if0 _ _).trans (teq hc71_182).2) ?_
        show Steps p.tables e below (T69.setTop (mkF m 185 #[.val (.long q1), .second, .val (.long q2), .second, .val (.long q3), .second, .val (.long q4), .second, .val (.int p5), .val (.int v5), .val (.int v11), .val (.long v17), .second, .val (.long v23), .second, .val (.int v25), .val (.ref b26), .val (.ref b29), .val (.ref b32), .val (.int v50), .val .null] [])) _
        refine XS.iconst X69.here hx rfl (hb hby at_185) ?_
        show Steps p.tables e below (T69.setTop (mkF m 186 #[.val (.long q1), .second, .val (.long q2), .second, .val (.long q3), .second, .val (.long q4), .second, .val (.int p5), .val (.int v5), .val (.int v11), .val (.long v17), .second, .val (.long v23), .second, .val (.int v25), .val (.ref b26), .val (.ref b29), .val (.ref b32), .val (.int v50), .val .null] [(.int (1 : Int32))])) _
        refine XS.goto X69.here hx rfl (pc0 := 186) (pc' := 190) rfl (hb hby at_186) (by decide) (by decide) ?_
        exact ktx
      obtain ⟨fs, hr, hrun, hended, hW, hsame⟩ := X69.leave (v := some (.int (1 : Int32))) (fun h => by rw [Bd.returns] at h; cases h)
      refine ⟨_, _, go72 _ ?_, hrun, hended, _, _, rfl, ?_, ⟨_, rfl⟩, hW, hsame.mono (by decide) (by decide)⟩
      · exact retN X69 hx (t := .boolean) Bd.returns (by simp) (hb hby at_190) hr
      · show Q0 Z q1 q2 q3 q4 p5 h0 n0 _ T69.heap _
        rw [e69]
        exact ⟨rfl, N69⟩
    · have go73 : own_go p e below (s₁.setTop (entryFrame m #[(.long q1), (.long q2), (.long q3), (.long q4), (.int p5)] maxLocals)) (T32.setTop (mkF m 194 #[.val (.long q1), .second, .val (.long q2), .second, .val (.long q3), .second, .val (.long q4), .second, .val (.int p5), .val (.int v5), .val (.int v11), .val (.long v17), .second, .val (.long v23), .second, .val (.int v25), .val (.ref b26), .val (.ref b29), .val (.ref b32), .val (.int v50), .unset] [(.int (2 : Int32)), (.int v25)])) := by
        intro ttx ktx
        refine go67 ttx ?_
        show Steps p.tables e below (T32.setTop (mkF m 169 #[.val (.long q1), .second, .val (.long q2), .second, .val (.long q3), .second, .val (.long q4), .second, .val (.int p5), .val (.int v5), .val (.int v11), .val (.long v17), .second, .val (.long v23), .second, .val (.int v25), .val (.ref b26), .val (.ref b29), .val (.ref b32), .val (.int v50), .unset] [(.int (1 : Int32)), (.int v25)])) _
        refine XS.icmpYes X32.here hx rfl (pc0 := 169) (pc' := 191) rfl (hb hby at_169) rfl (feq hc68_169).2 (by decide) (by decide) ?_
        show Steps p.tables e below (T32.setTop (mkF m 191 #[.val (.long q1), .second, .val (.long q2), .second, .val (.long q3), .second, .val (.long q4), .second, .val (.int p5), .val (.int v5), .val (.int v11), .val (.long v17), .second, .val (.long v23), .second, .val (.int v25), .val (.ref b26), .val (.ref b29), .val (.ref b32), .val (.int v50), .unset] [])) _
        refine XS.iload X32.here hx rfl (hb hby at_191) rfl ?_
        show Steps p.tables e below (T32.setTop (mkF m 193 #[.val (.long q1), .second, .val (.long q2), .second, .val (.long q3), .second, .val (.long q4), .second, .val (.int p5), .val (.int v5), .val (.int v11), .val (.long v17), .second, .val (.long v23), .second, .val (.int v25), .val (.ref b26), .val (.ref b29), .val (.ref b32), .val (.int v50), .unset] [(.int v25)])) _
        refine XS.iconst X32.here hx rfl (hb hby at_193) ?_
        exact ktx
      by_cases hc74_194 : v25 = (2 : Int32)
      · have f76 := (f34.keep Kq32)
        obtain ⟨cq75, kq75, q75a, q75b, q75c⟩ := isOf hZ rfl f76
        obtain ⟨_, _, ⟨T75, L75, k75, n75⟩, -, X75, ⟨Lc75, hQ75, l75, y75, z75⟩, st75⟩ := X32.virtualBack hx (y := (⟨"com/example/wilt/wilt/session/Session", "equals", "(Ljava/lang/Object;)Z"⟩ : MethodName)) (z := (⟨"com/example/wilt/wilt/session/Session", "equals", "(Ljava/lang/Object;)Z"⟩ : MethodName)) hown (mvT hZ (hw _ (List.mem_of_getElem? (i := 23) rfl))) (mvT hZ (hw _ (List.mem_of_getElem? (i := 24) rfl))) (notFace_of_selects (args := #[]) (mvT hZ (hw _ (List.mem_of_getElem? (i := 26) rfl)))) (mvT hZ (hw _ (List.mem_of_getElem? (i := 26) rfl))) (mvT hZ (hw _ (List.mem_of_getElem? (i := 25) rfl))) (by decide) (backOf (W := 0) (rmEQO l Z a0 hw [] b26 b32  T32.heap n0 Z32 Eq32) hZ (hw _ (List.mem_of_getElem? (i := 27) rfl)) (hw _ (List.mem_of_getElem? (i := 2) rfl)) (by decide) (by decide)) q75a q75c (g := (mkF m 201 #[.val (.long q1), .second, .val (.long q2), .second, .val (.long q3), .second, .val (.long q4), .second, .val (.int p5), .val (.int v5), .val (.int v11), .val (.long v17), .second, .val (.long v23), .second, .val (.int v25), .val (.ref b26), .val (.ref b29), .val (.ref b32), .val (.int v50), .unset] [(.ref b32), (.ref b26)])) rfl (by rw [hml]; rfl) (Steps.refl _) (argsL := [(.ref b32)]) (rest := []) (lenOf own_pd4 rfl) rfl (by show 2 * 0 + _ ≤ _; exact Nat.le_of_eq rfl) (hb hby at_201) (fun _ _ => ⟨rfl, rfl, (by decide : 3 + 0 ≤ _), (by decide : 7 + 0 ≤ _)⟩)
        dsimp only [Pt.U, Pt.locs, Pt.cells, Pt.slots] at X75 l75 y75 z75 st75 hQ75
        subst l75 y75 z75
        obtain ⟨rfl, Nq75, e75⟩ := hQ75
        have N75 := Fr.app N32 Nq75
        have hc77_204 : (0 : Int32) = (0 : Int32) := (by decide)
        have go78 : own_go p e below (s₁.setTop (entryFrame m #[(.long q1), (.long q2), (.long q3), (.long q4), (.int p5)] maxLocals)) (T75.setTop (mkF m 212 #[.val (.long q1), .second, .val (.long q2), .second, .val (.long q3), .second, .val (.long q4), .second, .val (.int p5), .val (.int v5), .val (.int v11), .val (.long v17), .second, .val (.long v23), .second, .val (.int v25), .val (.ref b26), .val (.ref b29), .val (.ref b32), .val (.int v50), .unset] [(.int (1 : Int32))])) := by
          intro ttx ktx
          refine go73 ttx ?_
          show Steps p.tables e below (T32.setTop (mkF m 194 #[.val (.long q1), .second, .val (.long q2), .second, .val (.long q3), .second, .val (.long q4), .second, .val (.int p5), .val (.int v5), .val (.int v11), .val (.long v17), .second, .val (.long v23), .second, .val (.int v25), .val (.ref b26), .val (.ref b29), .val (.ref b32), .val (.int v50), .unset] [(.int (2 : Int32)), (.int v25)])) _
          refine XS.icmpNo X32.here hx rfl (hb hby at_194) rfl (teq hc74_194).2 ?_
          show Steps p.tables e below (T32.setTop (mkF m 197 #[.val (.long q1), .second, .val (.long q2), .second, .val (.long q3), .second, .val (.long q4), .second, .val (.int p5), .val (.int v5), .val (.int v11), .val (.long v17), .second, .val (.long v23), .second, .val (.int v25), .val (.ref b26), .val (.ref b29), .val (.ref b32), .val (.int v50), .unset] [])) _
          refine XS.aload X32.here hx rfl (hb hby at_197) rfl rfl ?_
          show Steps p.tables e below (T32.setTop (mkF m 199 #[.val (.long q1), .second, .val (.long q2), .second, .val (.long q3), .second, .val (.long q4), .second, .val (.int p5), .val (.int v5), .val (.int v11), .val (.long v17), .second, .val (.long v23), .second, .val (.int v25), .val (.ref b26), .val (.ref b29), .val (.ref b32), .val (.int v50), .unset] [(.ref b26)])) _
          refine XS.aload X32.here hx rfl (hb hby at_199) rfl rfl ?_
          show Steps p.tables e below (T32.setTop (mkF m 201 #[.val (.long q1), .second, .val (.long q2), .second, .val (.long q3), .second, .val (.long q4), .second, .val (.int p5), .val (.int v5), .val (.int v11), .val (.long v17), .second, .val (.long v23), .second, .val (.int v25), .val (.ref b26), .val (.ref b29), .val (.ref b32), .val (.int v50), .unset] [(.ref b32), (.ref b26)])) _
          refine st75.trans ?_
          show Steps p.tables e below (T75.setTop (mkF m 204 #[.val (.long q1), .second, .val (.long q2), .second, .val (.long q3), .second, .val (.long q4), .second, .val (.int p5), .val (.int v5), .val (.int v11), .val (.long v17), .second, .val (.long v23), .second, .val (.int v25), .val (.ref b26), .val (.ref b29), .val (.ref b32), .val (.int v50), .unset] [(.int (0 : Int32))])) _
          refine XS.ifNo X75.here hx rfl (hb hby at_204) rfl ((if0 _ _).trans (teq hc77_204).2) ?_
          show Steps p.tables e below (T75.setTop (mkF m 207 #[.val (.long q1), .second, .val (.long q2), .second, .val (.long q3), .second, .val (.long q4), .second, .val (.int p5), .val (.int v5), .val (.int v11), .val (.long v17), .second, .val (.long v23), .second, .val (.int v25), .val (.ref b26), .val (.ref b29), .val (.ref b32), .val (.int v50), .unset] [])) _
          refine XS.iconst X75.here hx rfl (hb hby at_207) ?_
          show Steps p.tables e below (T75.setTop (mkF m 208 #[.val (.long q1), .second, .val (.long q2), .second, .val (.long q3), .second, .val (.long q4), .second, .val (.int p5), .val (.int v5), .val (.int v11), .val (.long v17), .second, .val (.long v23), .second, .val (.int v25), .val (.ref b26), .val (.ref b29), .val (.ref b32), .val (.int v50), .unset] [(.int (1 : Int32))])) _
          refine XS.goto X75.here hx rfl (pc0 := 208) (pc' := 212) rfl (hb hby at_208) (by decide) (by decide) ?_
          exact ktx
        obtain ⟨fs, hr, hrun, hended, hW, hsame⟩ := X75.leave (v := some (.int (1 : Int32))) (fun h => by rw [Bd.returns] at h; cases h)
        refine ⟨_, _, go78 _ ?_, hrun, hended, _, _, rfl, ?_, ⟨_, rfl⟩, hW, hsame.mono (by decide) (by decide)⟩
        · exact retN X75 hx (t := .boolean) Bd.returns (by simp) (hb hby at_212) hr
        · show Q0 Z q1 q2 q3 q4 p5 h0 n0 _ T75.heap _
          rw [e75]
          exact ⟨rfl, N75⟩
      · have f80 := (f34.keep Kq32)
        have f81 := (((Fq27_id.ext E29).keep Kq31 (ninS ne30 nin0)).keep Kq32 nin0)
        have f82 := (((Fq27_timeout.ext E29).keep Kq31 (ninS ne30 nin0)).keep Kq32 nin0)
        have f83 := (((Fq27_global.ext E29).keep Kq31 (ninS ne30 nin0)).keep Kq32 nin0)
        obtain ⟨cq79, kq79, q79a, q79b, q79c⟩ := isOf hZ rfl f80
        obtain ⟨_, _, ⟨T79, L79, k79, n79⟩, -, X79, ⟨Lc79, hQ79, l79, y79, z79⟩, st79⟩ := X32.virtualBack hx (y := (⟨"com/example/wilt/wilt/session/Session", "equals", "(Ljava/lang/Object;)Z"⟩ : MethodName)) (z := (⟨"com/example/wilt/wilt/session/Session", "equals", "(Ljava/lang/Object;)Z"⟩ : MethodName)) hown (mvT hZ (hw _ (List.mem_of_getElem? (i := 23) rfl))) (mvT hZ (hw _ (List.mem_of_getElem? (i := 24) rfl))) (notFace_of_selects (args := #[]) (mvT hZ (hw _ (List.mem_of_getElem? (i := 26) rfl)))) (mvT hZ (hw _ (List.mem_of_getElem? (i := 26) rfl))) (mvT hZ (hw _ (List.mem_of_getElem? (i := 25) rfl))) (by decide) (backOf (W := 0) (rmEQ l Z a0 hw [] b26 b26 q1 q3 (nar .boolean v5) q1 q3 (nar .boolean v5) T32.heap n0 Z32 f80 f81 f82 f83 f81 f82 f83) hZ (hw _ (List.mem_of_getElem? (i := 27) rfl)) (hw _ (List.mem_of_getElem? (i := 2) rfl)) (by decide) (by decide)) q79a q79c (g := (mkF m 217 #[.val (.long q1), .second, .val (.long q2), .second, .val (.long q3), .second, .val (.long q4), .second, .val (.int p5), .val (.int v5), .val (.int v11), .val (.long v17), .second, .val (.long v23), .second, .val (.int v25), .val (.ref b26), .val (.ref b29), .val (.ref b32), .val (.int v50), .unset] [(.ref b26), (.ref b26)])) rfl (by rw [hml]; rfl) (Steps.refl _) (argsL := [(.ref b26)]) (rest := []) (lenOf own_pd4 rfl) rfl (by show 2 * 0 + _ ≤ _; exact Nat.le_of_eq rfl) (hb hby at_217) (fun _ _ => ⟨rfl, rfl, (by decide : 3 + 0 ≤ _), (by decide : 7 + 0 ≤ _)⟩)
        dsimp only [Pt.U, Pt.locs, Pt.cells, Pt.slots] at X79 l79 y79 z79 st79 hQ79
        subst l79 y79 z79
        obtain ⟨rfl, Nq79, e79⟩ := hQ79
        have N79 := Fr.app N32 Nq79
        have go84 : own_go p e below (s₁.setTop (entryFrame m #[(.long q1), (.long q2), (.long q3), (.long q4), (.int p5)] maxLocals)) (T79.setTop (mkF m 220 #[.val (.long q1), .second, .val (.long q2), .second, .val (.long q3), .second, .val (.long q4), .second, .val (.int p5), .val (.int v5), .val (.int v11), .val (.long v17), .second, .val (.long v23), .second, .val (.int v25), .val (.ref b26), .val (.ref b29), .val (.ref b32), .val (.int v50), .unset] [(.int (if q1 = q1 then (if q3 = q3 then (if (nar .boolean v5) = (nar .boolean v5) then (1 : Int32) else (0 : Int32)) else (0 : Int32)) else (0 : Int32)))])) := by
          intro ttx ktx
          refine go73 ttx ?_
          show Steps p.tables e below (T32.setTop (mkF m 194 #[.val (.long q1), .second, .val (.long q2), .second, .val (.long q3), .second, .val (.long q4), .second, .val (.int p5), .val (.int v5), .val (.int v11), .val (.long v17), .second, .val (.long v23), .second, .val (.int v25), .val (.ref b26), .val (.ref b29), .val (.ref b32), .val (.int v50), .unset] [(.int (2 : Int32)), (.int v25)])) _
          refine XS.icmpYes X32.here hx rfl (pc0 := 194) (pc' := 213) rfl (hb hby at_194) rfl (feq hc74_194).2 (by decide) (by decide) ?_
          show Steps p.tables e below (T32.setTop (mkF m 213 #[.val (.long q1), .second, .val (.long q2), .second, .val (.long q3), .second, .val (.long q4), .second, .val (.int p5), .val (.int v5), .val (.int v11), .val (.long v17), .second, .val (.long v23), .second, .val (.int v25), .val (.ref b26), .val (.ref b29), .val (.ref b32), .val (.int v50), .unset] [])) _
          refine XS.aload X32.here hx rfl (hb hby at_213) rfl rfl ?_
          show Steps p.tables e below (T32.setTop (mkF m 215 #[.val (.long q1), .second, .val (.long q2), .second, .val (.long q3), .second, .val (.long q4), .second, .val (.int p5), .val (.int v5), .val (.int v11), .val (.long v17), .second, .val (.long v23), .second, .val (.int v25), .val (.ref b26), .val (.ref b29), .val (.ref b32), .val (.int v50), .unset] [(.ref b26)])) _
          refine XS.aload X32.here hx rfl (hb hby at_215) rfl rfl ?_
          show Steps p.tables e below (T32.setTop (mkF m 217 #[.val (.long q1), .second, .val (.long q2), .second, .val (.long q3), .second, .val (.long q4), .second, .val (.int p5), .val (.int v5), .val (.int v11), .val (.long v17), .second, .val (.long v23), .second, .val (.int v25), .val (.ref b26), .val (.ref b29), .val (.ref b32), .val (.int v50), .unset] [(.ref b26), (.ref b26)])) _
          refine st79.trans ?_
          exact ktx
        obtain ⟨fs, hr, hrun, hended, hW, hsame⟩ := X79.leave (v := some (.int (nar .boolean (if q1 = q1 then (if q3 = q3 then (if (nar .boolean v5) = (nar .boolean v5) then (1 : Int32) else (0 : Int32)) else (0 : Int32)) else (0 : Int32))))) (fun h => by rw [Bd.returns] at h; cases h)
        refine ⟨_, _, go84 _ ?_, hrun, hended, _, _, rfl, ?_, ⟨_, rfl⟩, hW, hsame.mono (by decide) (by decide)⟩
        · exact retN X79 hx (t := .boolean) Bd.returns (by simp) (hb hby at_220) hr
        · show Q0 Z q1 q2 q3 q4 p5 h0 n0 _ T79.heap _
          rw [e79]
          exact ⟨by rw [if_pos rfl, if_pos rfl, if_pos rfl]; rfl, N79⟩
set_option maxRecDepth 65536 in
set_option maxHeartbeats 40000000 in
theorem comes_1 {Post : Tables → Env → Array Value → State → Outcome → State → Prop} (hpost : ∀ tb e args s v u, (limb_1_1.after args s (.returned v) u = true ∧ limb_1_2.after args s (.returned v) u = true ∧ True) → FrameEnd s (.returned v) u (Jvm.fieldLocs frame_1_writes args s ++ Jvm.arrayLocs frame_1_arrays args s ++ Jvm.staticLocs frame_1_statics s) 16 128 → Post tb e args s (.returned v) u) :
    ArmFor flags0 classFile x code maxLocals ret World_1 tables_1 room_1 Calls_1 rest_1 Pre_1 Post := by
  intro l hfl _ _ p e ha hc hk s m args below hf hA hF happ hP
  obtain ⟨hcalls, hrest, hpre⟩ := hP
  obtain ⟨-, -, -, hnamed, -, -, -, hat⟩ := (Spec.applies_iff hf).mp happ
  obtain ⟨hg, hn⟩ := and_e (Cond.before_iff.mp (show (Jvm.Cond.and given_1 narrow_1).before args s = true from hpre))
  obtain ⟨ga0, gb0⟩ := and_e hg
  obtain ⟨ga1, gb1⟩ := and_e gb0
  obtain ⟨ga2, gb2⟩ := and_e gb1
  obtain ⟨ga3, gb3⟩ := and_e gb2
  obtain ⟨ga4, gb4⟩ := and_e gb3
  obtain ⟨w0, w1, w2, w3, w4, rfl⟩ : ∃ w0 w1 w2 w3 w4 : Value, args = #[w0, w1, w2, w3, w4] := by
    have hs : args.size = 5 := by simpa [Cond.value, given_1] using ga0
    obtain ⟨L⟩ := args
    match L, hs with
    | [w0, w1, w2, w3, w4], _ => exact ⟨w0, w1, w2, w3, w4, rfl⟩
  have hw := fun d (hd : d ∈ tables_1) => atoms_spec (ws := Jvm.Cond.code x code maxLocals ret :: tables_1) hat d (List.mem_cons_of_mem _ hd)
  have hfit : Fit s := fun {y c} hc i hi => by
    obtain ⟨ha, rfl⟩ := Array.getElem?_eq_some_iff.mp hc
    have q := List.all_eq_true.mp ((Array.all_eq_true_iff_forall_mem.mp hF) _ (Array.getElem_mem ha)) i (List.mem_range.mpr hi)
    simpa [Array.getElem?_eq_getElem hi] using q
  obtain ⟨hsets, hown0⟩ := atoms_of _ (rest_1_c_eq ▸ (show rest_1_c.before _ s = true from hrest))
  obtain ⟨i0, ei0⟩ := isL_v ga1
  obtain rfl : w0 = (.long i0) := Option.some.inj ei0
  obtain ⟨i1, ei1⟩ := isL_v ga2
  obtain rfl : w1 = (.long i1) := Option.some.inj ei1
  obtain ⟨i2, ei2⟩ := isL_v ga3
  obtain rfl : w2 = (.long i2) := Option.some.inj ei2
  obtain ⟨i3, ei3⟩ := isL_v ga4
  obtain rfl : w3 = (.long i3) := Option.some.inj ei3
  obtain ⟨i4, ei4⟩ := is_v gb4
  obtain rfl : w4 = (.int i4) := Option.some.inj ei4
  obtain ⟨n, o, h1, h2, h3, _, L, rfl, ⟨rfl, N⟩, hq⟩ := rm0 l s _ hw tables_1 i0 i1 i2 i3 i4  s.heap s.heap.size (Nat.le_refl _) (Old.start s) (own_cache_of hw hsets hfit) p e ha hc hk s m _ below hf ((Spec.applies_iff_loose hf).mp happ).1 ⟨rfl, State.Warmed39.refl s, rfl⟩ trivial
  refine ⟨n, _, h1, h2, h3, hpost _ _ _ _ _ _ ⟨Cond.after_iff.mpr rfl, Cond.after_iff.mpr (eq_i res_at (Term.int_eval (1)) rfl), trivial⟩ ⟨hq.1, hq.2.1, (hq.2.2.sift fun y hy => Or.inr (N y hy)).mono (by decide) (by decide)⟩⟩
theorem main_1_1 : Claimed_1_1 := comes_1 fun _ _ _ _ _ _ h hF => ⟨h.1, hF⟩
theorem main_1_2 : Claimed_1_2 := comes_1 fun _ _ _ _ _ _ h hF => ⟨h.2.1, hF⟩
end Jvm.Pilot.@@N@@
namespace Jvm.Pilot.@@N@@
open Jvm Jvm.ClassFile Sem Op Lib Jvm.Free Jvm.Stand Jvm.Pilot.@@N@@.Jvm.D
/-! MADE BY PROGRAM (witnessworld.py) out of the Statement's table words and the real class files: 16 classes; the members and pool entries that the words name. The judged class is class 1, her method 1. -/
namespace start1
open Jvm.ClassFile
def u (s : String) : CpInfo := .utf8 (stringToUtf16 s)
/-- a pool by its gaps: so many unusable entries, then the entry; so many at the end -/
def gap : Nat → List CpInfo → List CpInfo
  | 0, r => r
  | n + 1, r => .unusable :: gap n r
def poolList (es : List (Nat × CpInfo)) (last : Nat) : List CpInfo := es.foldr (fun e r => gap e.1 (e.2 :: r)) (gap last [])
def pool (es : List (Nat × CpInfo)) (last : Nat) : Array CpInfo := ⟨poolList es last⟩
def fileOf (pool : Array CpInfo) (this : Nat) (attrs : Array Attribute := #[]) (ms : Array MethodInfo := #[]) (fl : Nat := 33) (sup : Nat := 0) (ifs : Array Nat := #[]) (fds : Array FieldInfo := #[]) : ClassFile where
  minorVersion := 0
  majorVersion := 65
  constantPool := pool
  accessFlags := fl
  thisClass := this
  superClass := sup
  interfaces := ifs
  fields := fds
  methods := ms
  attributes := attrs
def plain (name : String) (sup : Option ClassId) : Class where
  name := name
  kind := .ordinary
  loader := none
  accessFlags := 33
  super := sup
  interfaces := #[]
  cf := none
  fields := #[]
  methods := #[]
  instanceTypes := #[]
  staticTypes := #[]
  resolved := #[]
  callSites := []
  init := .initialized
  statics := none
  mirror := none

def pool0 : Array CpInfo := pool [(5, u "<init>"), (0, u "()V"), (1, .class_ 10), (1, u "java/lang/Object")] 113

def k0c0 : Code := { maxStack := 0, maxLocals := 1, code := object_method_1_code, exceptionTable := #[], attributes := #[] }
def k0m0 : Method := { name := "<init>", desc := "()V", sig := { parameters := [], returnType := none }, accessFlags := 1, code := some k0c0 }
/-- java/lang/Object -/
def k0 : Class := { plain "java/lang/Object" none with
  accessFlags := 33
  interfaces := #[]
  cf := some (fileOf pool0 8 #[] #[{ accessFlags := 1, nameIndex := 5, descriptorIndex := 6, attributes := #[] }] 33 0 #[] #[])
  fields := #[]
  methods := #[k0m0]
  instanceTypes := #[]
  staticTypes := #[]
  resolved := Array.replicate 124 none
  statics := none }

def pool1 : Array CpInfo := pool [(2, .class_ 4), (1, u "java/lang/Object"), (0, u "<init>"), (0, u "()V"), (0, .class_ 8), (0, u "com/example/wilt/wilt/session/Session"), (0, .methodref 7 10), (0, .nameAndType 5 11), (0, u "(JJZ)V"), (0, .methodref 13 14), (0, .class_ 15), (0, .nameAndType 16 17), (0, u "java/lang/Long"), (0, u "valueOf"), (0, u "(J)Ljava/lang/Long;"), (0, .methodref 7 19), (0, .nameAndType 20 21), (0, u "equals"), (0, u "(Ljava/lang/Object;)Z"), (0, .class_ 23), (0, u "com/example/wilt/wilt/session/SessionEqualsPinLaw"), (2, u "law"), (0, u "(JJJJI)Z")] 3

def k1m0 : Method := { name := "<init>", desc := "()V", sig := { parameters := [], returnType := none }, accessFlags := 1, code := none }
def k1c1 : Code := { maxStack := 7, maxLocals := 21, code := code, exceptionTable := #[], attributes := #[] }
def k1m1 : Method := { name := "law", desc := "(JJJJI)Z", sig := { parameters := [.long, .long, .long, .long, .int], returnType := some .boolean }, accessFlags := 9, code := some k1c1 }
/-- com/example/wilt/wilt/session/SessionEqualsPinLaw -/
def k1 : Class := { plain "com/example/wilt/wilt/session/SessionEqualsPinLaw" (some 0) with
  accessFlags := 49
  interfaces := #[]
  cf := some (fileOf pool1 22 #[] #[{ accessFlags := 1, nameIndex := 5, descriptorIndex := 6, attributes := #[] }, { accessFlags := 9, nameIndex := 26, descriptorIndex := 27, attributes := #[] }] 49 2 #[] #[])
  fields := #[]
  methods := #[k1m0, k1m1]
  instanceTypes := #[]
  staticTypes := #[]
  resolved := Array.replicate 31 none
  statics := none }

def pool2 : Array CpInfo := pool [(1, .methodref 2 3), (0, .class_ 4), (0, .nameAndType 5 6), (0, u "java/lang/Object"), (0, u "<init>"), (0, u "()V"), (0, .fieldref 8 9), (0, .class_ 10), (0, .nameAndType 11 12), (0, u "com/example/wilt/wilt/session/Session"), (0, u "id"), (0, u "J"), (0, .fieldref 8 14), (0, .nameAndType 15 12), (0, u "timeout"), (0, .fieldref 8 17), (0, .nameAndType 18 19), (0, u "global"), (0, u "Z"), (25, u "(JJZ)V"), (5, u "equals"), (0, u "(Ljava/lang/Object;)Z")] 23

def k2c0 : Code := { maxStack := 3, maxLocals := 6, code := prog_29_method_1_code, exceptionTable := #[], attributes := #[] }
def k2m0 : Method := { name := "<init>", desc := "(JJZ)V", sig := { parameters := [.long, .long, .boolean], returnType := none }, accessFlags := 0, code := some k2c0 }
def k2c1 : Code := { maxStack := 4, maxLocals := 3, code := prog_29_method_5_code, exceptionTable := #[], attributes := #[] }
def k2m1 : Method := { name := "equals", desc := "(Ljava/lang/Object;)Z", sig := { parameters := [(.object "java/lang/Object")], returnType := some .boolean }, accessFlags := 1, code := some k2c1 }
/-- com/example/wilt/wilt/session/Session -/
def k2 : Class := { plain "com/example/wilt/wilt/session/Session" (some 0) with
  accessFlags := 33
  interfaces := #[]
  cf := some (fileOf pool2 8 #[] #[{ accessFlags := 0, nameIndex := 5, descriptorIndex := 45, attributes := #[] }, { accessFlags := 1, nameIndex := 51, descriptorIndex := 52, attributes := #[] }] 33 2 #[] #[{ accessFlags := 18, nameIndex := 11, descriptorIndex := 12, attributes := #[] }, { accessFlags := 18, nameIndex := 15, descriptorIndex := 12, attributes := #[] }, { accessFlags := 18, nameIndex := 18, descriptorIndex := 19, attributes := #[] }])
  fields := #[{ name := "id", type := .long, accessFlags := 18, slot := 0, constantValue := 0 }, { name := "timeout", type := .long, accessFlags := 18, slot := 1, constantValue := 0 }, { name := "global", type := .boolean, accessFlags := 18, slot := 2, constantValue := 0 }]
  methods := #[k2m0, k2m1]
  instanceTypes := #[.long, .long, .boolean]
  staticTypes := #[]
  resolved := Array.replicate 76 none
  statics := none }

def pool3 : Array CpInfo := pool [(1, .class_ 2), (0, u "java/io/Serializable"), (0, .class_ 4), (0, u "java/lang/Object")] 2

/-- java/io/Serializable -/
def k3 : Class := { plain "java/io/Serializable" (some 0) with
  accessFlags := 1537
  interfaces := #[]
  cf := some (fileOf pool3 1 #[] #[] 1537 3 #[] #[])
  fields := #[]
  methods := #[]
  instanceTypes := #[]
  staticTypes := #[]
  resolved := Array.replicate 7 none
  statics := none }

def pool4 : Array CpInfo := pool [(1, .methodref 2 3), (0, .class_ 4), (0, .nameAndType 5 6), (0, u "java/lang/Object"), (0, u "<init>"), (0, u "()V"), (1, .class_ 10), (1, u "java/lang/Number"), (2, .class_ 14), (0, u "java/io/Serializable"), (0, u "serialVersionUID"), (0, u "J")] 20

def k4c0 : Code := { maxStack := 1, maxLocals := 1, code := jdk_18_method_1_code, exceptionTable := #[], attributes := #[] }
def k4m0 : Method := { name := "<init>", desc := "()V", sig := { parameters := [], returnType := none }, accessFlags := 1, code := some k4c0 }
/-- java/lang/Number -/
def k4 : Class := { plain "java/lang/Number" (some 0) with
  accessFlags := 1057
  interfaces := #[3]
  cf := some (fileOf pool4 8 #[] #[{ accessFlags := 1, nameIndex := 5, descriptorIndex := 6, attributes := #[] }] 1057 2 #[13] #[{ accessFlags := 26, nameIndex := 15, descriptorIndex := 16, attributes := #[] }])
  fields := #[{ name := "serialVersionUID", type := .long, accessFlags := 26, slot := 0, constantValue := 0 }]
  methods := #[k4m0]
  instanceTypes := #[]
  staticTypes := #[.long]
  resolved := Array.replicate 37 none
  statics := none }

def pool5 : Array CpInfo := pool [(1, .class_ 2), (0, u "java/lang/Comparable"), (0, .class_ 4), (0, u "java/lang/Object")] 7

/-- java/lang/Comparable -/
def k5 : Class := { plain "java/lang/Comparable" (some 0) with
  accessFlags := 1537
  interfaces := #[]
  cf := some (fileOf pool5 1 #[] #[] 1537 3 #[] #[])
  fields := #[]
  methods := #[]
  instanceTypes := #[]
  staticTypes := #[]
  resolved := Array.replicate 12 none
  statics := none }

def pool6 : Array CpInfo := pool [(1, .class_ 2), (0, u "java/lang/constant/Constable"), (0, .class_ 4), (0, u "java/lang/Object")] 6

/-- java/lang/constant/Constable -/
def k6 : Class := { plain "java/lang/constant/Constable" (some 0) with
  accessFlags := 1537
  interfaces := #[]
  cf := some (fileOf pool6 1 #[] #[] 1537 3 #[] #[])
  fields := #[]
  methods := #[]
  instanceTypes := #[]
  staticTypes := #[]
  resolved := Array.replicate 11 none
  statics := none }

def pool7 : Array CpInfo := pool [(1, .class_ 2), (0, u "java/lang/constant/ConstantDesc"), (0, .class_ 4), (0, u "java/lang/Object")] 32

/-- java/lang/constant/ConstantDesc -/
def k7 : Class := { plain "java/lang/constant/ConstantDesc" (some 0) with
  accessFlags := 1537
  interfaces := #[]
  cf := some (fileOf pool7 1 #[] #[] 1537 3 #[] #[])
  fields := #[]
  methods := #[]
  instanceTypes := #[]
  staticTypes := #[]
  resolved := Array.replicate 37 none
  statics := none }

def pool8 : Array CpInfo := pool [(1, .class_ 2), (0, u "java/lang/Long"), (55, .nameAndType 59 60), (0, u "<init>"), (0, u "()V"), (24, u "valueOf"), (143, u "(J)Ljava/lang/Long;"), (0, .long 18446744073709551488), (1, .long 127), (1, .fieldref 235 236), (0, .class_ 237), (0, .nameAndType 238 239), (0, u "java/lang/Long$LongCache"), (0, u "cache"), (0, u "[Ljava/lang/Long;"), (0, .methodref 1 241), (0, .nameAndType 59 242), (0, u "(J)V"), (27, .methodref 271 58), (0, .class_ 272), (0, u "java/lang/Number"), (0, .fieldref 1 274), (0, .nameAndType 275 276), (0, u "value"), (0, u "J"), (84, u "TYPE"), (0, u "Ljava/lang/Class;"), (0, .class_ 364), (0, u "java/lang/Comparable"), (0, .class_ 366), (0, u "java/lang/constant/Constable"), (0, .class_ 368), (0, u "java/lang/constant/ConstantDesc"), (0, u "MIN_VALUE"), (1, u "MAX_VALUE"), (4, u "SIZE"), (0, u "I"), (1, u "BYTES"), (1, u "serialVersionUID")] 142

def k8c0 : Code := { maxStack := 4, maxLocals := 3, code := jdk_35_method_24_code, exceptionTable := #[], attributes := #[] }
def k8m0 : Method := { name := "valueOf", desc := "(J)Ljava/lang/Long;", sig := { parameters := [.long], returnType := some (.object "java/lang/Long") }, accessFlags := 9, code := some k8c0 }
def k8c1 : Code := { maxStack := 3, maxLocals := 3, code := jdk_35_method_26_code, exceptionTable := #[], attributes := #[] }
def k8m1 : Method := { name := "<init>", desc := "(J)V", sig := { parameters := [.long], returnType := none }, accessFlags := 1, code := some k8c1 }
/-- java/lang/Long -/
def k8 : Class := { plain "java/lang/Long" (some 4) with
  accessFlags := 49
  interfaces := #[5, 6, 7]
  cf := some (fileOf pool8 1 #[.nestMembers #[235]] #[{ accessFlags := 9, nameIndex := 85, descriptorIndex := 229, attributes := #[] }, { accessFlags := 1, nameIndex := 59, descriptorIndex := 242, attributes := #[] }] 49 271 #[363, 365, 367] #[{ accessFlags := 25, nameIndex := 369, descriptorIndex := 276, attributes := #[] }, { accessFlags := 25, nameIndex := 371, descriptorIndex := 276, attributes := #[] }, { accessFlags := 25, nameIndex := 361, descriptorIndex := 362, attributes := #[] }, { accessFlags := 18, nameIndex := 275, descriptorIndex := 276, attributes := #[] }, { accessFlags := 25, nameIndex := 376, descriptorIndex := 377, attributes := #[] }, { accessFlags := 25, nameIndex := 379, descriptorIndex := 377, attributes := #[] }, { accessFlags := 26, nameIndex := 381, descriptorIndex := 276, attributes := #[] }])
  fields := #[{ name := "MIN_VALUE", type := .long, accessFlags := 25, slot := 0, constantValue := 0 }, { name := "MAX_VALUE", type := .long, accessFlags := 25, slot := 1, constantValue := 0 }, { name := "TYPE", type := (.object "java/lang/Class"), accessFlags := 25, slot := 2, constantValue := 0 }, { name := "value", type := .long, accessFlags := 18, slot := 0, constantValue := 0 }, { name := "SIZE", type := .int, accessFlags := 25, slot := 3, constantValue := 0 }, { name := "BYTES", type := .int, accessFlags := 25, slot := 4, constantValue := 0 }, { name := "serialVersionUID", type := .long, accessFlags := 26, slot := 5, constantValue := 0 }]
  methods := #[k8m0, k8m1]
  instanceTypes := #[.long]
  staticTypes := #[.long, .long, (.object "java/lang/Class"), .int, .int, .long]
  resolved := Array.replicate 524 none
  statics := none }

def pool9 : Array CpInfo := pool [(2, .class_ 4), (1, u "java/lang/Object"), (0, u "<init>"), (0, u "()V"), (0, .class_ 8), (0, u "java/lang/Long"), (7, .class_ 18), (1, u "java/lang/Long$LongCache"), (0, u "$assertionsDisabled"), (0, u "Z"), (8, u "archivedCache"), (0, u "[Ljava/lang/Long;"), (7, u "cache")] 24

def k9m0 : Method := { name := "<init>", desc := "()V", sig := { parameters := [], returnType := none }, accessFlags := 2, code := none }
/-- java/lang/Long$LongCache -/
def k9 : Class := { plain "java/lang/Long$LongCache" (some 0) with
  accessFlags := 48
  interfaces := #[]
  cf := some (fileOf pool9 16 #[.nestHost 7] #[{ accessFlags := 2, nameIndex := 5, descriptorIndex := 6, attributes := #[] }] 48 2 #[] #[{ accessFlags := 24, nameIndex := 38, descriptorIndex := 30, attributes := #[] }, { accessFlags := 8, nameIndex := 29, descriptorIndex := 30, attributes := #[] }, { accessFlags := 4120, nameIndex := 19, descriptorIndex := 20, attributes := #[] }])
  fields := #[{ name := "cache", type := (.array (.object "java/lang/Long")), accessFlags := 24, slot := 0, constantValue := 0 }, { name := "archivedCache", type := (.array (.object "java/lang/Long")), accessFlags := 8, slot := 1, constantValue := 0 }, { name := "$assertionsDisabled", type := .boolean, accessFlags := 4120, slot := 2, constantValue := 0 }]
  methods := #[k9m0]
  instanceTypes := #[]
  staticTypes := #[(.array (.object "java/lang/Long")), (.array (.object "java/lang/Long")), .boolean]
  resolved := Array.replicate 63 none
  statics := some 0 }

def pool10 : Array CpInfo := pool [(1, u "java/lang/Cloneable"), (0, .class_ 1), (0, u "java/lang/Object"), (0, .class_ 3)] 3

/-- java/lang/Cloneable -/
def k10 : Class := { plain "java/lang/Cloneable" (some 0) with
  accessFlags := 1537
  interfaces := #[]
  cf := some (fileOf pool10 2 #[] #[] 1537 4 #[] #[])
  fields := #[]
  methods := #[]
  instanceTypes := #[]
  staticTypes := #[]
  resolved := Array.replicate 8 none
  statics := none }

/-- the primitive byte -/
def k11 : Class := { plain "byte" none with kind := .primitive 'B', accessFlags := 0x411 }
/-- [B -/
def k12 : Class := { plain "[B" (some 0) with kind := .array 11 .byte, interfaces := #[10, 3], accessFlags := 1041 }

/-- the primitive int -/
def k13 : Class := { plain "int" none with kind := .primitive 'I', accessFlags := 0x411 }
/-- [I -/
def k14 : Class := { plain "[I" (some 0) with kind := .array 13 .int, interfaces := #[10, 3], accessFlags := 1041 }

/-- [Ljava/lang/Long; -/
def k15 : Class := { plain "[Ljava/lang/Long;" (some 0) with kind := .array 8 (.object "java/lang/Long"), interfaces := #[10, 3], accessFlags := 1041 }

def heap : Heap := #[{ cls := 9, slots := #[.ref 1, .null, .int 0], vm := .statics 9 },
  { cls := 15, slots := #[.ref 2, .ref 3, .ref 4, .ref 5, .ref 6, .ref 7, .ref 8, .ref 9, .ref 10, .ref 11, .ref 12, .ref 13, .ref 14, .ref 15, .ref 16, .ref 17, .ref 18, .ref 19, .ref 20, .ref 21, .ref 22, .ref 23, .ref 24, .ref 25, .ref 26, .ref 27, .ref 28, .ref 29, .ref 30, .ref 31, .ref 32, .ref 33, .ref 34, .ref 35, .ref 36, .ref 37, .ref 38, .ref 39, .ref 40, .ref 41, .ref 42, .ref 43, .ref 44, .ref 45, .ref 46, .ref 47, .ref 48, .ref 49, .ref 50, .ref 51, .ref 52, .ref 53, .ref 54, .ref 55, .ref 56, .ref 57, .ref 58, .ref 59, .ref 60, .ref 61, .ref 62, .ref 63, .ref 64, .ref 65, .ref 66, .ref 67, .ref 68, .ref 69, .ref 70, .ref 71, .ref 72, .ref 73, .ref 74, .ref 75, .ref 76, .ref 77, .ref 78, .ref 79, .ref 80, .ref 81, .ref 82, .ref 83, .ref 84, .ref 85, .ref 86, .ref 87, .ref 88, .ref 89, .ref 90, .ref 91, .ref 92, .ref 93, .ref 94, .ref 95, .ref 96, .ref 97, .ref 98, .ref 99, .ref 100, .ref 101, .ref 102, .ref 103, .ref 104, .ref 105, .ref 106, .ref 107, .ref 108, .ref 109, .ref 110, .ref 111, .ref 112, .ref 113, .ref 114, .ref 115, .ref 116, .ref 117, .ref 118, .ref 119, .ref 120, .ref 121, .ref 122, .ref 123, .ref 124, .ref 125, .ref 126, .ref 127, .ref 128, .ref 129, .ref 130, .ref 131, .ref 132, .ref 133, .ref 134, .ref 135, .ref 136, .ref 137, .ref 138, .ref 139, .ref 140, .ref 141, .ref 142, .ref 143, .ref 144, .ref 145, .ref 146, .ref 147, .ref 148, .ref 149, .ref 150, .ref 151, .ref 152, .ref 153, .ref 154, .ref 155, .ref 156, .ref 157, .ref 158, .ref 159, .ref 160, .ref 161, .ref 162, .ref 163, .ref 164, .ref 165, .ref 166, .ref 167, .ref 168, .ref 169, .ref 170, .ref 171, .ref 172, .ref 173, .ref 174, .ref 175, .ref 176, .ref 177, .ref 178, .ref 179, .ref 180, .ref 181, .ref 182, .ref 183, .ref 184, .ref 185, .ref 186, .ref 187, .ref 188, .ref 189, .ref 190, .ref 191, .ref 192, .ref 193, .ref 194, .ref 195, .ref 196, .ref 197, .ref 198, .ref 199, .ref 200, .ref 201, .ref 202, .ref 203, .ref 204, .ref 205, .ref 206, .ref 207, .ref 208, .ref 209, .ref 210, .ref 211, .ref 212, .ref 213, .ref 214, .ref 215, .ref 216, .ref 217, .ref 218, .ref 219, .ref 220, .ref 221, .ref 222, .ref 223, .ref 224, .ref 225, .ref 226, .ref 227, .ref 228, .ref 229, .ref 230, .ref 231, .ref 232, .ref 233, .ref 234, .ref 235, .ref 236, .ref 237, .ref 238, .ref 239, .ref 240, .ref 241, .ref 242, .ref 243, .ref 244, .ref 245, .ref 246, .ref 247, .ref 248, .ref 249, .ref 250, .ref 251, .ref 252, .ref 253, .ref 254, .ref 255, .ref 256, .ref 257], vm := .none },
  { cls := 8, slots := #[.long (-128)], vm := .none },
  { cls := 8, slots := #[.long (-127)], vm := .none },
  { cls := 8, slots := #[.long (-126)], vm := .none },
  { cls := 8, slots := #[.long (-125)], vm := .none },
  { cls := 8, slots := #[.long (-124)], vm := .none },
  { cls := 8, slots := #[.long (-123)], vm := .none },
  { cls := 8, slots := #[.long (-122)], vm := .none },
  { cls := 8, slots := #[.long (-121)], vm := .none },
  { cls := 8, slots := #[.long (-120)], vm := .none },
  { cls := 8, slots := #[.long (-119)], vm := .none },
  { cls := 8, slots := #[.long (-118)], vm := .none },
  { cls := 8, slots := #[.long (-117)], vm := .none },
  { cls := 8, slots := #[.long (-116)], vm := .none },
  { cls := 8, slots := #[.long (-115)], vm := .none },
  { cls := 8, slots := #[.long (-114)], vm := .none },
  { cls := 8, slots := #[.long (-113)], vm := .none },
  { cls := 8, slots := #[.long (-112)], vm := .none },
  { cls := 8, slots := #[.long (-111)], vm := .none },
  { cls := 8, slots := #[.long (-110)], vm := .none },
  { cls := 8, slots := #[.long (-109)], vm := .none },
  { cls := 8, slots := #[.long (-108)], vm := .none },
  { cls := 8, slots := #[.long (-107)], vm := .none },
  { cls := 8, slots := #[.long (-106)], vm := .none },
  { cls := 8, slots := #[.long (-105)], vm := .none },
  { cls := 8, slots := #[.long (-104)], vm := .none },
  { cls := 8, slots := #[.long (-103)], vm := .none },
  { cls := 8, slots := #[.long (-102)], vm := .none },
  { cls := 8, slots := #[.long (-101)], vm := .none },
  { cls := 8, slots := #[.long (-100)], vm := .none },
  { cls := 8, slots := #[.long (-99)], vm := .none },
  { cls := 8, slots := #[.long (-98)], vm := .none },
  { cls := 8, slots := #[.long (-97)], vm := .none },
  { cls := 8, slots := #[.long (-96)], vm := .none },
  { cls := 8, slots := #[.long (-95)], vm := .none },
  { cls := 8, slots := #[.long (-94)], vm := .none },
  { cls := 8, slots := #[.long (-93)], vm := .none },
  { cls := 8, slots := #[.long (-92)], vm := .none },
  { cls := 8, slots := #[.long (-91)], vm := .none },
  { cls := 8, slots := #[.long (-90)], vm := .none },
  { cls := 8, slots := #[.long (-89)], vm := .none },
  { cls := 8, slots := #[.long (-88)], vm := .none },
  { cls := 8, slots := #[.long (-87)], vm := .none },
  { cls := 8, slots := #[.long (-86)], vm := .none },
  { cls := 8, slots := #[.long (-85)], vm := .none },
  { cls := 8, slots := #[.long (-84)], vm := .none },
  { cls := 8, slots := #[.long (-83)], vm := .none },
  { cls := 8, slots := #[.long (-82)], vm := .none },
  { cls := 8, slots := #[.long (-81)], vm := .none },
  { cls := 8, slots := #[.long (-80)], vm := .none },
  { cls := 8, slots := #[.long (-79)], vm := .none },
  { cls := 8, slots := #[.long (-78)], vm := .none },
  { cls := 8, slots := #[.long (-77)], vm := .none },
  { cls := 8, slots := #[.long (-76)], vm := .none },
  { cls := 8, slots := #[.long (-75)], vm := .none },
  { cls := 8, slots := #[.long (-74)], vm := .none },
  { cls := 8, slots := #[.long (-73)], vm := .none },
  { cls := 8, slots := #[.long (-72)], vm := .none },
  { cls := 8, slots := #[.long (-71)], vm := .none },
  { cls := 8, slots := #[.long (-70)], vm := .none },
  { cls := 8, slots := #[.long (-69)], vm := .none },
  { cls := 8, slots := #[.long (-68)], vm := .none },
  { cls := 8, slots := #[.long (-67)], vm := .none },
  { cls := 8, slots := #[.long (-66)], vm := .none },
  { cls := 8, slots := #[.long (-65)], vm := .none },
  { cls := 8, slots := #[.long (-64)], vm := .none },
  { cls := 8, slots := #[.long (-63)], vm := .none },
  { cls := 8, slots := #[.long (-62)], vm := .none },
  { cls := 8, slots := #[.long (-61)], vm := .none },
  { cls := 8, slots := #[.long (-60)], vm := .none },
  { cls := 8, slots := #[.long (-59)], vm := .none },
  { cls := 8, slots := #[.long (-58)], vm := .none },
  { cls := 8, slots := #[.long (-57)], vm := .none },
  { cls := 8, slots := #[.long (-56)], vm := .none },
  { cls := 8, slots := #[.long (-55)], vm := .none },
  { cls := 8, slots := #[.long (-54)], vm := .none },
  { cls := 8, slots := #[.long (-53)], vm := .none },
  { cls := 8, slots := #[.long (-52)], vm := .none },
  { cls := 8, slots := #[.long (-51)], vm := .none },
  { cls := 8, slots := #[.long (-50)], vm := .none },
  { cls := 8, slots := #[.long (-49)], vm := .none },
  { cls := 8, slots := #[.long (-48)], vm := .none },
  { cls := 8, slots := #[.long (-47)], vm := .none },
  { cls := 8, slots := #[.long (-46)], vm := .none },
  { cls := 8, slots := #[.long (-45)], vm := .none },
  { cls := 8, slots := #[.long (-44)], vm := .none },
  { cls := 8, slots := #[.long (-43)], vm := .none },
  { cls := 8, slots := #[.long (-42)], vm := .none },
  { cls := 8, slots := #[.long (-41)], vm := .none },
  { cls := 8, slots := #[.long (-40)], vm := .none },
  { cls := 8, slots := #[.long (-39)], vm := .none },
  { cls := 8, slots := #[.long (-38)], vm := .none },
  { cls := 8, slots := #[.long (-37)], vm := .none },
  { cls := 8, slots := #[.long (-36)], vm := .none },
  { cls := 8, slots := #[.long (-35)], vm := .none },
  { cls := 8, slots := #[.long (-34)], vm := .none },
  { cls := 8, slots := #[.long (-33)], vm := .none },
  { cls := 8, slots := #[.long (-32)], vm := .none },
  { cls := 8, slots := #[.long (-31)], vm := .none },
  { cls := 8, slots := #[.long (-30)], vm := .none },
  { cls := 8, slots := #[.long (-29)], vm := .none },
  { cls := 8, slots := #[.long (-28)], vm := .none },
  { cls := 8, slots := #[.long (-27)], vm := .none },
  { cls := 8, slots := #[.long (-26)], vm := .none },
  { cls := 8, slots := #[.long (-25)], vm := .none },
  { cls := 8, slots := #[.long (-24)], vm := .none },
  { cls := 8, slots := #[.long (-23)], vm := .none },
  { cls := 8, slots := #[.long (-22)], vm := .none },
  { cls := 8, slots := #[.long (-21)], vm := .none },
  { cls := 8, slots := #[.long (-20)], vm := .none },
  { cls := 8, slots := #[.long (-19)], vm := .none },
  { cls := 8, slots := #[.long (-18)], vm := .none },
  { cls := 8, slots := #[.long (-17)], vm := .none },
  { cls := 8, slots := #[.long (-16)], vm := .none },
  { cls := 8, slots := #[.long (-15)], vm := .none },
  { cls := 8, slots := #[.long (-14)], vm := .none },
  { cls := 8, slots := #[.long (-13)], vm := .none },
  { cls := 8, slots := #[.long (-12)], vm := .none },
  { cls := 8, slots := #[.long (-11)], vm := .none },
  { cls := 8, slots := #[.long (-10)], vm := .none },
  { cls := 8, slots := #[.long (-9)], vm := .none },
  { cls := 8, slots := #[.long (-8)], vm := .none },
  { cls := 8, slots := #[.long (-7)], vm := .none },
  { cls := 8, slots := #[.long (-6)], vm := .none },
  { cls := 8, slots := #[.long (-5)], vm := .none },
  { cls := 8, slots := #[.long (-4)], vm := .none },
  { cls := 8, slots := #[.long (-3)], vm := .none },
  { cls := 8, slots := #[.long (-2)], vm := .none },
  { cls := 8, slots := #[.long (-1)], vm := .none },
  { cls := 8, slots := #[.long 0], vm := .none },
  { cls := 8, slots := #[.long 1], vm := .none },
  { cls := 8, slots := #[.long 2], vm := .none },
  { cls := 8, slots := #[.long 3], vm := .none },
  { cls := 8, slots := #[.long 4], vm := .none },
  { cls := 8, slots := #[.long 5], vm := .none },
  { cls := 8, slots := #[.long 6], vm := .none },
  { cls := 8, slots := #[.long 7], vm := .none },
  { cls := 8, slots := #[.long 8], vm := .none },
  { cls := 8, slots := #[.long 9], vm := .none },
  { cls := 8, slots := #[.long 10], vm := .none },
  { cls := 8, slots := #[.long 11], vm := .none },
  { cls := 8, slots := #[.long 12], vm := .none },
  { cls := 8, slots := #[.long 13], vm := .none },
  { cls := 8, slots := #[.long 14], vm := .none },
  { cls := 8, slots := #[.long 15], vm := .none },
  { cls := 8, slots := #[.long 16], vm := .none },
  { cls := 8, slots := #[.long 17], vm := .none },
  { cls := 8, slots := #[.long 18], vm := .none },
  { cls := 8, slots := #[.long 19], vm := .none },
  { cls := 8, slots := #[.long 20], vm := .none },
  { cls := 8, slots := #[.long 21], vm := .none },
  { cls := 8, slots := #[.long 22], vm := .none },
  { cls := 8, slots := #[.long 23], vm := .none },
  { cls := 8, slots := #[.long 24], vm := .none },
  { cls := 8, slots := #[.long 25], vm := .none },
  { cls := 8, slots := #[.long 26], vm := .none },
  { cls := 8, slots := #[.long 27], vm := .none },
  { cls := 8, slots := #[.long 28], vm := .none },
  { cls := 8, slots := #[.long 29], vm := .none },
  { cls := 8, slots := #[.long 30], vm := .none },
  { cls := 8, slots := #[.long 31], vm := .none },
  { cls := 8, slots := #[.long 32], vm := .none },
  { cls := 8, slots := #[.long 33], vm := .none },
  { cls := 8, slots := #[.long 34], vm := .none },
  { cls := 8, slots := #[.long 35], vm := .none },
  { cls := 8, slots := #[.long 36], vm := .none },
  { cls := 8, slots := #[.long 37], vm := .none },
  { cls := 8, slots := #[.long 38], vm := .none },
  { cls := 8, slots := #[.long 39], vm := .none },
  { cls := 8, slots := #[.long 40], vm := .none },
  { cls := 8, slots := #[.long 41], vm := .none },
  { cls := 8, slots := #[.long 42], vm := .none },
  { cls := 8, slots := #[.long 43], vm := .none },
  { cls := 8, slots := #[.long 44], vm := .none },
  { cls := 8, slots := #[.long 45], vm := .none },
  { cls := 8, slots := #[.long 46], vm := .none },
  { cls := 8, slots := #[.long 47], vm := .none },
  { cls := 8, slots := #[.long 48], vm := .none },
  { cls := 8, slots := #[.long 49], vm := .none },
  { cls := 8, slots := #[.long 50], vm := .none },
  { cls := 8, slots := #[.long 51], vm := .none },
  { cls := 8, slots := #[.long 52], vm := .none },
  { cls := 8, slots := #[.long 53], vm := .none },
  { cls := 8, slots := #[.long 54], vm := .none },
  { cls := 8, slots := #[.long 55], vm := .none },
  { cls := 8, slots := #[.long 56], vm := .none },
  { cls := 8, slots := #[.long 57], vm := .none },
  { cls := 8, slots := #[.long 58], vm := .none },
  { cls := 8, slots := #[.long 59], vm := .none },
  { cls := 8, slots := #[.long 60], vm := .none },
  { cls := 8, slots := #[.long 61], vm := .none },
  { cls := 8, slots := #[.long 62], vm := .none },
  { cls := 8, slots := #[.long 63], vm := .none },
  { cls := 8, slots := #[.long 64], vm := .none },
  { cls := 8, slots := #[.long 65], vm := .none },
  { cls := 8, slots := #[.long 66], vm := .none },
  { cls := 8, slots := #[.long 67], vm := .none },
  { cls := 8, slots := #[.long 68], vm := .none },
  { cls := 8, slots := #[.long 69], vm := .none },
  { cls := 8, slots := #[.long 70], vm := .none },
  { cls := 8, slots := #[.long 71], vm := .none },
  { cls := 8, slots := #[.long 72], vm := .none },
  { cls := 8, slots := #[.long 73], vm := .none },
  { cls := 8, slots := #[.long 74], vm := .none },
  { cls := 8, slots := #[.long 75], vm := .none },
  { cls := 8, slots := #[.long 76], vm := .none },
  { cls := 8, slots := #[.long 77], vm := .none },
  { cls := 8, slots := #[.long 78], vm := .none },
  { cls := 8, slots := #[.long 79], vm := .none },
  { cls := 8, slots := #[.long 80], vm := .none },
  { cls := 8, slots := #[.long 81], vm := .none },
  { cls := 8, slots := #[.long 82], vm := .none },
  { cls := 8, slots := #[.long 83], vm := .none },
  { cls := 8, slots := #[.long 84], vm := .none },
  { cls := 8, slots := #[.long 85], vm := .none },
  { cls := 8, slots := #[.long 86], vm := .none },
  { cls := 8, slots := #[.long 87], vm := .none },
  { cls := 8, slots := #[.long 88], vm := .none },
  { cls := 8, slots := #[.long 89], vm := .none },
  { cls := 8, slots := #[.long 90], vm := .none },
  { cls := 8, slots := #[.long 91], vm := .none },
  { cls := 8, slots := #[.long 92], vm := .none },
  { cls := 8, slots := #[.long 93], vm := .none },
  { cls := 8, slots := #[.long 94], vm := .none },
  { cls := 8, slots := #[.long 95], vm := .none },
  { cls := 8, slots := #[.long 96], vm := .none },
  { cls := 8, slots := #[.long 97], vm := .none },
  { cls := 8, slots := #[.long 98], vm := .none },
  { cls := 8, slots := #[.long 99], vm := .none },
  { cls := 8, slots := #[.long 100], vm := .none },
  { cls := 8, slots := #[.long 101], vm := .none },
  { cls := 8, slots := #[.long 102], vm := .none },
  { cls := 8, slots := #[.long 103], vm := .none },
  { cls := 8, slots := #[.long 104], vm := .none },
  { cls := 8, slots := #[.long 105], vm := .none },
  { cls := 8, slots := #[.long 106], vm := .none },
  { cls := 8, slots := #[.long 107], vm := .none },
  { cls := 8, slots := #[.long 108], vm := .none },
  { cls := 8, slots := #[.long 109], vm := .none },
  { cls := 8, slots := #[.long 110], vm := .none },
  { cls := 8, slots := #[.long 111], vm := .none },
  { cls := 8, slots := #[.long 112], vm := .none },
  { cls := 8, slots := #[.long 113], vm := .none },
  { cls := 8, slots := #[.long 114], vm := .none },
  { cls := 8, slots := #[.long 115], vm := .none },
  { cls := 8, slots := #[.long 116], vm := .none },
  { cls := 8, slots := #[.long 117], vm := .none },
  { cls := 8, slots := #[.long 118], vm := .none },
  { cls := 8, slots := #[.long 119], vm := .none },
  { cls := 8, slots := #[.long 120], vm := .none },
  { cls := 8, slots := #[.long 121], vm := .none },
  { cls := 8, slots := #[.long 122], vm := .none },
  { cls := 8, slots := #[.long 123], vm := .none },
  { cls := 8, slots := #[.long 124], vm := .none },
  { cls := 8, slots := #[.long 125], vm := .none },
  { cls := 8, slots := #[.long 126], vm := .none },
  { cls := 8, slots := #[.long 127], vm := .none }]
def classes : Array Class := #[k0, k1, k2, k3, k4, k5, k6, k7, k8, k9, k10, k11, k12, k13, k14, k15]
def interned : List (Array UInt16 × Addr) := []
def slotsUsed : Nat := 515
def theMethod : MethodId := ⟨1, 1⟩
def args0 : Array Value := #[.long 3, .long 4, .long 5, .long 6, .int 7]
def aboutOver (below : List Frame) : State where
  vm := { classes := classes, interned := interned.toArray }
  heap := heap
  slotsUsed := slotsUsed
  threads := #[{ frames := .invoking theMethod args0 :: below }]
def below0 : List Frame := [.native { method := ⟨0, 0⟩, args := #[] }]
def about1 : State := aboutOver below0
def p0 : Program := .bare "" "" ""
def e0 : Env := launch0.env 0 0 0
theorem w_frames : about1.frames = Frame.invoking theMethod args0 :: below0 := rfl
set_option maxRecDepth 65536 in
theorem w_args : argsFit about1.vm theMethod args0 = true := by decide +kernel
set_option maxRecDepth 65536 in
theorem w_heap : heapFits about1 = true := by decide +kernel
set_option maxRecDepth 65536 in
theorem w_runnable : about1.curStatus? = some .runnable := by decide +kernel
set_option maxRecDepth 65536 in
theorem w_alone : about1.alone = true := by decide +kernel
set_option maxRecDepth 65536 in
theorem w_named : about1.methodNamed? x = some theMethod := by decide +kernel
set_option maxRecDepth 65536 in
theorem w_hears : about1.hears theMethod below0 = true := by decide +kernel
set_option maxRecDepth 65536 in
theorem w_ripe : about1.ripe theMethod args0 below0 = true := by decide +kernel
theorem w_running : about1.status = .running := rfl
set_option maxRecDepth 65536 in
theorem w_room : about1.hasRoom e0.platform room_1 = true :=
  launch0.hasRoom_least _ room_1 (by decide +kernel) (by decide +kernel) (by decide +kernel) (by decide +kernel) (by decide +kernel) (by decide +kernel)
theorem allAtoms_all (ts : List Jvm.Cond) (a : Array Jvm.Value) (st : Jvm.State) : (allAtoms ts).before a st = ts.all (fun c => c.before a st) := by
  induction ts with
  | nil => rfl
  | cons c t ih =>
    show (Jvm.Cond.and c (allAtoms t)).before a st = _
    rw [Jvm.Cond.before_and, ih, List.all_cons]
def words1 : List Jvm.Cond := Jvm.Cond.code x code maxLocals ret :: tables_1
/-- a 'code' word, met by the world's own term for the bytes: nothing is compared byte by byte -/
theorem code_word {y : MethodName} {bytes : ByteArray} {mx : Nat} {rt : Option FieldType} {a : Array Value} {s : State} {m : MethodId} {meth : Method} {c : Code} (h1 : s.methodNamed? y = some m) (h2 : s.vm.method? m = some meth) (h3 : meth.code = some c) (h4 : c.code = bytes)
    (h5 : (c.maxLocals == mx && c.exceptionTable.isEmpty && decide (c.maxStack ≤ mostOperands) && decide (meth.sig.returnType = rt) && !meth.locks && decide (parseMethodDescriptor y.desc = some meth.sig)) = true) : (Jvm.Cond.code y bytes mx rt).before a s = true := by
  simp only [Bool.and_eq_true, beq_iff_eq, Bool.not_eq_true', decide_eq_true_eq] at h5
  obtain ⟨⟨⟨⟨⟨g1, g2⟩, g3⟩, g4⟩, g5⟩, g6⟩ := h5
  simp [Cond.before, Cond.holds, Cond.value, h1, h2, h3, h4, g1, g2, g3, g4, g5, g6]
def isCode : Jvm.Cond → Bool
  | .code _ _ _ _ => true
  | _ => false
theorem all_split {L : List Jvm.Cond} {P : Jvm.Cond → Bool} (h1 : L.all (fun c => isCode c || P c) = true) (h2 : ∀ c ∈ L.filter isCode, P c = true) : L.all P = true := by
  refine List.all_eq_true.mpr fun c hc => ?_
  have h := List.all_eq_true.mp h1 c hc
  rcases Bool.eq_false_or_eq_true (isCode c) with hi | hi
  · exact h2 c (List.mem_filter.mpr ⟨hc, hi⟩)
  · simpa [hi] using h
set_option maxRecDepth 65536 in
theorem w_c0 : (Jvm.Cond.code x code maxLocals ret).before args0 about1 = true := code_word (m := ⟨1, 1⟩) (meth := k1m1) (c := k1c1) (by decide +kernel) rfl rfl rfl (by decide +kernel)
set_option maxRecDepth 65536 in
theorem w_c1 : (Jvm.Cond.code ({ cls := "com/example/wilt/wilt/session/Session", name := "<init>", desc := "(JJZ)V" } : Jvm.MethodName) prog_29_method_1_code (6 : Nat) (Option.none : Option Jvm.ClassFile.FieldType)).before args0 about1 = true := code_word (m := ⟨2, 0⟩) (meth := k2m0) (c := k2c0) (by decide +kernel) rfl rfl rfl (by decide +kernel)
set_option maxRecDepth 65536 in
theorem w_c2 : (Jvm.Cond.code ({ cls := "java/lang/Object", name := "<init>", desc := "()V" } : Jvm.MethodName) object_method_1_code (1 : Nat) (Option.none : Option Jvm.ClassFile.FieldType)).before args0 about1 = true := code_word (m := ⟨0, 0⟩) (meth := k0m0) (c := k0c0) (by decide +kernel) rfl rfl rfl (by decide +kernel)
set_option maxRecDepth 65536 in
theorem w_c3 : (Jvm.Cond.code ({ cls := "java/lang/Long", name := "valueOf", desc := "(J)Ljava/lang/Long;" } : Jvm.MethodName) jdk_35_method_24_code (3 : Nat) (Option.some (Jvm.ClassFile.FieldType.object "java/lang/Long"))).before args0 about1 = true := code_word (m := ⟨8, 0⟩) (meth := k8m0) (c := k8c0) (by decide +kernel) rfl rfl rfl (by decide +kernel)
set_option maxRecDepth 65536 in
theorem w_c4 : (Jvm.Cond.code ({ cls := "com/example/wilt/wilt/session/Session", name := "equals", desc := "(Ljava/lang/Object;)Z" } : Jvm.MethodName) prog_29_method_5_code (3 : Nat) (Option.some Jvm.ClassFile.FieldType.boolean)).before args0 about1 = true := code_word (m := ⟨2, 1⟩) (meth := k2m1) (c := k2c1) (by decide +kernel) rfl rfl rfl (by decide +kernel)
set_option maxRecDepth 65536 in
theorem w_c5 : (Jvm.Cond.code ({ cls := "java/lang/Long", name := "<init>", desc := "(J)V" } : Jvm.MethodName) jdk_35_method_26_code (3 : Nat) (Option.none : Option Jvm.ClassFile.FieldType)).before args0 about1 = true := code_word (m := ⟨8, 1⟩) (meth := k8m1) (c := k8c1) (by decide +kernel) rfl rfl rfl (by decide +kernel)
set_option maxRecDepth 65536 in
theorem w_c6 : (Jvm.Cond.code ({ cls := "java/lang/Number", name := "<init>", desc := "()V" } : Jvm.MethodName) jdk_18_method_1_code (1 : Nat) (Option.none : Option Jvm.ClassFile.FieldType)).before args0 about1 = true := code_word (m := ⟨4, 0⟩) (meth := k4m0) (c := k4c0) (by decide +kernel) rfl rfl rfl (by decide +kernel)
def codes1 : List Jvm.Cond := [Jvm.Cond.code x code maxLocals ret, Jvm.Cond.code ({ cls := "com/example/wilt/wilt/session/Session", name := "<init>", desc := "(JJZ)V" } : Jvm.MethodName) prog_29_method_1_code (6 : Nat) (Option.none : Option Jvm.ClassFile.FieldType), Jvm.Cond.code ({ cls := "java/lang/Object", name := "<init>", desc := "()V" } : Jvm.MethodName) object_method_1_code (1 : Nat) (Option.none : Option Jvm.ClassFile.FieldType), Jvm.Cond.code ({ cls := "java/lang/Long", name := "valueOf", desc := "(J)Ljava/lang/Long;" } : Jvm.MethodName) jdk_35_method_24_code (3 : Nat) (Option.some (Jvm.ClassFile.FieldType.object "java/lang/Long")), Jvm.Cond.code ({ cls := "com/example/wilt/wilt/session/Session", name := "equals", desc := "(Ljava/lang/Object;)Z" } : Jvm.MethodName) prog_29_method_5_code (3 : Nat) (Option.some Jvm.ClassFile.FieldType.boolean), Jvm.Cond.code ({ cls := "java/lang/Long", name := "<init>", desc := "(J)V" } : Jvm.MethodName) jdk_35_method_26_code (3 : Nat) (Option.none : Option Jvm.ClassFile.FieldType), Jvm.Cond.code ({ cls := "java/lang/Number", name := "<init>", desc := "()V" } : Jvm.MethodName) jdk_18_method_1_code (1 : Nat) (Option.none : Option Jvm.ClassFile.FieldType)]
set_option maxRecDepth 65536 in
theorem codes_eq : words1.filter isCode = codes1 := rfl
theorem w_codes : ∀ c ∈ words1.filter isCode, c.before args0 about1 = true := by
  rw [codes_eq]
  intro c hc
  simp only [codes1, List.mem_cons, List.not_mem_nil, or_false] at hc
  rcases hc with rfl | rfl | rfl | rfl | rfl | rfl | rfl
  · exact w_c0
  · exact w_c1
  · exact w_c2
  · exact w_c3
  · exact w_c4
  · exact w_c5
  · exact w_c6
set_option maxRecDepth 65536 in
theorem w_t1 : (words1.take 24).all (fun c => isCode c || c.before args0 about1) = true := by decide +kernel
set_option maxRecDepth 65536 in
theorem w_t2 : ((words1.drop 24).take 24).all (fun c => isCode c || c.before args0 about1) = true := by decide +kernel
set_option maxRecDepth 65536 in
theorem w_t3 : ((words1.drop 24).drop 24).all (fun c => isCode c || c.before args0 about1) = true := by decide +kernel
theorem w_tables : (allAtoms (Jvm.Cond.code x code maxLocals ret :: tables_1)).before args0 about1 = true := by
  rw [allAtoms_all]
  show words1.all (fun c => c.before args0 about1) = true
  refine all_split ?_ w_codes
  rw [← List.take_append_drop 24 words1, List.all_append, w_t1, ← List.take_append_drop 24 (words1.drop 24), List.all_append, w_t2, w_t3]
  rfl
set_option maxRecDepth 65536 in
theorem w_rest : rest_1_c.before args0 about1 = true := by decide +kernel
set_option maxRecDepth 65536 in
theorem w_case : (Jvm.Cond.and given_1 narrow_1).before args0 about1 = true := by decide +kernel
theorem w_applies : (headSpec (Jvm.Cond.code x code maxLocals ret :: tables_1) room_1).applies x e0.platform about1 = true :=
  (Spec.applies_iff w_frames).mpr ⟨w_running, w_runnable, w_alone, w_named, w_hears, w_ripe, w_room, w_tables⟩
theorem atStart : AtStart classFile x code maxLocals ret World_1 tables_1 room_1 Calls_1 rest_1 Pre_1 launch0 p0 e0 about1 theMethod args0 below0 :=
  ⟨lists_1, trivial, launch0.admits_env _ _ _, launch0.least_env, fairChoices_fair.cas, fairChoices_fair.clock, w_frames, w_args, w_heap, w_applies, trivial, w_rest, w_case⟩
end start1
theorem witness_1 : WitnessClaimed_1 := ⟨start1.p0, start1.e0, start1.about1, start1.theMethod, start1.args0, start1.below0, start1.atStart⟩
end Jvm.Pilot.@@N@@
