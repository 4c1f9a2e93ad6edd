import JvmDerived
import JvmDerived.Pilot.@@N@@Statement
import JvmDerived.Pilot.@@N@@Code
set_option linter.unusedVariables false
set_option linter.unusedSimpArgs false
namespace Jvm.RoadKit
open Sem ClassFile Op Lib Jvm.Stand Jvm.Free Jvm.LawKit
section New
variable {p : Program} {l : Launch} {e : Env} {R : Room} {s : State} {m : MethodId} {args : Array Value} {below : List Frame} {meth : Method} {c : Code} {T : State} {locs : List Loc} {cells slots : Nat}
theorem retI (X : Stand p l e R s m args below meth c T locs cells slots) (hx : p.tables.exec = Jvm.exec) {pc : Nat} {Ls : Array Slot} {z : Int32} {rest : List Value} (hret : meth.sig.returnType = some .int) (hd : decode c.code pc = .ok (.ireturn, 1)) {fs : List Frame}
    (hl : ∀ (f : JFrame) (acts : List Action), f.method = m → f.locked = none → f.entered = [] → (doReturn e (T.setTop f) acts (some (.int z))).1 = T.setFrames fs) : Steps p.tables e below (T.setTop (mkF m pc Ls (.int z :: rest))) (T.setFrames fs) := by
  have hm' : T.vm.method? m = some meth := X.method'
  have hn : narrow .int (.int z) = .int z := rfl
  show Steps p.tables e below (T.setTop { method := m, pc := pc, locals := Ls, stack := _ :: rest, locked := none }) _
  jvm_step X.here [X.here.top, hx, hd, hm', hret, hn]
  first | (intro acts; rw [hl _ acts rfl rfl rfl]) | rw [hl _ _ rfl rfl rfl]
  exact Steps.refl _
end New
end Jvm.RoadKit
namespace Jvm.Pilot.@@N@@
open Jvm Jvm.ClassFile Sem Op Lib Jvm.Free Jvm.Stand Jvm.LawKit Jvm.RoadKit Bundle Jvm.Pilot.@@N@@.Jvm.D
/-- from the state A the run comes to the state B -/
def own_go (p : Program) (e : Env) (below : List Frame) (A B : State) : Prop := ∀ t, Steps p.tables e below B t → Steps p.tables e below A t
theorem own_wide {p : Program} {l : Launch} {e : Env} {R : Room} {s : State} {m : MethodId} {args : Array Value} {below : List Frame} {meth : Method} {c : Code} {T : State} {locs : List Loc} {cells slots k n : Nat} (X : Stand p l e R s m args below meth c T locs cells slots) (h1 : cells ≤ k) (h2 : slots ≤ n) : Stand p l e R s m args below meth c T locs k n :=
  { X with same := X.same.weaken (fun _ h _ => h) h1 h2 }
theorem own_getD {α : Type} (f : α → Value) : ∀ (l : List α) (d : α) (k : Nat), (l.map f).getD k (f d) = f (l.getD k d)
  | [], _, _ => rfl
  | _ :: _, _, 0 => rfl
  | _ :: t, d, k + 1 => own_getD f t d k
theorem d1_0 : decode prog_12_method_1_code 0 = .ok (.aload_n 0, 1) := by decide +kernel
theorem d1_1 : decode prog_12_method_1_code 1 = .ok (.invokespecial 3, 3) := by decide +kernel
theorem d1_4 : decode prog_12_method_1_code 4 = .ok (.return_, 1) := by decide +kernel
theorem own_pn_com_example_wilt_wilt_core_ExpirySlots_Run : plainName "com/example/wilt/wilt/core/ExpirySlots$Run" = true := by first | (simp [plainName, overriddenIn]; done) | decide +kernel
theorem ef_1 (m : MethodId) (x0 : Addr) : entryFrame m #[(.ref x0)] 1 = mkF m 0 #[.val (.ref x0)] [] := by first | (simp [entryFrame, mkF, argsToLocals, Value.category]; done) | rfl
def Q1 (Z : State) (a1 : Addr) (h0 : Heap) (n0 : Nat) (v : Option Value) (h : Heap) (L : List Loc) : Prop := v = none ∧ Fr n0 L ∧ h = h0
set_option maxRecDepth 65536 in
set_option maxHeartbeats 40000000 in
theorem rm1 (l : Launch) (Z : State) (a0 : Array Value) (hw : ∀ d ∈ tables_1, d.before a0 Z = true) (ws : List Jvm.Cond) (a1 : Addr) (h0 : Heap) (n0 : Nat) (Z0 : n0 ≤ h0.size) :
    MetFree l (⟨"com/example/wilt/wilt/core/ExpirySlots$Run", "<init>", "()V"⟩ : MethodName) (head1 (Jvm.Cond.code (⟨"com/example/wilt/wilt/core/ExpirySlots$Run", "<init>", "()V"⟩ : MethodName) prog_12_method_1_code 1 none :: ws) ({ frames := 1, cells := 0, slots := 0, locals := 12 } : Room)) (fun aax UU => aax = #[(.ref a1)] ∧ Z.Warmed39 UU.vm ∧ UU.heap = h0) (fun _ _ _ _ _ => True) (fun _ UU oux UU' => ∃ rvx Lrx, oux = .returned rvx ∧ Q1 Z a1 h0 n0 rvx UU'.heap Lrx ∧ FrameEnd UU oux UU' Lrx ({ frames := 1, cells := 0, slots := 0, locals := 12 } : Room).cells ({ frames := 1, cells := 0, slots := 0, locals := 12 } : Room).slots) := by
  refine MetFree.of_bodySF (plainFor_of_name own_pn_com_example_wilt_wilt_core_ExpirySlots_Run) hisR ?_
  intro p e s m args below meth c s₁ Bd hml0 hP hK
  obtain ⟨rfl, hZ, hh⟩ := hP
  have hx := Bd.exec
  have hby := Bd.bytes
  have hml : c.maxLocals = 1 := hml0
  have hown : s.vm.findClass "com/example/wilt/wilt/core/ExpirySlots$Run" = some m.cls := findClass_of_methodNamed Bd.named
  have hnm := (name_of_methodNamed Bd.named Bd.method).1
  have X0 : Stand p l e ({ frames := 1, cells := 0, slots := 0, locals := 12 } : Room) s m #[(.ref a1)] below meth c s₁ [] 0 0 := Stand.of_body Bd
  have e0 : s₁.heap = h0 := by rw [← hh, Bd.state]; rfl
  have N0 := Fr.nil n0
  have p0 : own_go p e below (s₁.setTop (entryFrame m #[(.ref a1)] 1)) (s₁.setTop (mkF m 0 #[.val (.ref a1)] [])) := fun ttx ktx => castTop (ef_1 m a1) ktx
  obtain ⟨T1, X1, e1, st1⟩ := initO X0 hx hZ hown (hw _ (List.mem_of_getElem? (i := 7) rfl)) (hw _ (List.mem_of_getElem? (i := 8) rfl)) (hw _ (List.mem_of_getElem? (i := 9) rfl)) e0 (g := (mkF m 1 #[.val (.ref a1)] [(.ref a1)])) rfl (by rw [hml]; rfl) rfl (hb hby d1_1) (by decide) (W := 0) (by show 2 * 0 + _ ≤ _; exact Nat.le_of_eq rfl) (by decide)
  have go2 : own_go p e below (s₁.setTop (entryFrame m #[(.ref a1)] 1)) (T1.setTop (mkF m 4 #[.val (.ref a1)] [])) := by
    intro ttx ktx
    refine p0 ttx ?_
    show Steps p.tables e below (s₁.setTop (mkF m 0 #[.val (.ref a1)] [])) _
    refine XS.aloadN X0.here hx rfl (hb hby d1_0) rfl rfl ?_
    show Steps p.tables e below (s₁.setTop (mkF m 1 #[.val (.ref a1)] [(.ref a1)])) _
    refine st1 _ ?_
    exact ktx
  obtain ⟨fs, hr, hrun, hended, hW, hsame⟩ := X1.leave (v := none) (fun _ => rfl)
  refine ⟨_, _, go2 _ ?_, hrun, hended, _, _, rfl, ?_, ⟨_, rfl⟩, hW, hsame.mono (by decide) (by decide)⟩
  · exact X1.returnOut hx Bd.returns (hb hby d1_4) hr
  · show Q1 Z a1 h0 n0 _ T1.heap _
    rw [e1]
    exact ⟨rfl, N0, rfl⟩
def own_pick (j : Int32) (a b c d : Int64) : Int64 := if j = (0 : Int32) then a else if j = (1 : Int32) then b else if j = (2 : Int32) then c else d
theorem own_four (j : Int32) (h1 : ¬ j < 0) (h2 : j < 4) : j = 0 ∨ j = 1 ∨ j = 2 ∨ j = 3 := by
  rw [Int32.lt_iff_toInt_lt] at h1 h2
  simp only [← Int32.toInt_inj]
  have e0 : (0 : Int32).toInt = 0 := rfl
  have e1 : (1 : Int32).toInt = 1 := rfl
  have e2 : (2 : Int32).toInt = 2 := rfl
  have e3 : (3 : Int32).toInt = 3 := rfl
  have e4 : (4 : Int32).toInt = 4 := rfl
  omega
theorem own_sel (j : Int32) (a b c d : Int64) (h1 : ¬ j < 0) (h2 : j < 4) : ([Value.long a, Value.long b, Value.long c, Value.long d] : List Value).getD j.toNatClampNeg (Value.long 0) = Value.long (own_pick j a b c d) := by
  rcases own_four j h1 h2 with rfl | rfl | rfl | rfl <;> rfl
theorem own_bd (x y : Int32) : ¬ ((x &&& 3) % 3 + (y &&& 1) < 0) ∧ (x &&& 3) % 3 + (y &&& 1) < 4 := by
  rw [Int32.lt_iff_toInt_lt, Int32.lt_iff_toInt_lt]
  have e0 : (0 : Int32).toInt = 0 := rfl
  have e1 : (1 : Int32).toInt = 1 := rfl
  have e3 : (3 : Int32).toInt = 3 := rfl
  have e4 : (4 : Int32).toInt = 4 := rfl
  have a1 := c_and x 3 (by decide)
  have a2 := c_and y 1 (by decide)
  have a3 := (c_iremV (x &&& 3) 3).1 a1.1 (by decide)
  have a4 := c_iadd ((x &&& 3) % 3) (y &&& 1)
  have a5 := rng32 ((x &&& 3) % 3 + (y &&& 1))
  omega
theorem d3_0 : decode prog_12_method_6_code 0 = .ok (.aload_n 0, 1) := by decide +kernel
theorem d3_1 : decode prog_12_method_6_code 1 = .ok (.getfield 35, 3) := by decide +kernel
theorem d3_4 : decode prog_12_method_6_code 4 = .ok (.ifnonnull 10, 3) := by decide +kernel
theorem d3_7 : decode prog_12_method_6_code 7 = .ok (.aload_n 0, 1) := by decide +kernel
theorem d3_8 : decode prog_12_method_6_code 8 = .ok (.getfield 40, 3) := by decide +kernel
theorem d3_11 : decode prog_12_method_6_code 11 = .ok (.goto 14, 3) := by decide +kernel
theorem d3_25 : decode prog_12_method_6_code 25 = .ok (.lreturn, 1) := by decide +kernel
theorem ef_T0 (m : MethodId) (x0 : Addr) (x1 : Int32) : entryFrame m #[(.ref x0), (.int x1)] 2 = mkF m 0 #[.val (.ref x0), .val (.int x1)] [] := by first | (simp [entryFrame, mkF, argsToLocals, Value.category]; done) | rfl
def QT0 (Z : State) (a1 : Addr) (p2 : Int32) (t : Int64) (h0 : Heap) (n0 : Nat) (v : Option Value) (h : Heap) (L : List Loc) : Prop := v = some (.long t) ∧ Fr n0 L ∧ h = h0
set_option maxRecDepth 65536 in
set_option maxHeartbeats 40000000 in
theorem rmT0 (l : Launch) (Z : State) (a0 : Array Value) (hw : ∀ d ∈ tables_1, d.before a0 Z = true) (ws : List Jvm.Cond) (a1 : Addr) (p2 : Int32) (t : Int64) (h0 : Heap) (n0 : Nat) (Z0 : n0 ≤ h0.size) (F_timeouts : Fld Z h0 a1 "com/example/wilt/wilt/core/ExpirySlots$Run" "timeouts" "[J" .null) (F_timeout : Fld Z h0 a1 "com/example/wilt/wilt/core/ExpirySlots$Run" "timeout" "J" (.long t)) :
    MetFree l (⟨"com/example/wilt/wilt/core/ExpirySlots$Run", "timeout", "(I)J"⟩ : MethodName) (head1 (Jvm.Cond.code (⟨"com/example/wilt/wilt/core/ExpirySlots$Run", "timeout", "(I)J"⟩ : MethodName) prog_12_method_6_code 2 (some .long) :: ws) ({ frames := 0, cells := 0, slots := 0, locals := 0 } : Room)) (fun aax UU => aax = #[(.ref a1), (.int p2)] ∧ Z.Warmed39 UU.vm ∧ UU.heap = h0) (fun _ _ _ _ _ => True) (fun _ UU oux UU' => ∃ rvx Lrx, oux = .returned rvx ∧ QT0 Z a1 p2 t h0 n0 rvx UU'.heap Lrx ∧ FrameEnd UU oux UU' Lrx ({ frames := 0, cells := 0, slots := 0, locals := 0 } : Room).cells ({ frames := 0, cells := 0, slots := 0, locals := 0 } : Room).slots) := by
  refine MetFree.of_bodySF (plainFor_of_name own_pn_com_example_wilt_wilt_core_ExpirySlots_Run) hisR ?_
  intro p e s m args below meth c s₁ Bd hml0 hP hK
  obtain ⟨rfl, hZ, hh⟩ := hP
  have hx := Bd.exec
  have hby := Bd.bytes
  have hml : c.maxLocals = 2 := hml0
  have hown : s.vm.findClass "com/example/wilt/wilt/core/ExpirySlots$Run" = some m.cls := findClass_of_methodNamed Bd.named
  have hnm := (name_of_methodNamed Bd.named Bd.method).1
  have X0 : Stand p l e ({ frames := 0, cells := 0, slots := 0, locals := 0 } : Room) s m #[(.ref a1), (.int p2)] below meth c s₁ [] 0 0 := Stand.of_body Bd
  have e0 : s₁.heap = h0 := by rw [← hh, Bd.state]; rfl
  have N0 := Fr.nil n0
  have p0 : own_go p e below (s₁.setTop (entryFrame m #[(.ref a1), (.int p2)] 2)) (s₁.setTop (mkF m 0 #[.val (.ref a1), .val (.int p2)] [])) := fun ttx ktx => castTop (ef_T0 m a1 p2) ktx
  obtain ⟨T1, X1, e1, st1⟩ := getF X0 hx hZ hown (host := "") (Or.inl (hw _ (List.mem_of_getElem? (i := 23) rfl))) Via.refl e0 F_timeouts (g := (mkF m 1 #[.val (.ref a1), .val (.int p2)] [(.ref a1)])) rfl rfl (hb hby d3_1)
  obtain ⟨T2, X2, e2, st2⟩ := getF X1 hx hZ hown (host := "") (Or.inl (hw _ (List.mem_of_getElem? (i := 24) rfl))) Via.refl e1 F_timeout (g := (mkF m 8 #[.val (.ref a1), .val (.int p2)] [(.ref a1)])) rfl rfl (hb hby d3_8)
  have go3 : own_go p e below (s₁.setTop (entryFrame m #[(.ref a1), (.int p2)] 2)) (T2.setTop (mkF m 25 #[.val (.ref a1), .val (.int p2)] [(.long t)])) := by
    intro ttx ktx
    refine p0 ttx ?_
    show Steps p.tables e below (s₁.setTop (mkF m 0 #[.val (.ref a1), .val (.int p2)] [])) _
    refine XS.aloadN X0.here hx rfl (hb hby d3_0) rfl rfl ?_
    show Steps p.tables e below (s₁.setTop (mkF m 1 #[.val (.ref a1), .val (.int p2)] [(.ref a1)])) _
    refine st1 _ ?_
    show Steps p.tables e below (T1.setTop (mkF m 4 #[.val (.ref a1), .val (.int p2)] [.null])) _
    refine XS.ifnonnullNo X1.here hx rfl (hb hby d3_4) rfl ?_
    show Steps p.tables e below (T1.setTop (mkF m 7 #[.val (.ref a1), .val (.int p2)] [])) _
    refine XS.aloadN X1.here hx rfl (hb hby d3_7) rfl rfl ?_
    show Steps p.tables e below (T1.setTop (mkF m 8 #[.val (.ref a1), .val (.int p2)] [(.ref a1)])) _
    refine st2 _ ?_
    show Steps p.tables e below (T2.setTop (mkF m 11 #[.val (.ref a1), .val (.int p2)] [(.long t)])) _
    refine XS.goto X2.here hx rfl (pc0 := 11) (pc' := 25) rfl (hb hby d3_11) (by decide) (by decide) ?_
    exact ktx
  obtain ⟨fs, hr, hrun, hended, hW, hsame⟩ := X2.leave (v := some (.long t)) (fun h => by rw [Bd.returns] at h; cases h)
  refine ⟨_, _, go3 _ ?_, hrun, hended, _, _, rfl, ?_, ⟨_, rfl⟩, hW, hsame.mono (by decide) (by decide)⟩
  · exact retOut X2 hx Bd.returns rfl (Or.inr (Or.inl ⟨rfl, rfl, _, rfl⟩)) (hb hby d3_25) hr
  · show QT0 Z a1 p2 t h0 n0 _ T2.heap _
    rw [e2]
    exact ⟨rfl, N0, rfl⟩
theorem d3_14 : decode prog_12_method_6_code 14 = .ok (.aload_n 0, 1) := by decide +kernel
theorem d3_15 : decode prog_12_method_6_code 15 = .ok (.getfield 35, 3) := by decide +kernel
theorem d3_18 : decode prog_12_method_6_code 18 = .ok (.aload_n 0, 1) := by decide +kernel
theorem d3_19 : decode prog_12_method_6_code 19 = .ok (.getfield 54, 3) := by decide +kernel
theorem d3_22 : decode prog_12_method_6_code 22 = .ok (.iload_n 1, 1) := by decide +kernel
theorem d3_23 : decode prog_12_method_6_code 23 = .ok (.iadd, 1) := by decide +kernel
theorem d3_24 : decode prog_12_method_6_code 24 = .ok (.laload, 1) := by decide +kernel
theorem ef_T1 (m : MethodId) (x0 : Addr) (x1 : Int32) : entryFrame m #[(.ref x0), (.int x1)] 2 = mkF m 0 #[.val (.ref x0), .val (.int x1)] [] := by first | (simp [entryFrame, mkF, argsToLocals, Value.category]; done) | rfl
def QT1 (Z : State) (a1 : Addr) (p2 : Int32) (t : Addr) (f : Int32) (kc : ClassId) (qa : Int64) (qb : Int64) (qc : Int64) (qd : Int64) (h0 : Heap) (n0 : Nat) (v : Option Value) (h : Heap) (L : List Loc) : Prop := v = some (.long (own_pick (f + p2) qa qb qc qd)) ∧ Fr n0 L ∧ h = h0
set_option maxRecDepth 65536 in
set_option maxHeartbeats 40000000 in
theorem rmT1 (l : Launch) (Z : State) (a0 : Array Value) (hw : ∀ d ∈ tables_1, d.before a0 Z = true) (ws : List Jvm.Cond) (a1 : Addr) (p2 : Int32) (t : Addr) (f : Int32) (kc : ClassId) (qa : Int64) (qb : Int64) (qc : Int64) (qd : Int64) (h0 : Heap) (n0 : Nat) (Z0 : n0 ≤ h0.size) (F_timeouts : Fld Z h0 a1 "com/example/wilt/wilt/core/ExpirySlots$Run" "timeouts" "[J" (.ref t)) (F_from : Fld Z h0 a1 "com/example/wilt/wilt/core/ExpirySlots$Run" "from" "I" (.int f)) (V_t : Arv Z h0 t kc .long (4 : Int32) [(.long qa), (.long qb), (.long qc), (.long qd)] (.long (0 : Int64))) (hj : ¬ (f + p2) < 0 ∧ (f + p2) < (4 : Int32)) :
    MetFree l (⟨"com/example/wilt/wilt/core/ExpirySlots$Run", "timeout", "(I)J"⟩ : MethodName) (head1 (Jvm.Cond.code (⟨"com/example/wilt/wilt/core/ExpirySlots$Run", "timeout", "(I)J"⟩ : MethodName) prog_12_method_6_code 2 (some .long) :: ws) ({ frames := 0, cells := 0, slots := 0, locals := 0 } : Room)) (fun aax UU => aax = #[(.ref a1), (.int p2)] ∧ Z.Warmed39 UU.vm ∧ UU.heap = h0) (fun _ _ _ _ _ => True) (fun _ UU oux UU' => ∃ rvx Lrx, oux = .returned rvx ∧ QT1 Z a1 p2 t f kc qa qb qc qd h0 n0 rvx UU'.heap Lrx ∧ FrameEnd UU oux UU' Lrx ({ frames := 0, cells := 0, slots := 0, locals := 0 } : Room).cells ({ frames := 0, cells := 0, slots := 0, locals := 0 } : Room).slots) := by
  refine MetFree.of_bodySF (plainFor_of_name own_pn_com_example_wilt_wilt_core_ExpirySlots_Run) hisR ?_
  intro p e s m args below meth c s₁ Bd hml0 hP hK
  obtain ⟨rfl, hZ, hh⟩ := hP
  have hx := Bd.exec
  have hby := Bd.bytes
  have hml : c.maxLocals = 2 := hml0
  have hown : s.vm.findClass "com/example/wilt/wilt/core/ExpirySlots$Run" = some m.cls := findClass_of_methodNamed Bd.named
  have hnm := (name_of_methodNamed Bd.named Bd.method).1
  have X0 : Stand p l e ({ frames := 0, cells := 0, slots := 0, locals := 0 } : Room) s m #[(.ref a1), (.int p2)] below meth c s₁ [] 0 0 := Stand.of_body Bd
  have e0 : s₁.heap = h0 := by rw [← hh, Bd.state]; rfl
  have N0 := Fr.nil n0
  have p0 : own_go p e below (s₁.setTop (entryFrame m #[(.ref a1), (.int p2)] 2)) (s₁.setTop (mkF m 0 #[.val (.ref a1), .val (.int p2)] [])) := fun ttx ktx => castTop (ef_T1 m a1 p2) ktx
  obtain ⟨T1, X1, e1, st1⟩ := getF X0 hx hZ hown (host := "") (Or.inl (hw _ (List.mem_of_getElem? (i := 23) rfl))) Via.refl e0 F_timeouts (g := (mkF m 1 #[.val (.ref a1), .val (.int p2)] [(.ref a1)])) rfl rfl (hb hby d3_1)
  obtain ⟨T2, X2, e2, st2⟩ := getF X1 hx hZ hown (host := "") (Or.inl (hw _ (List.mem_of_getElem? (i := 23) rfl))) Via.refl e1 F_timeouts (g := (mkF m 15 #[.val (.ref a1), .val (.int p2)] [(.ref a1)])) rfl rfl (hb hby d3_15)
  obtain ⟨T3, X3, e3, st3⟩ := getF X2 hx hZ hown (host := "") (Or.inl (hw _ (List.mem_of_getElem? (i := 29) rfl))) Via.refl e2 F_from (g := (mkF m 19 #[.val (.ref a1), .val (.int p2)] [(.ref a1), (.ref t)])) rfl rfl (hb hby d3_19)
  obtain ⟨cl4, Ar4, q4, S4, M4, H4, G4⟩ := id V_t
  have hin4 : ¬ ((f + p2) < 0 ∨ cl4.slots.size ≤ ((f + p2)).toNatClampNeg) := inb_of S4 hj
  have hat4 : cl4.slots[((f + p2)).toNatClampNeg]? = some (.long (own_pick (f + p2) qa qb qc qd)) := Has.at H4 hin4 (own_sel _ _ _ _ _ hj.1 hj.2)
  have go5 : own_go p e below (s₁.setTop (entryFrame m #[(.ref a1), (.int p2)] 2)) (T3.setTop (mkF m 25 #[.val (.ref a1), .val (.int p2)] [(.long (own_pick (f + p2) qa qb qc qd))])) := by
    intro ttx ktx
    refine p0 ttx ?_
    show Steps p.tables e below (s₁.setTop (mkF m 0 #[.val (.ref a1), .val (.int p2)] [])) _
    refine XS.aloadN X0.here hx rfl (hb hby d3_0) rfl rfl ?_
    show Steps p.tables e below (s₁.setTop (mkF m 1 #[.val (.ref a1), .val (.int p2)] [(.ref a1)])) _
    refine st1 _ ?_
    show Steps p.tables e below (T1.setTop (mkF m 4 #[.val (.ref a1), .val (.int p2)] [(.ref t)])) _
    refine XS.ifnonnullYes X1.here hx rfl (pc0 := 4) (pc' := 14) rfl (hb hby d3_4) rfl (by decide) (by decide) ?_
    show Steps p.tables e below (T1.setTop (mkF m 14 #[.val (.ref a1), .val (.int p2)] [])) _
    refine XS.aloadN X1.here hx rfl (hb hby d3_14) rfl rfl ?_
    show Steps p.tables e below (T1.setTop (mkF m 15 #[.val (.ref a1), .val (.int p2)] [(.ref a1)])) _
    refine st2 _ ?_
    show Steps p.tables e below (T2.setTop (mkF m 18 #[.val (.ref a1), .val (.int p2)] [(.ref t)])) _
    refine XS.aloadN X2.here hx rfl (hb hby d3_18) rfl rfl ?_
    show Steps p.tables e below (T2.setTop (mkF m 19 #[.val (.ref a1), .val (.int p2)] [(.ref a1), (.ref t)])) _
    refine st3 _ ?_
    show Steps p.tables e below (T3.setTop (mkF m 22 #[.val (.ref a1), .val (.int p2)] [(.int f), (.ref t)])) _
    refine XS.iloadN X3.here hx rfl (hb hby d3_22) rfl ?_
    show Steps p.tables e below (T3.setTop (mkF m 23 #[.val (.ref a1), .val (.int p2)] [(.int p2), (.int f), (.ref t)])) _
    refine XS.iadd X3.here hx rfl (hb hby d3_23) rfl ?_
    show Steps p.tables e below (T3.setTop (mkF m 24 #[.val (.ref a1), .val (.int p2)] [(.int (f + p2)), (.ref t)])) _
    refine X3.laload hx (j := (f + p2)) (v := (.long (own_pick (f + p2) qa qb qc qd))) (by rw [e3]; exact Ar4.1) (State.isArrayOf_alike hZ.alike Ar4.2.1) Ar4.2.2 hin4 hat4 (g := (mkF m 24 #[.val (.ref a1), .val (.int p2)] [(.int (f + p2)), (.ref t)])) rfl rfl (hb hby d3_24) _ ?_
    exact ktx
  obtain ⟨fs, hr, hrun, hended, hW, hsame⟩ := X3.leave (v := some (.long (own_pick (f + p2) qa qb qc qd))) (fun h => by rw [Bd.returns] at h; cases h)
  refine ⟨_, _, go5 _ ?_, hrun, hended, _, _, rfl, ?_, ⟨_, rfl⟩, hW, hsame.mono (by decide) (by decide)⟩
  · exact retOut X3 hx Bd.returns rfl (Or.inr (Or.inl ⟨rfl, rfl, _, rfl⟩)) (hb hby d3_25) hr
  · show QT1 Z a1 p2 t f kc qa qb qc qd h0 n0 _ T3.heap _
    rw [e3]
    exact ⟨rfl, N0, rfl⟩
theorem d4_0 : decode method_3_code 0 = .ok (.iload_n 0, 1) := by decide +kernel
theorem d4_1 : decode method_3_code 1 = .ok (.ifCond .ne 5, 3) := by decide +kernel
theorem d4_4 : decode method_3_code 4 = .ok (.lload_n 1, 1) := by decide +kernel
theorem d4_5 : decode method_3_code 5 = .ok (.lreturn, 1) := by decide +kernel
theorem d4_6 : decode method_3_code 6 = .ok (.iload 11, 2) := by decide +kernel
theorem d4_8 : decode method_3_code 8 = .ok (.ifCond .ne 5, 3) := by decide +kernel
theorem d4_11 : decode method_3_code 11 = .ok (.lload_n 3, 1) := by decide +kernel
theorem d4_12 : decode method_3_code 12 = .ok (.lreturn, 1) := by decide +kernel
theorem d4_13 : decode method_3_code 13 = .ok (.iload 11, 2) := by decide +kernel
theorem d4_15 : decode method_3_code 15 = .ok (.iconst 1, 1) := by decide +kernel
theorem d4_16 : decode method_3_code 16 = .ok (.if_icmp .ne 6, 3) := by decide +kernel
theorem d4_19 : decode method_3_code 19 = .ok (.lload 5, 2) := by decide +kernel
theorem d4_21 : decode method_3_code 21 = .ok (.lreturn, 1) := by decide +kernel
theorem d4_22 : decode method_3_code 22 = .ok (.iload 11, 2) := by decide +kernel
theorem d4_24 : decode method_3_code 24 = .ok (.iconst 2, 1) := by decide +kernel
theorem d4_25 : decode method_3_code 25 = .ok (.if_icmp .ne 6, 3) := by decide +kernel
theorem d4_28 : decode method_3_code 28 = .ok (.lload 7, 2) := by decide +kernel
theorem d4_30 : decode method_3_code 30 = .ok (.lreturn, 1) := by decide +kernel
theorem d4_31 : decode method_3_code 31 = .ok (.lload 9, 2) := by decide +kernel
theorem d4_33 : decode method_3_code 33 = .ok (.lreturn, 1) := by decide +kernel
theorem own_pn_com_example_wilt_wilt_core_RunTimeoutPinLaw : plainName "com/example/wilt/wilt/core/RunTimeoutPinLaw" = true := by first | (simp [plainName, overriddenIn]; done) | decide +kernel
theorem ef_4 (m : MethodId) (x0 : Int32) (x1 : Int64) (x2 : Int64) (x3 : Int64) (x4 : Int64) (x5 : Int64) (x6 : Int32) : entryFrame m #[(.int x0), (.long x1), (.long x2), (.long x3), (.long x4), (.long x5), (.int x6)] 12 = mkF m 0 #[.val (.int x0), .val (.long x1), .second, .val (.long x2), .second, .val (.long x3), .second, .val (.long x4), .second, .val (.long x5), .second, .val (.int x6)] [] := by first | (simp [entryFrame, mkF, argsToLocals, Value.category]; done) | rfl
def Q4 (Z : State) (b : Int32) (t : Int64) (qa : Int64) (qb : Int64) (qc : Int64) (qd : Int64) (j : Int32) (h0 : Heap) (n0 : Nat) (v : Option Value) (h : Heap) (L : List Loc) : Prop := v = some (.long (if b = (0 : Int32) then t else own_pick j qa qb qc qd)) ∧ Fr n0 L ∧ h = h0
set_option maxRecDepth 65536 in
set_option maxHeartbeats 40000000 in
theorem rm4 (l : Launch) (Z : State) (a0 : Array Value) (hw : ∀ d ∈ tables_1, d.before a0 Z = true) (ws : List Jvm.Cond) (b : Int32) (t : Int64) (qa : Int64) (qb : Int64) (qc : Int64) (qd : Int64) (j : Int32) (h0 : Heap) (n0 : Nat) (Z0 : n0 ≤ h0.size) :
    MetFree l (⟨"com/example/wilt/wilt/core/RunTimeoutPinLaw", "expected", "(ZJJJJJI)J"⟩ : MethodName) (head1 (Jvm.Cond.code (⟨"com/example/wilt/wilt/core/RunTimeoutPinLaw", "expected", "(ZJJJJJI)J"⟩ : MethodName) method_3_code 12 (some .long) :: ws) ({ frames := 0, cells := 0, slots := 0, locals := 0 } : Room)) (fun aax UU => aax = #[(.int b), (.long t), (.long qa), (.long qb), (.long qc), (.long qd), (.int j)] ∧ Z.Warmed39 UU.vm ∧ UU.heap = h0) (fun _ _ _ _ _ => True) (fun _ UU oux UU' => ∃ rvx Lrx, oux = .returned rvx ∧ Q4 Z b t qa qb qc qd j h0 n0 rvx UU'.heap Lrx ∧ FrameEnd UU oux UU' Lrx ({ frames := 0, cells := 0, slots := 0, locals := 0 } : Room).cells ({ frames := 0, cells := 0, slots := 0, locals := 0 } : Room).slots) := by
  refine MetFree.of_bodySF (plainFor_of_name own_pn_com_example_wilt_wilt_core_RunTimeoutPinLaw) hisR ?_
  intro p e s m args below meth c s₁ Bd hml0 hP hK
  obtain ⟨rfl, hZ, hh⟩ := hP
  have hx := Bd.exec
  have hby := Bd.bytes
  have hml : c.maxLocals = 12 := hml0
  have hown : s.vm.findClass "com/example/wilt/wilt/core/RunTimeoutPinLaw" = some m.cls := findClass_of_methodNamed Bd.named
  have hnm := (name_of_methodNamed Bd.named Bd.method).1
  have X0 : Stand p l e ({ frames := 0, cells := 0, slots := 0, locals := 0 } : Room) s m #[(.int b), (.long t), (.long qa), (.long qb), (.long qc), (.long qd), (.int j)] below meth c s₁ [] 0 0 := Stand.of_body Bd
  have e0 : s₁.heap = h0 := by rw [← hh, Bd.state]; rfl
  have N0 := Fr.nil n0
  have p0 : own_go p e below (s₁.setTop (entryFrame m #[(.int b), (.long t), (.long qa), (.long qb), (.long qc), (.long qd), (.int j)] 12)) (s₁.setTop (mkF m 0 #[.val (.int b), .val (.long t), .second, .val (.long qa), .second, .val (.long qb), .second, .val (.long qc), .second, .val (.long qd), .second, .val (.int j)] [])) := fun ttx ktx => castTop (ef_4 m b t qa qb qc qd j) ktx
  have go1 : own_go p e below (s₁.setTop (entryFrame m #[(.int b), (.long t), (.long qa), (.long qb), (.long qc), (.long qd), (.int j)] 12)) (s₁.setTop (mkF m 1 #[.val (.int b), .val (.long t), .second, .val (.long qa), .second, .val (.long qb), .second, .val (.long qc), .second, .val (.long qd), .second, .val (.int j)] [(.int b)])) := by
    intro ttx ktx
    refine p0 ttx ?_
    show Steps p.tables e below (s₁.setTop (mkF m 0 #[.val (.int b), .val (.long t), .second, .val (.long qa), .second, .val (.long qb), .second, .val (.long qc), .second, .val (.long qd), .second, .val (.int j)] [])) _
    refine XS.iloadN X0.here hx rfl (hb hby d4_0) rfl ?_
    exact ktx
  by_cases hc2_1 : b = (0 : Int32)
  · have go3 : own_go p e below (s₁.setTop (entryFrame m #[(.int b), (.long t), (.long qa), (.long qb), (.long qc), (.long qd), (.int j)] 12)) (s₁.setTop (mkF m 5 #[.val (.int b), .val (.long t), .second, .val (.long qa), .second, .val (.long qb), .second, .val (.long qc), .second, .val (.long qd), .second, .val (.int j)] [(.long t)])) := by
      intro ttx ktx
      refine go1 ttx ?_
      show Steps p.tables e below (s₁.setTop (mkF m 1 #[.val (.int b), .val (.long t), .second, .val (.long qa), .second, .val (.long qb), .second, .val (.long qc), .second, .val (.long qd), .second, .val (.int j)] [(.int b)])) _
      refine XS.ifNo X0.here hx rfl (hb hby d4_1) rfl ((if0 _ _).trans (teq hc2_1).2) ?_
      show Steps p.tables e below (s₁.setTop (mkF m 4 #[.val (.int b), .val (.long t), .second, .val (.long qa), .second, .val (.long qb), .second, .val (.long qc), .second, .val (.long qd), .second, .val (.int j)] [])) _
      refine XS.lloadN X0.here hx rfl (hb hby d4_4) rfl ?_
      exact ktx
    obtain ⟨fs, hr, hrun, hended, hW, hsame⟩ := X0.leave (v := some (.long t)) (fun h => by rw [Bd.returns] at h; cases h)
    refine ⟨_, _, go3 _ ?_, hrun, hended, _, _, rfl, ?_, ⟨_, rfl⟩, hW, hsame.mono (by decide) (by decide)⟩
    · exact retOut X0 hx Bd.returns rfl (Or.inr (Or.inl ⟨rfl, rfl, _, rfl⟩)) (hb hby d4_5) hr
    · show Q4 Z b t qa qb qc qd j h0 n0 _ s₁.heap _
      rw [e0]
      exact ⟨by simp [own_pick, hc2_1], N0, rfl⟩
  · have go4 : own_go p e below (s₁.setTop (entryFrame m #[(.int b), (.long t), (.long qa), (.long qb), (.long qc), (.long qd), (.int j)] 12)) (s₁.setTop (mkF m 8 #[.val (.int b), .val (.long t), .second, .val (.long qa), .second, .val (.long qb), .second, .val (.long qc), .second, .val (.long qd), .second, .val (.int j)] [(.int j)])) := by
      intro ttx ktx
      refine go1 ttx ?_
      show Steps p.tables e below (s₁.setTop (mkF m 1 #[.val (.int b), .val (.long t), .second, .val (.long qa), .second, .val (.long qb), .second, .val (.long qc), .second, .val (.long qd), .second, .val (.int j)] [(.int b)])) _
      refine XS.ifYes X0.here hx rfl (pc0 := 1) (pc' := 6) rfl (hb hby d4_1) rfl ((if0 _ _).trans (feq hc2_1).2) (by decide) (by decide) ?_
      show Steps p.tables e below (s₁.setTop (mkF m 6 #[.val (.int b), .val (.long t), .second, .val (.long qa), .second, .val (.long qb), .second, .val (.long qc), .second, .val (.long qd), .second, .val (.int j)] [])) _
      refine XS.iload X0.here hx rfl (hb hby d4_6) rfl ?_
      exact ktx
    by_cases hc5_8 : j = (0 : Int32)
    · have go6 : own_go p e below (s₁.setTop (entryFrame m #[(.int b), (.long t), (.long qa), (.long qb), (.long qc), (.long qd), (.int j)] 12)) (s₁.setTop (mkF m 12 #[.val (.int b), .val (.long t), .second, .val (.long qa), .second, .val (.long qb), .second, .val (.long qc), .second, .val (.long qd), .second, .val (.int j)] [(.long qa)])) := by
        intro ttx ktx
        refine go4 ttx ?_
        show Steps p.tables e below (s₁.setTop (mkF m 8 #[.val (.int b), .val (.long t), .second, .val (.long qa), .second, .val (.long qb), .second, .val (.long qc), .second, .val (.long qd), .second, .val (.int j)] [(.int j)])) _
        refine XS.ifNo X0.here hx rfl (hb hby d4_8) rfl ((if0 _ _).trans (teq hc5_8).2) ?_
        show Steps p.tables e below (s₁.setTop (mkF m 11 #[.val (.int b), .val (.long t), .second, .val (.long qa), .second, .val (.long qb), .second, .val (.long qc), .second, .val (.long qd), .second, .val (.int j)] [])) _
        refine XS.lloadN X0.here hx rfl (hb hby d4_11) rfl ?_
        exact ktx
      obtain ⟨fs, hr, hrun, hended, hW, hsame⟩ := X0.leave (v := some (.long qa)) (fun h => by rw [Bd.returns] at h; cases h)
      refine ⟨_, _, go6 _ ?_, hrun, hended, _, _, rfl, ?_, ⟨_, rfl⟩, hW, hsame.mono (by decide) (by decide)⟩
      · exact retOut X0 hx Bd.returns rfl (Or.inr (Or.inl ⟨rfl, rfl, _, rfl⟩)) (hb hby d4_12) hr
      · show Q4 Z b t qa qb qc qd j h0 n0 _ s₁.heap _
        rw [e0]
        exact ⟨by simp [own_pick, hc2_1, hc5_8], N0, rfl⟩
    · have go7 : own_go p e below (s₁.setTop (entryFrame m #[(.int b), (.long t), (.long qa), (.long qb), (.long qc), (.long qd), (.int j)] 12)) (s₁.setTop (mkF m 16 #[.val (.int b), .val (.long t), .second, .val (.long qa), .second, .val (.long qb), .second, .val (.long qc), .second, .val (.long qd), .second, .val (.int j)] [(.int (1 : Int32)), (.int j)])) := by
        intro ttx ktx
        refine go4 ttx ?_
        show Steps p.tables e below (s₁.setTop (mkF m 8 #[.val (.int b), .val (.long t), .second, .val (.long qa), .second, .val (.long qb), .second, .val (.long qc), .second, .val (.long qd), .second, .val (.int j)] [(.int j)])) _
        refine XS.ifYes X0.here hx rfl (pc0 := 8) (pc' := 13) rfl (hb hby d4_8) rfl ((if0 _ _).trans (feq hc5_8).2) (by decide) (by decide) ?_
        show Steps p.tables e below (s₁.setTop (mkF m 13 #[.val (.int b), .val (.long t), .second, .val (.long qa), .second, .val (.long qb), .second, .val (.long qc), .second, .val (.long qd), .second, .val (.int j)] [])) _
        refine XS.iload X0.here hx rfl (hb hby d4_13) rfl ?_
        show Steps p.tables e below (s₁.setTop (mkF m 15 #[.val (.int b), .val (.long t), .second, .val (.long qa), .second, .val (.long qb), .second, .val (.long qc), .second, .val (.long qd), .second, .val (.int j)] [(.int j)])) _
        refine XS.iconst X0.here hx rfl (hb hby d4_15) ?_
        exact ktx
      by_cases hc8_16 : j = (1 : Int32)
      · have go9 : own_go p e below (s₁.setTop (entryFrame m #[(.int b), (.long t), (.long qa), (.long qb), (.long qc), (.long qd), (.int j)] 12)) (s₁.setTop (mkF m 21 #[.val (.int b), .val (.long t), .second, .val (.long qa), .second, .val (.long qb), .second, .val (.long qc), .second, .val (.long qd), .second, .val (.int j)] [(.long qb)])) := by
          intro ttx ktx
          refine go7 ttx ?_
          show Steps p.tables e below (s₁.setTop (mkF m 16 #[.val (.int b), .val (.long t), .second, .val (.long qa), .second, .val (.long qb), .second, .val (.long qc), .second, .val (.long qd), .second, .val (.int j)] [(.int (1 : Int32)), (.int j)])) _
          refine XS.icmpNo X0.here hx rfl (hb hby d4_16) rfl (teq hc8_16).2 ?_
          show Steps p.tables e below (s₁.setTop (mkF m 19 #[.val (.int b), .val (.long t), .second, .val (.long qa), .second, .val (.long qb), .second, .val (.long qc), .second, .val (.long qd), .second, .val (.int j)] [])) _
          refine XS.lload X0.here hx rfl (hb hby d4_19) rfl ?_
          exact ktx
        obtain ⟨fs, hr, hrun, hended, hW, hsame⟩ := X0.leave (v := some (.long qb)) (fun h => by rw [Bd.returns] at h; cases h)
        refine ⟨_, _, go9 _ ?_, hrun, hended, _, _, rfl, ?_, ⟨_, rfl⟩, hW, hsame.mono (by decide) (by decide)⟩
        · exact retOut X0 hx Bd.returns rfl (Or.inr (Or.inl ⟨rfl, rfl, _, rfl⟩)) (hb hby d4_21) hr
        · show Q4 Z b t qa qb qc qd j h0 n0 _ s₁.heap _
          rw [e0]
          exact ⟨by simp [own_pick, hc2_1, hc5_8, hc8_16], N0, rfl⟩
      · have go10 : own_go p e below (s₁.setTop (entryFrame m #[(.int b), (.long t), (.long qa), (.long qb), (.long qc), (.long qd), (.int j)] 12)) (s₁.setTop (mkF m 25 #[.val (.int b), .val (.long t), .second, .val (.long qa), .second, .val (.long qb), .second, .val (.long qc), .second, .val (.long qd), .second, .val (.int j)] [(.int (2 : Int32)), (.int j)])) := by
          intro ttx ktx
          refine go7 ttx ?_
          show Steps p.tables e below (s₁.setTop (mkF m 16 #[.val (.int b), .val (.long t), .second, .val (.long qa), .second, .val (.long qb), .second, .val (.long qc), .second, .val (.long qd), .second, .val (.int j)] [(.int (1 : Int32)), (.int j)])) _
          refine XS.icmpYes X0.here hx rfl (pc0 := 16) (pc' := 22) rfl (hb hby d4_16) rfl (feq hc8_16).2 (by decide) (by decide) ?_
          show Steps p.tables e below (s₁.setTop (mkF m 22 #[.val (.int b), .val (.long t), .second, .val (.long qa), .second, .val (.long qb), .second, .val (.long qc), .second, .val (.long qd), .second, .val (.int j)] [])) _
          refine XS.iload X0.here hx rfl (hb hby d4_22) rfl ?_
          show Steps p.tables e below (s₁.setTop (mkF m 24 #[.val (.int b), .val (.long t), .second, .val (.long qa), .second, .val (.long qb), .second, .val (.long qc), .second, .val (.long qd), .second, .val (.int j)] [(.int j)])) _
          refine XS.iconst X0.here hx rfl (hb hby d4_24) ?_
          exact ktx
        by_cases hc11_25 : j = (2 : Int32)
        · have go12 : own_go p e below (s₁.setTop (entryFrame m #[(.int b), (.long t), (.long qa), (.long qb), (.long qc), (.long qd), (.int j)] 12)) (s₁.setTop (mkF m 30 #[.val (.int b), .val (.long t), .second, .val (.long qa), .second, .val (.long qb), .second, .val (.long qc), .second, .val (.long qd), .second, .val (.int j)] [(.long qc)])) := by
            intro ttx ktx
            refine go10 ttx ?_
            show Steps p.tables e below (s₁.setTop (mkF m 25 #[.val (.int b), .val (.long t), .second, .val (.long qa), .second, .val (.long qb), .second, .val (.long qc), .second, .val (.long qd), .second, .val (.int j)] [(.int (2 : Int32)), (.int j)])) _
            refine XS.icmpNo X0.here hx rfl (hb hby d4_25) rfl (teq hc11_25).2 ?_
            show Steps p.tables e below (s₁.setTop (mkF m 28 #[.val (.int b), .val (.long t), .second, .val (.long qa), .second, .val (.long qb), .second, .val (.long qc), .second, .val (.long qd), .second, .val (.int j)] [])) _
            refine XS.lload X0.here hx rfl (hb hby d4_28) rfl ?_
            exact ktx
          obtain ⟨fs, hr, hrun, hended, hW, hsame⟩ := X0.leave (v := some (.long qc)) (fun h => by rw [Bd.returns] at h; cases h)
          refine ⟨_, _, go12 _ ?_, hrun, hended, _, _, rfl, ?_, ⟨_, rfl⟩, hW, hsame.mono (by decide) (by decide)⟩
          · exact retOut X0 hx Bd.returns rfl (Or.inr (Or.inl ⟨rfl, rfl, _, rfl⟩)) (hb hby d4_30) hr
          · show Q4 Z b t qa qb qc qd j h0 n0 _ s₁.heap _
            rw [e0]
            exact ⟨by simp [own_pick, hc2_1, hc5_8, hc8_16, hc11_25], N0, rfl⟩
        · have go13 : own_go p e below (s₁.setTop (entryFrame m #[(.int b), (.long t), (.long qa), (.long qb), (.long qc), (.long qd), (.int j)] 12)) (s₁.setTop (mkF m 33 #[.val (.int b), .val (.long t), .second, .val (.long qa), .second, .val (.long qb), .second, .val (.long qc), .second, .val (.long qd), .second, .val (.int j)] [(.long qd)])) := by
            intro ttx ktx
            refine go10 ttx ?_
            show Steps p.tables e below (s₁.setTop (mkF m 25 #[.val (.int b), .val (.long t), .second, .val (.long qa), .second, .val (.long qb), .second, .val (.long qc), .second, .val (.long qd), .second, .val (.int j)] [(.int (2 : Int32)), (.int j)])) _
            refine XS.icmpYes X0.here hx rfl (pc0 := 25) (pc' := 31) rfl (hb hby d4_25) rfl (feq hc11_25).2 (by decide) (by decide) ?_
            show Steps p.tables e below (s₁.setTop (mkF m 31 #[.val (.int b), .val (.long t), .second, .val (.long qa), .second, .val (.long qb), .second, .val (.long qc), .second, .val (.long qd), .second, .val (.int j)] [])) _
            refine XS.lload X0.here hx rfl (hb hby d4_31) rfl ?_
            exact ktx
          obtain ⟨fs, hr, hrun, hended, hW, hsame⟩ := X0.leave (v := some (.long qd)) (fun h => by rw [Bd.returns] at h; cases h)
          refine ⟨_, _, go13 _ ?_, hrun, hended, _, _, rfl, ?_, ⟨_, rfl⟩, hW, hsame.mono (by decide) (by decide)⟩
          · exact retOut X0 hx Bd.returns rfl (Or.inr (Or.inl ⟨rfl, rfl, _, rfl⟩)) (hb hby d4_33) hr
          · show Q4 Z b t qa qb qc qd j h0 n0 _ s₁.heap _
            rw [e0]
            exact ⟨by simp [own_pick, hc2_1, hc5_8, hc8_16, hc11_25], N0, rfl⟩
theorem own_pd0 : parseMethodDescriptor "()V" = some ⟨[], none⟩ := by decide +kernel
theorem own_pd1 : parseMethodDescriptor "(I)J" = some ⟨[.int], some .long⟩ := by decide +kernel
theorem own_pd2 : parseMethodDescriptor "(ZJJJJJI)J" = some ⟨[.boolean, .long, .long, .long, .long, .long, .int], some .long⟩ := by decide +kernel
theorem ef_0 (m : MethodId) (x0 : Int64) (x1 : Int64) (x2 : Int64) (x3 : Int64) (x4 : Int64) (x5 : Int32) : entryFrame m #[(.long x0), (.long x1), (.long x2), (.long x3), (.long x4), (.int x5)] maxLocals = mkF m 0 #[.val (.long x0), .second, .val (.long x1), .second, .val (.long x2), .second, .val (.long x3), .second, .val (.long x4), .second, .val (.int x5), .unset, .unset, .unset, .unset, .unset, .unset, .unset] [] := by first | (simp [entryFrame, mkF, argsToLocals, Value.category, maxLocals]; done) | rfl
def Q0 (Z : State) (q1 : Int64) (q2 : Int64) (q3 : Int64) (q4 : Int64) (q5 : Int64) (p6 : Int32) (h0 : Heap) (n0 : Nat) (v : Option Value) (h : Heap) (L : List Loc) : Prop := v = some (.int 1) ∧ Fr n0 L
set_option maxRecDepth 65536 in
set_option maxHeartbeats 40000000 in
theorem rm0 (l : Launch) (Z : State) (a0 : Array Value) (hw : ∀ d ∈ tables_1, d.before a0 Z = true) (ws : List Jvm.Cond) (q1 : Int64) (q2 : Int64) (q3 : Int64) (q4 : Int64) (q5 : Int64) (p6 : Int32) (h0 : Heap) (n0 : Nat) (Z0 : n0 ≤ h0.size) :
    MetFree l x (head1 (Jvm.Cond.code x code maxLocals ret :: ws) room_1) (fun aax UU => aax = #[(.long q1), (.long q2), (.long q3), (.long q4), (.long q5), (.int p6)] ∧ Z.Warmed39 UU.vm ∧ UU.heap = h0) (fun _ _ _ _ _ => True) (fun _ UU oux UU' => ∃ rvx Lrx, oux = .returned rvx ∧ Q0 Z q1 q2 q3 q4 q5 p6 h0 n0 rvx UU'.heap Lrx ∧ FrameEnd UU oux UU' Lrx 16 128) := by
  refine MetFree.of_bodySF (plainFor_of_name own_pn_com_example_wilt_wilt_core_RunTimeoutPinLaw) hisR ?_
  intro p e s m args below meth c s₁ Bd hml0 hP hK
  obtain ⟨rfl, hZ, hh⟩ := hP
  have hx := Bd.exec
  have hby := Bd.bytes
  have hml : c.maxLocals = 18 := hml0
  have hown : s.vm.findClass "com/example/wilt/wilt/core/RunTimeoutPinLaw" = some m.cls := findClass_of_methodNamed Bd.named
  have hnm := (name_of_methodNamed Bd.named Bd.method).1
  have X0 : Stand p l e room_1 s m #[(.long q1), (.long q2), (.long q3), (.long q4), (.long q5), (.int p6)] below meth c s₁ [] 0 0 := Stand.of_body Bd
  have e0 : s₁.heap = h0 := by rw [← hh, Bd.state]; rfl
  have N0 := Fr.nil n0
  have p0 : own_go p e below (s₁.setTop (entryFrame m #[(.long q1), (.long q2), (.long q3), (.long q4), (.long q5), (.int p6)] maxLocals)) (s₁.setTop (mkF m 0 #[.val (.long q1), .second, .val (.long q2), .second, .val (.long q3), .second, .val (.long q4), .second, .val (.long q5), .second, .val (.int p6), .unset, .unset, .unset, .unset, .unset, .unset, .unset] [])) := fun ttx ktx => castTop (ef_0 m q1 q2 q3 q4 q5 p6) ktx
  have go1 : own_go p e below (s₁.setTop (entryFrame m #[(.long q1), (.long q2), (.long q3), (.long q4), (.long q5), (.int p6)] maxLocals)) (s₁.setTop (mkF m 4 #[.val (.long q1), .second, .val (.long q2), .second, .val (.long q3), .second, .val (.long q4), .second, .val (.long q5), .second, .val (.int p6), .unset, .unset, .unset, .unset, .unset, .unset, .unset] [(.int (p6 &&& (1 : Int32)))])) := by
    intro ttx ktx
    refine p0 ttx ?_
    show Steps p.tables e below (s₁.setTop (mkF m 0 #[.val (.long q1), .second, .val (.long q2), .second, .val (.long q3), .second, .val (.long q4), .second, .val (.long q5), .second, .val (.int p6), .unset, .unset, .unset, .unset, .unset, .unset, .unset] [])) _
    refine XS.iload X0.here hx rfl (hb hby at_0) rfl ?_
    show Steps p.tables e below (s₁.setTop (mkF m 2 #[.val (.long q1), .second, .val (.long q2), .second, .val (.long q3), .second, .val (.long q4), .second, .val (.long q5), .second, .val (.int p6), .unset, .unset, .unset, .unset, .unset, .unset, .unset] [(.int p6)])) _
    refine XS.iconst X0.here hx rfl (hb hby at_2) ?_
    show Steps p.tables e below (s₁.setTop (mkF m 3 #[.val (.long q1), .second, .val (.long q2), .second, .val (.long q3), .second, .val (.long q4), .second, .val (.long q5), .second, .val (.int p6), .unset, .unset, .unset, .unset, .unset, .unset, .unset] [(.int (1 : Int32)), (.int p6)])) _
    refine XS.iand X0.here hx rfl (hb hby at_3) rfl ?_
    exact ktx
  obtain ⟨v5, hv_v5, go6⟩ : ∃ (v5 : Int32), v5 = (if (p6 &&& (1 : Int32)) = (0 : Int32) then (0 : Int32) else (1 : Int32)) ∧ own_go p e below (s₁.setTop (entryFrame m #[(.long q1), (.long q2), (.long q3), (.long q4), (.long q5), (.int p6)] maxLocals)) (s₁.setTop (mkF m 12 #[.val (.long q1), .second, .val (.long q2), .second, .val (.long q3), .second, .val (.long q4), .second, .val (.long q5), .second, .val (.int p6), .unset, .unset, .unset, .unset, .unset, .unset, .unset] [(.int v5)])) := by
    by_cases hc2_4 : (p6 &&& (1 : Int32)) = (0 : Int32)
    · have go3 : own_go p e below (s₁.setTop (entryFrame m #[(.long q1), (.long q2), (.long q3), (.long q4), (.long q5), (.int p6)] maxLocals)) (s₁.setTop (mkF m 12 #[.val (.long q1), .second, .val (.long q2), .second, .val (.long q3), .second, .val (.long q4), .second, .val (.long q5), .second, .val (.int p6), .unset, .unset, .unset, .unset, .unset, .unset, .unset] [(.int (0 : Int32))])) := by
        intro ttx ktx
        refine go1 ttx ?_
        show Steps p.tables e below (s₁.setTop (mkF m 4 #[.val (.long q1), .second, .val (.long q2), .second, .val (.long q3), .second, .val (.long q4), .second, .val (.long q5), .second, .val (.int p6), .unset, .unset, .unset, .unset, .unset, .unset, .unset] [(.int (p6 &&& (1 : Int32)))])) _
        refine XS.ifYes X0.here hx rfl (pc0 := 4) (pc' := 11) rfl (hb hby at_4) rfl ((if0 _ _).trans (teq hc2_4).1) (by decide) (by decide) ?_
        show Steps p.tables e below (s₁.setTop (mkF m 11 #[.val (.long q1), .second, .val (.long q2), .second, .val (.long q3), .second, .val (.long q4), .second, .val (.long q5), .second, .val (.int p6), .unset, .unset, .unset, .unset, .unset, .unset, .unset] [])) _
        refine XS.iconst X0.here hx rfl (hb hby at_11) ?_
        exact ktx
      exact ⟨_, (if_pos hc2_4).symm, go3⟩
    · have go4 : own_go p e below (s₁.setTop (entryFrame m #[(.long q1), (.long q2), (.long q3), (.long q4), (.long q5), (.int p6)] maxLocals)) (s₁.setTop (mkF m 12 #[.val (.long q1), .second, .val (.long q2), .second, .val (.long q3), .second, .val (.long q4), .second, .val (.long q5), .second, .val (.int p6), .unset, .unset, .unset, .unset, .unset, .unset, .unset] [(.int (1 : Int32))])) := by
        intro ttx ktx
        refine go1 ttx ?_
        show Steps p.tables e below (s₁.setTop (mkF m 4 #[.val (.long q1), .second, .val (.long q2), .second, .val (.long q3), .second, .val (.long q4), .second, .val (.long q5), .second, .val (.int p6), .unset, .unset, .unset, .unset, .unset, .unset, .unset] [(.int (p6 &&& (1 : Int32)))])) _
        refine XS.ifNo X0.here hx rfl (hb hby at_4) rfl ((if0 _ _).trans (feq hc2_4).1) ?_
        show Steps p.tables e below (s₁.setTop (mkF m 7 #[.val (.long q1), .second, .val (.long q2), .second, .val (.long q3), .second, .val (.long q4), .second, .val (.long q5), .second, .val (.int p6), .unset, .unset, .unset, .unset, .unset, .unset, .unset] [])) _
        refine XS.iconst X0.here hx rfl (hb hby at_7) ?_
        show Steps p.tables e below (s₁.setTop (mkF m 8 #[.val (.long q1), .second, .val (.long q2), .second, .val (.long q3), .second, .val (.long q4), .second, .val (.long q5), .second, .val (.int p6), .unset, .unset, .unset, .unset, .unset, .unset, .unset] [(.int (1 : Int32))])) _
        refine XS.goto X0.here hx rfl (pc0 := 8) (pc' := 12) rfl (hb hby at_8) (by decide) (by decide) ?_
        exact ktx
      exact ⟨_, (if_neg hc2_4).symm, go4⟩
  obtain ⟨v7, hv_v7⟩ : ∃ z : Int32, z = ((((p6.toUInt32 >>> ((1 : Int32) &&& 31).toUInt32).toInt32) &&& (3 : Int32)) % (3 : Int32)) := ⟨_, rfl⟩
  have go8 : own_go p e below (s₁.setTop (entryFrame m #[(.long q1), (.long q2), (.long q3), (.long q4), (.long q5), (.int p6)] maxLocals)) (s₁.setTop (mkF m 30 #[.val (.long q1), .second, .val (.long q2), .second, .val (.long q3), .second, .val (.long q4), .second, .val (.long q5), .second, .val (.int p6), .val (.int v5), .val (.int v7), .unset, .unset, .unset, .unset, .unset] [(.int (((p6.toUInt32 >>> ((3 : Int32) &&& 31).toUInt32).toInt32) &&& (1 : Int32)))])) := by
    intro ttx ktx
    refine go6 ttx ?_
    show Steps p.tables e below (s₁.setTop (mkF m 12 #[.val (.long q1), .second, .val (.long q2), .second, .val (.long q3), .second, .val (.long q4), .second, .val (.long q5), .second, .val (.int p6), .unset, .unset, .unset, .unset, .unset, .unset, .unset] [(.int v5)])) _
    refine XS.istore X0.here hx rfl (hb hby at_12) rfl (l' := #[.val (.long q1), .second, .val (.long q2), .second, .val (.long q3), .second, .val (.long q4), .second, .val (.long q5), .second, .val (.int p6), .val (.int v5), .unset, .unset, .unset, .unset, .unset, .unset]) rfl ?_
    show Steps p.tables e below (s₁.setTop (mkF m 14 #[.val (.long q1), .second, .val (.long q2), .second, .val (.long q3), .second, .val (.long q4), .second, .val (.long q5), .second, .val (.int p6), .val (.int v5), .unset, .unset, .unset, .unset, .unset, .unset] [])) _
    refine XS.iload X0.here hx rfl (hb hby at_14) rfl ?_
    show Steps p.tables e below (s₁.setTop (mkF m 16 #[.val (.long q1), .second, .val (.long q2), .second, .val (.long q3), .second, .val (.long q4), .second, .val (.long q5), .second, .val (.int p6), .val (.int v5), .unset, .unset, .unset, .unset, .unset, .unset] [(.int p6)])) _
    refine XS.iconst X0.here hx rfl (hb hby at_16) ?_
    show Steps p.tables e below (s₁.setTop (mkF m 17 #[.val (.long q1), .second, .val (.long q2), .second, .val (.long q3), .second, .val (.long q4), .second, .val (.long q5), .second, .val (.int p6), .val (.int v5), .unset, .unset, .unset, .unset, .unset, .unset] [(.int (1 : Int32)), (.int p6)])) _
    refine XS.iushr X0.here hx rfl (hb hby at_17) rfl ?_
    show Steps p.tables e below (s₁.setTop (mkF m 18 #[.val (.long q1), .second, .val (.long q2), .second, .val (.long q3), .second, .val (.long q4), .second, .val (.long q5), .second, .val (.int p6), .val (.int v5), .unset, .unset, .unset, .unset, .unset, .unset] [(.int ((p6.toUInt32 >>> ((1 : Int32) &&& 31).toUInt32).toInt32))])) _
    refine XS.iconst X0.here hx rfl (hb hby at_18) ?_
    show Steps p.tables e below (s₁.setTop (mkF m 19 #[.val (.long q1), .second, .val (.long q2), .second, .val (.long q3), .second, .val (.long q4), .second, .val (.long q5), .second, .val (.int p6), .val (.int v5), .unset, .unset, .unset, .unset, .unset, .unset] [(.int (3 : Int32)), (.int ((p6.toUInt32 >>> ((1 : Int32) &&& 31).toUInt32).toInt32))])) _
    refine XS.iand X0.here hx rfl (hb hby at_19) rfl ?_
    show Steps p.tables e below (s₁.setTop (mkF m 20 #[.val (.long q1), .second, .val (.long q2), .second, .val (.long q3), .second, .val (.long q4), .second, .val (.long q5), .second, .val (.int p6), .val (.int v5), .unset, .unset, .unset, .unset, .unset, .unset] [(.int (((p6.toUInt32 >>> ((1 : Int32) &&& 31).toUInt32).toInt32) &&& (3 : Int32)))])) _
    refine XS.iconst X0.here hx rfl (hb hby at_20) ?_
    show Steps p.tables e below (s₁.setTop (mkF m 21 #[.val (.long q1), .second, .val (.long q2), .second, .val (.long q3), .second, .val (.long q4), .second, .val (.long q5), .second, .val (.int p6), .val (.int v5), .unset, .unset, .unset, .unset, .unset, .unset] [(.int (3 : Int32)), (.int (((p6.toUInt32 >>> ((1 : Int32) &&& 31).toUInt32).toInt32) &&& (3 : Int32)))])) _
    refine iremM X0 hx rfl (hb hby at_21) rfl (by decide) ?_
    show Steps p.tables e below (s₁.setTop (mkF m 22 #[.val (.long q1), .second, .val (.long q2), .second, .val (.long q3), .second, .val (.long q4), .second, .val (.long q5), .second, .val (.int p6), .val (.int v5), .unset, .unset, .unset, .unset, .unset, .unset] [(.int ((((p6.toUInt32 >>> ((1 : Int32) &&& 31).toUInt32).toInt32) &&& (3 : Int32)) % (3 : Int32)))])) _
    rw [← hv_v7]
    show Steps p.tables e below (s₁.setTop (mkF m 22 #[.val (.long q1), .second, .val (.long q2), .second, .val (.long q3), .second, .val (.long q4), .second, .val (.long q5), .second, .val (.int p6), .val (.int v5), .unset, .unset, .unset, .unset, .unset, .unset] [(.int v7)])) _
    refine XS.istore X0.here hx rfl (hb hby at_22) rfl (l' := #[.val (.long q1), .second, .val (.long q2), .second, .val (.long q3), .second, .val (.long q4), .second, .val (.long q5), .second, .val (.int p6), .val (.int v5), .val (.int v7), .unset, .unset, .unset, .unset, .unset]) rfl ?_
    show Steps p.tables e below (s₁.setTop (mkF m 24 #[.val (.long q1), .second, .val (.long q2), .second, .val (.long q3), .second, .val (.long q4), .second, .val (.long q5), .second, .val (.int p6), .val (.int v5), .val (.int v7), .unset, .unset, .unset, .unset, .unset] [])) _
    refine XS.iload X0.here hx rfl (hb hby at_24) rfl ?_
    show Steps p.tables e below (s₁.setTop (mkF m 26 #[.val (.long q1), .second, .val (.long q2), .second, .val (.long q3), .second, .val (.long q4), .second, .val (.long q5), .second, .val (.int p6), .val (.int v5), .val (.int v7), .unset, .unset, .unset, .unset, .unset] [(.int p6)])) _
    refine XS.iconst X0.here hx rfl (hb hby at_26) ?_
    show Steps p.tables e below (s₁.setTop (mkF m 27 #[.val (.long q1), .second, .val (.long q2), .second, .val (.long q3), .second, .val (.long q4), .second, .val (.long q5), .second, .val (.int p6), .val (.int v5), .val (.int v7), .unset, .unset, .unset, .unset, .unset] [(.int (3 : Int32)), (.int p6)])) _
    refine XS.iushr X0.here hx rfl (hb hby at_27) rfl ?_
    show Steps p.tables e below (s₁.setTop (mkF m 28 #[.val (.long q1), .second, .val (.long q2), .second, .val (.long q3), .second, .val (.long q4), .second, .val (.long q5), .second, .val (.int p6), .val (.int v5), .val (.int v7), .unset, .unset, .unset, .unset, .unset] [(.int ((p6.toUInt32 >>> ((3 : Int32) &&& 31).toUInt32).toInt32))])) _
    refine XS.iconst X0.here hx rfl (hb hby at_28) ?_
    show Steps p.tables e below (s₁.setTop (mkF m 29 #[.val (.long q1), .second, .val (.long q2), .second, .val (.long q3), .second, .val (.long q4), .second, .val (.long q5), .second, .val (.int p6), .val (.int v5), .val (.int v7), .unset, .unset, .unset, .unset, .unset] [(.int (1 : Int32)), (.int ((p6.toUInt32 >>> ((3 : Int32) &&& 31).toUInt32).toInt32))])) _
    refine XS.iand X0.here hx rfl (hb hby at_29) rfl ?_
    exact ktx
  obtain ⟨v9, hv_v9⟩ : ∃ z : Int32, z = (((p6.toUInt32 >>> ((3 : Int32) &&& 31).toUInt32).toInt32) &&& (1 : Int32)) := ⟨_, rfl⟩
  obtain ⟨T10, h10, k10, X10, e10, E10, A10, st10⟩ := newP X0 hx hZ (hw _ (List.mem_of_getElem? (i := 0) rfl)) e0 (g := (mkF m 33 #[.val (.long q1), .second, .val (.long q2), .second, .val (.long q3), .second, .val (.long q4), .second, .val (.long q5), .second, .val (.int p6), .val (.int v5), .val (.int v7), .val (.int v9), .unset, .unset, .unset, .unset] [(.int (4 : Int32))])) rfl (hb hby at_33) rfl (by decide) (cap := 4) (by decide) (by decide) (by decide) (by decide)
  obtain ⟨b10, g10⟩ : ∃ z, z = h0.size := ⟨_, rfl⟩
  rw [← g10] at A10 st10
  have g_b10 : n0 ≤ b10 := Nat.le_trans Z0 (Nat.le_of_eq g10.symm)
  have Z10 : n0 ≤ h10.size := Nat.le_trans Z0 E10.1
  have V10 : Arv Z h10 b10 k10 .long (4 : Int32) [(.long (0 : Int64)), (.long (0 : Int64)), (.long (0 : Int64)), (.long (0 : Int64))] (.long (0 : Int64)) := (Arv.new A10 (by decide)).pad (pad_rep [] (.long (0 : Int64)) 4)
  obtain ⟨cl11, Ar11, q11, S11, M11, H11, G11⟩ := id V10
  have hin11 : ¬ ((0 : Int32) < 0 ∨ cl11.slots.size ≤ ((0 : Int32)).toNatClampNeg) := inb_of S11 ⟨by decide, by decide⟩
  obtain ⟨T12, h12, X12, e12, W12, st12⟩ := stJ X10 hx hZ e10 Ar11 (j := (0 : Int32)) hin11 (g := (mkF m 38 #[.val (.long q1), .second, .val (.long q2), .second, .val (.long q3), .second, .val (.long q4), .second, .val (.long q5), .second, .val (.int p6), .val (.int v5), .val (.int v7), .val (.int v9), .unset, .unset, .unset, .unset] [(.long q2), (.int (0 : Int32)), (.ref b10), (.ref b10)])) rfl rfl (hb hby at_38)
  have Z12 : n0 ≤ h12.size := Nat.le_trans Z10 (Nat.le_of_eq W12.size.symm)
  have N12 := Fr.snoc X12 N0 g_b10
  have V12 : Arv Z h12 b10 k10 .long (4 : Int32) [(.long q2), (.long (0 : Int64)), (.long (0 : Int64)), (.long (0 : Int64))] (.long (0 : Int64)) := Arv.set Ar11 q11 S11 M11 H11 G11 rfl W12 0 rfl (Nat.le_of_ble_eq_true rfl)
  obtain ⟨cl13, Ar13, q13, S13, M13, H13, G13⟩ := id V12
  have hin13 : ¬ ((1 : Int32) < 0 ∨ cl13.slots.size ≤ ((1 : Int32)).toNatClampNeg) := inb_of S13 ⟨by decide, by decide⟩
  obtain ⟨T14, h14, X14, e14, W14, st14⟩ := stJ X12 hx hZ e12 Ar13 (j := (1 : Int32)) hin13 (g := (mkF m 43 #[.val (.long q1), .second, .val (.long q2), .second, .val (.long q3), .second, .val (.long q4), .second, .val (.long q5), .second, .val (.int p6), .val (.int v5), .val (.int v7), .val (.int v9), .unset, .unset, .unset, .unset] [(.long q3), (.int (1 : Int32)), (.ref b10), (.ref b10)])) rfl rfl (hb hby at_43)
  have Z14 : n0 ≤ h14.size := Nat.le_trans Z12 (Nat.le_of_eq W14.size.symm)
  have N14 := Fr.snoc X14 N12 g_b10
  have V14 : Arv Z h14 b10 k10 .long (4 : Int32) [(.long q2), (.long q3), (.long (0 : Int64)), (.long (0 : Int64))] (.long (0 : Int64)) := Arv.set Ar13 q13 S13 M13 H13 G13 rfl W14 1 rfl (Nat.le_of_ble_eq_true rfl)
  have go15 : own_go p e below (s₁.setTop (entryFrame m #[(.long q1), (.long q2), (.long q3), (.long q4), (.long q5), (.int p6)] maxLocals)) (T14.setTop (mkF m 48 #[.val (.long q1), .second, .val (.long q2), .second, .val (.long q3), .second, .val (.long q4), .second, .val (.long q5), .second, .val (.int p6), .val (.int v5), .val (.int v7), .val (.int v9), .unset, .unset, .unset, .unset] [(.long q4), (.int (2 : Int32)), (.ref b10), (.ref b10)])) := by
    intro ttx ktx
    refine go8 ttx ?_
    show Steps p.tables e below (s₁.setTop (mkF m 30 #[.val (.long q1), .second, .val (.long q2), .second, .val (.long q3), .second, .val (.long q4), .second, .val (.long q5), .second, .val (.int p6), .val (.int v5), .val (.int v7), .unset, .unset, .unset, .unset, .unset] [(.int (((p6.toUInt32 >>> ((3 : Int32) &&& 31).toUInt32).toInt32) &&& (1 : Int32)))])) _
    rw [← hv_v9]
    show Steps p.tables e below (s₁.setTop (mkF m 30 #[.val (.long q1), .second, .val (.long q2), .second, .val (.long q3), .second, .val (.long q4), .second, .val (.long q5), .second, .val (.int p6), .val (.int v5), .val (.int v7), .unset, .unset, .unset, .unset, .unset] [(.int v9)])) _
    refine XS.istore X0.here hx rfl (hb hby at_30) rfl (l' := #[.val (.long q1), .second, .val (.long q2), .second, .val (.long q3), .second, .val (.long q4), .second, .val (.long q5), .second, .val (.int p6), .val (.int v5), .val (.int v7), .val (.int v9), .unset, .unset, .unset, .unset]) rfl ?_
    show Steps p.tables e below (s₁.setTop (mkF m 32 #[.val (.long q1), .second, .val (.long q2), .second, .val (.long q3), .second, .val (.long q4), .second, .val (.long q5), .second, .val (.int p6), .val (.int v5), .val (.int v7), .val (.int v9), .unset, .unset, .unset, .unset] [])) _
    refine XS.iconst X0.here hx rfl (hb hby at_32) ?_
    show Steps p.tables e below (s₁.setTop (mkF m 33 #[.val (.long q1), .second, .val (.long q2), .second, .val (.long q3), .second, .val (.long q4), .second, .val (.long q5), .second, .val (.int p6), .val (.int v5), .val (.int v7), .val (.int v9), .unset, .unset, .unset, .unset] [(.int (4 : Int32))])) _
    refine st10 _ ?_
    show Steps p.tables e below (T10.setTop (mkF m 35 #[.val (.long q1), .second, .val (.long q2), .second, .val (.long q3), .second, .val (.long q4), .second, .val (.long q5), .second, .val (.int p6), .val (.int v5), .val (.int v7), .val (.int v9), .unset, .unset, .unset, .unset] [(.ref b10)])) _
    refine XS.dup X10.here hx rfl (hb hby at_35) rfl rfl ?_
    show Steps p.tables e below (T10.setTop (mkF m 36 #[.val (.long q1), .second, .val (.long q2), .second, .val (.long q3), .second, .val (.long q4), .second, .val (.long q5), .second, .val (.int p6), .val (.int v5), .val (.int v7), .val (.int v9), .unset, .unset, .unset, .unset] [(.ref b10), (.ref b10)])) _
    refine XS.iconst X10.here hx rfl (hb hby at_36) ?_
    show Steps p.tables e below (T10.setTop (mkF m 37 #[.val (.long q1), .second, .val (.long q2), .second, .val (.long q3), .second, .val (.long q4), .second, .val (.long q5), .second, .val (.int p6), .val (.int v5), .val (.int v7), .val (.int v9), .unset, .unset, .unset, .unset] [(.int (0 : Int32)), (.ref b10), (.ref b10)])) _
    refine XS.lloadN X10.here hx rfl (hb hby at_37) rfl ?_
    show Steps p.tables e below (T10.setTop (mkF m 38 #[.val (.long q1), .second, .val (.long q2), .second, .val (.long q3), .second, .val (.long q4), .second, .val (.long q5), .second, .val (.int p6), .val (.int v5), .val (.int v7), .val (.int v9), .unset, .unset, .unset, .unset] [(.long q2), (.int (0 : Int32)), (.ref b10), (.ref b10)])) _
    refine st12 _ ?_
    show Steps p.tables e below (T12.setTop (mkF m 39 #[.val (.long q1), .second, .val (.long q2), .second, .val (.long q3), .second, .val (.long q4), .second, .val (.long q5), .second, .val (.int p6), .val (.int v5), .val (.int v7), .val (.int v9), .unset, .unset, .unset, .unset] [(.ref b10)])) _
    refine XS.dup X12.here hx rfl (hb hby at_39) rfl rfl ?_
    show Steps p.tables e below (T12.setTop (mkF m 40 #[.val (.long q1), .second, .val (.long q2), .second, .val (.long q3), .second, .val (.long q4), .second, .val (.long q5), .second, .val (.int p6), .val (.int v5), .val (.int v7), .val (.int v9), .unset, .unset, .unset, .unset] [(.ref b10), (.ref b10)])) _
    refine XS.iconst X12.here hx rfl (hb hby at_40) ?_
    show Steps p.tables e below (T12.setTop (mkF m 41 #[.val (.long q1), .second, .val (.long q2), .second, .val (.long q3), .second, .val (.long q4), .second, .val (.long q5), .second, .val (.int p6), .val (.int v5), .val (.int v7), .val (.int v9), .unset, .unset, .unset, .unset] [(.int (1 : Int32)), (.ref b10), (.ref b10)])) _
    refine XS.lload X12.here hx rfl (hb hby at_41) rfl ?_
    show Steps p.tables e below (T12.setTop (mkF m 43 #[.val (.long q1), .second, .val (.long q2), .second, .val (.long q3), .second, .val (.long q4), .second, .val (.long q5), .second, .val (.int p6), .val (.int v5), .val (.int v7), .val (.int v9), .unset, .unset, .unset, .unset] [(.long q3), (.int (1 : Int32)), (.ref b10), (.ref b10)])) _
    refine st14 _ ?_
    show Steps p.tables e below (T14.setTop (mkF m 44 #[.val (.long q1), .second, .val (.long q2), .second, .val (.long q3), .second, .val (.long q4), .second, .val (.long q5), .second, .val (.int p6), .val (.int v5), .val (.int v7), .val (.int v9), .unset, .unset, .unset, .unset] [(.ref b10)])) _
    refine XS.dup X14.here hx rfl (hb hby at_44) rfl rfl ?_
    show Steps p.tables e below (T14.setTop (mkF m 45 #[.val (.long q1), .second, .val (.long q2), .second, .val (.long q3), .second, .val (.long q4), .second, .val (.long q5), .second, .val (.int p6), .val (.int v5), .val (.int v7), .val (.int v9), .unset, .unset, .unset, .unset] [(.ref b10), (.ref b10)])) _
    refine XS.iconst X14.here hx rfl (hb hby at_45) ?_
    show Steps p.tables e below (T14.setTop (mkF m 46 #[.val (.long q1), .second, .val (.long q2), .second, .val (.long q3), .second, .val (.long q4), .second, .val (.long q5), .second, .val (.int p6), .val (.int v5), .val (.int v7), .val (.int v9), .unset, .unset, .unset, .unset] [(.int (2 : Int32)), (.ref b10), (.ref b10)])) _
    refine XS.lload X14.here hx rfl (hb hby at_46) rfl ?_
    exact ktx
  obtain ⟨cl16, Ar16, q16, S16, M16, H16, G16⟩ := id V14
  have hin16 : ¬ ((2 : Int32) < 0 ∨ cl16.slots.size ≤ ((2 : Int32)).toNatClampNeg) := inb_of S16 ⟨by decide, by decide⟩
  obtain ⟨T17, h17, X17, e17, W17, st17⟩ := stJ X14 hx hZ e14 Ar16 (j := (2 : Int32)) hin16 (g := (mkF m 48 #[.val (.long q1), .second, .val (.long q2), .second, .val (.long q3), .second, .val (.long q4), .second, .val (.long q5), .second, .val (.int p6), .val (.int v5), .val (.int v7), .val (.int v9), .unset, .unset, .unset, .unset] [(.long q4), (.int (2 : Int32)), (.ref b10), (.ref b10)])) rfl rfl (hb hby at_48)
  have Z17 : n0 ≤ h17.size := Nat.le_trans Z14 (Nat.le_of_eq W17.size.symm)
  have N17 := Fr.snoc X17 N14 g_b10
  have V17 : Arv Z h17 b10 k10 .long (4 : Int32) [(.long q2), (.long q3), (.long q4), (.long (0 : Int64))] (.long (0 : Int64)) := Arv.set Ar16 q16 S16 M16 H16 G16 rfl W17 2 rfl (Nat.le_of_ble_eq_true rfl)
  obtain ⟨cl18, Ar18, q18, S18, M18, H18, G18⟩ := id V17
  have hin18 : ¬ ((3 : Int32) < 0 ∨ cl18.slots.size ≤ ((3 : Int32)).toNatClampNeg) := inb_of S18 ⟨by decide, by decide⟩
  obtain ⟨T19, h19, X19, e19, W19, st19⟩ := stJ X17 hx hZ e17 Ar18 (j := (3 : Int32)) hin18 (g := (mkF m 53 #[.val (.long q1), .second, .val (.long q2), .second, .val (.long q3), .second, .val (.long q4), .second, .val (.long q5), .second, .val (.int p6), .val (.int v5), .val (.int v7), .val (.int v9), .unset, .unset, .unset, .unset] [(.long q5), (.int (3 : Int32)), (.ref b10), (.ref b10)])) rfl rfl (hb hby at_53)
  have Z19 : n0 ≤ h19.size := Nat.le_trans Z17 (Nat.le_of_eq W19.size.symm)
  have N19 := Fr.snoc X19 N17 g_b10
  have V19 : Arv Z h19 b10 k10 .long (4 : Int32) [(.long q2), (.long q3), (.long q4), (.long q5)] (.long (0 : Int64)) := Arv.set Ar18 q18 S18 M18 H18 G18 rfl W19 3 rfl (Nat.le_of_ble_eq_true rfl)
  obtain ⟨T20, h20, X20, e20, E20, A20, D20, -, st20⟩ := newO X19 hx hZ hown (hw _ (List.mem_of_getElem? (i := 1) rfl)) (hw _ (List.mem_of_getElem? (i := 2) rfl)) (hw _ (List.mem_of_getElem? (i := 3) rfl)) e19 (g := (mkF m 56 #[.val (.long q1), .second, .val (.long q2), .second, .val (.long q3), .second, .val (.long q4), .second, .val (.long q5), .second, .val (.int p6), .val (.int v5), .val (.int v7), .val (.int v9), .val (.ref b10), .unset, .unset, .unset] [])) rfl (hb hby at_56) (by decide) (by decide)
  obtain ⟨b20, g20⟩ : ∃ z, z = h19.size := ⟨_, rfl⟩
  rw [← g20] at A20 D20 st20
  have ne21 : b10 ≠ b20 := Nat.ne_of_lt (Nat.lt_of_lt_of_le V19.lt (Nat.le_of_eq g20.symm))
  have g_b20 : n0 ≤ b20 := Nat.le_trans Z19 (Nat.le_of_eq g20.symm)
  have Z20 : n0 ≤ h20.size := Nat.le_trans Z19 E20.1
  have F20_timeout : Fld Z h20 b20 "com/example/wilt/wilt/core/ExpirySlots$Run" "timeout" "J" (.long (0 : Int64)) := D20 (Or.inl (hw _ (List.mem_of_getElem? (i := 11) rfl))) (ty := .long) (by decide)
  have F20_timeouts : Fld Z h20 b20 "com/example/wilt/wilt/core/ExpirySlots$Run" "timeouts" "[J" .null := D20 (Or.inl (hw _ (List.mem_of_getElem? (i := 13) rfl))) (ty := (.array .long)) (by decide)
  have F20_from : Fld Z h20 b20 "com/example/wilt/wilt/core/ExpirySlots$Run" "from" "I" (.int (0 : Int32)) := D20 (Or.inl (hw _ (List.mem_of_getElem? (i := 15) rfl))) (ty := .int) (by decide)
  have F20_size : Fld Z h20 b20 "com/example/wilt/wilt/core/ExpirySlots$Run" "size" "I" (.int (0 : Int32)) := D20 (Or.inl (hw _ (List.mem_of_getElem? (i := 17) rfl))) (ty := .int) (by decide)
  obtain ⟨_, _, ⟨T22, L22, k22, n22⟩, -, X22, ⟨Lc22, hQ22, l22, y22, z22⟩, st22⟩ := X20.specialBack hx (y := (⟨"com/example/wilt/wilt/core/ExpirySlots$Run", "<init>", "()V"⟩ : MethodName)) rfl hown (mvT hZ (hw _ (List.mem_of_getElem? (i := 4) rfl))) (mvT hZ (hw _ (List.mem_of_getElem? (i := 5) rfl))) (mvT hZ (hw _ (List.mem_of_getElem? (i := 6) rfl))) (by decide) (backOf (W := 1) (rm1 l Z a0 hw [] b20  h20 n0 Z20 ) hZ (hw _ (List.mem_of_getElem? (i := 6) rfl)) (hw _ (List.mem_of_getElem? (i := 3) rfl)) (by decide) (by decide)) (g := (mkF m 60 #[.val (.long q1), .second, .val (.long q2), .second, .val (.long q3), .second, .val (.long q4), .second, .val (.long q5), .second, .val (.int p6), .val (.int v5), .val (.int v7), .val (.int v9), .val (.ref b10), .unset, .unset, .unset] [(.ref b20), (.ref b20)])) rfl (by rw [hml]; rfl) (Steps.refl _) (a := b20) (argsL := []) (rest := [(.ref b20)]) (lenOf own_pd0 rfl) rfl (by show 2 * 0 + _ ≤ _; exact Nat.le_of_eq rfl) (hb hby at_60) (fun _ _ => ⟨rfl, e20, (by decide : 2 + 0 ≤ _), (by decide : 13 + 0 ≤ _)⟩)
  dsimp only [Pt.U, Pt.locs, Pt.cells, Pt.slots] at X22 l22 y22 z22 st22 hQ22
  subst l22 y22 z22
  obtain ⟨rfl, Nq22, e22⟩ := hQ22
  have N22 := Fr.app N19 Nq22
  obtain ⟨T23, h23, X23, e23, W23, st23⟩ := putF X22 hx hZ hown (host := "") (Or.inl (hw _ (List.mem_of_getElem? (i := 10) rfl))) Via.refl e22 F20_timeout A20 (Or.inl (hw _ (List.mem_of_getElem? (i := 11) rfl))) (hw _ (List.mem_of_getElem? (i := 2) rfl)) (ty := .long) (by decide) rfl rfl (g := (mkF m 68 #[.val (.long q1), .second, .val (.long q2), .second, .val (.long q3), .second, .val (.long q4), .second, .val (.long q5), .second, .val (.int p6), .val (.int v5), .val (.int v7), .val (.int v9), .val (.ref b10), .val (.ref b20), .unset, .unset] [(.long q1), (.ref b20)])) rfl rfl (hb hby at_68)
  have Z23 : n0 ≤ h23.size := Nat.le_trans Z20 (Nat.le_of_eq W23.size.symm)
  have N23 := Fr.snoc X23 N22 g_b20
  have Fw23 := F20_timeout.same W23
  have go24 : own_go p e below (s₁.setTop (entryFrame m #[(.long q1), (.long q2), (.long q3), (.long q4), (.long q5), (.int p6)] maxLocals)) (T23.setTop (mkF m 75 #[.val (.long q1), .second, .val (.long q2), .second, .val (.long q3), .second, .val (.long q4), .second, .val (.long q5), .second, .val (.int p6), .val (.int v5), .val (.int v7), .val (.int v9), .val (.ref b10), .val (.ref b20), .unset, .unset] [(.int v5), (.ref b20)])) := by
    intro ttx ktx
    refine go15 ttx ?_
    show Steps p.tables e below (T14.setTop (mkF m 48 #[.val (.long q1), .second, .val (.long q2), .second, .val (.long q3), .second, .val (.long q4), .second, .val (.long q5), .second, .val (.int p6), .val (.int v5), .val (.int v7), .val (.int v9), .unset, .unset, .unset, .unset] [(.long q4), (.int (2 : Int32)), (.ref b10), (.ref b10)])) _
    refine st17 _ ?_
    show Steps p.tables e below (T17.setTop (mkF m 49 #[.val (.long q1), .second, .val (.long q2), .second, .val (.long q3), .second, .val (.long q4), .second, .val (.long q5), .second, .val (.int p6), .val (.int v5), .val (.int v7), .val (.int v9), .unset, .unset, .unset, .unset] [(.ref b10)])) _
    refine XS.dup X17.here hx rfl (hb hby at_49) rfl rfl ?_
    show Steps p.tables e below (T17.setTop (mkF m 50 #[.val (.long q1), .second, .val (.long q2), .second, .val (.long q3), .second, .val (.long q4), .second, .val (.long q5), .second, .val (.int p6), .val (.int v5), .val (.int v7), .val (.int v9), .unset, .unset, .unset, .unset] [(.ref b10), (.ref b10)])) _
    refine XS.iconst X17.here hx rfl (hb hby at_50) ?_
    show Steps p.tables e below (T17.setTop (mkF m 51 #[.val (.long q1), .second, .val (.long q2), .second, .val (.long q3), .second, .val (.long q4), .second, .val (.long q5), .second, .val (.int p6), .val (.int v5), .val (.int v7), .val (.int v9), .unset, .unset, .unset, .unset] [(.int (3 : Int32)), (.ref b10), (.ref b10)])) _
    refine XS.lload X17.here hx rfl (hb hby at_51) rfl ?_
    show Steps p.tables e below (T17.setTop (mkF m 53 #[.val (.long q1), .second, .val (.long q2), .second, .val (.long q3), .second, .val (.long q4), .second, .val (.long q5), .second, .val (.int p6), .val (.int v5), .val (.int v7), .val (.int v9), .unset, .unset, .unset, .unset] [(.long q5), (.int (3 : Int32)), (.ref b10), (.ref b10)])) _
    refine st19 _ ?_
    show Steps p.tables e below (T19.setTop (mkF m 54 #[.val (.long q1), .second, .val (.long q2), .second, .val (.long q3), .second, .val (.long q4), .second, .val (.long q5), .second, .val (.int p6), .val (.int v5), .val (.int v7), .val (.int v9), .unset, .unset, .unset, .unset] [(.ref b10)])) _
    refine XS.astore X19.here hx rfl (hb hby at_54) rfl rfl (l' := #[.val (.long q1), .second, .val (.long q2), .second, .val (.long q3), .second, .val (.long q4), .second, .val (.long q5), .second, .val (.int p6), .val (.int v5), .val (.int v7), .val (.int v9), .val (.ref b10), .unset, .unset, .unset]) rfl ?_
    show Steps p.tables e below (T19.setTop (mkF m 56 #[.val (.long q1), .second, .val (.long q2), .second, .val (.long q3), .second, .val (.long q4), .second, .val (.long q5), .second, .val (.int p6), .val (.int v5), .val (.int v7), .val (.int v9), .val (.ref b10), .unset, .unset, .unset] [])) _
    refine st20 _ ?_
    show Steps p.tables e below (T20.setTop (mkF m 59 #[.val (.long q1), .second, .val (.long q2), .second, .val (.long q3), .second, .val (.long q4), .second, .val (.long q5), .second, .val (.int p6), .val (.int v5), .val (.int v7), .val (.int v9), .val (.ref b10), .unset, .unset, .unset] [(.ref b20)])) _
    refine XS.dup X20.here hx rfl (hb hby at_59) rfl rfl ?_
    show Steps p.tables e below (T20.setTop (mkF m 60 #[.val (.long q1), .second, .val (.long q2), .second, .val (.long q3), .second, .val (.long q4), .second, .val (.long q5), .second, .val (.int p6), .val (.int v5), .val (.int v7), .val (.int v9), .val (.ref b10), .unset, .unset, .unset] [(.ref b20), (.ref b20)])) _
    refine st22.trans ?_
    show Steps p.tables e below (T22.setTop (mkF m 63 #[.val (.long q1), .second, .val (.long q2), .second, .val (.long q3), .second, .val (.long q4), .second, .val (.long q5), .second, .val (.int p6), .val (.int v5), .val (.int v7), .val (.int v9), .val (.ref b10), .unset, .unset, .unset] [(.ref b20)])) _
    refine XS.astore X22.here hx rfl (hb hby at_63) rfl rfl (l' := #[.val (.long q1), .second, .val (.long q2), .second, .val (.long q3), .second, .val (.long q4), .second, .val (.long q5), .second, .val (.int p6), .val (.int v5), .val (.int v7), .val (.int v9), .val (.ref b10), .val (.ref b20), .unset, .unset]) rfl ?_
    show Steps p.tables e below (T22.setTop (mkF m 65 #[.val (.long q1), .second, .val (.long q2), .second, .val (.long q3), .second, .val (.long q4), .second, .val (.long q5), .second, .val (.int p6), .val (.int v5), .val (.int v7), .val (.int v9), .val (.ref b10), .val (.ref b20), .unset, .unset] [])) _
    refine XS.aload X22.here hx rfl (hb hby at_65) rfl rfl ?_
    show Steps p.tables e below (T22.setTop (mkF m 67 #[.val (.long q1), .second, .val (.long q2), .second, .val (.long q3), .second, .val (.long q4), .second, .val (.long q5), .second, .val (.int p6), .val (.int v5), .val (.int v7), .val (.int v9), .val (.ref b10), .val (.ref b20), .unset, .unset] [(.ref b20)])) _
    refine XS.lloadN X22.here hx rfl (hb hby at_67) rfl ?_
    show Steps p.tables e below (T22.setTop (mkF m 68 #[.val (.long q1), .second, .val (.long q2), .second, .val (.long q3), .second, .val (.long q4), .second, .val (.long q5), .second, .val (.int p6), .val (.int v5), .val (.int v7), .val (.int v9), .val (.ref b10), .val (.ref b20), .unset, .unset] [(.long q1), (.ref b20)])) _
    refine st23 _ ?_
    show Steps p.tables e below (T23.setTop (mkF m 71 #[.val (.long q1), .second, .val (.long q2), .second, .val (.long q3), .second, .val (.long q4), .second, .val (.long q5), .second, .val (.int p6), .val (.int v5), .val (.int v7), .val (.int v9), .val (.ref b10), .val (.ref b20), .unset, .unset] [])) _
    refine XS.aload X23.here hx rfl (hb hby at_71) rfl rfl ?_
    show Steps p.tables e below (T23.setTop (mkF m 73 #[.val (.long q1), .second, .val (.long q2), .second, .val (.long q3), .second, .val (.long q4), .second, .val (.long q5), .second, .val (.int p6), .val (.int v5), .val (.int v7), .val (.int v9), .val (.ref b10), .val (.ref b20), .unset, .unset] [(.ref b20)])) _
    refine XS.iload X23.here hx rfl (hb hby at_73) rfl ?_
    exact ktx
  by_cases hc25_75 : v5 = (0 : Int32)
  · have f26 := (F20_timeouts.other W23 (Or.inr (slot_ne (Or.inl (hw _ (List.mem_of_getElem? (i := 13) rfl))) (Or.inl (hw _ (List.mem_of_getElem? (i := 11) rfl))) (by decide) (t := (.array .long)) (t' := .long) (by decide) (by decide))))
    have f27 := (A20.wr W23)
    obtain ⟨T28, h28, X28, e28, W28, st28⟩ := putF X23 hx hZ hown (host := "") (Or.inl (hw _ (List.mem_of_getElem? (i := 12) rfl))) Via.refl e23 f26 f27 (Or.inl (hw _ (List.mem_of_getElem? (i := 13) rfl))) (hw _ (List.mem_of_getElem? (i := 2) rfl)) (ty := (.array .long)) (by decide) rfl rfl (g := (mkF m 84 #[.val (.long q1), .second, .val (.long q2), .second, .val (.long q3), .second, .val (.long q4), .second, .val (.long q5), .second, .val (.int p6), .val (.int v5), .val (.int v7), .val (.int v9), .val (.ref b10), .val (.ref b20), .unset, .unset] [.null, (.ref b20)])) rfl rfl (hb hby at_84)
    have Z28 : n0 ≤ h28.size := Nat.le_trans Z23 (Nat.le_of_eq W28.size.symm)
    have N28 := Fr.snoc X28 N23 g_b20
    have Fw28 := f26.same W28
    have f29 := ((F20_from.other W23 (Or.inr (slot_ne (Or.inl (hw _ (List.mem_of_getElem? (i := 15) rfl))) (Or.inl (hw _ (List.mem_of_getElem? (i := 11) rfl))) (by decide) (t := .int) (t' := .long) (by decide) (by decide)))).other W28 (Or.inr (slot_ne (Or.inl (hw _ (List.mem_of_getElem? (i := 15) rfl))) (Or.inl (hw _ (List.mem_of_getElem? (i := 13) rfl))) (by decide) (t := .int) (t' := (.array .long)) (by decide) (by decide))))
    have f30 := (f27.wr W28)
    obtain ⟨T31, h31, X31, e31, W31, st31⟩ := putF X28 hx hZ hown (host := "") (Or.inl (hw _ (List.mem_of_getElem? (i := 14) rfl))) Via.refl e28 f29 f30 (Or.inl (hw _ (List.mem_of_getElem? (i := 15) rfl))) (hw _ (List.mem_of_getElem? (i := 2) rfl)) (ty := .int) (by decide) rfl rfl (g := (mkF m 91 #[.val (.long q1), .second, .val (.long q2), .second, .val (.long q3), .second, .val (.long q4), .second, .val (.long q5), .second, .val (.int p6), .val (.int v5), .val (.int v7), .val (.int v9), .val (.ref b10), .val (.ref b20), .unset, .unset] [(.int v7), (.ref b20)])) rfl rfl (hb hby at_91)
    have Z31 : n0 ≤ h31.size := Nat.le_trans Z28 (Nat.le_of_eq W31.size.symm)
    have N31 := Fr.snoc X31 N28 g_b20
    have Fw31 := f29.same W31
    have f32 := (((F20_size.other W23 (Or.inr (slot_ne (Or.inl (hw _ (List.mem_of_getElem? (i := 17) rfl))) (Or.inl (hw _ (List.mem_of_getElem? (i := 11) rfl))) (by decide) (t := .int) (t' := .long) (by decide) (by decide)))).other W28 (Or.inr (slot_ne (Or.inl (hw _ (List.mem_of_getElem? (i := 17) rfl))) (Or.inl (hw _ (List.mem_of_getElem? (i := 13) rfl))) (by decide) (t := .int) (t' := (.array .long)) (by decide) (by decide)))).other W31 (Or.inr (slot_ne (Or.inl (hw _ (List.mem_of_getElem? (i := 17) rfl))) (Or.inl (hw _ (List.mem_of_getElem? (i := 15) rfl))) (by decide) (t := .int) (t' := .int) (by decide) (by decide))))
    have f33 := (f30.wr W31)
    obtain ⟨T34, h34, X34, e34, W34, st34⟩ := putF X31 hx hZ hown (host := "") (Or.inl (hw _ (List.mem_of_getElem? (i := 16) rfl))) Via.refl e31 f32 f33 (Or.inl (hw _ (List.mem_of_getElem? (i := 17) rfl))) (hw _ (List.mem_of_getElem? (i := 2) rfl)) (ty := .int) (by decide) rfl rfl (g := (mkF m 97 #[.val (.long q1), .second, .val (.long q2), .second, .val (.long q3), .second, .val (.long q4), .second, .val (.long q5), .second, .val (.int p6), .val (.int v5), .val (.int v7), .val (.int v9), .val (.ref b10), .val (.ref b20), .unset, .unset] [(.int (2 : Int32)), (.ref b20)])) rfl rfl (hb hby at_97)
    have Z34 : n0 ≤ h34.size := Nat.le_trans Z31 (Nat.le_of_eq W34.size.symm)
    have N34 := Fr.snoc X34 N31 g_b20
    have Fw34 := f32.same W34
    have f36 := ((Fw28.other W31 (Or.inr (slot_ne (Or.inl (hw _ (List.mem_of_getElem? (i := 13) rfl))) (Or.inl (hw _ (List.mem_of_getElem? (i := 15) rfl))) (by decide) (t := (.array .long)) (t' := .int) (by decide) (by decide)))).other W34 (Or.inr (slot_ne (Or.inl (hw _ (List.mem_of_getElem? (i := 13) rfl))) (Or.inl (hw _ (List.mem_of_getElem? (i := 17) rfl))) (by decide) (t := (.array .long)) (t' := .int) (by decide) (by decide))))
    have f37 := (((Fw23.other W28 (Or.inr (slot_ne (Or.inl (hw _ (List.mem_of_getElem? (i := 11) rfl))) (Or.inl (hw _ (List.mem_of_getElem? (i := 13) rfl))) (by decide) (t := .long) (t' := (.array .long)) (by decide) (by decide)))).other W31 (Or.inr (slot_ne (Or.inl (hw _ (List.mem_of_getElem? (i := 11) rfl))) (Or.inl (hw _ (List.mem_of_getElem? (i := 15) rfl))) (by decide) (t := .long) (t' := .int) (by decide) (by decide)))).other W34 (Or.inr (slot_ne (Or.inl (hw _ (List.mem_of_getElem? (i := 11) rfl))) (Or.inl (hw _ (List.mem_of_getElem? (i := 17) rfl))) (by decide) (t := .long) (t' := .int) (by decide) (by decide))))
    have f38 := (f33.wr W34)
    obtain ⟨cq35, kq35, q35a, q35b, q35c⟩ := isOf hZ e34 f38
    obtain ⟨_, _, ⟨T35, L35, k35, n35⟩, -, X35, ⟨Lc35, hQ35, l35, y35, z35⟩, st35⟩ := X34.virtualBack hx (y := (⟨"com/example/wilt/wilt/core/ExpirySlots$Run", "timeout", "(I)J"⟩ : MethodName)) (z := (⟨"com/example/wilt/wilt/core/ExpirySlots$Run", "timeout", "(I)J"⟩ : MethodName)) hown (mvT hZ (hw _ (List.mem_of_getElem? (i := 18) rfl))) (mvT hZ (hw _ (List.mem_of_getElem? (i := 19) rfl))) (notFace_of_selects (args := #[]) (mvT hZ (hw _ (List.mem_of_getElem? (i := 21) rfl)))) (mvT hZ (hw _ (List.mem_of_getElem? (i := 21) rfl))) (mvT hZ (hw _ (List.mem_of_getElem? (i := 20) rfl))) (by decide) (backOf (W := 0) (rmT0 l Z a0 hw [] b20 v9 q1 h34 n0 Z34 f36 f37) hZ (hw _ (List.mem_of_getElem? (i := 22) rfl)) (hw _ (List.mem_of_getElem? (i := 3) rfl)) (by decide) (by decide)) q35a q35c (g := (mkF m 104 #[.val (.long q1), .second, .val (.long q2), .second, .val (.long q3), .second, .val (.long q4), .second, .val (.long q5), .second, .val (.int p6), .val (.int v5), .val (.int v7), .val (.int v9), .val (.ref b10), .val (.ref b20), .unset, .unset] [(.int v9), (.ref b20)])) rfl (by rw [hml]; rfl) (Steps.refl _) (argsL := [(.int v9)]) (rest := []) (lenOf own_pd1 rfl) rfl (by show 2 * 0 + _ ≤ _; exact Nat.le_of_eq rfl) (hb hby at_104) (fun _ _ => ⟨rfl, e34, (by decide : 2 + 0 ≤ _), (by decide : 13 + 0 ≤ _)⟩)
    dsimp only [Pt.U, Pt.locs, Pt.cells, Pt.slots] at X35 l35 y35 z35 st35 hQ35
    subst l35 y35 z35
    obtain ⟨rfl, Nq35, e35⟩ := hQ35
    have N35 := Fr.app N34 Nq35
    have go39 : own_go p e below (s₁.setTop (entryFrame m #[(.long q1), (.long q2), (.long q3), (.long q4), (.long q5), (.int p6)] maxLocals)) (T35.setTop (mkF m 113 #[.val (.long q1), .second, .val (.long q2), .second, .val (.long q3), .second, .val (.long q4), .second, .val (.long q5), .second, .val (.int p6), .val (.int v5), .val (.int v7), .val (.int v9), .val (.ref b10), .val (.ref b20), .val (.long q1), .second] [(.int v5), (.long q1)])) := by
      intro ttx ktx
      refine go24 ttx ?_
      show Steps p.tables e below (T23.setTop (mkF m 75 #[.val (.long q1), .second, .val (.long q2), .second, .val (.long q3), .second, .val (.long q4), .second, .val (.long q5), .second, .val (.int p6), .val (.int v5), .val (.int v7), .val (.int v9), .val (.ref b10), .val (.ref b20), .unset, .unset] [(.int v5), (.ref b20)])) _
      refine XS.ifYes X23.here hx rfl (pc0 := 75) (pc' := 83) rfl (hb hby at_75) rfl ((if0 _ _).trans (teq hc25_75).1) (by decide) (by decide) ?_
      show Steps p.tables e below (T23.setTop (mkF m 83 #[.val (.long q1), .second, .val (.long q2), .second, .val (.long q3), .second, .val (.long q4), .second, .val (.long q5), .second, .val (.int p6), .val (.int v5), .val (.int v7), .val (.int v9), .val (.ref b10), .val (.ref b20), .unset, .unset] [(.ref b20)])) _
      refine XS.aconstNull X23.here hx rfl (hb hby at_83) ?_
      show Steps p.tables e below (T23.setTop (mkF m 84 #[.val (.long q1), .second, .val (.long q2), .second, .val (.long q3), .second, .val (.long q4), .second, .val (.long q5), .second, .val (.int p6), .val (.int v5), .val (.int v7), .val (.int v9), .val (.ref b10), .val (.ref b20), .unset, .unset] [.null, (.ref b20)])) _
      refine st28 _ ?_
      show Steps p.tables e below (T28.setTop (mkF m 87 #[.val (.long q1), .second, .val (.long q2), .second, .val (.long q3), .second, .val (.long q4), .second, .val (.long q5), .second, .val (.int p6), .val (.int v5), .val (.int v7), .val (.int v9), .val (.ref b10), .val (.ref b20), .unset, .unset] [])) _
      refine XS.aload X28.here hx rfl (hb hby at_87) rfl rfl ?_
      show Steps p.tables e below (T28.setTop (mkF m 89 #[.val (.long q1), .second, .val (.long q2), .second, .val (.long q3), .second, .val (.long q4), .second, .val (.long q5), .second, .val (.int p6), .val (.int v5), .val (.int v7), .val (.int v9), .val (.ref b10), .val (.ref b20), .unset, .unset] [(.ref b20)])) _
      refine XS.iload X28.here hx rfl (hb hby at_89) rfl ?_
      show Steps p.tables e below (T28.setTop (mkF m 91 #[.val (.long q1), .second, .val (.long q2), .second, .val (.long q3), .second, .val (.long q4), .second, .val (.long q5), .second, .val (.int p6), .val (.int v5), .val (.int v7), .val (.int v9), .val (.ref b10), .val (.ref b20), .unset, .unset] [(.int v7), (.ref b20)])) _
      refine st31 _ ?_
      show Steps p.tables e below (T31.setTop (mkF m 94 #[.val (.long q1), .second, .val (.long q2), .second, .val (.long q3), .second, .val (.long q4), .second, .val (.long q5), .second, .val (.int p6), .val (.int v5), .val (.int v7), .val (.int v9), .val (.ref b10), .val (.ref b20), .unset, .unset] [])) _
      refine XS.aload X31.here hx rfl (hb hby at_94) rfl rfl ?_
      show Steps p.tables e below (T31.setTop (mkF m 96 #[.val (.long q1), .second, .val (.long q2), .second, .val (.long q3), .second, .val (.long q4), .second, .val (.long q5), .second, .val (.int p6), .val (.int v5), .val (.int v7), .val (.int v9), .val (.ref b10), .val (.ref b20), .unset, .unset] [(.ref b20)])) _
      refine XS.iconst X31.here hx rfl (hb hby at_96) ?_
      show Steps p.tables e below (T31.setTop (mkF m 97 #[.val (.long q1), .second, .val (.long q2), .second, .val (.long q3), .second, .val (.long q4), .second, .val (.long q5), .second, .val (.int p6), .val (.int v5), .val (.int v7), .val (.int v9), .val (.ref b10), .val (.ref b20), .unset, .unset] [(.int (2 : Int32)), (.ref b20)])) _
      refine st34 _ ?_
      show Steps p.tables e below (T34.setTop (mkF m 100 #[.val (.long q1), .second, .val (.long q2), .second, .val (.long q3), .second, .val (.long q4), .second, .val (.long q5), .second, .val (.int p6), .val (.int v5), .val (.int v7), .val (.int v9), .val (.ref b10), .val (.ref b20), .unset, .unset] [])) _
      refine XS.aload X34.here hx rfl (hb hby at_100) rfl rfl ?_
      show Steps p.tables e below (T34.setTop (mkF m 102 #[.val (.long q1), .second, .val (.long q2), .second, .val (.long q3), .second, .val (.long q4), .second, .val (.long q5), .second, .val (.int p6), .val (.int v5), .val (.int v7), .val (.int v9), .val (.ref b10), .val (.ref b20), .unset, .unset] [(.ref b20)])) _
      refine XS.iload X34.here hx rfl (hb hby at_102) rfl ?_
      show Steps p.tables e below (T34.setTop (mkF m 104 #[.val (.long q1), .second, .val (.long q2), .second, .val (.long q3), .second, .val (.long q4), .second, .val (.long q5), .second, .val (.int p6), .val (.int v5), .val (.int v7), .val (.int v9), .val (.ref b10), .val (.ref b20), .unset, .unset] [(.int v9), (.ref b20)])) _
      refine st35.trans ?_
      show Steps p.tables e below (T35.setTop (mkF m 107 #[.val (.long q1), .second, .val (.long q2), .second, .val (.long q3), .second, .val (.long q4), .second, .val (.long q5), .second, .val (.int p6), .val (.int v5), .val (.int v7), .val (.int v9), .val (.ref b10), .val (.ref b20), .unset, .unset] [(.long q1)])) _
      refine XS.lstore X35.here hx rfl (hb hby at_107) rfl (l' := #[.val (.long q1), .second, .val (.long q2), .second, .val (.long q3), .second, .val (.long q4), .second, .val (.long q5), .second, .val (.int p6), .val (.int v5), .val (.int v7), .val (.int v9), .val (.ref b10), .val (.ref b20), .val (.long q1), .second]) rfl ?_
      show Steps p.tables e below (T35.setTop (mkF m 109 #[.val (.long q1), .second, .val (.long q2), .second, .val (.long q3), .second, .val (.long q4), .second, .val (.long q5), .second, .val (.int p6), .val (.int v5), .val (.int v7), .val (.int v9), .val (.ref b10), .val (.ref b20), .val (.long q1), .second] [])) _
      refine XS.lload X35.here hx rfl (hb hby at_109) rfl ?_
      show Steps p.tables e below (T35.setTop (mkF m 111 #[.val (.long q1), .second, .val (.long q2), .second, .val (.long q3), .second, .val (.long q4), .second, .val (.long q5), .second, .val (.int p6), .val (.int v5), .val (.int v7), .val (.int v9), .val (.ref b10), .val (.ref b20), .val (.long q1), .second] [(.long q1)])) _
      refine XS.iload X35.here hx rfl (hb hby at_111) rfl ?_
      exact ktx
    obtain ⟨_, _, ⟨T40, L40, k40, n40⟩, -, X40, ⟨Lc40, hQ40, l40, y40, z40⟩, st40⟩ := Jvm.LawKit.callS X35 hx (y := (⟨"com/example/wilt/wilt/core/RunTimeoutPinLaw", "expected", "(ZJJJJJI)J"⟩ : MethodName)) hown (mvT hZ (hw _ (List.mem_of_getElem? (i := 25) rfl))) (mvT hZ (hw _ (List.mem_of_getElem? (i := 26) rfl))) (mvT hZ (hw _ (List.mem_of_getElem? (i := 27) rfl))) (mvT hZ (hw _ (List.mem_of_getElem? (i := 28) rfl))) (by decide) (backOf (W := 2) (rm4 l Z a0 hw [] v5 q1 q2 q3 q4 q5 (v7 + v9)  h34 n0 Z34 ) hZ (hw _ (List.mem_of_getElem? (i := 28) rfl)) (hw _ (List.mem_of_getElem? (i := 27) rfl)) (by decide) (by decide)) (g := (mkF m 126 #[.val (.long q1), .second, .val (.long q2), .second, .val (.long q3), .second, .val (.long q4), .second, .val (.long q5), .second, .val (.int p6), .val (.int v5), .val (.int v7), .val (.int v9), .val (.ref b10), .val (.ref b20), .val (.long q1), .second] [(.int (v7 + v9)), (.long q5), (.long q4), (.long q3), (.long q2), (.long q1), (.int v5), (.long q1)])) rfl (by rw [hml]; rfl) (argsL := [(.int v5), (.long q1), (.long q2), (.long q3), (.long q4), (.long q5), (.int (v7 + v9))]) (rest := [(.long q1)]) (lenOf own_pd2 rfl) rfl (by show 2 * 0 + _ ≤ _; exact Nat.le_of_eq rfl) (hb hby at_126) (fun _ _ => ⟨rfl, e35, (by decide : 2 + 0 ≤ _), (by decide : 13 + 0 ≤ _)⟩)
    dsimp only [Pt.U, Pt.locs, Pt.cells, Pt.slots] at X40 l40 y40 z40 st40 hQ40
    subst l40 y40 z40
    obtain ⟨rfl, Nq40, e40⟩ := hQ40
    have N40 := Fr.app N35 Nq40
    have hc41_130 : q1 = (if v5 = (0 : Int32) then q1 else own_pick (v7 + v9) q2 q3 q4 q5) := by first | (rw [if_pos hc25_75]; done) | (rw [if_pos hc25_75]; assumption)
    have go42 : own_go p e below (s₁.setTop (entryFrame m #[(.long q1), (.long q2), (.long q3), (.long q4), (.long q5), (.int p6)] maxLocals)) (T40.setTop (mkF m 138 #[.val (.long q1), .second, .val (.long q2), .second, .val (.long q3), .second, .val (.long q4), .second, .val (.long q5), .second, .val (.int p6), .val (.int v5), .val (.int v7), .val (.int v9), .val (.ref b10), .val (.ref b20), .val (.long q1), .second] [(.int (1 : Int32))])) := by
      intro ttx ktx
      refine go39 ttx ?_
      show Steps p.tables e below (T35.setTop (mkF m 113 #[.val (.long q1), .second, .val (.long q2), .second, .val (.long q3), .second, .val (.long q4), .second, .val (.long q5), .second, .val (.int p6), .val (.int v5), .val (.int v7), .val (.int v9), .val (.ref b10), .val (.ref b20), .val (.long q1), .second] [(.int v5), (.long q1)])) _
      refine XS.lloadN X35.here hx rfl (hb hby at_113) rfl ?_
      show Steps p.tables e below (T35.setTop (mkF m 114 #[.val (.long q1), .second, .val (.long q2), .second, .val (.long q3), .second, .val (.long q4), .second, .val (.long q5), .second, .val (.int p6), .val (.int v5), .val (.int v7), .val (.int v9), .val (.ref b10), .val (.ref b20), .val (.long q1), .second] [(.long q1), (.int v5), (.long q1)])) _
      refine XS.lloadN X35.here hx rfl (hb hby at_114) rfl ?_
      show Steps p.tables e below (T35.setTop (mkF m 115 #[.val (.long q1), .second, .val (.long q2), .second, .val (.long q3), .second, .val (.long q4), .second, .val (.long q5), .second, .val (.int p6), .val (.int v5), .val (.int v7), .val (.int v9), .val (.ref b10), .val (.ref b20), .val (.long q1), .second] [(.long q2), (.long q1), (.int v5), (.long q1)])) _
      refine XS.lload X35.here hx rfl (hb hby at_115) rfl ?_
      show Steps p.tables e below (T35.setTop (mkF m 117 #[.val (.long q1), .second, .val (.long q2), .second, .val (.long q3), .second, .val (.long q4), .second, .val (.long q5), .second, .val (.int p6), .val (.int v5), .val (.int v7), .val (.int v9), .val (.ref b10), .val (.ref b20), .val (.long q1), .second] [(.long q3), (.long q2), (.long q1), (.int v5), (.long q1)])) _
      refine XS.lload X35.here hx rfl (hb hby at_117) rfl ?_
      show Steps p.tables e below (T35.setTop (mkF m 119 #[.val (.long q1), .second, .val (.long q2), .second, .val (.long q3), .second, .val (.long q4), .second, .val (.long q5), .second, .val (.int p6), .val (.int v5), .val (.int v7), .val (.int v9), .val (.ref b10), .val (.ref b20), .val (.long q1), .second] [(.long q4), (.long q3), (.long q2), (.long q1), (.int v5), (.long q1)])) _
      refine XS.lload X35.here hx rfl (hb hby at_119) rfl ?_
      show Steps p.tables e below (T35.setTop (mkF m 121 #[.val (.long q1), .second, .val (.long q2), .second, .val (.long q3), .second, .val (.long q4), .second, .val (.long q5), .second, .val (.int p6), .val (.int v5), .val (.int v7), .val (.int v9), .val (.ref b10), .val (.ref b20), .val (.long q1), .second] [(.long q5), (.long q4), (.long q3), (.long q2), (.long q1), (.int v5), (.long q1)])) _
      refine XS.iload X35.here hx rfl (hb hby at_121) rfl ?_
      show Steps p.tables e below (T35.setTop (mkF m 123 #[.val (.long q1), .second, .val (.long q2), .second, .val (.long q3), .second, .val (.long q4), .second, .val (.long q5), .second, .val (.int p6), .val (.int v5), .val (.int v7), .val (.int v9), .val (.ref b10), .val (.ref b20), .val (.long q1), .second] [(.int v7), (.long q5), (.long q4), (.long q3), (.long q2), (.long q1), (.int v5), (.long q1)])) _
      refine XS.iload X35.here hx rfl (hb hby at_123) rfl ?_
      show Steps p.tables e below (T35.setTop (mkF m 125 #[.val (.long q1), .second, .val (.long q2), .second, .val (.long q3), .second, .val (.long q4), .second, .val (.long q5), .second, .val (.int p6), .val (.int v5), .val (.int v7), .val (.int v9), .val (.ref b10), .val (.ref b20), .val (.long q1), .second] [(.int v9), (.int v7), (.long q5), (.long q4), (.long q3), (.long q2), (.long q1), (.int v5), (.long q1)])) _
      refine XS.iadd X35.here hx rfl (hb hby at_125) rfl ?_
      show Steps p.tables e below (T35.setTop (mkF m 126 #[.val (.long q1), .second, .val (.long q2), .second, .val (.long q3), .second, .val (.long q4), .second, .val (.long q5), .second, .val (.int p6), .val (.int v5), .val (.int v7), .val (.int v9), .val (.ref b10), .val (.ref b20), .val (.long q1), .second] [(.int (v7 + v9)), (.long q5), (.long q4), (.long q3), (.long q2), (.long q1), (.int v5), (.long q1)])) _
      refine st40 _ ?_
      show Steps p.tables e below (T40.setTop (mkF m 129 #[.val (.long q1), .second, .val (.long q2), .second, .val (.long q3), .second, .val (.long q4), .second, .val (.long q5), .second, .val (.int p6), .val (.int v5), .val (.int v7), .val (.int v9), .val (.ref b10), .val (.ref b20), .val (.long q1), .second] [(.long (if v5 = (0 : Int32) then q1 else own_pick (v7 + v9) q2 q3 q4 q5)), (.long q1)])) _
      refine XS.lcmp X40.here hx rfl (hb hby at_129) rfl ?_
      show Steps p.tables e below (T40.setTop (mkF m 130 #[.val (.long q1), .second, .val (.long q2), .second, .val (.long q3), .second, .val (.long q4), .second, .val (.long q5), .second, .val (.int p6), .val (.int v5), .val (.int v7), .val (.int v9), .val (.ref b10), .val (.ref b20), .val (.long q1), .second] [(.int (lcmpW q1 (if v5 = (0 : Int32) then q1 else own_pick (v7 + v9) q2 q3 q4 q5)))])) _
      refine XS.ifNo X40.here hx rfl (hb hby at_130) rfl ((if0 _ _).trans (teq ((lw_eq q1 (if v5 = (0 : Int32) then q1 else own_pick (v7 + v9) q2 q3 q4 q5)).mpr hc41_130)).2) ?_
      show Steps p.tables e below (T40.setTop (mkF m 133 #[.val (.long q1), .second, .val (.long q2), .second, .val (.long q3), .second, .val (.long q4), .second, .val (.long q5), .second, .val (.int p6), .val (.int v5), .val (.int v7), .val (.int v9), .val (.ref b10), .val (.ref b20), .val (.long q1), .second] [])) _
      refine XS.iconst X40.here hx rfl (hb hby at_133) ?_
      show Steps p.tables e below (T40.setTop (mkF m 134 #[.val (.long q1), .second, .val (.long q2), .second, .val (.long q3), .second, .val (.long q4), .second, .val (.long q5), .second, .val (.int p6), .val (.int v5), .val (.int v7), .val (.int v9), .val (.ref b10), .val (.ref b20), .val (.long q1), .second] [(.int (1 : Int32))])) _
      refine XS.goto X40.here hx rfl (pc0 := 134) (pc' := 138) rfl (hb hby at_134) (by decide) (by decide) ?_
      exact ktx
    obtain ⟨fs, hr, hrun, hended, hW, hsame⟩ := X40.leave (v := some (.int (1 : Int32))) (fun h => by rw [Bd.returns] at h; cases h)
    refine ⟨_, _, go42 _ ?_, hrun, hended, _, _, rfl, ?_, ⟨_, rfl⟩, hW, hsame.mono (by decide) (by decide)⟩
    · exact retN X40 hx (t := .boolean) Bd.returns (by simp) (hb hby at_138) hr
    · show Q0 Z q1 q2 q3 q4 q5 p6 h0 n0 _ T40.heap _
      rw [e40]
      exact ⟨rfl, N40⟩
  · have f43 := (F20_timeouts.other W23 (Or.inr (slot_ne (Or.inl (hw _ (List.mem_of_getElem? (i := 13) rfl))) (Or.inl (hw _ (List.mem_of_getElem? (i := 11) rfl))) (by decide) (t := (.array .long)) (t' := .long) (by decide) (by decide))))
    have f44 := (A20.wr W23)
    obtain ⟨T45, h45, X45, e45, W45, st45⟩ := putF X23 hx hZ hown (host := "") (Or.inl (hw _ (List.mem_of_getElem? (i := 12) rfl))) Via.refl e23 f43 f44 (Or.inl (hw _ (List.mem_of_getElem? (i := 13) rfl))) (hw _ (List.mem_of_getElem? (i := 2) rfl)) (ty := (.array .long)) (by decide) rfl rfl (g := (mkF m 84 #[.val (.long q1), .second, .val (.long q2), .second, .val (.long q3), .second, .val (.long q4), .second, .val (.long q5), .second, .val (.int p6), .val (.int v5), .val (.int v7), .val (.int v9), .val (.ref b10), .val (.ref b20), .unset, .unset] [(.ref b10), (.ref b20)])) rfl rfl (hb hby at_84)
    have Z45 : n0 ≤ h45.size := Nat.le_trans Z23 (Nat.le_of_eq W45.size.symm)
    have N45 := Fr.snoc X45 N23 g_b20
    have Fw45 := f43.same W45
    have f46 := ((F20_from.other W23 (Or.inr (slot_ne (Or.inl (hw _ (List.mem_of_getElem? (i := 15) rfl))) (Or.inl (hw _ (List.mem_of_getElem? (i := 11) rfl))) (by decide) (t := .int) (t' := .long) (by decide) (by decide)))).other W45 (Or.inr (slot_ne (Or.inl (hw _ (List.mem_of_getElem? (i := 15) rfl))) (Or.inl (hw _ (List.mem_of_getElem? (i := 13) rfl))) (by decide) (t := .int) (t' := (.array .long)) (by decide) (by decide))))
    have f47 := (f44.wr W45)
    obtain ⟨T48, h48, X48, e48, W48, st48⟩ := putF X45 hx hZ hown (host := "") (Or.inl (hw _ (List.mem_of_getElem? (i := 14) rfl))) Via.refl e45 f46 f47 (Or.inl (hw _ (List.mem_of_getElem? (i := 15) rfl))) (hw _ (List.mem_of_getElem? (i := 2) rfl)) (ty := .int) (by decide) rfl rfl (g := (mkF m 91 #[.val (.long q1), .second, .val (.long q2), .second, .val (.long q3), .second, .val (.long q4), .second, .val (.long q5), .second, .val (.int p6), .val (.int v5), .val (.int v7), .val (.int v9), .val (.ref b10), .val (.ref b20), .unset, .unset] [(.int v7), (.ref b20)])) rfl rfl (hb hby at_91)
    have Z48 : n0 ≤ h48.size := Nat.le_trans Z45 (Nat.le_of_eq W48.size.symm)
    have N48 := Fr.snoc X48 N45 g_b20
    have Fw48 := f46.same W48
    have f49 := (((F20_size.other W23 (Or.inr (slot_ne (Or.inl (hw _ (List.mem_of_getElem? (i := 17) rfl))) (Or.inl (hw _ (List.mem_of_getElem? (i := 11) rfl))) (by decide) (t := .int) (t' := .long) (by decide) (by decide)))).other W45 (Or.inr (slot_ne (Or.inl (hw _ (List.mem_of_getElem? (i := 17) rfl))) (Or.inl (hw _ (List.mem_of_getElem? (i := 13) rfl))) (by decide) (t := .int) (t' := (.array .long)) (by decide) (by decide)))).other W48 (Or.inr (slot_ne (Or.inl (hw _ (List.mem_of_getElem? (i := 17) rfl))) (Or.inl (hw _ (List.mem_of_getElem? (i := 15) rfl))) (by decide) (t := .int) (t' := .int) (by decide) (by decide))))
    have f50 := (f47.wr W48)
    obtain ⟨T51, h51, X51, e51, W51, st51⟩ := putF X48 hx hZ hown (host := "") (Or.inl (hw _ (List.mem_of_getElem? (i := 16) rfl))) Via.refl e48 f49 f50 (Or.inl (hw _ (List.mem_of_getElem? (i := 17) rfl))) (hw _ (List.mem_of_getElem? (i := 2) rfl)) (ty := .int) (by decide) rfl rfl (g := (mkF m 97 #[.val (.long q1), .second, .val (.long q2), .second, .val (.long q3), .second, .val (.long q4), .second, .val (.long q5), .second, .val (.int p6), .val (.int v5), .val (.int v7), .val (.int v9), .val (.ref b10), .val (.ref b20), .unset, .unset] [(.int (2 : Int32)), (.ref b20)])) rfl rfl (hb hby at_97)
    have Z51 : n0 ≤ h51.size := Nat.le_trans Z48 (Nat.le_of_eq W51.size.symm)
    have N51 := Fr.snoc X51 N48 g_b20
    have Fw51 := f49.same W51
    have f53 := ((Fw45.other W48 (Or.inr (slot_ne (Or.inl (hw _ (List.mem_of_getElem? (i := 13) rfl))) (Or.inl (hw _ (List.mem_of_getElem? (i := 15) rfl))) (by decide) (t := (.array .long)) (t' := .int) (by decide) (by decide)))).other W51 (Or.inr (slot_ne (Or.inl (hw _ (List.mem_of_getElem? (i := 13) rfl))) (Or.inl (hw _ (List.mem_of_getElem? (i := 17) rfl))) (by decide) (t := (.array .long)) (t' := .int) (by decide) (by decide))))
    have f54 := (Fw48.other W51 (Or.inr (slot_ne (Or.inl (hw _ (List.mem_of_getElem? (i := 15) rfl))) (Or.inl (hw _ (List.mem_of_getElem? (i := 17) rfl))) (by decide) (t := .int) (t' := .int) (by decide) (by decide))))
    have f55 := (((((V19.ext E20).other W23 ne21).other W45 ne21).other W48 ne21).other W51 ne21)
    have f56 := (f50.wr W51)
    obtain ⟨cq52, kq52, q52a, q52b, q52c⟩ := isOf hZ e51 f56
    obtain ⟨_, _, ⟨T52, L52, k52, n52⟩, -, X52, ⟨Lc52, hQ52, l52, y52, z52⟩, st52⟩ := X51.virtualBack hx (y := (⟨"com/example/wilt/wilt/core/ExpirySlots$Run", "timeout", "(I)J"⟩ : MethodName)) (z := (⟨"com/example/wilt/wilt/core/ExpirySlots$Run", "timeout", "(I)J"⟩ : MethodName)) hown (mvT hZ (hw _ (List.mem_of_getElem? (i := 18) rfl))) (mvT hZ (hw _ (List.mem_of_getElem? (i := 19) rfl))) (notFace_of_selects (args := #[]) (mvT hZ (hw _ (List.mem_of_getElem? (i := 21) rfl)))) (mvT hZ (hw _ (List.mem_of_getElem? (i := 21) rfl))) (mvT hZ (hw _ (List.mem_of_getElem? (i := 20) rfl))) (by decide) (backOf (W := 0) (rmT1 l Z a0 hw [] b20 v9 b10 v7 k10 q2 q3 q4 q5 h51 n0 Z51 f53 f54 f55 (by simp only [*]; exact own_bd _ _)) hZ (hw _ (List.mem_of_getElem? (i := 22) rfl)) (hw _ (List.mem_of_getElem? (i := 3) rfl)) (by decide) (by decide)) q52a q52c (g := (mkF m 104 #[.val (.long q1), .second, .val (.long q2), .second, .val (.long q3), .second, .val (.long q4), .second, .val (.long q5), .second, .val (.int p6), .val (.int v5), .val (.int v7), .val (.int v9), .val (.ref b10), .val (.ref b20), .unset, .unset] [(.int v9), (.ref b20)])) rfl (by rw [hml]; rfl) (Steps.refl _) (argsL := [(.int v9)]) (rest := []) (lenOf own_pd1 rfl) rfl (by show 2 * 0 + _ ≤ _; exact Nat.le_of_eq rfl) (hb hby at_104) (fun _ _ => ⟨rfl, e51, (by decide : 2 + 0 ≤ _), (by decide : 13 + 0 ≤ _)⟩)
    dsimp only [Pt.U, Pt.locs, Pt.cells, Pt.slots] at X52 l52 y52 z52 st52 hQ52
    subst l52 y52 z52
    obtain ⟨rfl, Nq52, e52⟩ := hQ52
    have N52 := Fr.app N51 Nq52
    obtain ⟨v57, hv_v57⟩ : ∃ z : Int64, z = (own_pick (v7 + v9) q2 q3 q4 q5) := ⟨_, rfl⟩
    have go58 : own_go p e below (s₁.setTop (entryFrame m #[(.long q1), (.long q2), (.long q3), (.long q4), (.long q5), (.int p6)] maxLocals)) (T52.setTop (mkF m 109 #[.val (.long q1), .second, .val (.long q2), .second, .val (.long q3), .second, .val (.long q4), .second, .val (.long q5), .second, .val (.int p6), .val (.int v5), .val (.int v7), .val (.int v9), .val (.ref b10), .val (.ref b20), .val (.long v57), .second] [])) := by
      intro ttx ktx
      refine go24 ttx ?_
      show Steps p.tables e below (T23.setTop (mkF m 75 #[.val (.long q1), .second, .val (.long q2), .second, .val (.long q3), .second, .val (.long q4), .second, .val (.long q5), .second, .val (.int p6), .val (.int v5), .val (.int v7), .val (.int v9), .val (.ref b10), .val (.ref b20), .unset, .unset] [(.int v5), (.ref b20)])) _
      refine XS.ifNo X23.here hx rfl (hb hby at_75) rfl ((if0 _ _).trans (feq hc25_75).1) ?_
      show Steps p.tables e below (T23.setTop (mkF m 78 #[.val (.long q1), .second, .val (.long q2), .second, .val (.long q3), .second, .val (.long q4), .second, .val (.long q5), .second, .val (.int p6), .val (.int v5), .val (.int v7), .val (.int v9), .val (.ref b10), .val (.ref b20), .unset, .unset] [(.ref b20)])) _
      refine XS.aload X23.here hx rfl (hb hby at_78) rfl rfl ?_
      show Steps p.tables e below (T23.setTop (mkF m 80 #[.val (.long q1), .second, .val (.long q2), .second, .val (.long q3), .second, .val (.long q4), .second, .val (.long q5), .second, .val (.int p6), .val (.int v5), .val (.int v7), .val (.int v9), .val (.ref b10), .val (.ref b20), .unset, .unset] [(.ref b10), (.ref b20)])) _
      refine XS.goto X23.here hx rfl (pc0 := 80) (pc' := 84) rfl (hb hby at_80) (by decide) (by decide) ?_
      show Steps p.tables e below (T23.setTop (mkF m 84 #[.val (.long q1), .second, .val (.long q2), .second, .val (.long q3), .second, .val (.long q4), .second, .val (.long q5), .second, .val (.int p6), .val (.int v5), .val (.int v7), .val (.int v9), .val (.ref b10), .val (.ref b20), .unset, .unset] [(.ref b10), (.ref b20)])) _
      refine st45 _ ?_
      show Steps p.tables e below (T45.setTop (mkF m 87 #[.val (.long q1), .second, .val (.long q2), .second, .val (.long q3), .second, .val (.long q4), .second, .val (.long q5), .second, .val (.int p6), .val (.int v5), .val (.int v7), .val (.int v9), .val (.ref b10), .val (.ref b20), .unset, .unset] [])) _
      refine XS.aload X45.here hx rfl (hb hby at_87) rfl rfl ?_
      show Steps p.tables e below (T45.setTop (mkF m 89 #[.val (.long q1), .second, .val (.long q2), .second, .val (.long q3), .second, .val (.long q4), .second, .val (.long q5), .second, .val (.int p6), .val (.int v5), .val (.int v7), .val (.int v9), .val (.ref b10), .val (.ref b20), .unset, .unset] [(.ref b20)])) _
      refine XS.iload X45.here hx rfl (hb hby at_89) rfl ?_
      show Steps p.tables e below (T45.setTop (mkF m 91 #[.val (.long q1), .second, .val (.long q2), .second, .val (.long q3), .second, .val (.long q4), .second, .val (.long q5), .second, .val (.int p6), .val (.int v5), .val (.int v7), .val (.int v9), .val (.ref b10), .val (.ref b20), .unset, .unset] [(.int v7), (.ref b20)])) _
      refine st48 _ ?_
      show Steps p.tables e below (T48.setTop (mkF m 94 #[.val (.long q1), .second, .val (.long q2), .second, .val (.long q3), .second, .val (.long q4), .second, .val (.long q5), .second, .val (.int p6), .val (.int v5), .val (.int v7), .val (.int v9), .val (.ref b10), .val (.ref b20), .unset, .unset] [])) _
      refine XS.aload X48.here hx rfl (hb hby at_94) rfl rfl ?_
      show Steps p.tables e below (T48.setTop (mkF m 96 #[.val (.long q1), .second, .val (.long q2), .second, .val (.long q3), .second, .val (.long q4), .second, .val (.long q5), .second, .val (.int p6), .val (.int v5), .val (.int v7), .val (.int v9), .val (.ref b10), .val (.ref b20), .unset, .unset] [(.ref b20)])) _
      refine XS.iconst X48.here hx rfl (hb hby at_96) ?_
      show Steps p.tables e below (T48.setTop (mkF m 97 #[.val (.long q1), .second, .val (.long q2), .second, .val (.long q3), .second, .val (.long q4), .second, .val (.long q5), .second, .val (.int p6), .val (.int v5), .val (.int v7), .val (.int v9), .val (.ref b10), .val (.ref b20), .unset, .unset] [(.int (2 : Int32)), (.ref b20)])) _
      refine st51 _ ?_
      show Steps p.tables e below (T51.setTop (mkF m 100 #[.val (.long q1), .second, .val (.long q2), .second, .val (.long q3), .second, .val (.long q4), .second, .val (.long q5), .second, .val (.int p6), .val (.int v5), .val (.int v7), .val (.int v9), .val (.ref b10), .val (.ref b20), .unset, .unset] [])) _
      refine XS.aload X51.here hx rfl (hb hby at_100) rfl rfl ?_
      show Steps p.tables e below (T51.setTop (mkF m 102 #[.val (.long q1), .second, .val (.long q2), .second, .val (.long q3), .second, .val (.long q4), .second, .val (.long q5), .second, .val (.int p6), .val (.int v5), .val (.int v7), .val (.int v9), .val (.ref b10), .val (.ref b20), .unset, .unset] [(.ref b20)])) _
      refine XS.iload X51.here hx rfl (hb hby at_102) rfl ?_
      show Steps p.tables e below (T51.setTop (mkF m 104 #[.val (.long q1), .second, .val (.long q2), .second, .val (.long q3), .second, .val (.long q4), .second, .val (.long q5), .second, .val (.int p6), .val (.int v5), .val (.int v7), .val (.int v9), .val (.ref b10), .val (.ref b20), .unset, .unset] [(.int v9), (.ref b20)])) _
      refine st52.trans ?_
      show Steps p.tables e below (T52.setTop (mkF m 107 #[.val (.long q1), .second, .val (.long q2), .second, .val (.long q3), .second, .val (.long q4), .second, .val (.long q5), .second, .val (.int p6), .val (.int v5), .val (.int v7), .val (.int v9), .val (.ref b10), .val (.ref b20), .unset, .unset] [(.long (own_pick (v7 + v9) q2 q3 q4 q5))])) _
      rw [← hv_v57]
      show Steps p.tables e below (T52.setTop (mkF m 107 #[.val (.long q1), .second, .val (.long q2), .second, .val (.long q3), .second, .val (.long q4), .second, .val (.long q5), .second, .val (.int p6), .val (.int v5), .val (.int v7), .val (.int v9), .val (.ref b10), .val (.ref b20), .unset, .unset] [(.long v57)])) _
      refine XS.lstore X52.here hx rfl (hb hby at_107) rfl (l' := #[.val (.long q1), .second, .val (.long q2), .second, .val (.long q3), .second, .val (.long q4), .second, .val (.long q5), .second, .val (.int p6), .val (.int v5), .val (.int v7), .val (.int v9), .val (.ref b10), .val (.ref b20), .val (.long v57), .second]) rfl ?_
      exact ktx
    obtain ⟨_, _, ⟨T59, L59, k59, n59⟩, -, X59, ⟨Lc59, hQ59, l59, y59, z59⟩, st59⟩ := Jvm.LawKit.callS X52 hx (y := (⟨"com/example/wilt/wilt/core/RunTimeoutPinLaw", "expected", "(ZJJJJJI)J"⟩ : MethodName)) hown (mvT hZ (hw _ (List.mem_of_getElem? (i := 25) rfl))) (mvT hZ (hw _ (List.mem_of_getElem? (i := 26) rfl))) (mvT hZ (hw _ (List.mem_of_getElem? (i := 27) rfl))) (mvT hZ (hw _ (List.mem_of_getElem? (i := 28) rfl))) (by decide) (backOf (W := 2) (rm4 l Z a0 hw [] v5 q1 q2 q3 q4 q5 (v7 + v9)  h51 n0 Z51 ) hZ (hw _ (List.mem_of_getElem? (i := 28) rfl)) (hw _ (List.mem_of_getElem? (i := 27) rfl)) (by decide) (by decide)) (g := (mkF m 126 #[.val (.long q1), .second, .val (.long q2), .second, .val (.long q3), .second, .val (.long q4), .second, .val (.long q5), .second, .val (.int p6), .val (.int v5), .val (.int v7), .val (.int v9), .val (.ref b10), .val (.ref b20), .val (.long v57), .second] [(.int (v7 + v9)), (.long q5), (.long q4), (.long q3), (.long q2), (.long q1), (.int v5), (.long v57)])) rfl (by rw [hml]; rfl) (argsL := [(.int v5), (.long q1), (.long q2), (.long q3), (.long q4), (.long q5), (.int (v7 + v9))]) (rest := [(.long v57)]) (lenOf own_pd2 rfl) rfl (by show 2 * 0 + _ ≤ _; exact Nat.le_of_eq rfl) (hb hby at_126) (fun _ _ => ⟨rfl, e52, (by decide : 2 + 0 ≤ _), (by decide : 13 + 0 ≤ _)⟩)
    dsimp only [Pt.U, Pt.locs, Pt.cells, Pt.slots] at X59 l59 y59 z59 st59 hQ59
    subst l59 y59 z59
    obtain ⟨rfl, Nq59, e59⟩ := hQ59
    have N59 := Fr.app N52 Nq59
    have hc60_130 : v57 = (if v5 = (0 : Int32) then q1 else own_pick (v7 + v9) q2 q3 q4 q5) := by first | (rw [if_neg hc25_75]; done) | (rw [if_neg hc25_75]; assumption)
    have go61 : own_go p e below (s₁.setTop (entryFrame m #[(.long q1), (.long q2), (.long q3), (.long q4), (.long q5), (.int p6)] maxLocals)) (T59.setTop (mkF m 138 #[.val (.long q1), .second, .val (.long q2), .second, .val (.long q3), .second, .val (.long q4), .second, .val (.long q5), .second, .val (.int p6), .val (.int v5), .val (.int v7), .val (.int v9), .val (.ref b10), .val (.ref b20), .val (.long v57), .second] [(.int (1 : Int32))])) := by
      intro ttx ktx
      refine go58 ttx ?_
      show Steps p.tables e below (T52.setTop (mkF m 109 #[.val (.long q1), .second, .val (.long q2), .second, .val (.long q3), .second, .val (.long q4), .second, .val (.long q5), .second, .val (.int p6), .val (.int v5), .val (.int v7), .val (.int v9), .val (.ref b10), .val (.ref b20), .val (.long v57), .second] [])) _
      refine XS.lload X52.here hx rfl (hb hby at_109) rfl ?_
      show Steps p.tables e below (T52.setTop (mkF m 111 #[.val (.long q1), .second, .val (.long q2), .second, .val (.long q3), .second, .val (.long q4), .second, .val (.long q5), .second, .val (.int p6), .val (.int v5), .val (.int v7), .val (.int v9), .val (.ref b10), .val (.ref b20), .val (.long v57), .second] [(.long v57)])) _
      refine XS.iload X52.here hx rfl (hb hby at_111) rfl ?_
      show Steps p.tables e below (T52.setTop (mkF m 113 #[.val (.long q1), .second, .val (.long q2), .second, .val (.long q3), .second, .val (.long q4), .second, .val (.long q5), .second, .val (.int p6), .val (.int v5), .val (.int v7), .val (.int v9), .val (.ref b10), .val (.ref b20), .val (.long v57), .second] [(.int v5), (.long v57)])) _
      refine XS.lloadN X52.here hx rfl (hb hby at_113) rfl ?_
      show Steps p.tables e below (T52.setTop (mkF m 114 #[.val (.long q1), .second, .val (.long q2), .second, .val (.long q3), .second, .val (.long q4), .second, .val (.long q5), .second, .val (.int p6), .val (.int v5), .val (.int v7), .val (.int v9), .val (.ref b10), .val (.ref b20), .val (.long v57), .second] [(.long q1), (.int v5), (.long v57)])) _
      refine XS.lloadN X52.here hx rfl (hb hby at_114) rfl ?_
      show Steps p.tables e below (T52.setTop (mkF m 115 #[.val (.long q1), .second, .val (.long q2), .second, .val (.long q3), .second, .val (.long q4), .second, .val (.long q5), .second, .val (.int p6), .val (.int v5), .val (.int v7), .val (.int v9), .val (.ref b10), .val (.ref b20), .val (.long v57), .second] [(.long q2), (.long q1), (.int v5), (.long v57)])) _
      refine XS.lload X52.here hx rfl (hb hby at_115) rfl ?_
      show Steps p.tables e below (T52.setTop (mkF m 117 #[.val (.long q1), .second, .val (.long q2), .second, .val (.long q3), .second, .val (.long q4), .second, .val (.long q5), .second, .val (.int p6), .val (.int v5), .val (.int v7), .val (.int v9), .val (.ref b10), .val (.ref b20), .val (.long v57), .second] [(.long q3), (.long q2), (.long q1), (.int v5), (.long v57)])) _
      refine XS.lload X52.here hx rfl (hb hby at_117) rfl ?_
      show Steps p.tables e below (T52.setTop (mkF m 119 #[.val (.long q1), .second, .val (.long q2), .second, .val (.long q3), .second, .val (.long q4), .second, .val (.long q5), .second, .val (.int p6), .val (.int v5), .val (.int v7), .val (.int v9), .val (.ref b10), .val (.ref b20), .val (.long v57), .second] [(.long q4), (.long q3), (.long q2), (.long q1), (.int v5), (.long v57)])) _
      refine XS.lload X52.here hx rfl (hb hby at_119) rfl ?_
      show Steps p.tables e below (T52.setTop (mkF m 121 #[.val (.long q1), .second, .val (.long q2), .second, .val (.long q3), .second, .val (.long q4), .second, .val (.long q5), .second, .val (.int p6), .val (.int v5), .val (.int v7), .val (.int v9), .val (.ref b10), .val (.ref b20), .val (.long v57), .second] [(.long q5), (.long q4), (.long q3), (.long q2), (.long q1), (.int v5), (.long v57)])) _
      refine XS.iload X52.here hx rfl (hb hby at_121) rfl ?_
      show Steps p.tables e below (T52.setTop (mkF m 123 #[.val (.long q1), .second, .val (.long q2), .second, .val (.long q3), .second, .val (.long q4), .second, .val (.long q5), .second, .val (.int p6), .val (.int v5), .val (.int v7), .val (.int v9), .val (.ref b10), .val (.ref b20), .val (.long v57), .second] [(.int v7), (.long q5), (.long q4), (.long q3), (.long q2), (.long q1), (.int v5), (.long v57)])) _
      refine XS.iload X52.here hx rfl (hb hby at_123) rfl ?_
      show Steps p.tables e below (T52.setTop (mkF m 125 #[.val (.long q1), .second, .val (.long q2), .second, .val (.long q3), .second, .val (.long q4), .second, .val (.long q5), .second, .val (.int p6), .val (.int v5), .val (.int v7), .val (.int v9), .val (.ref b10), .val (.ref b20), .val (.long v57), .second] [(.int v9), (.int v7), (.long q5), (.long q4), (.long q3), (.long q2), (.long q1), (.int v5), (.long v57)])) _
      refine XS.iadd X52.here hx rfl (hb hby at_125) rfl ?_
      show Steps p.tables e below (T52.setTop (mkF m 126 #[.val (.long q1), .second, .val (.long q2), .second, .val (.long q3), .second, .val (.long q4), .second, .val (.long q5), .second, .val (.int p6), .val (.int v5), .val (.int v7), .val (.int v9), .val (.ref b10), .val (.ref b20), .val (.long v57), .second] [(.int (v7 + v9)), (.long q5), (.long q4), (.long q3), (.long q2), (.long q1), (.int v5), (.long v57)])) _
      refine st59 _ ?_
      show Steps p.tables e below (T59.setTop (mkF m 129 #[.val (.long q1), .second, .val (.long q2), .second, .val (.long q3), .second, .val (.long q4), .second, .val (.long q5), .second, .val (.int p6), .val (.int v5), .val (.int v7), .val (.int v9), .val (.ref b10), .val (.ref b20), .val (.long v57), .second] [(.long (if v5 = (0 : Int32) then q1 else own_pick (v7 + v9) q2 q3 q4 q5)), (.long v57)])) _
      refine XS.lcmp X59.here hx rfl (hb hby at_129) rfl ?_
      show Steps p.tables e below (T59.setTop (mkF m 130 #[.val (.long q1), .second, .val (.long q2), .second, .val (.long q3), .second, .val (.long q4), .second, .val (.long q5), .second, .val (.int p6), .val (.int v5), .val (.int v7), .val (.int v9), .val (.ref b10), .val (.ref b20), .val (.long v57), .second] [(.int (lcmpW v57 (if v5 = (0 : Int32) then q1 else own_pick (v7 + v9) q2 q3 q4 q5)))])) _
      refine XS.ifNo X59.here hx rfl (hb hby at_130) rfl ((if0 _ _).trans (teq ((lw_eq v57 (if v5 = (0 : Int32) then q1 else own_pick (v7 + v9) q2 q3 q4 q5)).mpr hc60_130)).2) ?_
      show Steps p.tables e below (T59.setTop (mkF m 133 #[.val (.long q1), .second, .val (.long q2), .second, .val (.long q3), .second, .val (.long q4), .second, .val (.long q5), .second, .val (.int p6), .val (.int v5), .val (.int v7), .val (.int v9), .val (.ref b10), .val (.ref b20), .val (.long v57), .second] [])) _
      refine XS.iconst X59.here hx rfl (hb hby at_133) ?_
      show Steps p.tables e below (T59.setTop (mkF m 134 #[.val (.long q1), .second, .val (.long q2), .second, .val (.long q3), .second, .val (.long q4), .second, .val (.long q5), .second, .val (.int p6), .val (.int v5), .val (.int v7), .val (.int v9), .val (.ref b10), .val (.ref b20), .val (.long v57), .second] [(.int (1 : Int32))])) _
      refine XS.goto X59.here hx rfl (pc0 := 134) (pc' := 138) rfl (hb hby at_134) (by decide) (by decide) ?_
      exact ktx
    obtain ⟨fs, hr, hrun, hended, hW, hsame⟩ := X59.leave (v := some (.int (1 : Int32))) (fun h => by rw [Bd.returns] at h; cases h)
    refine ⟨_, _, go61 _ ?_, hrun, hended, _, _, rfl, ?_, ⟨_, rfl⟩, hW, hsame.mono (by decide) (by decide)⟩
    · exact retN X59 hx (t := .boolean) Bd.returns (by simp) (hb hby at_138) hr
    · show Q0 Z q1 q2 q3 q4 q5 p6 h0 n0 _ T59.heap _
      rw [e59]
      exact ⟨rfl, N59⟩
set_option maxRecDepth 65536 in
set_option maxHeartbeats 40000000 in
theorem comes_1 {Post : Tables → Env → Array Value → State → Outcome → State → Prop} (hpost : ∀ tb e args s v u, (limb_1_1.after args s (.returned v) u = true ∧ limb_1_2.after args s (.returned v) u = true ∧ True) → FrameEnd s (.returned v) u (Jvm.fieldLocs frame_1_writes args s ++ Jvm.arrayLocs frame_1_arrays args s ++ Jvm.staticLocs frame_1_statics s) 16 128 → Post tb e args s (.returned v) u) :
    ArmFor flags0 classFile x code maxLocals ret World_1 tables_1 room_1 Calls_1 rest_1 Pre_1 Post := by
  intro l hfl _ _ p e ha hc hk s m args below hf hA hF happ hP
  obtain ⟨hcalls, hrest, hpre⟩ := hP
  obtain ⟨-, -, -, hnamed, -, -, -, hat⟩ := (Spec.applies_iff hf).mp happ
  obtain ⟨hg, hn⟩ := and_e (Cond.before_iff.mp (show (Jvm.Cond.and given_1 narrow_1).before args s = true from hpre))
  obtain ⟨ga0, gb0⟩ := and_e hg
  obtain ⟨ga1, gb1⟩ := and_e gb0
  obtain ⟨ga2, gb2⟩ := and_e gb1
  obtain ⟨ga3, gb3⟩ := and_e gb2
  obtain ⟨ga4, gb4⟩ := and_e gb3
  obtain ⟨ga5, gb5⟩ := and_e gb4
  obtain ⟨w0, w1, w2, w3, w4, w5, rfl⟩ : ∃ w0 w1 w2 w3 w4 w5 : Value, args = #[w0, w1, w2, w3, w4, w5] := by
    have hs : args.size = 6 := by simpa [Cond.value, given_1] using ga0
    obtain ⟨L⟩ := args
    match L, hs with
    | [w0, w1, w2, w3, w4, w5], _ => exact ⟨w0, w1, w2, w3, w4, w5, rfl⟩
  have hw := fun d (hd : d ∈ tables_1) => atoms_spec (ws := Jvm.Cond.code x code maxLocals ret :: tables_1) hat d (List.mem_cons_of_mem _ hd)
  have hfit : Fit s := fun {y c} hc i hi => by
    obtain ⟨ha, rfl⟩ := Array.getElem?_eq_some_iff.mp hc
    have q := List.all_eq_true.mp ((Array.all_eq_true_iff_forall_mem.mp hF) _ (Array.getElem_mem ha)) i (List.mem_range.mpr hi)
    simpa [Array.getElem?_eq_getElem hi] using q
  obtain ⟨i0, ei0⟩ := isL_v ga1
  obtain rfl : w0 = (.long i0) := Option.some.inj ei0
  obtain ⟨i1, ei1⟩ := isL_v ga2
  obtain rfl : w1 = (.long i1) := Option.some.inj ei1
  obtain ⟨i2, ei2⟩ := isL_v ga3
  obtain rfl : w2 = (.long i2) := Option.some.inj ei2
  obtain ⟨i3, ei3⟩ := isL_v ga4
  obtain rfl : w3 = (.long i3) := Option.some.inj ei3
  obtain ⟨i4, ei4⟩ := isL_v ga5
  obtain rfl : w4 = (.long i4) := Option.some.inj ei4
  obtain ⟨i5, ei5⟩ := is_v gb5
  obtain rfl : w5 = (.int i5) := Option.some.inj ei5
  obtain ⟨n, o, h1, h2, h3, _, L, rfl, ⟨rfl, N⟩, hq⟩ := rm0 l s _ hw tables_1 i0 i1 i2 i3 i4 i5  s.heap s.heap.size (Nat.le_refl _)  p e ha hc hk s m _ below hf ((Spec.applies_iff_loose hf).mp happ).1 ⟨rfl, State.Warmed39.refl s, rfl⟩ trivial
  refine ⟨n, _, h1, h2, h3, hpost _ _ _ _ _ _ ⟨Cond.after_iff.mpr rfl, Cond.after_iff.mpr (eq_i res_at (Term.int_eval (1)) rfl), trivial⟩ ⟨hq.1, hq.2.1, (hq.2.2.sift fun y hy => Or.inr (N y hy)).mono (by decide) (by decide)⟩⟩
theorem main_1_1 : Claimed_1_1 := comes_1 fun _ _ _ _ _ _ h hF => ⟨h.1, hF⟩
theorem main_1_2 : Claimed_1_2 := comes_1 fun _ _ _ _ _ _ h hF => ⟨h.2.1, hF⟩
end Jvm.Pilot.@@N@@
namespace Jvm.Pilot.@@N@@
open Jvm Jvm.ClassFile Sem Op Lib Jvm.Free Jvm.Stand Jvm.Pilot.@@N@@.Jvm.D
/-! MADE BY PROGRAM (witnessworld.py) out of the Statement's table words and the real class files: 11 classes; the members and pool entries that the words name. The judged class is class 1, her method 1. -/
namespace start1
open Jvm.ClassFile
def u (s : String) : CpInfo := .utf8 (stringToUtf16 s)
/-- a pool by its gaps: so many unusable entries, then the entry; so many at the end -/
def gap : Nat → List CpInfo → List CpInfo
  | 0, r => r
  | n + 1, r => .unusable :: gap n r
def poolList (es : List (Nat × CpInfo)) (last : Nat) : List CpInfo := es.foldr (fun e r => gap e.1 (e.2 :: r)) (gap last [])
def pool (es : List (Nat × CpInfo)) (last : Nat) : Array CpInfo := ⟨poolList es last⟩
def fileOf (pool : Array CpInfo) (this : Nat) (attrs : Array Attribute := #[]) (ms : Array MethodInfo := #[]) (fl : Nat := 33) (sup : Nat := 0) (ifs : Array Nat := #[]) (fds : Array FieldInfo := #[]) : ClassFile where
  minorVersion := 0
  majorVersion := 65
  constantPool := pool
  accessFlags := fl
  thisClass := this
  superClass := sup
  interfaces := ifs
  fields := fds
  methods := ms
  attributes := attrs
def plain (name : String) (sup : Option ClassId) : Class where
  name := name
  kind := .ordinary
  loader := none
  accessFlags := 33
  super := sup
  interfaces := #[]
  cf := none
  fields := #[]
  methods := #[]
  instanceTypes := #[]
  staticTypes := #[]
  resolved := #[]
  callSites := []
  init := .initialized
  statics := none
  mirror := none

def pool0 : Array CpInfo := pool [(5, u "<init>"), (0, u "()V"), (1, .class_ 10), (1, u "java/lang/Object")] 113

def k0c0 : Code := { maxStack := 0, maxLocals := 1, code := object_method_1_code, exceptionTable := #[], attributes := #[] }
def k0m0 : Method := { name := "<init>", desc := "()V", sig := { parameters := [], returnType := none }, accessFlags := 1, code := some k0c0 }
/-- java/lang/Object -/
def k0 : Class := { plain "java/lang/Object" none with
  accessFlags := 33
  interfaces := #[]
  cf := some (fileOf pool0 8 #[] #[{ accessFlags := 1, nameIndex := 5, descriptorIndex := 6, attributes := #[] }] 33 0 #[] #[])
  fields := #[]
  methods := #[k0m0]
  instanceTypes := #[]
  staticTypes := #[]
  resolved := Array.replicate 124 none
  statics := none }

def pool1 : Array CpInfo := pool [(2, .class_ 4), (0, .nameAndType 5 6), (0, u "java/lang/Object"), (0, u "<init>"), (0, u "()V"), (0, .class_ 8), (0, u "com/example/wilt/wilt/core/ExpirySlots$Run"), (0, .methodref 7 3), (0, .fieldref 7 11), (0, .nameAndType 12 13), (0, u "timeout"), (0, u "J"), (0, .fieldref 7 15), (0, .nameAndType 16 17), (0, u "timeouts"), (0, u "[J"), (0, .fieldref 7 19), (0, .nameAndType 20 21), (0, u "from"), (0, u "I"), (0, .fieldref 7 23), (0, .nameAndType 24 21), (0, u "size"), (0, .methodref 7 26), (0, .nameAndType 12 27), (0, u "(I)J"), (0, .methodref 29 30), (0, .class_ 31), (0, .nameAndType 32 33), (0, u "com/example/wilt/wilt/core/RunTimeoutPinLaw"), (0, u "expected"), (0, u "(ZJJJJJI)J"), (2, u "law"), (0, u "(JJJJJI)Z")] 8

def k1m0 : Method := { name := "<init>", desc := "()V", sig := { parameters := [], returnType := none }, accessFlags := 1, code := none }
def k1c1 : Code := { maxStack := 15, maxLocals := 18, code := code, exceptionTable := #[], attributes := #[] }
def k1m1 : Method := { name := "law", desc := "(JJJJJI)Z", sig := { parameters := [.long, .long, .long, .long, .long, .int], returnType := some .boolean }, accessFlags := 9, code := some k1c1 }
def k1c2 : Code := { maxStack := 2, maxLocals := 12, code := method_3_code, exceptionTable := #[], attributes := #[] }
def k1m2 : Method := { name := "expected", desc := "(ZJJJJJI)J", sig := { parameters := [.boolean, .long, .long, .long, .long, .long, .int], returnType := some .long }, accessFlags := 10, code := some k1c2 }
/-- com/example/wilt/wilt/core/RunTimeoutPinLaw -/
def k1 : Class := { plain "com/example/wilt/wilt/core/RunTimeoutPinLaw" (some 0) with
  accessFlags := 49
  interfaces := #[]
  cf := some (fileOf pool1 29 #[] #[{ accessFlags := 1, nameIndex := 5, descriptorIndex := 6, attributes := #[] }, { accessFlags := 9, nameIndex := 36, descriptorIndex := 37, attributes := #[] }, { accessFlags := 10, nameIndex := 32, descriptorIndex := 33, attributes := #[] }] 49 2 #[] #[])
  fields := #[]
  methods := #[k1m0, k1m1, k1m2]
  instanceTypes := #[]
  staticTypes := #[]
  resolved := Array.replicate 46 none
  statics := none }

def pool2 : Array CpInfo := pool [(1, .class_ 2), (0, u "com/example/wilt/wilt/core/ExpirySlots"), (0, .methodref 4 5), (0, .class_ 6), (0, .nameAndType 7 8), (0, u "java/lang/Object"), (0, u "<init>"), (0, u "()V"), (4, u "expiryTime"), (0, u "J"), (1, .class_ 17), (0, u "com/example/wilt/wilt/core/ExpirySlots$Run"), (2, u "slots"), (3, u "[I"), (2, u "tags"), (3, u "[J"), (2, u "timeouts"), (0, .fieldref 16 36), (0, .nameAndType 34 31), (1, .nameAndType 39 14), (0, u "timeout"), (0, .fieldref 16 38), (2, u "marks"), (8, u "firsts"), (0, u "[Ljava/lang/Object;"), (0, .fieldref 16 55), (0, .nameAndType 56 57), (0, u "from"), (0, u "I"), (2, u "size"), (25, u "(I)J")] 11

def k2c0 : Code := { maxStack := 1, maxLocals := 1, code := prog_12_method_1_code, exceptionTable := #[], attributes := #[] }
def k2m0 : Method := { name := "<init>", desc := "()V", sig := { parameters := [], returnType := none }, accessFlags := 0, code := some k2c0 }
def k2c1 : Code := { maxStack := 3, maxLocals := 2, code := prog_12_method_6_code, exceptionTable := #[], attributes := #[] }
def k2m1 : Method := { name := "timeout", desc := "(I)J", sig := { parameters := [.int], returnType := some .long }, accessFlags := 0, code := some k2c1 }
/-- com/example/wilt/wilt/core/ExpirySlots$Run -/
def k2 : Class := { plain "com/example/wilt/wilt/core/ExpirySlots$Run" (some 0) with
  accessFlags := 32
  interfaces := #[]
  cf := some (fileOf pool2 16 #[.nestHost 1] #[{ accessFlags := 0, nameIndex := 7, descriptorIndex := 8, attributes := #[] }, { accessFlags := 0, nameIndex := 39, descriptorIndex := 86, attributes := #[] }] 32 4 #[] #[{ accessFlags := 0, nameIndex := 13, descriptorIndex := 14, attributes := #[] }, { accessFlags := 0, nameIndex := 20, descriptorIndex := 24, attributes := #[] }, { accessFlags := 0, nameIndex := 27, descriptorIndex := 31, attributes := #[] }, { accessFlags := 0, nameIndex := 34, descriptorIndex := 31, attributes := #[] }, { accessFlags := 0, nameIndex := 39, descriptorIndex := 14, attributes := #[] }, { accessFlags := 0, nameIndex := 43, descriptorIndex := 31, attributes := #[] }, { accessFlags := 0, nameIndex := 52, descriptorIndex := 53, attributes := #[] }, { accessFlags := 0, nameIndex := 56, descriptorIndex := 57, attributes := #[] }, { accessFlags := 0, nameIndex := 60, descriptorIndex := 57, attributes := #[] }])
  fields := #[{ name := "expiryTime", type := .long, accessFlags := 0, slot := 0, constantValue := 0 }, { name := "slots", type := (.array .int), accessFlags := 0, slot := 1, constantValue := 0 }, { name := "tags", type := (.array .long), accessFlags := 0, slot := 2, constantValue := 0 }, { name := "timeouts", type := (.array .long), accessFlags := 0, slot := 3, constantValue := 0 }, { name := "timeout", type := .long, accessFlags := 0, slot := 4, constantValue := 0 }, { name := "marks", type := (.array .long), accessFlags := 0, slot := 5, constantValue := 0 }, { name := "firsts", type := (.array (.object "java/lang/Object")), accessFlags := 0, slot := 6, constantValue := 0 }, { name := "from", type := .int, accessFlags := 0, slot := 7, constantValue := 0 }, { name := "size", type := .int, accessFlags := 0, slot := 8, constantValue := 0 }]
  methods := #[k2m0, k2m1]
  instanceTypes := #[.long, (.array .int), (.array .long), (.array .long), .long, (.array .long), (.array (.object "java/lang/Object")), .int, .int]
  staticTypes := #[]
  resolved := Array.replicate 98 none
  statics := none }

def pool3 : Array CpInfo := pool [(1, u "java/lang/Cloneable"), (0, .class_ 1), (0, u "java/lang/Object"), (0, .class_ 3)] 3

/-- java/lang/Cloneable -/
def k3 : Class := { plain "java/lang/Cloneable" (some 0) with
  accessFlags := 1537
  interfaces := #[]
  cf := some (fileOf pool3 2 #[] #[] 1537 4 #[] #[])
  fields := #[]
  methods := #[]
  instanceTypes := #[]
  staticTypes := #[]
  resolved := Array.replicate 8 none
  statics := none }

def pool4 : Array CpInfo := pool [(1, u "java/io/Serializable"), (0, .class_ 1), (0, u "java/lang/Object"), (0, .class_ 3)] 3

/-- java/io/Serializable -/
def k4 : Class := { plain "java/io/Serializable" (some 0) with
  accessFlags := 1537
  interfaces := #[]
  cf := some (fileOf pool4 2 #[] #[] 1537 4 #[] #[])
  fields := #[]
  methods := #[]
  instanceTypes := #[]
  staticTypes := #[]
  resolved := Array.replicate 8 none
  statics := none }

/-- the primitive byte -/
def k5 : Class := { plain "byte" none with kind := .primitive 'B', accessFlags := 0x411 }
/-- [B -/
def k6 : Class := { plain "[B" (some 0) with kind := .array 5 .byte, interfaces := #[3, 4], accessFlags := 1041 }

/-- the primitive int -/
def k7 : Class := { plain "int" none with kind := .primitive 'I', accessFlags := 0x411 }
/-- [I -/
def k8 : Class := { plain "[I" (some 0) with kind := .array 7 .int, interfaces := #[3, 4], accessFlags := 1041 }

/-- the primitive long -/
def k9 : Class := { plain "long" none with kind := .primitive 'J', accessFlags := 0x411 }
/-- [J -/
def k10 : Class := { plain "[J" (some 0) with kind := .array 9 .long, interfaces := #[3, 4], accessFlags := 1041 }

def heap : Heap := #[]
def classes : Array Class := #[k0, k1, k2, k3, k4, k5, k6, k7, k8, k9, k10]
def interned : List (Array UInt16 × Addr) := []
def slotsUsed : Nat := 0
def theMethod : MethodId := ⟨1, 1⟩
def args0 : Array Value := #[.long 3, .long 4, .long 5, .long 6, .long 7, .int 8]
def aboutOver (below : List Frame) : State where
  vm := { classes := classes, interned := interned.toArray }
  heap := heap
  slotsUsed := slotsUsed
  threads := #[{ frames := .invoking theMethod args0 :: below }]
def below0 : List Frame := [.native { method := ⟨0, 0⟩, args := #[] }]
def about1 : State := aboutOver below0
def p0 : Program := .bare "" "" ""
def e0 : Env := launch0.env 0 0 0
theorem w_frames : about1.frames = Frame.invoking theMethod args0 :: below0 := rfl
set_option maxRecDepth 65536 in
theorem w_args : argsFit about1.vm theMethod args0 = true := by decide +kernel
set_option maxRecDepth 65536 in
theorem w_heap : heapFits about1 = true := by decide +kernel
set_option maxRecDepth 65536 in
theorem w_runnable : about1.curStatus? = some .runnable := by decide +kernel
set_option maxRecDepth 65536 in
theorem w_alone : about1.alone = true := by decide +kernel
set_option maxRecDepth 65536 in
theorem w_named : about1.methodNamed? x = some theMethod := by decide +kernel
set_option maxRecDepth 65536 in
theorem w_hears : about1.hears theMethod below0 = true := by decide +kernel
set_option maxRecDepth 65536 in
theorem w_ripe : about1.ripe theMethod args0 below0 = true := by decide +kernel
theorem w_running : about1.status = .running := rfl
set_option maxRecDepth 65536 in
theorem w_room : about1.hasRoom e0.platform room_1 = true :=
  launch0.hasRoom_least _ room_1 (by decide +kernel) (by decide +kernel) (by decide +kernel) (by decide +kernel) (by decide +kernel) (by decide +kernel)
theorem allAtoms_all (ts : List Jvm.Cond) (a : Array Jvm.Value) (st : Jvm.State) : (allAtoms ts).before a st = ts.all (fun c => c.before a st) := by
  induction ts with
  | nil => rfl
  | cons c t ih =>
    show (Jvm.Cond.and c (allAtoms t)).before a st = _
    rw [Jvm.Cond.before_and, ih, List.all_cons]
def words1 : List Jvm.Cond := Jvm.Cond.code x code maxLocals ret :: tables_1
/-- a 'code' word, met by the world's own term for the bytes: nothing is compared byte by byte -/
theorem code_word {y : MethodName} {bytes : ByteArray} {mx : Nat} {rt : Option FieldType} {a : Array Value} {s : State} {m : MethodId} {meth : Method} {c : Code} (h1 : s.methodNamed? y = some m) (h2 : s.vm.method? m = some meth) (h3 : meth.code = some c) (h4 : c.code = bytes)
    (h5 : (c.maxLocals == mx && c.exceptionTable.isEmpty && decide (c.maxStack ≤ mostOperands) && decide (meth.sig.returnType = rt) && !meth.locks && decide (parseMethodDescriptor y.desc = some meth.sig)) = true) : (Jvm.Cond.code y bytes mx rt).before a s = true := by
  simp only [Bool.and_eq_true, beq_iff_eq, Bool.not_eq_true', decide_eq_true_eq] at h5
  obtain ⟨⟨⟨⟨⟨g1, g2⟩, g3⟩, g4⟩, g5⟩, g6⟩ := h5
  simp [Cond.before, Cond.holds, Cond.value, h1, h2, h3, h4, g1, g2, g3, g4, g5, g6]
def isCode : Jvm.Cond → Bool
  | .code _ _ _ _ => true
  | _ => false
theorem all_split {L : List Jvm.Cond} {P : Jvm.Cond → Bool} (h1 : L.all (fun c => isCode c || P c) = true) (h2 : ∀ c ∈ L.filter isCode, P c = true) : L.all P = true := by
  refine List.all_eq_true.mpr fun c hc => ?_
  have h := List.all_eq_true.mp h1 c hc
  rcases Bool.eq_false_or_eq_true (isCode c) with hi | hi
  · exact h2 c (List.mem_filter.mpr ⟨hc, hi⟩)
  · simpa [hi] using h
set_option maxRecDepth 65536 in
theorem w_c0 : (Jvm.Cond.code x code maxLocals ret).before args0 about1 = true := code_word (m := ⟨1, 1⟩) (meth := k1m1) (c := k1c1) (by decide +kernel) rfl rfl rfl (by decide +kernel)
set_option maxRecDepth 65536 in
theorem w_c1 : (Jvm.Cond.code ({ cls := "com/example/wilt/wilt/core/ExpirySlots$Run", name := "<init>", desc := "()V" } : Jvm.MethodName) prog_12_method_1_code (1 : Nat) (Option.none : Option Jvm.ClassFile.FieldType)).before args0 about1 = true := code_word (m := ⟨2, 0⟩) (meth := k2m0) (c := k2c0) (by decide +kernel) rfl rfl rfl (by decide +kernel)
set_option maxRecDepth 65536 in
theorem w_c2 : (Jvm.Cond.code ({ cls := "java/lang/Object", name := "<init>", desc := "()V" } : Jvm.MethodName) object_method_1_code (1 : Nat) (Option.none : Option Jvm.ClassFile.FieldType)).before args0 about1 = true := code_word (m := ⟨0, 0⟩) (meth := k0m0) (c := k0c0) (by decide +kernel) rfl rfl rfl (by decide +kernel)
set_option maxRecDepth 65536 in
theorem w_c3 : (Jvm.Cond.code ({ cls := "com/example/wilt/wilt/core/ExpirySlots$Run", name := "timeout", desc := "(I)J" } : Jvm.MethodName) prog_12_method_6_code (2 : Nat) (Option.some Jvm.ClassFile.FieldType.long)).before args0 about1 = true := code_word (m := ⟨2, 1⟩) (meth := k2m1) (c := k2c1) (by decide +kernel) rfl rfl rfl (by decide +kernel)
set_option maxRecDepth 65536 in
theorem w_c4 : (Jvm.Cond.code ({ cls := "com/example/wilt/wilt/core/RunTimeoutPinLaw", name := "expected", desc := "(ZJJJJJI)J" } : Jvm.MethodName) method_3_code (12 : Nat) (Option.some Jvm.ClassFile.FieldType.long)).before args0 about1 = true := code_word (m := ⟨1, 2⟩) (meth := k1m2) (c := k1c2) (by decide +kernel) rfl rfl rfl (by decide +kernel)
def codes1 : List Jvm.Cond := [Jvm.Cond.code x code maxLocals ret, Jvm.Cond.code ({ cls := "com/example/wilt/wilt/core/ExpirySlots$Run", name := "<init>", desc := "()V" } : Jvm.MethodName) prog_12_method_1_code (1 : Nat) (Option.none : Option Jvm.ClassFile.FieldType), Jvm.Cond.code ({ cls := "java/lang/Object", name := "<init>", desc := "()V" } : Jvm.MethodName) object_method_1_code (1 : Nat) (Option.none : Option Jvm.ClassFile.FieldType), Jvm.Cond.code ({ cls := "com/example/wilt/wilt/core/ExpirySlots$Run", name := "timeout", desc := "(I)J" } : Jvm.MethodName) prog_12_method_6_code (2 : Nat) (Option.some Jvm.ClassFile.FieldType.long), Jvm.Cond.code ({ cls := "com/example/wilt/wilt/core/RunTimeoutPinLaw", name := "expected", desc := "(ZJJJJJI)J" } : Jvm.MethodName) method_3_code (12 : Nat) (Option.some Jvm.ClassFile.FieldType.long)]
set_option maxRecDepth 65536 in
theorem codes_eq : words1.filter isCode = codes1 := rfl
theorem w_codes : ∀ c ∈ words1.filter isCode, c.before args0 about1 = true := by
  rw [codes_eq]
  intro c hc
  simp only [codes1, List.mem_cons, List.not_mem_nil, or_false] at hc
  rcases hc with rfl | rfl | rfl | rfl | rfl
  · exact w_c0
  · exact w_c1
  · exact w_c2
  · exact w_c3
  · exact w_c4
set_option maxRecDepth 65536 in
theorem w_t1 : (words1.take 24).all (fun c => isCode c || c.before args0 about1) = true := by decide +kernel
set_option maxRecDepth 65536 in
theorem w_t2 : (words1.drop 24).all (fun c => isCode c || c.before args0 about1) = true := by decide +kernel
theorem w_tables : (allAtoms (Jvm.Cond.code x code maxLocals ret :: tables_1)).before args0 about1 = true := by
  rw [allAtoms_all]
  show words1.all (fun c => c.before args0 about1) = true
  refine all_split ?_ w_codes
  rw [← List.take_append_drop 24 words1, List.all_append, w_t1, w_t2]
  rfl
set_option maxRecDepth 65536 in
theorem w_case : (Jvm.Cond.and given_1 narrow_1).before args0 about1 = true := by decide +kernel
theorem w_applies : (headSpec (Jvm.Cond.code x code maxLocals ret :: tables_1) room_1).applies x e0.platform about1 = true :=
  (Spec.applies_iff w_frames).mpr ⟨w_running, w_runnable, w_alone, w_named, w_hears, w_ripe, w_room, w_tables⟩
theorem atStart : AtStart classFile x code maxLocals ret World_1 tables_1 room_1 Calls_1 rest_1 Pre_1 launch0 p0 e0 about1 theMethod args0 below0 :=
  ⟨lists_1, trivial, launch0.admits_env _ _ _, launch0.least_env, fairChoices_fair.cas, fairChoices_fair.clock, w_frames, w_args, w_heap, w_applies, trivial, trivial, w_case⟩
end start1
theorem witness_1 : WitnessClaimed_1 := ⟨start1.p0, start1.e0, start1.about1, start1.theMethod, start1.args0, start1.below0, start1.atStart⟩
end Jvm.Pilot.@@N@@
