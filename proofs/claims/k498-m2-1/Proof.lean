import JvmDerived
import JvmDerived.Pilot.@@N@@Statement
import JvmDerived.Pilot.@@N@@Code
set_option linter.unusedVariables false
set_option linter.unusedSimpArgs false
namespace Jvm.RoadKit
open Sem ClassFile Op Lib Jvm.Stand Jvm.Free Jvm.LawKit
section New
variable {p : Program} {l : Launch} {e : Env} {R : Room} {s : State} {m : MethodId} {args : Array Value} {below : List Frame} {meth : Method} {c : Code} {T : State} {locs : List Loc} {cells slots : Nat}
theorem retI (X : Stand p l e R s m args below meth c T locs cells slots) (hx : p.tables.exec = Jvm.exec) {pc : Nat} {Ls : Array Slot} {z : Int32} {rest : List Value} (hret : meth.sig.returnType = some .int) (hd : decode c.code pc = .ok (.ireturn, 1)) {fs : List Frame}
    (hl : ∀ (f : JFrame) (acts : List Action), f.method = m → f.locked = none → f.entered = [] → (doReturn e (T.setTop f) acts (some (.int z))).1 = T.setFrames fs) : Steps p.tables e below (T.setTop (mkF m pc Ls (.int z :: rest))) (T.setFrames fs) := by
  have hm' : T.vm.method? m = some meth := X.method'
  have hn : narrow .int (.int z) = .int z := rfl
  show Steps p.tables e below (T.setTop { method := m, pc := pc, locals := Ls, stack := _ :: rest, locked := none }) _
  jvm_step X.here [X.here.top, hx, hd, hm', hret, hn]
  first | (intro acts; rw [hl _ acts rfl rfl rfl]) | rw [hl _ _ rfl rfl rfl]
  exact Steps.refl _
end New
end Jvm.RoadKit
namespace Jvm.Pilot.@@N@@
open Jvm Jvm.ClassFile Sem Op Lib Jvm.Free Jvm.Stand Jvm.LawKit Jvm.RoadKit Bundle Jvm.Pilot.@@N@@.Jvm.D
/-- from the state A the run comes to the state B -/
def own_go (p : Program) (e : Env) (below : List Frame) (A B : State) : Prop := ∀ t, Steps p.tables e below B t → Steps p.tables e below A t
theorem own_wide {p : Program} {l : Launch} {e : Env} {R : Room} {s : State} {m : MethodId} {args : Array Value} {below : List Frame} {meth : Method} {c : Code} {T : State} {locs : List Loc} {cells slots k n : Nat} (X : Stand p l e R s m args below meth c T locs cells slots) (h1 : cells ≤ k) (h2 : slots ≤ n) : Stand p l e R s m args below meth c T locs k n :=
  { X with same := X.same.weaken (fun _ h _ => h) h1 h2 }
theorem own_getD {α : Type} (f : α → Value) : ∀ (l : List α) (d : α) (k : Nat), (l.map f).getD k (f d) = f (l.getD k d)
  | [], _, _ => rfl
  | _ :: _, _, 0 => rfl
  | _ :: t, d, k + 1 => own_getD f t d k
theorem d1_0 : decode prog_52_method_2_code 0 = .ok (.iload_n 0, 1) := by decide +kernel
theorem d1_1 : decode prog_52_method_2_code 1 = .ok (.bipush 32, 2) := by decide +kernel
theorem d1_3 : decode prog_52_method_2_code 3 = .ok (.if_icmp .eq 21, 3) := by decide +kernel
theorem d1_24 : decode prog_52_method_2_code 24 = .ok (.iconst 1, 1) := by decide +kernel
theorem d1_25 : decode prog_52_method_2_code 25 = .ok (.goto 4, 3) := by decide +kernel
theorem d1_29 : decode prog_52_method_2_code 29 = .ok (.ireturn, 1) := by decide +kernel
theorem d1_6 : decode prog_52_method_2_code 6 = .ok (.iload_n 0, 1) := by decide +kernel
theorem d1_7 : decode prog_52_method_2_code 7 = .ok (.bipush 9, 2) := by decide +kernel
theorem d1_9 : decode prog_52_method_2_code 9 = .ok (.if_icmp .eq 15, 3) := by decide +kernel
theorem d1_12 : decode prog_52_method_2_code 12 = .ok (.iload_n 0, 1) := by decide +kernel
theorem d1_13 : decode prog_52_method_2_code 13 = .ok (.bipush 10, 2) := by decide +kernel
theorem d1_15 : decode prog_52_method_2_code 15 = .ok (.if_icmp .eq 9, 3) := by decide +kernel
theorem d1_18 : decode prog_52_method_2_code 18 = .ok (.iload_n 0, 1) := by decide +kernel
theorem d1_19 : decode prog_52_method_2_code 19 = .ok (.bipush 13, 2) := by decide +kernel
theorem d1_21 : decode prog_52_method_2_code 21 = .ok (.if_icmp .ne 7, 3) := by decide +kernel
theorem d1_28 : decode prog_52_method_2_code 28 = .ok (.iconst 0, 1) := by decide +kernel
theorem own_pn_com_example_structweave_structweave_wddx_XmlText : plainName "com/example/structweave/structweave/wddx/XmlText" = true := by first | (simp [plainName, overriddenIn]; done) | decide +kernel
theorem ef_1 (m : MethodId) (x0 : Int32) : entryFrame m #[(.int x0)] 1 = mkF m 0 #[.val (.int x0)] [] := by first | (simp [entryFrame, mkF, argsToLocals, Value.category]; done) | rfl
def Q1 (Z : State) (p1 : Int32) (h0 : Heap) (n0 : Nat) (v : Option Value) (h : Heap) (L : List Loc) : Prop := v = some (.int (if p1 = (32 : Int32) then (1 : Int32) else (if p1 = (9 : Int32) then (1 : Int32) else (if p1 = (10 : Int32) then (1 : Int32) else (if p1 = (13 : Int32) then (1 : Int32) else (0 : Int32)))))) ∧ Fr n0 L ∧ h = h0
set_option maxRecDepth 65536 in
set_option maxHeartbeats 40000000 in
theorem rm1 (l : Launch) (Z : State) (a0 : Array Value) (hw : ∀ d ∈ tables_1, d.before a0 Z = true) (ws : List Jvm.Cond) (p1 : Int32) (h0 : Heap) (n0 : Nat) (Z0 : n0 ≤ h0.size) :
    MetFree l (⟨"com/example/structweave/structweave/wddx/XmlText", "isSpace", "(C)Z"⟩ : MethodName) (head1 (Jvm.Cond.code (⟨"com/example/structweave/structweave/wddx/XmlText", "isSpace", "(C)Z"⟩ : MethodName) prog_52_method_2_code 1 (some .boolean) :: ws) ({ frames := 0, cells := 0, slots := 0, locals := 0 } : Room)) (fun a U => a = #[(.int p1)] ∧ Z.Warmed39 U.vm ∧ U.heap = h0) (fun _ _ _ _ _ => True) (fun _ U o U' => ∃ v L, o = .returned v ∧ Q1 Z p1 h0 n0 v U'.heap L ∧ FrameEnd U o U' L ({ frames := 0, cells := 0, slots := 0, locals := 0 } : Room).cells ({ frames := 0, cells := 0, slots := 0, locals := 0 } : Room).slots) := by
  refine MetFree.of_bodySF (plainFor_of_name own_pn_com_example_structweave_structweave_wddx_XmlText) hisR ?_
  intro p e s m args below meth c s₁ Bd hml0 hP hK
  obtain ⟨rfl, hZ, hh⟩ := hP
  have hx := Bd.exec
  have hby := Bd.bytes
  have hml : c.maxLocals = 1 := hml0
  have hown : s.vm.findClass "com/example/structweave/structweave/wddx/XmlText" = some m.cls := findClass_of_methodNamed Bd.named
  have hnm := (name_of_methodNamed Bd.named Bd.method).1
  have X0 : Stand p l e ({ frames := 0, cells := 0, slots := 0, locals := 0 } : Room) s m #[(.int p1)] below meth c s₁ [] 0 0 := Stand.of_body Bd
  have e0 : s₁.heap = h0 := by rw [← hh, Bd.state]; rfl
  have N0 := Fr.nil n0
  have p0 : own_go p e below (s₁.setTop (entryFrame m #[(.int p1)] 1)) (s₁.setTop (mkF m 0 #[.val (.int p1)] [])) := fun t k => castTop (ef_1 m p1) k
  have go1 : own_go p e below (s₁.setTop (entryFrame m #[(.int p1)] 1)) (s₁.setTop (mkF m 3 #[.val (.int p1)] [(.int (32 : Int32)), (.int p1)])) := by
    intro t kt
    refine p0 t ?_
    show Steps p.tables e below (s₁.setTop (mkF m 0 #[.val (.int p1)] [])) _
    refine XS.iloadN X0.here hx rfl (hb hby d1_0) rfl ?_
    show Steps p.tables e below (s₁.setTop (mkF m 1 #[.val (.int p1)] [(.int p1)])) _
    refine XS.bipush X0.here hx rfl (hb hby d1_1) ?_
    exact kt
  by_cases hc2_3 : p1 = (32 : Int32)
  · have go3 : own_go p e below (s₁.setTop (entryFrame m #[(.int p1)] 1)) (s₁.setTop (mkF m 29 #[.val (.int p1)] [(.int (1 : Int32))])) := by
      intro t kt
      refine go1 t ?_
      show Steps p.tables e below (s₁.setTop (mkF m 3 #[.val (.int p1)] [(.int (32 : Int32)), (.int p1)])) _
      refine XS.icmpYes X0.here hx rfl (pc0 := 3) (pc' := 24) rfl (hb hby d1_3) rfl (teq hc2_3).1 (by decide) (by decide) ?_
      show Steps p.tables e below (s₁.setTop (mkF m 24 #[.val (.int p1)] [])) _
      refine XS.iconst X0.here hx rfl (hb hby d1_24) ?_
      show Steps p.tables e below (s₁.setTop (mkF m 25 #[.val (.int p1)] [(.int (1 : Int32))])) _
      refine XS.goto X0.here hx rfl (pc0 := 25) (pc' := 29) rfl (hb hby d1_25) (by decide) (by decide) ?_
      exact kt
    obtain ⟨fs, hr, hrun, hended, hW, hsame⟩ := X0.leave (v := some (.int (1 : Int32))) (fun h => by rw [Bd.returns] at h; cases h)
    refine ⟨_, _, go3 _ ?_, hrun, hended, _, _, rfl, ?_, ⟨_, rfl⟩, hW, hsame.mono (by decide) (by decide)⟩
    · exact retN X0 hx (t := .boolean) Bd.returns (by simp) (hb hby d1_29) hr
    · show Q1 Z p1 h0 n0 _ s₁.heap _
      rw [e0]
      exact ⟨by simp [hc2_3], N0, rfl⟩
  · have go4 : own_go p e below (s₁.setTop (entryFrame m #[(.int p1)] 1)) (s₁.setTop (mkF m 9 #[.val (.int p1)] [(.int (9 : Int32)), (.int p1)])) := by
      intro t kt
      refine go1 t ?_
      show Steps p.tables e below (s₁.setTop (mkF m 3 #[.val (.int p1)] [(.int (32 : Int32)), (.int p1)])) _
      refine XS.icmpNo X0.here hx rfl (hb hby d1_3) rfl (feq hc2_3).1 ?_
      show Steps p.tables e below (s₁.setTop (mkF m 6 #[.val (.int p1)] [])) _
      refine XS.iloadN X0.here hx rfl (hb hby d1_6) rfl ?_
      show Steps p.tables e below (s₁.setTop (mkF m 7 #[.val (.int p1)] [(.int p1)])) _
      refine XS.bipush X0.here hx rfl (hb hby d1_7) ?_
      exact kt
    by_cases hc5_9 : p1 = (9 : Int32)
    · have go6 : own_go p e below (s₁.setTop (entryFrame m #[(.int p1)] 1)) (s₁.setTop (mkF m 29 #[.val (.int p1)] [(.int (1 : Int32))])) := by
        intro t kt
        refine go4 t ?_
        show Steps p.tables e below (s₁.setTop (mkF m 9 #[.val (.int p1)] [(.int (9 : Int32)), (.int p1)])) _
        refine XS.icmpYes X0.here hx rfl (pc0 := 9) (pc' := 24) rfl (hb hby d1_9) rfl (teq hc5_9).1 (by decide) (by decide) ?_
        show Steps p.tables e below (s₁.setTop (mkF m 24 #[.val (.int p1)] [])) _
        refine XS.iconst X0.here hx rfl (hb hby d1_24) ?_
        show Steps p.tables e below (s₁.setTop (mkF m 25 #[.val (.int p1)] [(.int (1 : Int32))])) _
        refine XS.goto X0.here hx rfl (pc0 := 25) (pc' := 29) rfl (hb hby d1_25) (by decide) (by decide) ?_
        exact kt
      obtain ⟨fs, hr, hrun, hended, hW, hsame⟩ := X0.leave (v := some (.int (1 : Int32))) (fun h => by rw [Bd.returns] at h; cases h)
      refine ⟨_, _, go6 _ ?_, hrun, hended, _, _, rfl, ?_, ⟨_, rfl⟩, hW, hsame.mono (by decide) (by decide)⟩
      · exact retN X0 hx (t := .boolean) Bd.returns (by simp) (hb hby d1_29) hr
      · show Q1 Z p1 h0 n0 _ s₁.heap _
        rw [e0]
        exact ⟨by simp [hc2_3, hc5_9], N0, rfl⟩
    · have go7 : own_go p e below (s₁.setTop (entryFrame m #[(.int p1)] 1)) (s₁.setTop (mkF m 15 #[.val (.int p1)] [(.int (10 : Int32)), (.int p1)])) := by
        intro t kt
        refine go4 t ?_
        show Steps p.tables e below (s₁.setTop (mkF m 9 #[.val (.int p1)] [(.int (9 : Int32)), (.int p1)])) _
        refine XS.icmpNo X0.here hx rfl (hb hby d1_9) rfl (feq hc5_9).1 ?_
        show Steps p.tables e below (s₁.setTop (mkF m 12 #[.val (.int p1)] [])) _
        refine XS.iloadN X0.here hx rfl (hb hby d1_12) rfl ?_
        show Steps p.tables e below (s₁.setTop (mkF m 13 #[.val (.int p1)] [(.int p1)])) _
        refine XS.bipush X0.here hx rfl (hb hby d1_13) ?_
        exact kt
      by_cases hc8_15 : p1 = (10 : Int32)
      · have go9 : own_go p e below (s₁.setTop (entryFrame m #[(.int p1)] 1)) (s₁.setTop (mkF m 29 #[.val (.int p1)] [(.int (1 : Int32))])) := by
          intro t kt
          refine go7 t ?_
          show Steps p.tables e below (s₁.setTop (mkF m 15 #[.val (.int p1)] [(.int (10 : Int32)), (.int p1)])) _
          refine XS.icmpYes X0.here hx rfl (pc0 := 15) (pc' := 24) rfl (hb hby d1_15) rfl (teq hc8_15).1 (by decide) (by decide) ?_
          show Steps p.tables e below (s₁.setTop (mkF m 24 #[.val (.int p1)] [])) _
          refine XS.iconst X0.here hx rfl (hb hby d1_24) ?_
          show Steps p.tables e below (s₁.setTop (mkF m 25 #[.val (.int p1)] [(.int (1 : Int32))])) _
          refine XS.goto X0.here hx rfl (pc0 := 25) (pc' := 29) rfl (hb hby d1_25) (by decide) (by decide) ?_
          exact kt
        obtain ⟨fs, hr, hrun, hended, hW, hsame⟩ := X0.leave (v := some (.int (1 : Int32))) (fun h => by rw [Bd.returns] at h; cases h)
        refine ⟨_, _, go9 _ ?_, hrun, hended, _, _, rfl, ?_, ⟨_, rfl⟩, hW, hsame.mono (by decide) (by decide)⟩
        · exact retN X0 hx (t := .boolean) Bd.returns (by simp) (hb hby d1_29) hr
        · show Q1 Z p1 h0 n0 _ s₁.heap _
          rw [e0]
          exact ⟨by simp [hc2_3, hc5_9, hc8_15], N0, rfl⟩
      · have go10 : own_go p e below (s₁.setTop (entryFrame m #[(.int p1)] 1)) (s₁.setTop (mkF m 21 #[.val (.int p1)] [(.int (13 : Int32)), (.int p1)])) := by
          intro t kt
          refine go7 t ?_
          show Steps p.tables e below (s₁.setTop (mkF m 15 #[.val (.int p1)] [(.int (10 : Int32)), (.int p1)])) _
          refine XS.icmpNo X0.here hx rfl (hb hby d1_15) rfl (feq hc8_15).1 ?_
          show Steps p.tables e below (s₁.setTop (mkF m 18 #[.val (.int p1)] [])) _
          refine XS.iloadN X0.here hx rfl (hb hby d1_18) rfl ?_
          show Steps p.tables e below (s₁.setTop (mkF m 19 #[.val (.int p1)] [(.int p1)])) _
          refine XS.bipush X0.here hx rfl (hb hby d1_19) ?_
          exact kt
        by_cases hc11_21 : p1 = (13 : Int32)
        · have go12 : own_go p e below (s₁.setTop (entryFrame m #[(.int p1)] 1)) (s₁.setTop (mkF m 29 #[.val (.int p1)] [(.int (1 : Int32))])) := by
            intro t kt
            refine go10 t ?_
            show Steps p.tables e below (s₁.setTop (mkF m 21 #[.val (.int p1)] [(.int (13 : Int32)), (.int p1)])) _
            refine XS.icmpNo X0.here hx rfl (hb hby d1_21) rfl (teq hc11_21).2 ?_
            show Steps p.tables e below (s₁.setTop (mkF m 24 #[.val (.int p1)] [])) _
            refine XS.iconst X0.here hx rfl (hb hby d1_24) ?_
            show Steps p.tables e below (s₁.setTop (mkF m 25 #[.val (.int p1)] [(.int (1 : Int32))])) _
            refine XS.goto X0.here hx rfl (pc0 := 25) (pc' := 29) rfl (hb hby d1_25) (by decide) (by decide) ?_
            exact kt
          obtain ⟨fs, hr, hrun, hended, hW, hsame⟩ := X0.leave (v := some (.int (1 : Int32))) (fun h => by rw [Bd.returns] at h; cases h)
          refine ⟨_, _, go12 _ ?_, hrun, hended, _, _, rfl, ?_, ⟨_, rfl⟩, hW, hsame.mono (by decide) (by decide)⟩
          · exact retN X0 hx (t := .boolean) Bd.returns (by simp) (hb hby d1_29) hr
          · show Q1 Z p1 h0 n0 _ s₁.heap _
            rw [e0]
            exact ⟨by simp [hc2_3, hc5_9, hc8_15, hc11_21], N0, rfl⟩
        · have go13 : own_go p e below (s₁.setTop (entryFrame m #[(.int p1)] 1)) (s₁.setTop (mkF m 29 #[.val (.int p1)] [(.int (0 : Int32))])) := by
            intro t kt
            refine go10 t ?_
            show Steps p.tables e below (s₁.setTop (mkF m 21 #[.val (.int p1)] [(.int (13 : Int32)), (.int p1)])) _
            refine XS.icmpYes X0.here hx rfl (pc0 := 21) (pc' := 28) rfl (hb hby d1_21) rfl (feq hc11_21).2 (by decide) (by decide) ?_
            show Steps p.tables e below (s₁.setTop (mkF m 28 #[.val (.int p1)] [])) _
            refine XS.iconst X0.here hx rfl (hb hby d1_28) ?_
            exact kt
          obtain ⟨fs, hr, hrun, hended, hW, hsame⟩ := X0.leave (v := some (.int (0 : Int32))) (fun h => by rw [Bd.returns] at h; cases h)
          refine ⟨_, _, go13 _ ?_, hrun, hended, _, _, rfl, ?_, ⟨_, rfl⟩, hW, hsame.mono (by decide) (by decide)⟩
          · exact retN X0 hx (t := .boolean) Bd.returns (by simp) (hb hby d1_29) hr
          · show Q1 Z p1 h0 n0 _ s₁.heap _
            rw [e0]
            exact ⟨by simp [hc2_3, hc5_9, hc8_15, hc11_21], N0, rfl⟩
theorem own_main (c : Int32) : (if c = (32 : Int32) then (1 : Int32) else (if c = (9 : Int32) then (1 : Int32) else (if c = (10 : Int32) then (1 : Int32) else (if c = (13 : Int32) then (1 : Int32) else (0 : Int32))))) = (if c = (32 : Int32) then (1 : Int32) else (if c < (9 : Int32) then (0 : Int32) else (if (13 : Int32) < c then (0 : Int32) else (if c = (11 : Int32) then (0 : Int32) else (if c = (12 : Int32) then (0 : Int32) else (1 : Int32)))))) := by
  have h : ∀ m : Int32, c = m ↔ c.toInt = m.toInt := fun m => Int32.toInt_inj.symm
  have e9 : (9 : Int32).toInt = 9 := rfl
  have e10 : (10 : Int32).toInt = 10 := rfl
  have e11 : (11 : Int32).toInt = 11 := rfl
  have e12 : (12 : Int32).toInt = 12 := rfl
  have e13 : (13 : Int32).toInt = 13 := rfl
  have e32 : (32 : Int32).toInt = 32 := rfl
  simp only [h, Int32.lt_iff_toInt_lt, e9, e10, e11, e12, e13, e32]
  repeat' split
  all_goals first | rfl | (exfalso; omega)
theorem own_nn (x : Int32) : ¬ (x &&& 31) < 0 := by
  rw [Int32.lt_iff_toInt_lt]
  have := c_and x 31 (by decide)
  have e0 : (0 : Int32).toInt = 0 := rfl
  omega
theorem own_pd0 : parseMethodDescriptor "(C)Z" = some ⟨[.char], some .boolean⟩ := by decide +kernel
theorem own_pn_com_example_structweave_structweave_wddx_XmlTextIsSpacePinLaw : plainName "com/example/structweave/structweave/wddx/XmlTextIsSpacePinLaw" = true := by first | (simp [plainName, overriddenIn]; done) | decide +kernel
theorem ef_0 (m : MethodId) (x0 : Int32) (x1 : Int32) : entryFrame m #[(.int x0), (.int x1)] maxLocals = mkF m 0 #[.val (.int x0), .val (.int x1), .unset, .unset, .unset, .unset, .unset] [] := by first | (simp [entryFrame, mkF, argsToLocals, Value.category, maxLocals]; done) | rfl
def Q0 (Z : State) (p1 : Int32) (p2 : Int32) (h0 : Heap) (n0 : Nat) (v : Option Value) (h : Heap) (L : List Loc) : Prop := v = some (.int 1) ∧ Fr n0 L
set_option maxRecDepth 65536 in
set_option maxHeartbeats 40000000 in
theorem rm0 (l : Launch) (Z : State) (a0 : Array Value) (hw : ∀ d ∈ tables_1, d.before a0 Z = true) (ws : List Jvm.Cond) (p1 : Int32) (p2 : Int32) (h0 : Heap) (n0 : Nat) (Z0 : n0 ≤ h0.size) :
    MetFree l x (head1 (Jvm.Cond.code x code maxLocals ret :: ws) room_1) (fun a U => a = #[(.int p1), (.int p2)] ∧ Z.Warmed39 U.vm ∧ U.heap = h0) (fun _ _ _ _ _ => True) (fun _ U o U' => ∃ v L, o = .returned v ∧ Q0 Z p1 p2 h0 n0 v U'.heap L ∧ FrameEnd U o U' L 16 128) := by
  refine MetFree.of_bodySF (plainFor_of_name own_pn_com_example_structweave_structweave_wddx_XmlTextIsSpacePinLaw) hisR ?_
  intro p e s m args below meth c s₁ Bd hml0 hP hK
  obtain ⟨rfl, hZ, hh⟩ := hP
  have hx := Bd.exec
  have hby := Bd.bytes
  have hml : c.maxLocals = 7 := hml0
  have hown : s.vm.findClass "com/example/structweave/structweave/wddx/XmlTextIsSpacePinLaw" = some m.cls := findClass_of_methodNamed Bd.named
  have hnm := (name_of_methodNamed Bd.named Bd.method).1
  have X0 : Stand p l e room_1 s m #[(.int p1), (.int p2)] below meth c s₁ [] 0 0 := Stand.of_body Bd
  have e0 : s₁.heap = h0 := by rw [← hh, Bd.state]; rfl
  have N0 := Fr.nil n0
  have p0 : own_go p e below (s₁.setTop (entryFrame m #[(.int p1), (.int p2)] maxLocals)) (s₁.setTop (mkF m 0 #[.val (.int p1), .val (.int p2), .unset, .unset, .unset, .unset, .unset] [])) := fun t k => castTop (ef_0 m p1 p2) k
  obtain ⟨T1, h1, k1, X1, e1, E1, A1, st1⟩ := newP X0 hx hZ (hw _ (List.mem_of_getElem? (i := 0) rfl)) e0 (g := (mkF m 2 #[.val (.int p1), .val (.int p2), .unset, .unset, .unset, .unset, .unset] [(.int (16 : Int32))])) rfl (hb hby at_2) rfl (by decide) (cap := 16) (by decide) (by decide) (by decide) (by decide)
  obtain ⟨b1, g1⟩ : ∃ z, z = h0.size := ⟨_, rfl⟩
  rw [← g1] at A1 st1
  have g_b1 : n0 ≤ b1 := Nat.le_trans Z0 (Nat.le_of_eq g1.symm)
  have Z1 : n0 ≤ h1.size := Nat.le_trans Z0 E1.1
  have V1 : Arv Z h1 b1 k1 .char (16 : Int32) [(.int (0 : Int32)), (.int (0 : Int32)), (.int (0 : Int32)), (.int (0 : Int32)), (.int (0 : Int32)), (.int (0 : Int32)), (.int (0 : Int32)), (.int (0 : Int32)), (.int (0 : Int32)), (.int (0 : Int32)), (.int (0 : Int32)), (.int (0 : Int32)), (.int (0 : Int32)), (.int (0 : Int32)), (.int (0 : Int32)), (.int (0 : Int32))] (.int (0 : Int32)) := (Arv.new A1 (by decide)).pad (pad_rep [] (.int (0 : Int32)) 16)
  obtain ⟨cl2, Ar2, q2, S2, M2, H2, G2⟩ := V1
  have hin2 : ¬ ((0 : Int32) < 0 ∨ cl2.slots.size ≤ ((0 : Int32)).toNatClampNeg) := inb_of S2 ⟨by decide, by decide⟩
  obtain ⟨T3, h3, X3, e3, W3, st3⟩ := stC X1 hx hZ e1 Ar2 (j := (0 : Int32)) hin2 (g := (mkF m 8 #[.val (.int p1), .val (.int p2), .unset, .unset, .unset, .unset, .unset] [(.int (32 : Int32)), (.int (0 : Int32)), (.ref b1), (.ref b1)])) rfl rfl (hb hby at_8)
  have Z3 : n0 ≤ h3.size := Nat.le_trans Z1 (Nat.le_of_eq W3.size.symm)
  have N3 := Fr.snoc X3 N0 g_b1
  have V3 : Arv Z h3 b1 k1 .char (16 : Int32) [(.int (nar .char (32 : Int32))), (.int (0 : Int32)), (.int (0 : Int32)), (.int (0 : Int32)), (.int (0 : Int32)), (.int (0 : Int32)), (.int (0 : Int32)), (.int (0 : Int32)), (.int (0 : Int32)), (.int (0 : Int32)), (.int (0 : Int32)), (.int (0 : Int32)), (.int (0 : Int32)), (.int (0 : Int32)), (.int (0 : Int32)), (.int (0 : Int32))] (.int (0 : Int32)) := Arv.set Ar2 q2 S2 M2 H2 G2 (fits_nar_char _) W3 0 rfl (Nat.le_of_ble_eq_true rfl)
  obtain ⟨cl4, Ar4, q4, S4, M4, H4, G4⟩ := V3
  have hin4 : ¬ ((1 : Int32) < 0 ∨ cl4.slots.size ≤ ((1 : Int32)).toNatClampNeg) := inb_of S4 ⟨by decide, by decide⟩
  obtain ⟨T5, h5, X5, e5, W5, st5⟩ := stC X3 hx hZ e3 Ar4 (j := (1 : Int32)) hin4 (g := (mkF m 13 #[.val (.int p1), .val (.int p2), .unset, .unset, .unset, .unset, .unset] [(.int (9 : Int32)), (.int (1 : Int32)), (.ref b1), (.ref b1)])) rfl rfl (hb hby at_13)
  have Z5 : n0 ≤ h5.size := Nat.le_trans Z3 (Nat.le_of_eq W5.size.symm)
  have N5 := Fr.snoc X5 N3 g_b1
  have V5 : Arv Z h5 b1 k1 .char (16 : Int32) [(.int (nar .char (32 : Int32))), (.int (nar .char (9 : Int32))), (.int (0 : Int32)), (.int (0 : Int32)), (.int (0 : Int32)), (.int (0 : Int32)), (.int (0 : Int32)), (.int (0 : Int32)), (.int (0 : Int32)), (.int (0 : Int32)), (.int (0 : Int32)), (.int (0 : Int32)), (.int (0 : Int32)), (.int (0 : Int32)), (.int (0 : Int32)), (.int (0 : Int32))] (.int (0 : Int32)) := Arv.set Ar4 q4 S4 M4 H4 G4 (fits_nar_char _) W5 1 rfl (Nat.le_of_ble_eq_true rfl)
  obtain ⟨cl6, Ar6, q6, S6, M6, H6, G6⟩ := V5
  have hin6 : ¬ ((2 : Int32) < 0 ∨ cl6.slots.size ≤ ((2 : Int32)).toNatClampNeg) := inb_of S6 ⟨by decide, by decide⟩
  obtain ⟨T7, h7, X7, e7, W7, st7⟩ := stC X5 hx hZ e5 Ar6 (j := (2 : Int32)) hin6 (g := (mkF m 18 #[.val (.int p1), .val (.int p2), .unset, .unset, .unset, .unset, .unset] [(.int (10 : Int32)), (.int (2 : Int32)), (.ref b1), (.ref b1)])) rfl rfl (hb hby at_18)
  have Z7 : n0 ≤ h7.size := Nat.le_trans Z5 (Nat.le_of_eq W7.size.symm)
  have N7 := Fr.snoc X7 N5 g_b1
  have V7 : Arv Z h7 b1 k1 .char (16 : Int32) [(.int (nar .char (32 : Int32))), (.int (nar .char (9 : Int32))), (.int (nar .char (10 : Int32))), (.int (0 : Int32)), (.int (0 : Int32)), (.int (0 : Int32)), (.int (0 : Int32)), (.int (0 : Int32)), (.int (0 : Int32)), (.int (0 : Int32)), (.int (0 : Int32)), (.int (0 : Int32)), (.int (0 : Int32)), (.int (0 : Int32)), (.int (0 : Int32)), (.int (0 : Int32))] (.int (0 : Int32)) := Arv.set Ar6 q6 S6 M6 H6 G6 (fits_nar_char _) W7 2 rfl (Nat.le_of_ble_eq_true rfl)
  have go8 : own_go p e below (s₁.setTop (entryFrame m #[(.int p1), (.int p2)] maxLocals)) (T7.setTop (mkF m 20 #[.val (.int p1), .val (.int p2), .unset, .unset, .unset, .unset, .unset] [(.ref b1), (.ref b1)])) := by
    intro t kt
    refine p0 t ?_
    show Steps p.tables e below (s₁.setTop (mkF m 0 #[.val (.int p1), .val (.int p2), .unset, .unset, .unset, .unset, .unset] [])) _
    refine XS.bipush X0.here hx rfl (hb hby at_0) ?_
    show Steps p.tables e below (s₁.setTop (mkF m 2 #[.val (.int p1), .val (.int p2), .unset, .unset, .unset, .unset, .unset] [(.int (16 : Int32))])) _
    refine st1 _ ?_
    show Steps p.tables e below (T1.setTop (mkF m 4 #[.val (.int p1), .val (.int p2), .unset, .unset, .unset, .unset, .unset] [(.ref b1)])) _
    refine XS.dup X1.here hx rfl (hb hby at_4) rfl rfl ?_
    show Steps p.tables e below (T1.setTop (mkF m 5 #[.val (.int p1), .val (.int p2), .unset, .unset, .unset, .unset, .unset] [(.ref b1), (.ref b1)])) _
    refine XS.iconst X1.here hx rfl (hb hby at_5) ?_
    show Steps p.tables e below (T1.setTop (mkF m 6 #[.val (.int p1), .val (.int p2), .unset, .unset, .unset, .unset, .unset] [(.int (0 : Int32)), (.ref b1), (.ref b1)])) _
    refine XS.bipush X1.here hx rfl (hb hby at_6) ?_
    show Steps p.tables e below (T1.setTop (mkF m 8 #[.val (.int p1), .val (.int p2), .unset, .unset, .unset, .unset, .unset] [(.int (32 : Int32)), (.int (0 : Int32)), (.ref b1), (.ref b1)])) _
    refine st3 _ ?_
    show Steps p.tables e below (T3.setTop (mkF m 9 #[.val (.int p1), .val (.int p2), .unset, .unset, .unset, .unset, .unset] [(.ref b1)])) _
    refine XS.dup X3.here hx rfl (hb hby at_9) rfl rfl ?_
    show Steps p.tables e below (T3.setTop (mkF m 10 #[.val (.int p1), .val (.int p2), .unset, .unset, .unset, .unset, .unset] [(.ref b1), (.ref b1)])) _
    refine XS.iconst X3.here hx rfl (hb hby at_10) ?_
    show Steps p.tables e below (T3.setTop (mkF m 11 #[.val (.int p1), .val (.int p2), .unset, .unset, .unset, .unset, .unset] [(.int (1 : Int32)), (.ref b1), (.ref b1)])) _
    refine XS.bipush X3.here hx rfl (hb hby at_11) ?_
    show Steps p.tables e below (T3.setTop (mkF m 13 #[.val (.int p1), .val (.int p2), .unset, .unset, .unset, .unset, .unset] [(.int (9 : Int32)), (.int (1 : Int32)), (.ref b1), (.ref b1)])) _
    refine st5 _ ?_
    show Steps p.tables e below (T5.setTop (mkF m 14 #[.val (.int p1), .val (.int p2), .unset, .unset, .unset, .unset, .unset] [(.ref b1)])) _
    refine XS.dup X5.here hx rfl (hb hby at_14) rfl rfl ?_
    show Steps p.tables e below (T5.setTop (mkF m 15 #[.val (.int p1), .val (.int p2), .unset, .unset, .unset, .unset, .unset] [(.ref b1), (.ref b1)])) _
    refine XS.iconst X5.here hx rfl (hb hby at_15) ?_
    show Steps p.tables e below (T5.setTop (mkF m 16 #[.val (.int p1), .val (.int p2), .unset, .unset, .unset, .unset, .unset] [(.int (2 : Int32)), (.ref b1), (.ref b1)])) _
    refine XS.bipush X5.here hx rfl (hb hby at_16) ?_
    show Steps p.tables e below (T5.setTop (mkF m 18 #[.val (.int p1), .val (.int p2), .unset, .unset, .unset, .unset, .unset] [(.int (10 : Int32)), (.int (2 : Int32)), (.ref b1), (.ref b1)])) _
    refine st7 _ ?_
    show Steps p.tables e below (T7.setTop (mkF m 19 #[.val (.int p1), .val (.int p2), .unset, .unset, .unset, .unset, .unset] [(.ref b1)])) _
    refine XS.dup X7.here hx rfl (hb hby at_19) rfl rfl ?_
    exact kt
  obtain ⟨cl9, Ar9, q9, S9, M9, H9, G9⟩ := V7
  have hin9 : ¬ ((3 : Int32) < 0 ∨ cl9.slots.size ≤ ((3 : Int32)).toNatClampNeg) := inb_of S9 ⟨by decide, by decide⟩
  obtain ⟨T10, h10, X10, e10, W10, st10⟩ := stC X7 hx hZ e7 Ar9 (j := (3 : Int32)) hin9 (g := (mkF m 23 #[.val (.int p1), .val (.int p2), .unset, .unset, .unset, .unset, .unset] [(.int (13 : Int32)), (.int (3 : Int32)), (.ref b1), (.ref b1)])) rfl rfl (hb hby at_23)
  have Z10 : n0 ≤ h10.size := Nat.le_trans Z7 (Nat.le_of_eq W10.size.symm)
  have N10 := Fr.snoc X10 N7 g_b1
  have V10 : Arv Z h10 b1 k1 .char (16 : Int32) [(.int (nar .char (32 : Int32))), (.int (nar .char (9 : Int32))), (.int (nar .char (10 : Int32))), (.int (nar .char (13 : Int32))), (.int (0 : Int32)), (.int (0 : Int32)), (.int (0 : Int32)), (.int (0 : Int32)), (.int (0 : Int32)), (.int (0 : Int32)), (.int (0 : Int32)), (.int (0 : Int32)), (.int (0 : Int32)), (.int (0 : Int32)), (.int (0 : Int32)), (.int (0 : Int32))] (.int (0 : Int32)) := Arv.set Ar9 q9 S9 M9 H9 G9 (fits_nar_char _) W10 3 rfl (Nat.le_of_ble_eq_true rfl)
  obtain ⟨cl11, Ar11, q11, S11, M11, H11, G11⟩ := V10
  have hin11 : ¬ ((4 : Int32) < 0 ∨ cl11.slots.size ≤ ((4 : Int32)).toNatClampNeg) := inb_of S11 ⟨by decide, by decide⟩
  obtain ⟨T12, h12, X12, e12, W12, st12⟩ := stC X10 hx hZ e10 Ar11 (j := (4 : Int32)) hin11 (g := (mkF m 28 #[.val (.int p1), .val (.int p2), .unset, .unset, .unset, .unset, .unset] [(.int (11 : Int32)), (.int (4 : Int32)), (.ref b1), (.ref b1)])) rfl rfl (hb hby at_28)
  have Z12 : n0 ≤ h12.size := Nat.le_trans Z10 (Nat.le_of_eq W12.size.symm)
  have N12 := Fr.snoc X12 N10 g_b1
  have V12 : Arv Z h12 b1 k1 .char (16 : Int32) [(.int (nar .char (32 : Int32))), (.int (nar .char (9 : Int32))), (.int (nar .char (10 : Int32))), (.int (nar .char (13 : Int32))), (.int (nar .char (11 : Int32))), (.int (0 : Int32)), (.int (0 : Int32)), (.int (0 : Int32)), (.int (0 : Int32)), (.int (0 : Int32)), (.int (0 : Int32)), (.int (0 : Int32)), (.int (0 : Int32)), (.int (0 : Int32)), (.int (0 : Int32)), (.int (0 : Int32))] (.int (0 : Int32)) := Arv.set Ar11 q11 S11 M11 H11 G11 (fits_nar_char _) W12 4 rfl (Nat.le_of_ble_eq_true rfl)
  obtain ⟨cl13, Ar13, q13, S13, M13, H13, G13⟩ := V12
  have hin13 : ¬ ((5 : Int32) < 0 ∨ cl13.slots.size ≤ ((5 : Int32)).toNatClampNeg) := inb_of S13 ⟨by decide, by decide⟩
  obtain ⟨T14, h14, X14, e14, W14, st14⟩ := stC X12 hx hZ e12 Ar13 (j := (5 : Int32)) hin13 (g := (mkF m 33 #[.val (.int p1), .val (.int p2), .unset, .unset, .unset, .unset, .unset] [(.int (12 : Int32)), (.int (5 : Int32)), (.ref b1), (.ref b1)])) rfl rfl (hb hby at_33)
  have Z14 : n0 ≤ h14.size := Nat.le_trans Z12 (Nat.le_of_eq W14.size.symm)
  have N14 := Fr.snoc X14 N12 g_b1
  have V14 : Arv Z h14 b1 k1 .char (16 : Int32) [(.int (nar .char (32 : Int32))), (.int (nar .char (9 : Int32))), (.int (nar .char (10 : Int32))), (.int (nar .char (13 : Int32))), (.int (nar .char (11 : Int32))), (.int (nar .char (12 : Int32))), (.int (0 : Int32)), (.int (0 : Int32)), (.int (0 : Int32)), (.int (0 : Int32)), (.int (0 : Int32)), (.int (0 : Int32)), (.int (0 : Int32)), (.int (0 : Int32)), (.int (0 : Int32)), (.int (0 : Int32))] (.int (0 : Int32)) := Arv.set Ar13 q13 S13 M13 H13 G13 (fits_nar_char _) W14 5 rfl (Nat.le_of_ble_eq_true rfl)
  obtain ⟨cl15, Ar15, q15, S15, M15, H15, G15⟩ := V14
  have hin15 : ¬ ((6 : Int32) < 0 ∨ cl15.slots.size ≤ ((6 : Int32)).toNatClampNeg) := inb_of S15 ⟨by decide, by decide⟩
  obtain ⟨T16, h16, X16, e16, W16, st16⟩ := stC X14 hx hZ e14 Ar15 (j := (6 : Int32)) hin15 (g := (mkF m 39 #[.val (.int p1), .val (.int p2), .unset, .unset, .unset, .unset, .unset] [(.int (8 : Int32)), (.int (6 : Int32)), (.ref b1), (.ref b1)])) rfl rfl (hb hby at_39)
  have Z16 : n0 ≤ h16.size := Nat.le_trans Z14 (Nat.le_of_eq W16.size.symm)
  have N16 := Fr.snoc X16 N14 g_b1
  have V16 : Arv Z h16 b1 k1 .char (16 : Int32) [(.int (nar .char (32 : Int32))), (.int (nar .char (9 : Int32))), (.int (nar .char (10 : Int32))), (.int (nar .char (13 : Int32))), (.int (nar .char (11 : Int32))), (.int (nar .char (12 : Int32))), (.int (nar .char (8 : Int32))), (.int (0 : Int32)), (.int (0 : Int32)), (.int (0 : Int32)), (.int (0 : Int32)), (.int (0 : Int32)), (.int (0 : Int32)), (.int (0 : Int32)), (.int (0 : Int32)), (.int (0 : Int32))] (.int (0 : Int32)) := Arv.set Ar15 q15 S15 M15 H15 G15 (fits_nar_char _) W16 6 rfl (Nat.le_of_ble_eq_true rfl)
  have go17 : own_go p e below (s₁.setTop (entryFrame m #[(.int p1), (.int p2)] maxLocals)) (T16.setTop (mkF m 40 #[.val (.int p1), .val (.int p2), .unset, .unset, .unset, .unset, .unset] [(.ref b1)])) := by
    intro t kt
    refine go8 t ?_
    show Steps p.tables e below (T7.setTop (mkF m 20 #[.val (.int p1), .val (.int p2), .unset, .unset, .unset, .unset, .unset] [(.ref b1), (.ref b1)])) _
    refine XS.iconst X7.here hx rfl (hb hby at_20) ?_
    show Steps p.tables e below (T7.setTop (mkF m 21 #[.val (.int p1), .val (.int p2), .unset, .unset, .unset, .unset, .unset] [(.int (3 : Int32)), (.ref b1), (.ref b1)])) _
    refine XS.bipush X7.here hx rfl (hb hby at_21) ?_
    show Steps p.tables e below (T7.setTop (mkF m 23 #[.val (.int p1), .val (.int p2), .unset, .unset, .unset, .unset, .unset] [(.int (13 : Int32)), (.int (3 : Int32)), (.ref b1), (.ref b1)])) _
    refine st10 _ ?_
    show Steps p.tables e below (T10.setTop (mkF m 24 #[.val (.int p1), .val (.int p2), .unset, .unset, .unset, .unset, .unset] [(.ref b1)])) _
    refine XS.dup X10.here hx rfl (hb hby at_24) rfl rfl ?_
    show Steps p.tables e below (T10.setTop (mkF m 25 #[.val (.int p1), .val (.int p2), .unset, .unset, .unset, .unset, .unset] [(.ref b1), (.ref b1)])) _
    refine XS.iconst X10.here hx rfl (hb hby at_25) ?_
    show Steps p.tables e below (T10.setTop (mkF m 26 #[.val (.int p1), .val (.int p2), .unset, .unset, .unset, .unset, .unset] [(.int (4 : Int32)), (.ref b1), (.ref b1)])) _
    refine XS.bipush X10.here hx rfl (hb hby at_26) ?_
    show Steps p.tables e below (T10.setTop (mkF m 28 #[.val (.int p1), .val (.int p2), .unset, .unset, .unset, .unset, .unset] [(.int (11 : Int32)), (.int (4 : Int32)), (.ref b1), (.ref b1)])) _
    refine st12 _ ?_
    show Steps p.tables e below (T12.setTop (mkF m 29 #[.val (.int p1), .val (.int p2), .unset, .unset, .unset, .unset, .unset] [(.ref b1)])) _
    refine XS.dup X12.here hx rfl (hb hby at_29) rfl rfl ?_
    show Steps p.tables e below (T12.setTop (mkF m 30 #[.val (.int p1), .val (.int p2), .unset, .unset, .unset, .unset, .unset] [(.ref b1), (.ref b1)])) _
    refine XS.iconst X12.here hx rfl (hb hby at_30) ?_
    show Steps p.tables e below (T12.setTop (mkF m 31 #[.val (.int p1), .val (.int p2), .unset, .unset, .unset, .unset, .unset] [(.int (5 : Int32)), (.ref b1), (.ref b1)])) _
    refine XS.bipush X12.here hx rfl (hb hby at_31) ?_
    show Steps p.tables e below (T12.setTop (mkF m 33 #[.val (.int p1), .val (.int p2), .unset, .unset, .unset, .unset, .unset] [(.int (12 : Int32)), (.int (5 : Int32)), (.ref b1), (.ref b1)])) _
    refine st14 _ ?_
    show Steps p.tables e below (T14.setTop (mkF m 34 #[.val (.int p1), .val (.int p2), .unset, .unset, .unset, .unset, .unset] [(.ref b1)])) _
    refine XS.dup X14.here hx rfl (hb hby at_34) rfl rfl ?_
    show Steps p.tables e below (T14.setTop (mkF m 35 #[.val (.int p1), .val (.int p2), .unset, .unset, .unset, .unset, .unset] [(.ref b1), (.ref b1)])) _
    refine XS.bipush X14.here hx rfl (hb hby at_35) ?_
    show Steps p.tables e below (T14.setTop (mkF m 37 #[.val (.int p1), .val (.int p2), .unset, .unset, .unset, .unset, .unset] [(.int (6 : Int32)), (.ref b1), (.ref b1)])) _
    refine XS.bipush X14.here hx rfl (hb hby at_37) ?_
    show Steps p.tables e below (T14.setTop (mkF m 39 #[.val (.int p1), .val (.int p2), .unset, .unset, .unset, .unset, .unset] [(.int (8 : Int32)), (.int (6 : Int32)), (.ref b1), (.ref b1)])) _
    refine st16 _ ?_
    exact kt
  obtain ⟨cl18, Ar18, q18, S18, M18, H18, G18⟩ := V16
  have hin18 : ¬ ((7 : Int32) < 0 ∨ cl18.slots.size ≤ ((7 : Int32)).toNatClampNeg) := inb_of S18 ⟨by decide, by decide⟩
  obtain ⟨T19, h19, X19, e19, W19, st19⟩ := stC X16 hx hZ e16 Ar18 (j := (7 : Int32)) hin18 (g := (mkF m 45 #[.val (.int p1), .val (.int p2), .unset, .unset, .unset, .unset, .unset] [(.int (14 : Int32)), (.int (7 : Int32)), (.ref b1), (.ref b1)])) rfl rfl (hb hby at_45)
  have Z19 : n0 ≤ h19.size := Nat.le_trans Z16 (Nat.le_of_eq W19.size.symm)
  have N19 := Fr.snoc X19 N16 g_b1
  have V19 : Arv Z h19 b1 k1 .char (16 : Int32) [(.int (nar .char (32 : Int32))), (.int (nar .char (9 : Int32))), (.int (nar .char (10 : Int32))), (.int (nar .char (13 : Int32))), (.int (nar .char (11 : Int32))), (.int (nar .char (12 : Int32))), (.int (nar .char (8 : Int32))), (.int (nar .char (14 : Int32))), (.int (0 : Int32)), (.int (0 : Int32)), (.int (0 : Int32)), (.int (0 : Int32)), (.int (0 : Int32)), (.int (0 : Int32)), (.int (0 : Int32)), (.int (0 : Int32))] (.int (0 : Int32)) := Arv.set Ar18 q18 S18 M18 H18 G18 (fits_nar_char _) W19 7 rfl (Nat.le_of_ble_eq_true rfl)
  obtain ⟨cl20, Ar20, q20, S20, M20, H20, G20⟩ := V19
  have hin20 : ¬ ((8 : Int32) < 0 ∨ cl20.slots.size ≤ ((8 : Int32)).toNatClampNeg) := inb_of S20 ⟨by decide, by decide⟩
  obtain ⟨T21, h21, X21, e21, W21, st21⟩ := stC X19 hx hZ e19 Ar20 (j := (8 : Int32)) hin20 (g := (mkF m 51 #[.val (.int p1), .val (.int p2), .unset, .unset, .unset, .unset, .unset] [(.int (31 : Int32)), (.int (8 : Int32)), (.ref b1), (.ref b1)])) rfl rfl (hb hby at_51)
  have Z21 : n0 ≤ h21.size := Nat.le_trans Z19 (Nat.le_of_eq W21.size.symm)
  have N21 := Fr.snoc X21 N19 g_b1
  have V21 : Arv Z h21 b1 k1 .char (16 : Int32) [(.int (nar .char (32 : Int32))), (.int (nar .char (9 : Int32))), (.int (nar .char (10 : Int32))), (.int (nar .char (13 : Int32))), (.int (nar .char (11 : Int32))), (.int (nar .char (12 : Int32))), (.int (nar .char (8 : Int32))), (.int (nar .char (14 : Int32))), (.int (nar .char (31 : Int32))), (.int (0 : Int32)), (.int (0 : Int32)), (.int (0 : Int32)), (.int (0 : Int32)), (.int (0 : Int32)), (.int (0 : Int32)), (.int (0 : Int32))] (.int (0 : Int32)) := Arv.set Ar20 q20 S20 M20 H20 G20 (fits_nar_char _) W21 8 rfl (Nat.le_of_ble_eq_true rfl)
  obtain ⟨cl22, Ar22, q22, S22, M22, H22, G22⟩ := V21
  have hin22 : ¬ ((9 : Int32) < 0 ∨ cl22.slots.size ≤ ((9 : Int32)).toNatClampNeg) := inb_of S22 ⟨by decide, by decide⟩
  obtain ⟨T23, h23, X23, e23, W23, st23⟩ := stC X21 hx hZ e21 Ar22 (j := (9 : Int32)) hin22 (g := (mkF m 57 #[.val (.int p1), .val (.int p2), .unset, .unset, .unset, .unset, .unset] [(.int (33 : Int32)), (.int (9 : Int32)), (.ref b1), (.ref b1)])) rfl rfl (hb hby at_57)
  have Z23 : n0 ≤ h23.size := Nat.le_trans Z21 (Nat.le_of_eq W23.size.symm)
  have N23 := Fr.snoc X23 N21 g_b1
  have V23 : Arv Z h23 b1 k1 .char (16 : Int32) [(.int (nar .char (32 : Int32))), (.int (nar .char (9 : Int32))), (.int (nar .char (10 : Int32))), (.int (nar .char (13 : Int32))), (.int (nar .char (11 : Int32))), (.int (nar .char (12 : Int32))), (.int (nar .char (8 : Int32))), (.int (nar .char (14 : Int32))), (.int (nar .char (31 : Int32))), (.int (nar .char (33 : Int32))), (.int (0 : Int32)), (.int (0 : Int32)), (.int (0 : Int32)), (.int (0 : Int32)), (.int (0 : Int32)), (.int (0 : Int32))] (.int (0 : Int32)) := Arv.set Ar22 q22 S22 M22 H22 G22 (fits_nar_char _) W23 9 rfl (Nat.le_of_ble_eq_true rfl)
  have go24 : own_go p e below (s₁.setTop (entryFrame m #[(.int p1), (.int p2)] maxLocals)) (T23.setTop (mkF m 64 #[.val (.int p1), .val (.int p2), .unset, .unset, .unset, .unset, .unset] [(.int (160 : Int32)), (.int (10 : Int32)), (.ref b1), (.ref b1)])) := by
    intro t kt
    refine go17 t ?_
    show Steps p.tables e below (T16.setTop (mkF m 40 #[.val (.int p1), .val (.int p2), .unset, .unset, .unset, .unset, .unset] [(.ref b1)])) _
    refine XS.dup X16.here hx rfl (hb hby at_40) rfl rfl ?_
    show Steps p.tables e below (T16.setTop (mkF m 41 #[.val (.int p1), .val (.int p2), .unset, .unset, .unset, .unset, .unset] [(.ref b1), (.ref b1)])) _
    refine XS.bipush X16.here hx rfl (hb hby at_41) ?_
    show Steps p.tables e below (T16.setTop (mkF m 43 #[.val (.int p1), .val (.int p2), .unset, .unset, .unset, .unset, .unset] [(.int (7 : Int32)), (.ref b1), (.ref b1)])) _
    refine XS.bipush X16.here hx rfl (hb hby at_43) ?_
    show Steps p.tables e below (T16.setTop (mkF m 45 #[.val (.int p1), .val (.int p2), .unset, .unset, .unset, .unset, .unset] [(.int (14 : Int32)), (.int (7 : Int32)), (.ref b1), (.ref b1)])) _
    refine st19 _ ?_
    show Steps p.tables e below (T19.setTop (mkF m 46 #[.val (.int p1), .val (.int p2), .unset, .unset, .unset, .unset, .unset] [(.ref b1)])) _
    refine XS.dup X19.here hx rfl (hb hby at_46) rfl rfl ?_
    show Steps p.tables e below (T19.setTop (mkF m 47 #[.val (.int p1), .val (.int p2), .unset, .unset, .unset, .unset, .unset] [(.ref b1), (.ref b1)])) _
    refine XS.bipush X19.here hx rfl (hb hby at_47) ?_
    show Steps p.tables e below (T19.setTop (mkF m 49 #[.val (.int p1), .val (.int p2), .unset, .unset, .unset, .unset, .unset] [(.int (8 : Int32)), (.ref b1), (.ref b1)])) _
    refine XS.bipush X19.here hx rfl (hb hby at_49) ?_
    show Steps p.tables e below (T19.setTop (mkF m 51 #[.val (.int p1), .val (.int p2), .unset, .unset, .unset, .unset, .unset] [(.int (31 : Int32)), (.int (8 : Int32)), (.ref b1), (.ref b1)])) _
    refine st21 _ ?_
    show Steps p.tables e below (T21.setTop (mkF m 52 #[.val (.int p1), .val (.int p2), .unset, .unset, .unset, .unset, .unset] [(.ref b1)])) _
    refine XS.dup X21.here hx rfl (hb hby at_52) rfl rfl ?_
    show Steps p.tables e below (T21.setTop (mkF m 53 #[.val (.int p1), .val (.int p2), .unset, .unset, .unset, .unset, .unset] [(.ref b1), (.ref b1)])) _
    refine XS.bipush X21.here hx rfl (hb hby at_53) ?_
    show Steps p.tables e below (T21.setTop (mkF m 55 #[.val (.int p1), .val (.int p2), .unset, .unset, .unset, .unset, .unset] [(.int (9 : Int32)), (.ref b1), (.ref b1)])) _
    refine XS.bipush X21.here hx rfl (hb hby at_55) ?_
    show Steps p.tables e below (T21.setTop (mkF m 57 #[.val (.int p1), .val (.int p2), .unset, .unset, .unset, .unset, .unset] [(.int (33 : Int32)), (.int (9 : Int32)), (.ref b1), (.ref b1)])) _
    refine st23 _ ?_
    show Steps p.tables e below (T23.setTop (mkF m 58 #[.val (.int p1), .val (.int p2), .unset, .unset, .unset, .unset, .unset] [(.ref b1)])) _
    refine XS.dup X23.here hx rfl (hb hby at_58) rfl rfl ?_
    show Steps p.tables e below (T23.setTop (mkF m 59 #[.val (.int p1), .val (.int p2), .unset, .unset, .unset, .unset, .unset] [(.ref b1), (.ref b1)])) _
    refine XS.bipush X23.here hx rfl (hb hby at_59) ?_
    show Steps p.tables e below (T23.setTop (mkF m 61 #[.val (.int p1), .val (.int p2), .unset, .unset, .unset, .unset, .unset] [(.int (10 : Int32)), (.ref b1), (.ref b1)])) _
    refine XS.sipush X23.here hx rfl (hb hby at_61) ?_
    exact kt
  obtain ⟨cl25, Ar25, q25, S25, M25, H25, G25⟩ := V23
  have hin25 : ¬ ((10 : Int32) < 0 ∨ cl25.slots.size ≤ ((10 : Int32)).toNatClampNeg) := inb_of S25 ⟨by decide, by decide⟩
  obtain ⟨T26, h26, X26, e26, W26, st26⟩ := stC X23 hx hZ e23 Ar25 (j := (10 : Int32)) hin25 (g := (mkF m 64 #[.val (.int p1), .val (.int p2), .unset, .unset, .unset, .unset, .unset] [(.int (160 : Int32)), (.int (10 : Int32)), (.ref b1), (.ref b1)])) rfl rfl (hb hby at_64)
  have Z26 : n0 ≤ h26.size := Nat.le_trans Z23 (Nat.le_of_eq W26.size.symm)
  have N26 := Fr.snoc X26 N23 g_b1
  have V26 : Arv Z h26 b1 k1 .char (16 : Int32) [(.int (nar .char (32 : Int32))), (.int (nar .char (9 : Int32))), (.int (nar .char (10 : Int32))), (.int (nar .char (13 : Int32))), (.int (nar .char (11 : Int32))), (.int (nar .char (12 : Int32))), (.int (nar .char (8 : Int32))), (.int (nar .char (14 : Int32))), (.int (nar .char (31 : Int32))), (.int (nar .char (33 : Int32))), (.int (nar .char (160 : Int32))), (.int (0 : Int32)), (.int (0 : Int32)), (.int (0 : Int32)), (.int (0 : Int32)), (.int (0 : Int32))] (.int (0 : Int32)) := Arv.set Ar25 q25 S25 M25 H25 G25 (fits_nar_char _) W26 10 rfl (Nat.le_of_ble_eq_true rfl)
  obtain ⟨cl27, Ar27, q27, S27, M27, H27, G27⟩ := V26
  have hin27 : ¬ ((11 : Int32) < 0 ∨ cl27.slots.size ≤ ((11 : Int32)).toNatClampNeg) := inb_of S27 ⟨by decide, by decide⟩
  obtain ⟨T28, h28, X28, e28, W28, st28⟩ := stC X26 hx hZ e26 Ar27 (j := (11 : Int32)) hin27 (g := (mkF m 71 #[.val (.int p1), .val (.int p2), .unset, .unset, .unset, .unset, .unset] [(.int (8232 : Int32)), (.int (11 : Int32)), (.ref b1), (.ref b1)])) rfl rfl (hb hby at_71)
  have Z28 : n0 ≤ h28.size := Nat.le_trans Z26 (Nat.le_of_eq W28.size.symm)
  have N28 := Fr.snoc X28 N26 g_b1
  have V28 : Arv Z h28 b1 k1 .char (16 : Int32) [(.int (nar .char (32 : Int32))), (.int (nar .char (9 : Int32))), (.int (nar .char (10 : Int32))), (.int (nar .char (13 : Int32))), (.int (nar .char (11 : Int32))), (.int (nar .char (12 : Int32))), (.int (nar .char (8 : Int32))), (.int (nar .char (14 : Int32))), (.int (nar .char (31 : Int32))), (.int (nar .char (33 : Int32))), (.int (nar .char (160 : Int32))), (.int (nar .char (8232 : Int32))), (.int (0 : Int32)), (.int (0 : Int32)), (.int (0 : Int32)), (.int (0 : Int32))] (.int (0 : Int32)) := Arv.set Ar27 q27 S27 M27 H27 G27 (fits_nar_char _) W28 11 rfl (Nat.le_of_ble_eq_true rfl)
  obtain ⟨cl29, Ar29, q29, S29, M29, H29, G29⟩ := V28
  have hin29 : ¬ ((12 : Int32) < 0 ∨ cl29.slots.size ≤ ((12 : Int32)).toNatClampNeg) := inb_of S29 ⟨by decide, by decide⟩
  obtain ⟨T30, h30, X30, e30, W30, st30⟩ := stC X28 hx hZ e28 Ar29 (j := (12 : Int32)) hin29 (g := (mkF m 78 #[.val (.int p1), .val (.int p2), .unset, .unset, .unset, .unset, .unset] [(.int (12288 : Int32)), (.int (12 : Int32)), (.ref b1), (.ref b1)])) rfl rfl (hb hby at_78)
  have Z30 : n0 ≤ h30.size := Nat.le_trans Z28 (Nat.le_of_eq W30.size.symm)
  have N30 := Fr.snoc X30 N28 g_b1
  have V30 : Arv Z h30 b1 k1 .char (16 : Int32) [(.int (nar .char (32 : Int32))), (.int (nar .char (9 : Int32))), (.int (nar .char (10 : Int32))), (.int (nar .char (13 : Int32))), (.int (nar .char (11 : Int32))), (.int (nar .char (12 : Int32))), (.int (nar .char (8 : Int32))), (.int (nar .char (14 : Int32))), (.int (nar .char (31 : Int32))), (.int (nar .char (33 : Int32))), (.int (nar .char (160 : Int32))), (.int (nar .char (8232 : Int32))), (.int (nar .char (12288 : Int32))), (.int (0 : Int32)), (.int (0 : Int32)), (.int (0 : Int32))] (.int (0 : Int32)) := Arv.set Ar29 q29 S29 M29 H29 G29 (fits_nar_char _) W30 12 rfl (Nat.le_of_ble_eq_true rfl)
  obtain ⟨cl31, Ar31, q31, S31, M31, H31, G31⟩ := V30
  have hin31 : ¬ ((13 : Int32) < 0 ∨ cl31.slots.size ≤ ((13 : Int32)).toNatClampNeg) := inb_of S31 ⟨by decide, by decide⟩
  obtain ⟨T32, h32, X32, e32, W32, st32⟩ := stC X30 hx hZ e30 Ar31 (j := (13 : Int32)) hin31 (g := (mkF m 85 #[.val (.int p1), .val (.int p2), .unset, .unset, .unset, .unset, .unset] [(.int (133 : Int32)), (.int (13 : Int32)), (.ref b1), (.ref b1)])) rfl rfl (hb hby at_85)
  have Z32 : n0 ≤ h32.size := Nat.le_trans Z30 (Nat.le_of_eq W32.size.symm)
  have N32 := Fr.snoc X32 N30 g_b1
  have V32 : Arv Z h32 b1 k1 .char (16 : Int32) [(.int (nar .char (32 : Int32))), (.int (nar .char (9 : Int32))), (.int (nar .char (10 : Int32))), (.int (nar .char (13 : Int32))), (.int (nar .char (11 : Int32))), (.int (nar .char (12 : Int32))), (.int (nar .char (8 : Int32))), (.int (nar .char (14 : Int32))), (.int (nar .char (31 : Int32))), (.int (nar .char (33 : Int32))), (.int (nar .char (160 : Int32))), (.int (nar .char (8232 : Int32))), (.int (nar .char (12288 : Int32))), (.int (nar .char (133 : Int32))), (.int (0 : Int32)), (.int (0 : Int32))] (.int (0 : Int32)) := Arv.set Ar31 q31 S31 M31 H31 G31 (fits_nar_char _) W32 13 rfl (Nat.le_of_ble_eq_true rfl)
  have go33 : own_go p e below (s₁.setTop (entryFrame m #[(.int p1), (.int p2)] maxLocals)) (T32.setTop (mkF m 89 #[.val (.int p1), .val (.int p2), .unset, .unset, .unset, .unset, .unset] [(.int (14 : Int32)), (.ref b1), (.ref b1)])) := by
    intro t kt
    refine go24 t ?_
    show Steps p.tables e below (T23.setTop (mkF m 64 #[.val (.int p1), .val (.int p2), .unset, .unset, .unset, .unset, .unset] [(.int (160 : Int32)), (.int (10 : Int32)), (.ref b1), (.ref b1)])) _
    refine st26 _ ?_
    show Steps p.tables e below (T26.setTop (mkF m 65 #[.val (.int p1), .val (.int p2), .unset, .unset, .unset, .unset, .unset] [(.ref b1)])) _
    refine XS.dup X26.here hx rfl (hb hby at_65) rfl rfl ?_
    show Steps p.tables e below (T26.setTop (mkF m 66 #[.val (.int p1), .val (.int p2), .unset, .unset, .unset, .unset, .unset] [(.ref b1), (.ref b1)])) _
    refine XS.bipush X26.here hx rfl (hb hby at_66) ?_
    show Steps p.tables e below (T26.setTop (mkF m 68 #[.val (.int p1), .val (.int p2), .unset, .unset, .unset, .unset, .unset] [(.int (11 : Int32)), (.ref b1), (.ref b1)])) _
    refine XS.sipush X26.here hx rfl (hb hby at_68) ?_
    show Steps p.tables e below (T26.setTop (mkF m 71 #[.val (.int p1), .val (.int p2), .unset, .unset, .unset, .unset, .unset] [(.int (8232 : Int32)), (.int (11 : Int32)), (.ref b1), (.ref b1)])) _
    refine st28 _ ?_
    show Steps p.tables e below (T28.setTop (mkF m 72 #[.val (.int p1), .val (.int p2), .unset, .unset, .unset, .unset, .unset] [(.ref b1)])) _
    refine XS.dup X28.here hx rfl (hb hby at_72) rfl rfl ?_
    show Steps p.tables e below (T28.setTop (mkF m 73 #[.val (.int p1), .val (.int p2), .unset, .unset, .unset, .unset, .unset] [(.ref b1), (.ref b1)])) _
    refine XS.bipush X28.here hx rfl (hb hby at_73) ?_
    show Steps p.tables e below (T28.setTop (mkF m 75 #[.val (.int p1), .val (.int p2), .unset, .unset, .unset, .unset, .unset] [(.int (12 : Int32)), (.ref b1), (.ref b1)])) _
    refine XS.sipush X28.here hx rfl (hb hby at_75) ?_
    show Steps p.tables e below (T28.setTop (mkF m 78 #[.val (.int p1), .val (.int p2), .unset, .unset, .unset, .unset, .unset] [(.int (12288 : Int32)), (.int (12 : Int32)), (.ref b1), (.ref b1)])) _
    refine st30 _ ?_
    show Steps p.tables e below (T30.setTop (mkF m 79 #[.val (.int p1), .val (.int p2), .unset, .unset, .unset, .unset, .unset] [(.ref b1)])) _
    refine XS.dup X30.here hx rfl (hb hby at_79) rfl rfl ?_
    show Steps p.tables e below (T30.setTop (mkF m 80 #[.val (.int p1), .val (.int p2), .unset, .unset, .unset, .unset, .unset] [(.ref b1), (.ref b1)])) _
    refine XS.bipush X30.here hx rfl (hb hby at_80) ?_
    show Steps p.tables e below (T30.setTop (mkF m 82 #[.val (.int p1), .val (.int p2), .unset, .unset, .unset, .unset, .unset] [(.int (13 : Int32)), (.ref b1), (.ref b1)])) _
    refine XS.sipush X30.here hx rfl (hb hby at_82) ?_
    show Steps p.tables e below (T30.setTop (mkF m 85 #[.val (.int p1), .val (.int p2), .unset, .unset, .unset, .unset, .unset] [(.int (133 : Int32)), (.int (13 : Int32)), (.ref b1), (.ref b1)])) _
    refine st32 _ ?_
    show Steps p.tables e below (T32.setTop (mkF m 86 #[.val (.int p1), .val (.int p2), .unset, .unset, .unset, .unset, .unset] [(.ref b1)])) _
    refine XS.dup X32.here hx rfl (hb hby at_86) rfl rfl ?_
    show Steps p.tables e below (T32.setTop (mkF m 87 #[.val (.int p1), .val (.int p2), .unset, .unset, .unset, .unset, .unset] [(.ref b1), (.ref b1)])) _
    refine XS.bipush X32.here hx rfl (hb hby at_87) ?_
    exact kt
  obtain ⟨cl34, Ar34, q34, S34, M34, H34, G34⟩ := V32
  have hin34 : ¬ ((14 : Int32) < 0 ∨ cl34.slots.size ≤ ((14 : Int32)).toNatClampNeg) := inb_of S34 ⟨by decide, by decide⟩
  obtain ⟨T35, h35, X35, e35, W35, st35⟩ := stC X32 hx hZ e32 Ar34 (j := (14 : Int32)) hin34 (g := (mkF m 90 #[.val (.int p1), .val (.int p2), .unset, .unset, .unset, .unset, .unset] [(.int (0 : Int32)), (.int (14 : Int32)), (.ref b1), (.ref b1)])) rfl rfl (hb hby at_90)
  have Z35 : n0 ≤ h35.size := Nat.le_trans Z32 (Nat.le_of_eq W35.size.symm)
  have N35 := Fr.snoc X35 N32 g_b1
  have V35 : Arv Z h35 b1 k1 .char (16 : Int32) [(.int (nar .char (32 : Int32))), (.int (nar .char (9 : Int32))), (.int (nar .char (10 : Int32))), (.int (nar .char (13 : Int32))), (.int (nar .char (11 : Int32))), (.int (nar .char (12 : Int32))), (.int (nar .char (8 : Int32))), (.int (nar .char (14 : Int32))), (.int (nar .char (31 : Int32))), (.int (nar .char (33 : Int32))), (.int (nar .char (160 : Int32))), (.int (nar .char (8232 : Int32))), (.int (nar .char (12288 : Int32))), (.int (nar .char (133 : Int32))), (.int (nar .char (0 : Int32))), (.int (0 : Int32))] (.int (0 : Int32)) := Arv.set Ar34 q34 S34 M34 H34 G34 (fits_nar_char _) W35 14 rfl (Nat.le_of_ble_eq_true rfl)
  obtain ⟨cl36, Ar36, q36, S36, M36, H36, G36⟩ := V35
  have hin36 : ¬ ((15 : Int32) < 0 ∨ cl36.slots.size ≤ ((15 : Int32)).toNatClampNeg) := inb_of S36 ⟨by decide, by decide⟩
  obtain ⟨T37, h37, X37, e37, W37, st37⟩ := stC X35 hx hZ e35 Ar36 (j := (15 : Int32)) hin36 (g := (mkF m 96 #[.val (.int p1), .val (.int p2), .unset, .unset, .unset, .unset, .unset] [(.int (65535 : Int32)), (.int (15 : Int32)), (.ref b1), (.ref b1)])) rfl rfl (hb hby at_96)
  have Z37 : n0 ≤ h37.size := Nat.le_trans Z35 (Nat.le_of_eq W37.size.symm)
  have N37 := Fr.snoc X37 N35 g_b1
  have V37 : Arv Z h37 b1 k1 .char (16 : Int32) [(.int (nar .char (32 : Int32))), (.int (nar .char (9 : Int32))), (.int (nar .char (10 : Int32))), (.int (nar .char (13 : Int32))), (.int (nar .char (11 : Int32))), (.int (nar .char (12 : Int32))), (.int (nar .char (8 : Int32))), (.int (nar .char (14 : Int32))), (.int (nar .char (31 : Int32))), (.int (nar .char (33 : Int32))), (.int (nar .char (160 : Int32))), (.int (nar .char (8232 : Int32))), (.int (nar .char (12288 : Int32))), (.int (nar .char (133 : Int32))), (.int (nar .char (0 : Int32))), (.int (nar .char (65535 : Int32)))] (.int (0 : Int32)) := Arv.set Ar36 q36 S36 M36 H36 G36 (fits_nar_char _) W37 15 rfl (Nat.le_of_ble_eq_true rfl)
  obtain ⟨v38, hv_v38⟩ : ∃ z : Int32, z = (p2 &&& (31 : Int32)) := ⟨_, rfl⟩
  have go39 : own_go p e below (s₁.setTop (entryFrame m #[(.int p1), (.int p2)] maxLocals)) (T37.setTop (mkF m 106 #[.val (.int p1), .val (.int p2), .val (.ref b1), .val (.int v38), .unset, .unset, .unset] [(.int (16 : Int32)), (.int v38)])) := by
    intro t kt
    refine go33 t ?_
    show Steps p.tables e below (T32.setTop (mkF m 89 #[.val (.int p1), .val (.int p2), .unset, .unset, .unset, .unset, .unset] [(.int (14 : Int32)), (.ref b1), (.ref b1)])) _
    refine XS.iconst X32.here hx rfl (hb hby at_89) ?_
    show Steps p.tables e below (T32.setTop (mkF m 90 #[.val (.int p1), .val (.int p2), .unset, .unset, .unset, .unset, .unset] [(.int (0 : Int32)), (.int (14 : Int32)), (.ref b1), (.ref b1)])) _
    refine st35 _ ?_
    show Steps p.tables e below (T35.setTop (mkF m 91 #[.val (.int p1), .val (.int p2), .unset, .unset, .unset, .unset, .unset] [(.ref b1)])) _
    refine XS.dup X35.here hx rfl (hb hby at_91) rfl rfl ?_
    show Steps p.tables e below (T35.setTop (mkF m 92 #[.val (.int p1), .val (.int p2), .unset, .unset, .unset, .unset, .unset] [(.ref b1), (.ref b1)])) _
    refine XS.bipush X35.here hx rfl (hb hby at_92) ?_
    show Steps p.tables e below (T35.setTop (mkF m 94 #[.val (.int p1), .val (.int p2), .unset, .unset, .unset, .unset, .unset] [(.int (15 : Int32)), (.ref b1), (.ref b1)])) _
    refine X35.ldcInt hx hown (mvT hZ (hw _ (List.mem_of_getElem? (i := 1) rfl))) (g := (mkF m 94 #[.val (.int p1), .val (.int p2), .unset, .unset, .unset, .unset, .unset] [(.int (15 : Int32)), (.ref b1), (.ref b1)])) rfl (hb hby at_94) _ ?_
    show Steps p.tables e below (T35.setTop (mkF m 96 #[.val (.int p1), .val (.int p2), .unset, .unset, .unset, .unset, .unset] [(.int (65535 : Int32)), (.int (15 : Int32)), (.ref b1), (.ref b1)])) _
    refine st37 _ ?_
    show Steps p.tables e below (T37.setTop (mkF m 97 #[.val (.int p1), .val (.int p2), .unset, .unset, .unset, .unset, .unset] [(.ref b1)])) _
    refine XS.astoreN X37.here hx rfl (hb hby at_97) rfl rfl (l' := #[.val (.int p1), .val (.int p2), .val (.ref b1), .unset, .unset, .unset, .unset]) rfl ?_
    show Steps p.tables e below (T37.setTop (mkF m 98 #[.val (.int p1), .val (.int p2), .val (.ref b1), .unset, .unset, .unset, .unset] [])) _
    refine XS.iloadN X37.here hx rfl (hb hby at_98) rfl ?_
    show Steps p.tables e below (T37.setTop (mkF m 99 #[.val (.int p1), .val (.int p2), .val (.ref b1), .unset, .unset, .unset, .unset] [(.int p2)])) _
    refine XS.bipush X37.here hx rfl (hb hby at_99) ?_
    show Steps p.tables e below (T37.setTop (mkF m 101 #[.val (.int p1), .val (.int p2), .val (.ref b1), .unset, .unset, .unset, .unset] [(.int (31 : Int32)), (.int p2)])) _
    refine XS.iand X37.here hx rfl (hb hby at_101) rfl ?_
    show Steps p.tables e below (T37.setTop (mkF m 102 #[.val (.int p1), .val (.int p2), .val (.ref b1), .unset, .unset, .unset, .unset] [(.int (p2 &&& (31 : Int32)))])) _
    rw [← hv_v38]
    show Steps p.tables e below (T37.setTop (mkF m 102 #[.val (.int p1), .val (.int p2), .val (.ref b1), .unset, .unset, .unset, .unset] [(.int v38)])) _
    refine XS.istoreN X37.here hx rfl (hb hby at_102) rfl (l' := #[.val (.int p1), .val (.int p2), .val (.ref b1), .val (.int v38), .unset, .unset, .unset]) rfl ?_
    show Steps p.tables e below (T37.setTop (mkF m 103 #[.val (.int p1), .val (.int p2), .val (.ref b1), .val (.int v38), .unset, .unset, .unset] [])) _
    refine XS.iloadN X37.here hx rfl (hb hby at_103) rfl ?_
    show Steps p.tables e below (T37.setTop (mkF m 104 #[.val (.int p1), .val (.int p2), .val (.ref b1), .val (.int v38), .unset, .unset, .unset] [(.int v38)])) _
    refine XS.bipush X37.here hx rfl (hb hby at_104) ?_
    exact kt
  obtain ⟨v44, hv_v44, go45⟩ : ∃ (v44 : Int32), v44 = (if v38 < (16 : Int32) then (([(nar .char (32 : Int32)), (nar .char (9 : Int32)), (nar .char (10 : Int32)), (nar .char (13 : Int32)), (nar .char (11 : Int32)), (nar .char (12 : Int32)), (nar .char (8 : Int32)), (nar .char (14 : Int32)), (nar .char (31 : Int32)), (nar .char (33 : Int32)), (nar .char (160 : Int32)), (nar .char (8232 : Int32)), (nar .char (12288 : Int32)), (nar .char (133 : Int32)), (nar .char (0 : Int32)), (nar .char (65535 : Int32))] : List Int32).getD (v38).toNatClampNeg (0 : Int32)) else ((p1 &&& (65535 : Int32)).toUInt32.toUInt16.toUInt32.toInt32)) ∧ own_go p e below (s₁.setTop (entryFrame m #[(.int p1), (.int p2)] maxLocals)) (T37.setTop (mkF m 120 #[.val (.int p1), .val (.int p2), .val (.ref b1), .val (.int v38), .unset, .unset, .unset] [(.int v44)])) := by
    by_cases hc40_106 : v38 < (16 : Int32)
    · obtain ⟨cl41, Ar41, q41, S41, M41, H41, G41⟩ := V37
      have hin41 : ¬ (v38 < 0 ∨ cl41.slots.size ≤ (v38).toNatClampNeg) := inb_of S41 ⟨by simp only [*]; exact own_nn _, hc40_106⟩
      have hat41 : cl41.slots[(v38).toNatClampNeg]? = some (.int (([(nar .char (32 : Int32)), (nar .char (9 : Int32)), (nar .char (10 : Int32)), (nar .char (13 : Int32)), (nar .char (11 : Int32)), (nar .char (12 : Int32)), (nar .char (8 : Int32)), (nar .char (14 : Int32)), (nar .char (31 : Int32)), (nar .char (33 : Int32)), (nar .char (160 : Int32)), (nar .char (8232 : Int32)), (nar .char (12288 : Int32)), (nar .char (133 : Int32)), (nar .char (0 : Int32)), (nar .char (65535 : Int32))] : List Int32).getD (v38).toNatClampNeg (0 : Int32))) := Has.at H41 hin41 (own_getD Value.int [(nar .char (32 : Int32)), (nar .char (9 : Int32)), (nar .char (10 : Int32)), (nar .char (13 : Int32)), (nar .char (11 : Int32)), (nar .char (12 : Int32)), (nar .char (8 : Int32)), (nar .char (14 : Int32)), (nar .char (31 : Int32)), (nar .char (33 : Int32)), (nar .char (160 : Int32)), (nar .char (8232 : Int32)), (nar .char (12288 : Int32)), (nar .char (133 : Int32)), (nar .char (0 : Int32)), (nar .char (65535 : Int32))] (0 : Int32) _)
      have go42 : own_go p e below (s₁.setTop (entryFrame m #[(.int p1), (.int p2)] maxLocals)) (T37.setTop (mkF m 120 #[.val (.int p1), .val (.int p2), .val (.ref b1), .val (.int v38), .unset, .unset, .unset] [(.int (([(nar .char (32 : Int32)), (nar .char (9 : Int32)), (nar .char (10 : Int32)), (nar .char (13 : Int32)), (nar .char (11 : Int32)), (nar .char (12 : Int32)), (nar .char (8 : Int32)), (nar .char (14 : Int32)), (nar .char (31 : Int32)), (nar .char (33 : Int32)), (nar .char (160 : Int32)), (nar .char (8232 : Int32)), (nar .char (12288 : Int32)), (nar .char (133 : Int32)), (nar .char (0 : Int32)), (nar .char (65535 : Int32))] : List Int32).getD (v38).toNatClampNeg (0 : Int32)))])) := by
        intro t kt
        refine go39 t ?_
        show Steps p.tables e below (T37.setTop (mkF m 106 #[.val (.int p1), .val (.int p2), .val (.ref b1), .val (.int v38), .unset, .unset, .unset] [(.int (16 : Int32)), (.int v38)])) _
        refine XS.icmpNo X37.here hx rfl (hb hby at_106) rfl (tlt hc40_106).2.1 ?_
        show Steps p.tables e below (T37.setTop (mkF m 109 #[.val (.int p1), .val (.int p2), .val (.ref b1), .val (.int v38), .unset, .unset, .unset] [])) _
        refine XS.aloadN X37.here hx rfl (hb hby at_109) rfl rfl ?_
        show Steps p.tables e below (T37.setTop (mkF m 110 #[.val (.int p1), .val (.int p2), .val (.ref b1), .val (.int v38), .unset, .unset, .unset] [(.ref b1)])) _
        refine XS.iloadN X37.here hx rfl (hb hby at_110) rfl ?_
        show Steps p.tables e below (T37.setTop (mkF m 111 #[.val (.int p1), .val (.int p2), .val (.ref b1), .val (.int v38), .unset, .unset, .unset] [(.int v38), (.ref b1)])) _
        refine X37.caload hx (j := v38) (v := (.int (([(nar .char (32 : Int32)), (nar .char (9 : Int32)), (nar .char (10 : Int32)), (nar .char (13 : Int32)), (nar .char (11 : Int32)), (nar .char (12 : Int32)), (nar .char (8 : Int32)), (nar .char (14 : Int32)), (nar .char (31 : Int32)), (nar .char (33 : Int32)), (nar .char (160 : Int32)), (nar .char (8232 : Int32)), (nar .char (12288 : Int32)), (nar .char (133 : Int32)), (nar .char (0 : Int32)), (nar .char (65535 : Int32))] : List Int32).getD (v38).toNatClampNeg (0 : Int32)))) (by rw [e37]; exact Ar41.1) (State.isArrayOf_alike hZ.alike Ar41.2.1) Ar41.2.2 hin41 hat41 (g := (mkF m 111 #[.val (.int p1), .val (.int p2), .val (.ref b1), .val (.int v38), .unset, .unset, .unset] [(.int v38), (.ref b1)])) rfl rfl (hb hby at_111) _ ?_
        show Steps p.tables e below (T37.setTop (mkF m 112 #[.val (.int p1), .val (.int p2), .val (.ref b1), .val (.int v38), .unset, .unset, .unset] [(.int (([(nar .char (32 : Int32)), (nar .char (9 : Int32)), (nar .char (10 : Int32)), (nar .char (13 : Int32)), (nar .char (11 : Int32)), (nar .char (12 : Int32)), (nar .char (8 : Int32)), (nar .char (14 : Int32)), (nar .char (31 : Int32)), (nar .char (33 : Int32)), (nar .char (160 : Int32)), (nar .char (8232 : Int32)), (nar .char (12288 : Int32)), (nar .char (133 : Int32)), (nar .char (0 : Int32)), (nar .char (65535 : Int32))] : List Int32).getD (v38).toNatClampNeg (0 : Int32)))])) _
        refine XS.goto X37.here hx rfl (pc0 := 112) (pc' := 120) rfl (hb hby at_112) (by decide) (by decide) ?_
        exact kt
      exact ⟨_, (if_pos hc40_106).symm, go42⟩
    · have go43 : own_go p e below (s₁.setTop (entryFrame m #[(.int p1), (.int p2)] maxLocals)) (T37.setTop (mkF m 120 #[.val (.int p1), .val (.int p2), .val (.ref b1), .val (.int v38), .unset, .unset, .unset] [(.int ((p1 &&& (65535 : Int32)).toUInt32.toUInt16.toUInt32.toInt32))])) := by
        intro t kt
        refine go39 t ?_
        show Steps p.tables e below (T37.setTop (mkF m 106 #[.val (.int p1), .val (.int p2), .val (.ref b1), .val (.int v38), .unset, .unset, .unset] [(.int (16 : Int32)), (.int v38)])) _
        refine XS.icmpYes X37.here hx rfl (pc0 := 106) (pc' := 115) rfl (hb hby at_106) rfl (flt hc40_106).2.1 (by decide) (by decide) ?_
        show Steps p.tables e below (T37.setTop (mkF m 115 #[.val (.int p1), .val (.int p2), .val (.ref b1), .val (.int v38), .unset, .unset, .unset] [])) _
        refine XS.iloadN X37.here hx rfl (hb hby at_115) rfl ?_
        show Steps p.tables e below (T37.setTop (mkF m 116 #[.val (.int p1), .val (.int p2), .val (.ref b1), .val (.int v38), .unset, .unset, .unset] [(.int p1)])) _
        refine X37.ldcInt hx hown (mvT hZ (hw _ (List.mem_of_getElem? (i := 1) rfl))) (g := (mkF m 116 #[.val (.int p1), .val (.int p2), .val (.ref b1), .val (.int v38), .unset, .unset, .unset] [(.int p1)])) rfl (hb hby at_116) _ ?_
        show Steps p.tables e below (T37.setTop (mkF m 118 #[.val (.int p1), .val (.int p2), .val (.ref b1), .val (.int v38), .unset, .unset, .unset] [(.int (65535 : Int32)), (.int p1)])) _
        refine XS.iand X37.here hx rfl (hb hby at_118) rfl ?_
        show Steps p.tables e below (T37.setTop (mkF m 119 #[.val (.int p1), .val (.int p2), .val (.ref b1), .val (.int v38), .unset, .unset, .unset] [(.int (p1 &&& (65535 : Int32)))])) _
        refine XS.i2c X37.here hx rfl (hb hby at_119) rfl ?_
        exact kt
      exact ⟨_, (if_neg hc40_106).symm, go43⟩
  have go46 : own_go p e below (s₁.setTop (entryFrame m #[(.int p1), (.int p2)] maxLocals)) (T37.setTop (mkF m 130 #[.val (.int p1), .val (.int p2), .val (.ref b1), .val (.int v38), .val (.int v44), .val (.int v44), .unset] [(.int (32 : Int32)), (.int v44)])) := by
    intro t kt
    refine go45 t ?_
    show Steps p.tables e below (T37.setTop (mkF m 120 #[.val (.int p1), .val (.int p2), .val (.ref b1), .val (.int v38), .unset, .unset, .unset] [(.int v44)])) _
    refine XS.istore X37.here hx rfl (hb hby at_120) rfl (l' := #[.val (.int p1), .val (.int p2), .val (.ref b1), .val (.int v38), .val (.int v44), .unset, .unset]) rfl ?_
    show Steps p.tables e below (T37.setTop (mkF m 122 #[.val (.int p1), .val (.int p2), .val (.ref b1), .val (.int v38), .val (.int v44), .unset, .unset] [])) _
    refine XS.iload X37.here hx rfl (hb hby at_122) rfl ?_
    show Steps p.tables e below (T37.setTop (mkF m 124 #[.val (.int p1), .val (.int p2), .val (.ref b1), .val (.int v38), .val (.int v44), .unset, .unset] [(.int v44)])) _
    refine XS.istore X37.here hx rfl (hb hby at_124) rfl (l' := #[.val (.int p1), .val (.int p2), .val (.ref b1), .val (.int v38), .val (.int v44), .val (.int v44), .unset]) rfl ?_
    show Steps p.tables e below (T37.setTop (mkF m 126 #[.val (.int p1), .val (.int p2), .val (.ref b1), .val (.int v38), .val (.int v44), .val (.int v44), .unset] [])) _
    refine XS.iload X37.here hx rfl (hb hby at_126) rfl ?_
    show Steps p.tables e below (T37.setTop (mkF m 128 #[.val (.int p1), .val (.int p2), .val (.ref b1), .val (.int v38), .val (.int v44), .val (.int v44), .unset] [(.int v44)])) _
    refine XS.bipush X37.here hx rfl (hb hby at_128) ?_
    exact kt
  obtain ⟨v70, hv_v70, go71⟩ : ∃ (v70 : Int32), v70 = (if v44 = (32 : Int32) then (1 : Int32) else (if v44 < (9 : Int32) then (0 : Int32) else (if (13 : Int32) < v44 then (0 : Int32) else (if v44 = (11 : Int32) then (0 : Int32) else (if v44 = (12 : Int32) then (0 : Int32) else (1 : Int32)))))) ∧ own_go p e below (s₁.setTop (entryFrame m #[(.int p1), (.int p2)] maxLocals)) (T37.setTop (mkF m 166 #[.val (.int p1), .val (.int p2), .val (.ref b1), .val (.int v38), .val (.int v44), .val (.int v44), .unset] [(.int v70)])) := by
    by_cases hc47_130 : v44 = (32 : Int32)
    · have go48 : own_go p e below (s₁.setTop (entryFrame m #[(.int p1), (.int p2)] maxLocals)) (T37.setTop (mkF m 166 #[.val (.int p1), .val (.int p2), .val (.ref b1), .val (.int v38), .val (.int v44), .val (.int v44), .unset] [(.int (1 : Int32))])) := by
        intro t kt
        refine go46 t ?_
        show Steps p.tables e below (T37.setTop (mkF m 130 #[.val (.int p1), .val (.int p2), .val (.ref b1), .val (.int v38), .val (.int v44), .val (.int v44), .unset] [(.int (32 : Int32)), (.int v44)])) _
        refine XS.icmpYes X37.here hx rfl (pc0 := 130) (pc' := 161) rfl (hb hby at_130) rfl (teq hc47_130).1 (by decide) (by decide) ?_
        show Steps p.tables e below (T37.setTop (mkF m 161 #[.val (.int p1), .val (.int p2), .val (.ref b1), .val (.int v38), .val (.int v44), .val (.int v44), .unset] [])) _
        refine XS.iconst X37.here hx rfl (hb hby at_161) ?_
        show Steps p.tables e below (T37.setTop (mkF m 162 #[.val (.int p1), .val (.int p2), .val (.ref b1), .val (.int v38), .val (.int v44), .val (.int v44), .unset] [(.int (1 : Int32))])) _
        refine XS.goto X37.here hx rfl (pc0 := 162) (pc' := 166) rfl (hb hby at_162) (by decide) (by decide) ?_
        exact kt
      exact ⟨_, (if_pos hc47_130).symm, go48⟩
    · have go49 : own_go p e below (s₁.setTop (entryFrame m #[(.int p1), (.int p2)] maxLocals)) (T37.setTop (mkF m 137 #[.val (.int p1), .val (.int p2), .val (.ref b1), .val (.int v38), .val (.int v44), .val (.int v44), .unset] [(.int (9 : Int32)), (.int v44)])) := by
        intro t kt
        refine go46 t ?_
        show Steps p.tables e below (T37.setTop (mkF m 130 #[.val (.int p1), .val (.int p2), .val (.ref b1), .val (.int v38), .val (.int v44), .val (.int v44), .unset] [(.int (32 : Int32)), (.int v44)])) _
        refine XS.icmpNo X37.here hx rfl (hb hby at_130) rfl (feq hc47_130).1 ?_
        show Steps p.tables e below (T37.setTop (mkF m 133 #[.val (.int p1), .val (.int p2), .val (.ref b1), .val (.int v38), .val (.int v44), .val (.int v44), .unset] [])) _
        refine XS.iload X37.here hx rfl (hb hby at_133) rfl ?_
        show Steps p.tables e below (T37.setTop (mkF m 135 #[.val (.int p1), .val (.int p2), .val (.ref b1), .val (.int v38), .val (.int v44), .val (.int v44), .unset] [(.int v44)])) _
        refine XS.bipush X37.here hx rfl (hb hby at_135) ?_
        exact kt
      obtain ⟨v68, hv_v68, go69⟩ : ∃ (v68 : Int32), v68 = (if v44 < (9 : Int32) then (0 : Int32) else (if (13 : Int32) < v44 then (0 : Int32) else (if v44 = (11 : Int32) then (0 : Int32) else (if v44 = (12 : Int32) then (0 : Int32) else (1 : Int32))))) ∧ own_go p e below (s₁.setTop (entryFrame m #[(.int p1), (.int p2)] maxLocals)) (T37.setTop (mkF m 166 #[.val (.int p1), .val (.int p2), .val (.ref b1), .val (.int v38), .val (.int v44), .val (.int v44), .unset] [(.int v68)])) := by
        by_cases hc50_137 : v44 < (9 : Int32)
        · have go51 : own_go p e below (s₁.setTop (entryFrame m #[(.int p1), (.int p2)] maxLocals)) (T37.setTop (mkF m 166 #[.val (.int p1), .val (.int p2), .val (.ref b1), .val (.int v38), .val (.int v44), .val (.int v44), .unset] [(.int (0 : Int32))])) := by
            intro t kt
            refine go49 t ?_
            show Steps p.tables e below (T37.setTop (mkF m 137 #[.val (.int p1), .val (.int p2), .val (.ref b1), .val (.int v38), .val (.int v44), .val (.int v44), .unset] [(.int (9 : Int32)), (.int v44)])) _
            refine XS.icmpYes X37.here hx rfl (pc0 := 137) (pc' := 165) rfl (hb hby at_137) rfl (tlt hc50_137).1 (by decide) (by decide) ?_
            show Steps p.tables e below (T37.setTop (mkF m 165 #[.val (.int p1), .val (.int p2), .val (.ref b1), .val (.int v38), .val (.int v44), .val (.int v44), .unset] [])) _
            refine XS.iconst X37.here hx rfl (hb hby at_165) ?_
            exact kt
          exact ⟨_, (if_pos hc50_137).symm, go51⟩
        · have go52 : own_go p e below (s₁.setTop (entryFrame m #[(.int p1), (.int p2)] maxLocals)) (T37.setTop (mkF m 144 #[.val (.int p1), .val (.int p2), .val (.ref b1), .val (.int v38), .val (.int v44), .val (.int v44), .unset] [(.int (13 : Int32)), (.int v44)])) := by
            intro t kt
            refine go49 t ?_
            show Steps p.tables e below (T37.setTop (mkF m 137 #[.val (.int p1), .val (.int p2), .val (.ref b1), .val (.int v38), .val (.int v44), .val (.int v44), .unset] [(.int (9 : Int32)), (.int v44)])) _
            refine XS.icmpNo X37.here hx rfl (hb hby at_137) rfl (flt hc50_137).1 ?_
            show Steps p.tables e below (T37.setTop (mkF m 140 #[.val (.int p1), .val (.int p2), .val (.ref b1), .val (.int v38), .val (.int v44), .val (.int v44), .unset] [])) _
            refine XS.iload X37.here hx rfl (hb hby at_140) rfl ?_
            show Steps p.tables e below (T37.setTop (mkF m 142 #[.val (.int p1), .val (.int p2), .val (.ref b1), .val (.int v38), .val (.int v44), .val (.int v44), .unset] [(.int v44)])) _
            refine XS.bipush X37.here hx rfl (hb hby at_142) ?_
            exact kt
          obtain ⟨v66, hv_v66, go67⟩ : ∃ (v66 : Int32), v66 = (if (13 : Int32) < v44 then (0 : Int32) else (if v44 = (11 : Int32) then (0 : Int32) else (if v44 = (12 : Int32) then (0 : Int32) else (1 : Int32)))) ∧ own_go p e below (s₁.setTop (entryFrame m #[(.int p1), (.int p2)] maxLocals)) (T37.setTop (mkF m 166 #[.val (.int p1), .val (.int p2), .val (.ref b1), .val (.int v38), .val (.int v44), .val (.int v44), .unset] [(.int v66)])) := by
            by_cases hc53_144 : (13 : Int32) < v44
            · have go54 : own_go p e below (s₁.setTop (entryFrame m #[(.int p1), (.int p2)] maxLocals)) (T37.setTop (mkF m 166 #[.val (.int p1), .val (.int p2), .val (.ref b1), .val (.int v38), .val (.int v44), .val (.int v44), .unset] [(.int (0 : Int32))])) := by
                intro t kt
                refine go52 t ?_
                show Steps p.tables e below (T37.setTop (mkF m 144 #[.val (.int p1), .val (.int p2), .val (.ref b1), .val (.int v38), .val (.int v44), .val (.int v44), .unset] [(.int (13 : Int32)), (.int v44)])) _
                refine XS.icmpYes X37.here hx rfl (pc0 := 144) (pc' := 165) rfl (hb hby at_144) rfl (tlt hc53_144).2.2.1 (by decide) (by decide) ?_
                show Steps p.tables e below (T37.setTop (mkF m 165 #[.val (.int p1), .val (.int p2), .val (.ref b1), .val (.int v38), .val (.int v44), .val (.int v44), .unset] [])) _
                refine XS.iconst X37.here hx rfl (hb hby at_165) ?_
                exact kt
              exact ⟨_, (if_pos hc53_144).symm, go54⟩
            · have go55 : own_go p e below (s₁.setTop (entryFrame m #[(.int p1), (.int p2)] maxLocals)) (T37.setTop (mkF m 151 #[.val (.int p1), .val (.int p2), .val (.ref b1), .val (.int v38), .val (.int v44), .val (.int v44), .unset] [(.int (11 : Int32)), (.int v44)])) := by
                intro t kt
                refine go52 t ?_
                show Steps p.tables e below (T37.setTop (mkF m 144 #[.val (.int p1), .val (.int p2), .val (.ref b1), .val (.int v38), .val (.int v44), .val (.int v44), .unset] [(.int (13 : Int32)), (.int v44)])) _
                refine XS.icmpNo X37.here hx rfl (hb hby at_144) rfl (flt hc53_144).2.2.1 ?_
                show Steps p.tables e below (T37.setTop (mkF m 147 #[.val (.int p1), .val (.int p2), .val (.ref b1), .val (.int v38), .val (.int v44), .val (.int v44), .unset] [])) _
                refine XS.iload X37.here hx rfl (hb hby at_147) rfl ?_
                show Steps p.tables e below (T37.setTop (mkF m 149 #[.val (.int p1), .val (.int p2), .val (.ref b1), .val (.int v38), .val (.int v44), .val (.int v44), .unset] [(.int v44)])) _
                refine XS.bipush X37.here hx rfl (hb hby at_149) ?_
                exact kt
              obtain ⟨v64, hv_v64, go65⟩ : ∃ (v64 : Int32), v64 = (if v44 = (11 : Int32) then (0 : Int32) else (if v44 = (12 : Int32) then (0 : Int32) else (1 : Int32))) ∧ own_go p e below (s₁.setTop (entryFrame m #[(.int p1), (.int p2)] maxLocals)) (T37.setTop (mkF m 166 #[.val (.int p1), .val (.int p2), .val (.ref b1), .val (.int v38), .val (.int v44), .val (.int v44), .unset] [(.int v64)])) := by
                by_cases hc56_151 : v44 = (11 : Int32)
                · have go57 : own_go p e below (s₁.setTop (entryFrame m #[(.int p1), (.int p2)] maxLocals)) (T37.setTop (mkF m 166 #[.val (.int p1), .val (.int p2), .val (.ref b1), .val (.int v38), .val (.int v44), .val (.int v44), .unset] [(.int (0 : Int32))])) := by
                    intro t kt
                    refine go55 t ?_
                    show Steps p.tables e below (T37.setTop (mkF m 151 #[.val (.int p1), .val (.int p2), .val (.ref b1), .val (.int v38), .val (.int v44), .val (.int v44), .unset] [(.int (11 : Int32)), (.int v44)])) _
                    refine XS.icmpYes X37.here hx rfl (pc0 := 151) (pc' := 165) rfl (hb hby at_151) rfl (teq hc56_151).1 (by decide) (by decide) ?_
                    show Steps p.tables e below (T37.setTop (mkF m 165 #[.val (.int p1), .val (.int p2), .val (.ref b1), .val (.int v38), .val (.int v44), .val (.int v44), .unset] [])) _
                    refine XS.iconst X37.here hx rfl (hb hby at_165) ?_
                    exact kt
                  exact ⟨_, (if_pos hc56_151).symm, go57⟩
                · have go58 : own_go p e below (s₁.setTop (entryFrame m #[(.int p1), (.int p2)] maxLocals)) (T37.setTop (mkF m 158 #[.val (.int p1), .val (.int p2), .val (.ref b1), .val (.int v38), .val (.int v44), .val (.int v44), .unset] [(.int (12 : Int32)), (.int v44)])) := by
                    intro t kt
                    refine go55 t ?_
                    show Steps p.tables e below (T37.setTop (mkF m 151 #[.val (.int p1), .val (.int p2), .val (.ref b1), .val (.int v38), .val (.int v44), .val (.int v44), .unset] [(.int (11 : Int32)), (.int v44)])) _
                    refine XS.icmpNo X37.here hx rfl (hb hby at_151) rfl (feq hc56_151).1 ?_
                    show Steps p.tables e below (T37.setTop (mkF m 154 #[.val (.int p1), .val (.int p2), .val (.ref b1), .val (.int v38), .val (.int v44), .val (.int v44), .unset] [])) _
                    refine XS.iload X37.here hx rfl (hb hby at_154) rfl ?_
                    show Steps p.tables e below (T37.setTop (mkF m 156 #[.val (.int p1), .val (.int p2), .val (.ref b1), .val (.int v38), .val (.int v44), .val (.int v44), .unset] [(.int v44)])) _
                    refine XS.bipush X37.here hx rfl (hb hby at_156) ?_
                    exact kt
                  obtain ⟨v62, hv_v62, go63⟩ : ∃ (v62 : Int32), v62 = (if v44 = (12 : Int32) then (0 : Int32) else (1 : Int32)) ∧ own_go p e below (s₁.setTop (entryFrame m #[(.int p1), (.int p2)] maxLocals)) (T37.setTop (mkF m 166 #[.val (.int p1), .val (.int p2), .val (.ref b1), .val (.int v38), .val (.int v44), .val (.int v44), .unset] [(.int v62)])) := by
                    by_cases hc59_158 : v44 = (12 : Int32)
                    · have go60 : own_go p e below (s₁.setTop (entryFrame m #[(.int p1), (.int p2)] maxLocals)) (T37.setTop (mkF m 166 #[.val (.int p1), .val (.int p2), .val (.ref b1), .val (.int v38), .val (.int v44), .val (.int v44), .unset] [(.int (0 : Int32))])) := by
                        intro t kt
                        refine go58 t ?_
                        show Steps p.tables e below (T37.setTop (mkF m 158 #[.val (.int p1), .val (.int p2), .val (.ref b1), .val (.int v38), .val (.int v44), .val (.int v44), .unset] [(.int (12 : Int32)), (.int v44)])) _
                        refine XS.icmpYes X37.here hx rfl (pc0 := 158) (pc' := 165) rfl (hb hby at_158) rfl (teq hc59_158).1 (by decide) (by decide) ?_
                        show Steps p.tables e below (T37.setTop (mkF m 165 #[.val (.int p1), .val (.int p2), .val (.ref b1), .val (.int v38), .val (.int v44), .val (.int v44), .unset] [])) _
                        refine XS.iconst X37.here hx rfl (hb hby at_165) ?_
                        exact kt
                      exact ⟨_, (if_pos hc59_158).symm, go60⟩
                    · have go61 : own_go p e below (s₁.setTop (entryFrame m #[(.int p1), (.int p2)] maxLocals)) (T37.setTop (mkF m 166 #[.val (.int p1), .val (.int p2), .val (.ref b1), .val (.int v38), .val (.int v44), .val (.int v44), .unset] [(.int (1 : Int32))])) := by
                        intro t kt
                        refine go58 t ?_
                        show Steps p.tables e below (T37.setTop (mkF m 158 #[.val (.int p1), .val (.int p2), .val (.ref b1), .val (.int v38), .val (.int v44), .val (.int v44), .unset] [(.int (12 : Int32)), (.int v44)])) _
                        refine XS.icmpNo X37.here hx rfl (hb hby at_158) rfl (feq hc59_158).1 ?_
                        show Steps p.tables e below (T37.setTop (mkF m 161 #[.val (.int p1), .val (.int p2), .val (.ref b1), .val (.int v38), .val (.int v44), .val (.int v44), .unset] [])) _
                        refine XS.iconst X37.here hx rfl (hb hby at_161) ?_
                        show Steps p.tables e below (T37.setTop (mkF m 162 #[.val (.int p1), .val (.int p2), .val (.ref b1), .val (.int v38), .val (.int v44), .val (.int v44), .unset] [(.int (1 : Int32))])) _
                        refine XS.goto X37.here hx rfl (pc0 := 162) (pc' := 166) rfl (hb hby at_162) (by decide) (by decide) ?_
                        exact kt
                      exact ⟨_, (if_neg hc59_158).symm, go61⟩
                  subst hv_v62
                  exact ⟨_, (if_neg hc56_151).symm, go63⟩
              subst hv_v64
              exact ⟨_, (if_neg hc53_144).symm, go65⟩
          subst hv_v66
          exact ⟨_, (if_neg hc50_137).symm, go67⟩
      subst hv_v68
      exact ⟨_, (if_neg hc47_130).symm, go69⟩
  obtain ⟨_, _, ⟨T72, L72, k72, n72⟩, -, X72, ⟨Lc72, hQ72, l72, y72, z72⟩, st72⟩ := Jvm.LawKit.callS X37 hx (y := (⟨"com/example/structweave/structweave/wddx/XmlText", "isSpace", "(C)Z"⟩ : MethodName)) hown (mvT hZ (hw _ (List.mem_of_getElem? (i := 2) rfl))) (mvT hZ (hw _ (List.mem_of_getElem? (i := 3) rfl))) (mvT hZ (hw _ (List.mem_of_getElem? (i := 4) rfl))) (mvT hZ (hw _ (List.mem_of_getElem? (i := 5) rfl))) (by decide) (backOf (W := 0) (rm1 l Z a0 hw [] v44  h37 n0 Z37 ) hZ (hw _ (List.mem_of_getElem? (i := 5) rfl)) (hw _ (List.mem_of_getElem? (i := 4) rfl)) (by decide) (by decide)) (g := (mkF m 170 #[.val (.int p1), .val (.int p2), .val (.ref b1), .val (.int v38), .val (.int v44), .val (.int v44), .val (.int v70)] [(.int v44)])) rfl (by rw [hml]; rfl) (argsL := [(.int v44)]) (rest := []) (lenOf own_pd0 rfl) rfl (by show 2 * 0 + _ ≤ _; exact Nat.le_of_eq rfl) (hb hby at_170) (fun _ _ => ⟨rfl, e37, (by decide : 1 + 0 ≤ _), (by decide : 16 + 0 ≤ _)⟩)
  dsimp only [Pt.U, Pt.locs, Pt.cells, Pt.slots] at X72 l72 y72 z72 st72 hQ72
  subst l72 y72 z72
  obtain ⟨rfl, Nq72, e72⟩ := hQ72
  have N72 := Fr.app N37 Nq72
  have hc73_175 : (if v44 = (32 : Int32) then (1 : Int32) else (if v44 = (9 : Int32) then (1 : Int32) else (if v44 = (10 : Int32) then (1 : Int32) else (if v44 = (13 : Int32) then (1 : Int32) else (0 : Int32))))) = v70 := by simp only [*]; exact own_main _
  have go74 : own_go p e below (s₁.setTop (entryFrame m #[(.int p1), (.int p2)] maxLocals)) (T72.setTop (mkF m 183 #[.val (.int p1), .val (.int p2), .val (.ref b1), .val (.int v38), .val (.int v44), .val (.int v44), .val (.int v70)] [(.int (1 : Int32))])) := by
    intro t kt
    refine go71 t ?_
    show Steps p.tables e below (T37.setTop (mkF m 166 #[.val (.int p1), .val (.int p2), .val (.ref b1), .val (.int v38), .val (.int v44), .val (.int v44), .unset] [(.int v70)])) _
    refine XS.istore X37.here hx rfl (hb hby at_166) rfl (l' := #[.val (.int p1), .val (.int p2), .val (.ref b1), .val (.int v38), .val (.int v44), .val (.int v44), .val (.int v70)]) rfl ?_
    show Steps p.tables e below (T37.setTop (mkF m 168 #[.val (.int p1), .val (.int p2), .val (.ref b1), .val (.int v38), .val (.int v44), .val (.int v44), .val (.int v70)] [])) _
    refine XS.iload X37.here hx rfl (hb hby at_168) rfl ?_
    show Steps p.tables e below (T37.setTop (mkF m 170 #[.val (.int p1), .val (.int p2), .val (.ref b1), .val (.int v38), .val (.int v44), .val (.int v44), .val (.int v70)] [(.int v44)])) _
    refine st72 _ ?_
    show Steps p.tables e below (T72.setTop (mkF m 173 #[.val (.int p1), .val (.int p2), .val (.ref b1), .val (.int v38), .val (.int v44), .val (.int v44), .val (.int v70)] [(.int (if v44 = (32 : Int32) then (1 : Int32) else (if v44 = (9 : Int32) then (1 : Int32) else (if v44 = (10 : Int32) then (1 : Int32) else (if v44 = (13 : Int32) then (1 : Int32) else (0 : Int32))))))])) _
    refine XS.iload X72.here hx rfl (hb hby at_173) rfl ?_
    show Steps p.tables e below (T72.setTop (mkF m 175 #[.val (.int p1), .val (.int p2), .val (.ref b1), .val (.int v38), .val (.int v44), .val (.int v44), .val (.int v70)] [(.int v70), (.int (if v44 = (32 : Int32) then (1 : Int32) else (if v44 = (9 : Int32) then (1 : Int32) else (if v44 = (10 : Int32) then (1 : Int32) else (if v44 = (13 : Int32) then (1 : Int32) else (0 : Int32))))))])) _
    refine XS.icmpNo X72.here hx rfl (hb hby at_175) rfl (teq hc73_175).2 ?_
    show Steps p.tables e below (T72.setTop (mkF m 178 #[.val (.int p1), .val (.int p2), .val (.ref b1), .val (.int v38), .val (.int v44), .val (.int v44), .val (.int v70)] [])) _
    refine XS.iconst X72.here hx rfl (hb hby at_178) ?_
    show Steps p.tables e below (T72.setTop (mkF m 179 #[.val (.int p1), .val (.int p2), .val (.ref b1), .val (.int v38), .val (.int v44), .val (.int v44), .val (.int v70)] [(.int (1 : Int32))])) _
    refine XS.goto X72.here hx rfl (pc0 := 179) (pc' := 183) rfl (hb hby at_179) (by decide) (by decide) ?_
    exact kt
  obtain ⟨fs, hr, hrun, hended, hW, hsame⟩ := X72.leave (v := some (.int (1 : Int32))) (fun h => by rw [Bd.returns] at h; cases h)
  refine ⟨_, _, go74 _ ?_, hrun, hended, _, _, rfl, ?_, ⟨_, rfl⟩, hW, hsame.mono (by decide) (by decide)⟩
  · exact retN X72 hx (t := .boolean) Bd.returns (by simp) (hb hby at_183) hr
  · show Q0 Z p1 p2 h0 n0 _ T72.heap _
    rw [e72]
    exact ⟨rfl, N72⟩
set_option maxRecDepth 65536 in
set_option maxHeartbeats 40000000 in
theorem comes_1 {Post : Tables → Env → Array Value → State → Outcome → State → Prop} (hpost : ∀ tb e args s v u, (limb_1_1.after args s (.returned v) u = true ∧ limb_1_2.after args s (.returned v) u = true ∧ True) → FrameEnd s (.returned v) u (Jvm.fieldLocs frame_1_writes args s ++ Jvm.arrayLocs frame_1_arrays args s ++ Jvm.staticLocs frame_1_statics s) 16 128 → Post tb e args s (.returned v) u) :
    ArmFor flags0 classFile x code maxLocals ret World_1 tables_1 room_1 Calls_1 rest_1 Pre_1 Post := by
  intro l hfl _ _ p e ha hc hk s m args below hf hA hF happ hP
  obtain ⟨hcalls, hrest, hpre⟩ := hP
  obtain ⟨-, -, -, hnamed, -, -, -, hat⟩ := (Spec.applies_iff hf).mp happ
  obtain ⟨hg, hn⟩ := and_e (Cond.before_iff.mp (show (Jvm.Cond.and given_1 narrow_1).before args s = true from hpre))
  obtain ⟨ga0, gb0⟩ := and_e hg
  obtain ⟨ga1, gb1⟩ := and_e gb0
  obtain ⟨w0, w1, rfl⟩ : ∃ w0 w1 : Value, args = #[w0, w1] := by
    have hs : args.size = 2 := by simpa [Cond.value, given_1] using ga0
    obtain ⟨L⟩ := args
    match L, hs with
    | [w0, w1], _ => exact ⟨w0, w1, rfl⟩
  have hw := fun d (hd : d ∈ tables_1) => atoms_spec (ws := Jvm.Cond.code x code maxLocals ret :: tables_1) hat d (List.mem_cons_of_mem _ hd)
  have hfit : Fit s := fun {y c} hc i hi => by
    obtain ⟨ha, rfl⟩ := Array.getElem?_eq_some_iff.mp hc
    have q := List.all_eq_true.mp ((Array.all_eq_true_iff_forall_mem.mp hF) _ (Array.getElem_mem ha)) i (List.mem_range.mpr hi)
    simpa [Array.getElem?_eq_getElem hi] using q
  obtain ⟨i0, ei0⟩ := is_v ga1
  obtain rfl : w0 = (.int i0) := Option.some.inj ei0
  obtain ⟨i1, ei1⟩ := is_v gb1
  obtain rfl : w1 = (.int i1) := Option.some.inj ei1
  obtain ⟨n, o, h1, h2, h3, _, L, rfl, ⟨rfl, N⟩, hq⟩ := rm0 l s _ hw tables_1 i0 i1  s.heap s.heap.size (Nat.le_refl _)  p e ha hc hk s m _ below hf ((Spec.applies_iff_loose hf).mp happ).1 ⟨rfl, State.Warmed39.refl s, rfl⟩ trivial
  refine ⟨n, _, h1, h2, h3, hpost _ _ _ _ _ _ ⟨Cond.after_iff.mpr rfl, Cond.after_iff.mpr (eq_i res_at (Term.int_eval (1)) rfl), trivial⟩ ⟨hq.1, hq.2.1, (hq.2.2.sift fun y hy => Or.inr (N y hy)).mono (by decide) (by decide)⟩⟩
theorem main_1_1 : Claimed_1_1 := comes_1 fun _ _ _ _ _ _ h hF => ⟨h.1, hF⟩
theorem main_1_2 : Claimed_1_2 := comes_1 fun _ _ _ _ _ _ h hF => ⟨h.2.1, hF⟩
end Jvm.Pilot.@@N@@
namespace Jvm.Pilot.@@N@@
open Jvm Jvm.ClassFile Sem Op Lib Jvm.Free Jvm.Stand Jvm.Pilot.@@N@@.Jvm.D
/-! MADE BY PROGRAM (witnessworld.py) out of the Statement's table words and the real class files: 9 classes; the members and pool entries that the words name. The judged class is class 1, her method 1. -/
namespace start1
open Jvm.ClassFile
def u (s : String) : CpInfo := .utf8 (stringToUtf16 s)
/-- a pool by its gaps: so many unusable entries, then the entry; so many at the end -/
def gap : Nat → List CpInfo → List CpInfo
  | 0, r => r
  | n + 1, r => .unusable :: gap n r
def poolList (es : List (Nat × CpInfo)) (last : Nat) : List CpInfo := es.foldr (fun e r => gap e.1 (e.2 :: r)) (gap last [])
def pool (es : List (Nat × CpInfo)) (last : Nat) : Array CpInfo := ⟨poolList es last⟩
def fileOf (pool : Array CpInfo) (this : Nat) (attrs : Array Attribute := #[]) (ms : Array MethodInfo := #[]) (fl : Nat := 33) (sup : Nat := 0) (ifs : Array Nat := #[]) (fds : Array FieldInfo := #[]) : ClassFile where
  minorVersion := 0
  majorVersion := 65
  constantPool := pool
  accessFlags := fl
  thisClass := this
  superClass := sup
  interfaces := ifs
  fields := fds
  methods := ms
  attributes := attrs
def plain (name : String) (sup : Option ClassId) : Class where
  name := name
  kind := .ordinary
  loader := none
  accessFlags := 33
  super := sup
  interfaces := #[]
  cf := none
  fields := #[]
  methods := #[]
  instanceTypes := #[]
  staticTypes := #[]
  resolved := #[]
  callSites := []
  init := .initialized
  statics := none
  mirror := none

def pool0 : Array CpInfo := pool [(5, u "<init>"), (0, u "()V"), (1, .class_ 10), (1, u "java/lang/Object")] 113

def k0m0 : Method := { name := "<init>", desc := "()V", sig := { parameters := [], returnType := none }, accessFlags := 1, code := none }
/-- java/lang/Object -/
def k0 : Class := { plain "java/lang/Object" none with
  accessFlags := 33
  interfaces := #[]
  cf := some (fileOf pool0 8 #[] #[{ accessFlags := 1, nameIndex := 5, descriptorIndex := 6, attributes := #[] }] 33 0 #[] #[])
  fields := #[]
  methods := #[k0m0]
  instanceTypes := #[]
  staticTypes := #[]
  resolved := Array.replicate 124 none
  statics := none }

def pool1 : Array CpInfo := pool [(2, .class_ 4), (1, u "java/lang/Object"), (0, u "<init>"), (0, u "()V"), (0, .integer 65535), (0, .methodref 9 10), (0, .class_ 11), (0, .nameAndType 12 13), (0, u "com/example/structweave/structweave/wddx/XmlText"), (0, u "isSpace"), (0, u "(C)Z"), (0, .class_ 15), (0, u "com/example/structweave/structweave/wddx/XmlTextIsSpacePinLaw"), (2, u "law"), (0, u "(II)Z")] 5

def k1m0 : Method := { name := "<init>", desc := "()V", sig := { parameters := [], returnType := none }, accessFlags := 2, code := none }
def k1c1 : Code := { maxStack := 4, maxLocals := 7, code := code, exceptionTable := #[], attributes := #[] }
def k1m1 : Method := { name := "law", desc := "(II)Z", sig := { parameters := [.int, .int], returnType := some .boolean }, accessFlags := 9, code := some k1c1 }
/-- com/example/structweave/structweave/wddx/XmlTextIsSpacePinLaw -/
def k1 : Class := { plain "com/example/structweave/structweave/wddx/XmlTextIsSpacePinLaw" (some 0) with
  accessFlags := 49
  interfaces := #[]
  cf := some (fileOf pool1 14 #[] #[{ accessFlags := 2, nameIndex := 5, descriptorIndex := 6, attributes := #[] }, { accessFlags := 9, nameIndex := 18, descriptorIndex := 19, attributes := #[] }] 49 2 #[] #[])
  fields := #[]
  methods := #[k1m0, k1m1]
  instanceTypes := #[]
  staticTypes := #[]
  resolved := Array.replicate 25 none
  statics := none }

def pool2 : Array CpInfo := pool [(2, .class_ 4), (1, u "java/lang/Object"), (0, u "<init>"), (0, u "()V"), (11, .class_ 20), (1, u "com/example/structweave/structweave/wddx/XmlText"), (0, u "isSpace"), (0, u "(C)Z")] 31

def k2m0 : Method := { name := "<init>", desc := "()V", sig := { parameters := [], returnType := none }, accessFlags := 2, code := none }
def k2c1 : Code := { maxStack := 2, maxLocals := 1, code := prog_52_method_2_code, exceptionTable := #[], attributes := #[] }
def k2m1 : Method := { name := "isSpace", desc := "(C)Z", sig := { parameters := [.char], returnType := some .boolean }, accessFlags := 8, code := some k2c1 }
/-- com/example/structweave/structweave/wddx/XmlText -/
def k2 : Class := { plain "com/example/structweave/structweave/wddx/XmlText" (some 0) with
  accessFlags := 48
  interfaces := #[]
  cf := some (fileOf pool2 18 #[] #[{ accessFlags := 2, nameIndex := 5, descriptorIndex := 6, attributes := #[] }, { accessFlags := 8, nameIndex := 21, descriptorIndex := 22, attributes := #[] }] 48 2 #[] #[])
  fields := #[]
  methods := #[k2m0, k2m1]
  instanceTypes := #[]
  staticTypes := #[]
  resolved := Array.replicate 54 none
  statics := none }

def pool3 : Array CpInfo := pool [(1, u "java/lang/Cloneable"), (0, .class_ 1), (0, u "java/lang/Object"), (0, .class_ 3)] 3

/-- java/lang/Cloneable -/
def k3 : Class := { plain "java/lang/Cloneable" (some 0) with
  accessFlags := 1537
  interfaces := #[]
  cf := some (fileOf pool3 2 #[] #[] 1537 4 #[] #[])
  fields := #[]
  methods := #[]
  instanceTypes := #[]
  staticTypes := #[]
  resolved := Array.replicate 8 none
  statics := none }

def pool4 : Array CpInfo := pool [(1, u "java/io/Serializable"), (0, .class_ 1), (0, u "java/lang/Object"), (0, .class_ 3)] 3

/-- java/io/Serializable -/
def k4 : Class := { plain "java/io/Serializable" (some 0) with
  accessFlags := 1537
  interfaces := #[]
  cf := some (fileOf pool4 2 #[] #[] 1537 4 #[] #[])
  fields := #[]
  methods := #[]
  instanceTypes := #[]
  staticTypes := #[]
  resolved := Array.replicate 8 none
  statics := none }

/-- the primitive byte -/
def k5 : Class := { plain "byte" none with kind := .primitive 'B', accessFlags := 0x411 }
/-- [B -/
def k6 : Class := { plain "[B" (some 0) with kind := .array 5 .byte, interfaces := #[3, 4], accessFlags := 1041 }

/-- the primitive char -/
def k7 : Class := { plain "char" none with kind := .primitive 'C', accessFlags := 0x411 }
/-- [C -/
def k8 : Class := { plain "[C" (some 0) with kind := .array 7 .char, interfaces := #[3, 4], accessFlags := 1041 }

def heap : Heap := #[]
def classes : Array Class := #[k0, k1, k2, k3, k4, k5, k6, k7, k8]
def interned : List (Array UInt16 × Addr) := []
def slotsUsed : Nat := 0
def theMethod : MethodId := ⟨1, 1⟩
def args0 : Array Value := #[.int 3, .int 4]
def aboutOver (below : List Frame) : State where
  vm := { classes := classes, interned := interned.toArray }
  heap := heap
  slotsUsed := slotsUsed
  threads := #[{ frames := .invoking theMethod args0 :: below }]
def below0 : List Frame := [.native { method := ⟨0, 0⟩, args := #[] }]
def about1 : State := aboutOver below0
def p0 : Program := .bare "" "" ""
def e0 : Env := launch0.env 0 0 0
theorem w_frames : about1.frames = Frame.invoking theMethod args0 :: below0 := rfl
set_option maxRecDepth 65536 in
theorem w_args : argsFit about1.vm theMethod args0 = true := by decide +kernel
set_option maxRecDepth 65536 in
theorem w_heap : heapFits about1 = true := by decide +kernel
set_option maxRecDepth 65536 in
theorem w_runnable : about1.curStatus? = some .runnable := by decide +kernel
set_option maxRecDepth 65536 in
theorem w_alone : about1.alone = true := by decide +kernel
set_option maxRecDepth 65536 in
theorem w_named : about1.methodNamed? x = some theMethod := by decide +kernel
set_option maxRecDepth 65536 in
theorem w_hears : about1.hears theMethod below0 = true := by decide +kernel
set_option maxRecDepth 65536 in
theorem w_ripe : about1.ripe theMethod args0 below0 = true := by decide +kernel
theorem w_running : about1.status = .running := rfl
set_option maxRecDepth 65536 in
theorem w_room : about1.hasRoom e0.platform room_1 = true :=
  launch0.hasRoom_least _ room_1 (by decide +kernel) (by decide +kernel) (by decide +kernel) (by decide +kernel) (by decide +kernel) (by decide +kernel)
theorem allAtoms_all (ts : List Jvm.Cond) (a : Array Jvm.Value) (st : Jvm.State) : (allAtoms ts).before a st = ts.all (fun c => c.before a st) := by
  induction ts with
  | nil => rfl
  | cons c t ih =>
    show (Jvm.Cond.and c (allAtoms t)).before a st = _
    rw [Jvm.Cond.before_and, ih, List.all_cons]
def words1 : List Jvm.Cond := Jvm.Cond.code x code maxLocals ret :: tables_1
/-- a 'code' word, met by the world's own term for the bytes: nothing is compared byte by byte -/
theorem code_word {y : MethodName} {bytes : ByteArray} {mx : Nat} {rt : Option FieldType} {a : Array Value} {s : State} {m : MethodId} {meth : Method} {c : Code} (h1 : s.methodNamed? y = some m) (h2 : s.vm.method? m = some meth) (h3 : meth.code = some c) (h4 : c.code = bytes)
    (h5 : (c.maxLocals == mx && c.exceptionTable.isEmpty && decide (c.maxStack ≤ mostOperands) && decide (meth.sig.returnType = rt) && !meth.locks && decide (parseMethodDescriptor y.desc = some meth.sig)) = true) : (Jvm.Cond.code y bytes mx rt).before a s = true := by
  simp only [Bool.and_eq_true, beq_iff_eq, Bool.not_eq_true', decide_eq_true_eq] at h5
  obtain ⟨⟨⟨⟨⟨g1, g2⟩, g3⟩, g4⟩, g5⟩, g6⟩ := h5
  simp [Cond.before, Cond.holds, Cond.value, h1, h2, h3, h4, g1, g2, g3, g4, g5, g6]
def isCode : Jvm.Cond → Bool
  | .code _ _ _ _ => true
  | _ => false
theorem all_split {L : List Jvm.Cond} {P : Jvm.Cond → Bool} (h1 : L.all (fun c => isCode c || P c) = true) (h2 : ∀ c ∈ L.filter isCode, P c = true) : L.all P = true := by
  refine List.all_eq_true.mpr fun c hc => ?_
  have h := List.all_eq_true.mp h1 c hc
  rcases Bool.eq_false_or_eq_true (isCode c) with hi | hi
  · exact h2 c (List.mem_filter.mpr ⟨hc, hi⟩)
  · simpa [hi] using h
set_option maxRecDepth 65536 in
theorem w_c0 : (Jvm.Cond.code x code maxLocals ret).before args0 about1 = true := code_word (m := ⟨1, 1⟩) (meth := k1m1) (c := k1c1) (by decide +kernel) rfl rfl rfl (by decide +kernel)
set_option maxRecDepth 65536 in
theorem w_c1 : (Jvm.Cond.code ({ cls := "com/example/structweave/structweave/wddx/XmlText", name := "isSpace", desc := "(C)Z" } : Jvm.MethodName) prog_52_method_2_code (1 : Nat) (Option.some Jvm.ClassFile.FieldType.boolean)).before args0 about1 = true := code_word (m := ⟨2, 1⟩) (meth := k2m1) (c := k2c1) (by decide +kernel) rfl rfl rfl (by decide +kernel)
def codes1 : List Jvm.Cond := [Jvm.Cond.code x code maxLocals ret, Jvm.Cond.code ({ cls := "com/example/structweave/structweave/wddx/XmlText", name := "isSpace", desc := "(C)Z" } : Jvm.MethodName) prog_52_method_2_code (1 : Nat) (Option.some Jvm.ClassFile.FieldType.boolean)]
set_option maxRecDepth 65536 in
theorem codes_eq : words1.filter isCode = codes1 := rfl
theorem w_codes : ∀ c ∈ words1.filter isCode, c.before args0 about1 = true := by
  rw [codes_eq]
  intro c hc
  simp only [codes1, List.mem_cons, List.not_mem_nil, or_false] at hc
  rcases hc with rfl | rfl
  · exact w_c0
  · exact w_c1
set_option maxRecDepth 65536 in
theorem w_t1 : words1.all (fun c => isCode c || c.before args0 about1) = true := by decide +kernel
theorem w_tables : (allAtoms (Jvm.Cond.code x code maxLocals ret :: tables_1)).before args0 about1 = true := by
  rw [allAtoms_all]
  show words1.all (fun c => c.before args0 about1) = true
  refine all_split ?_ w_codes
  rw [w_t1]
set_option maxRecDepth 65536 in
theorem w_case : (Jvm.Cond.and given_1 narrow_1).before args0 about1 = true := by decide +kernel
theorem w_applies : (headSpec (Jvm.Cond.code x code maxLocals ret :: tables_1) room_1).applies x e0.platform about1 = true :=
  (Spec.applies_iff w_frames).mpr ⟨w_running, w_runnable, w_alone, w_named, w_hears, w_ripe, w_room, w_tables⟩
theorem atStart : AtStart classFile x code maxLocals ret World_1 tables_1 room_1 Calls_1 rest_1 Pre_1 launch0 p0 e0 about1 theMethod args0 below0 :=
  ⟨lists_1, trivial, launch0.admits_env _ _ _, launch0.least_env, fairChoices_fair.cas, fairChoices_fair.clock, w_frames, w_args, w_heap, w_applies, trivial, trivial, w_case⟩
end start1
theorem witness_1 : WitnessClaimed_1 := ⟨start1.p0, start1.e0, start1.about1, start1.theMethod, start1.args0, start1.below0, start1.atStart⟩
end Jvm.Pilot.@@N@@
