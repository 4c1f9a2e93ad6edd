import JvmDerived
import JvmDerived.Pilot.@@N@@Statement
import JvmDerived.Pilot.@@N@@Code
set_option linter.unusedVariables false
set_option linter.unusedSimpArgs false
namespace Jvm.RoadKit
open Sem ClassFile Op Lib Jvm.Stand Jvm.Free Jvm.LawKit
section New
variable {p : Program} {l : Launch} {e : Env} {R : Room} {s : State} {m : MethodId} {args : Array Value} {below : List Frame} {meth : Method} {c : Code} {T : State} {locs : List Loc} {cells slots : Nat}
theorem retI (X : Stand p l e R s m args below meth c T locs cells slots) (hx : p.tables.exec = Jvm.exec) {pc : Nat} {Ls : Array Slot} {z : Int32} {rest : List Value} (hret : meth.sig.returnType = some .int) (hd : decode c.code pc = .ok (.ireturn, 1)) {fs : List Frame}
    (hl : ∀ (f : JFrame) (acts : List Action), f.method = m → f.locked = none → f.entered = [] → (doReturn e (T.setTop f) acts (some (.int z))).1 = T.setFrames fs) : Steps p.tables e below (T.setTop (mkF m pc Ls (.int z :: rest))) (T.setFrames fs) := by
  have hm' : T.vm.method? m = some meth := X.method'
  have hn : narrow .int (.int z) = .int z := rfl
  show Steps p.tables e below (T.setTop { method := m, pc := pc, locals := Ls, stack := _ :: rest, locked := none }) _
  jvm_step X.here [X.here.top, hx, hd, hm', hret, hn]
  first | (intro acts; rw [hl _ acts rfl rfl rfl]) | rw [hl _ _ rfl rfl rfl]
  exact Steps.refl _
end New
end Jvm.RoadKit
namespace Jvm.Pilot.@@N@@
open Jvm Jvm.ClassFile Sem Op Lib Jvm.Free Jvm.Stand Jvm.LawKit Jvm.RoadKit Bundle Jvm.Pilot.@@N@@.Jvm.D
/-- from the state A the run comes to the state B -/
def own_go (p : Program) (e : Env) (below : List Frame) (A B : State) : Prop := ∀ t, Steps p.tables e below B t → Steps p.tables e below A t
theorem own_wide {p : Program} {l : Launch} {e : Env} {R : Room} {s : State} {m : MethodId} {args : Array Value} {below : List Frame} {meth : Method} {c : Code} {T : State} {locs : List Loc} {cells slots k n : Nat} (X : Stand p l e R s m args below meth c T locs cells slots) (h1 : cells ≤ k) (h2 : slots ≤ n) : Stand p l e R s m args below meth c T locs k n :=
  { X with same := X.same.weaken (fun _ h _ => h) h1 h2 }
theorem own_getD {α : Type} (f : α → Value) : ∀ (l : List α) (d : α) (k : Nat), (l.map f).getD k (f d) = f (l.getD k d)
  | [], _, _ => rfl
  | _ :: _, _, 0 => rfl
  | _ :: t, d, k + 1 => own_getD f t d k
theorem d3_0 : decode jdk_30_method_1_code 0 = .ok (.aload_n 0, 1) := by decide +kernel
theorem d3_1 : decode jdk_30_method_1_code 1 = .ok (.invokespecial 1, 3) := by decide +kernel
theorem d3_4 : decode jdk_30_method_1_code 4 = .ok (.return_, 1) := by decide +kernel
theorem own_pn_java_lang_Record : plainName "java/lang/Record" = true := by first | (simp [plainName, overriddenIn]; done) | decide +kernel
theorem ef_3 (m : MethodId) (x0 : Addr) : entryFrame m #[(.ref x0)] 1 = mkF m 0 #[.val (.ref x0)] [] := by first | (simp [entryFrame, mkF, argsToLocals, Value.category]; done) | rfl
def Q3 (Z : State) (a1 : Addr) (h0 : Heap) (n0 : Nat) (v : Option Value) (h : Heap) (L : List Loc) : Prop := v = none ∧ Fr n0 L ∧ h = h0
set_option maxRecDepth 65536 in
set_option maxHeartbeats 40000000 in
theorem rm3 (l : Launch) (Z : State) (a0 : Array Value) (hw : ∀ d ∈ tables_1, d.before a0 Z = true) (ws : List Jvm.Cond) (a1 : Addr) (h0 : Heap) (n0 : Nat) (Z0 : n0 ≤ h0.size) :
    MetFree l (⟨"java/lang/Record", "<init>", "()V"⟩ : MethodName) (head1 (Jvm.Cond.code (⟨"java/lang/Record", "<init>", "()V"⟩ : MethodName) jdk_30_method_1_code 1 none :: ws) ({ frames := 1, cells := 0, slots := 0, locals := 12 } : Room)) (fun a U => a = #[(.ref a1)] ∧ Z.Warmed39 U.vm ∧ U.heap = h0) (fun _ _ _ _ _ => True) (fun _ U o U' => ∃ v L, o = .returned v ∧ Q3 Z a1 h0 n0 v U'.heap L ∧ FrameEnd U o U' L ({ frames := 1, cells := 0, slots := 0, locals := 12 } : Room).cells ({ frames := 1, cells := 0, slots := 0, locals := 12 } : Room).slots) := by
  refine MetFree.of_bodySF (plainFor_of_name own_pn_java_lang_Record) hisR ?_
  intro p e s m args below meth c s₁ Bd hml0 hP hK
  obtain ⟨rfl, hZ, hh⟩ := hP
  have hx := Bd.exec
  have hby := Bd.bytes
  have hml : c.maxLocals = 1 := hml0
  have hown : s.vm.findClass "java/lang/Record" = some m.cls := findClass_of_methodNamed Bd.named
  have hnm := (name_of_methodNamed Bd.named Bd.method).1
  have X0 : Stand p l e ({ frames := 1, cells := 0, slots := 0, locals := 12 } : Room) s m #[(.ref a1)] below meth c s₁ [] 0 0 := Stand.of_body Bd
  have e0 : s₁.heap = h0 := by rw [← hh, Bd.state]; rfl
  have N0 := Fr.nil n0
  have p0 : own_go p e below (s₁.setTop (entryFrame m #[(.ref a1)] 1)) (s₁.setTop (mkF m 0 #[.val (.ref a1)] [])) := fun t k => castTop (ef_3 m a1) k
  obtain ⟨T1, X1, e1, st1⟩ := initO X0 hx hZ hown (hw _ (List.mem_of_getElem? (i := 15) rfl)) (hw _ (List.mem_of_getElem? (i := 16) rfl)) (hw _ (List.mem_of_getElem? (i := 17) rfl)) e0 (g := (mkF m 1 #[.val (.ref a1)] [(.ref a1)])) rfl (by rw [hml]; rfl) rfl (hb hby d3_1) (by decide) (W := 0) (by show 2 * 0 + _ ≤ _; exact Nat.le_of_eq rfl) (by decide)
  have go2 : own_go p e below (s₁.setTop (entryFrame m #[(.ref a1)] 1)) (T1.setTop (mkF m 4 #[.val (.ref a1)] [])) := by
    intro t kt
    refine p0 t ?_
    show Steps p.tables e below (s₁.setTop (mkF m 0 #[.val (.ref a1)] [])) _
    refine XS.aloadN X0.here hx rfl (hb hby d3_0) rfl rfl ?_
    show Steps p.tables e below (s₁.setTop (mkF m 1 #[.val (.ref a1)] [(.ref a1)])) _
    refine st1 _ ?_
    exact kt
  obtain ⟨fs, hr, hrun, hended, hW, hsame⟩ := X1.leave (v := none) (fun _ => rfl)
  refine ⟨_, _, go2 _ ?_, hrun, hended, _, _, rfl, ?_, ⟨_, rfl⟩, hW, hsame.mono (by decide) (by decide)⟩
  · exact X1.returnOut hx Bd.returns (hb hby d3_4) hr
  · show Q3 Z a1 h0 n0 _ T1.heap _
    rw [e1]
    exact ⟨rfl, N0, rfl⟩
theorem d1_0 : decode method_2_code 0 = .ok (.lload_n 0, 1) := by decide +kernel
theorem d1_1 : decode method_2_code 1 = .ok (.lconst 0, 1) := by decide +kernel
theorem d1_2 : decode method_2_code 2 = .ok (.lcmp, 1) := by decide +kernel
theorem d1_3 : decode method_2_code 3 = .ok (.ifCond .ne 7, 3) := by decide +kernel
theorem d1_6 : decode method_2_code 6 = .ok (.lconst 1, 1) := by decide +kernel
theorem d1_7 : decode method_2_code 7 = .ok (.goto 4, 3) := by decide +kernel
theorem d1_10 : decode method_2_code 10 = .ok (.lload_n 0, 1) := by decide +kernel
theorem d1_11 : decode method_2_code 11 = .ok (.lreturn, 1) := by decide +kernel
theorem own_pn_com_example_allegheny_allegheny_bench_ResultPassedPinLaw : plainName "com/example/allegheny/allegheny/bench/ResultPassedPinLaw" = true := by first | (simp [plainName, overriddenIn]; done) | decide +kernel
theorem ef_1 (m : MethodId) (x0 : Int64) : entryFrame m #[(.long x0)] 2 = mkF m 0 #[.val (.long x0), .second] [] := by first | (simp [entryFrame, mkF, argsToLocals, Value.category]; done) | rfl
def Q1 (Z : State) (q1 : Int64) (h0 : Heap) (n0 : Nat) (v : Option Value) (h : Heap) (L : List Loc) : Prop := v = some (.long (if q1 = (0 : Int64) then (1 : Int64) else q1)) ∧ Fr n0 L ∧ h = h0
set_option maxRecDepth 65536 in
set_option maxHeartbeats 40000000 in
theorem rm1 (l : Launch) (Z : State) (a0 : Array Value) (hw : ∀ d ∈ tables_1, d.before a0 Z = true) (ws : List Jvm.Cond) (q1 : Int64) (h0 : Heap) (n0 : Nat) (Z0 : n0 ≤ h0.size) :
    MetFree l (⟨"com/example/allegheny/allegheny/bench/ResultPassedPinLaw", "nonZero", "(J)J"⟩ : MethodName) (head1 (Jvm.Cond.code (⟨"com/example/allegheny/allegheny/bench/ResultPassedPinLaw", "nonZero", "(J)J"⟩ : MethodName) method_2_code 2 (some .long) :: ws) ({ frames := 0, cells := 0, slots := 0, locals := 0 } : Room)) (fun a U => a = #[(.long q1)] ∧ Z.Warmed39 U.vm ∧ U.heap = h0) (fun _ _ _ _ _ => True) (fun _ U o U' => ∃ v L, o = .returned v ∧ Q1 Z q1 h0 n0 v U'.heap L ∧ FrameEnd U o U' L ({ frames := 0, cells := 0, slots := 0, locals := 0 } : Room).cells ({ frames := 0, cells := 0, slots := 0, locals := 0 } : Room).slots) := by
  refine MetFree.of_bodySF (plainFor_of_name own_pn_com_example_allegheny_allegheny_bench_ResultPassedPinLaw) hisR ?_
  intro p e s m args below meth c s₁ Bd hml0 hP hK
  obtain ⟨rfl, hZ, hh⟩ := hP
  have hx := Bd.exec
  have hby := Bd.bytes
  have hml : c.maxLocals = 2 := hml0
  have hown : s.vm.findClass "com/example/allegheny/allegheny/bench/ResultPassedPinLaw" = some m.cls := findClass_of_methodNamed Bd.named
  have hnm := (name_of_methodNamed Bd.named Bd.method).1
  have X0 : Stand p l e ({ frames := 0, cells := 0, slots := 0, locals := 0 } : Room) s m #[(.long q1)] below meth c s₁ [] 0 0 := Stand.of_body Bd
  have e0 : s₁.heap = h0 := by rw [← hh, Bd.state]; rfl
  have N0 := Fr.nil n0
  have p0 : own_go p e below (s₁.setTop (entryFrame m #[(.long q1)] 2)) (s₁.setTop (mkF m 0 #[.val (.long q1), .second] [])) := fun t k => castTop (ef_1 m q1) k
  have go1 : own_go p e below (s₁.setTop (entryFrame m #[(.long q1)] 2)) (s₁.setTop (mkF m 3 #[.val (.long q1), .second] [(.int (lcmpW q1 (0 : Int64)))])) := by
    intro t kt
    refine p0 t ?_
    show Steps p.tables e below (s₁.setTop (mkF m 0 #[.val (.long q1), .second] [])) _
    refine XS.lloadN X0.here hx rfl (hb hby d1_0) rfl ?_
    show Steps p.tables e below (s₁.setTop (mkF m 1 #[.val (.long q1), .second] [(.long q1)])) _
    refine XS.lconst X0.here hx rfl (hb hby d1_1) ?_
    show Steps p.tables e below (s₁.setTop (mkF m 2 #[.val (.long q1), .second] [(.long (0 : Int64)), (.long q1)])) _
    refine XS.lcmp X0.here hx rfl (hb hby d1_2) rfl ?_
    exact kt
  obtain ⟨v5, hv_v5, go6⟩ : ∃ (v5 : Int64), v5 = (if q1 = (0 : Int64) then (1 : Int64) else q1) ∧ own_go p e below (s₁.setTop (entryFrame m #[(.long q1)] 2)) (s₁.setTop (mkF m 11 #[.val (.long q1), .second] [(.long v5)])) := by
    by_cases hc2_3 : q1 = (0 : Int64)
    · have go3 : own_go p e below (s₁.setTop (entryFrame m #[(.long q1)] 2)) (s₁.setTop (mkF m 11 #[.val (.long q1), .second] [(.long (1 : Int64))])) := by
        intro t kt
        refine go1 t ?_
        show Steps p.tables e below (s₁.setTop (mkF m 3 #[.val (.long q1), .second] [(.int (lcmpW q1 (0 : Int64)))])) _
        refine XS.ifNo X0.here hx rfl (hb hby d1_3) rfl ((if0 _ _).trans (teq ((lw_eq q1 (0 : Int64)).mpr hc2_3)).2) ?_
        show Steps p.tables e below (s₁.setTop (mkF m 6 #[.val (.long q1), .second] [])) _
        refine XS.lconst X0.here hx rfl (hb hby d1_6) ?_
        show Steps p.tables e below (s₁.setTop (mkF m 7 #[.val (.long q1), .second] [(.long (1 : Int64))])) _
        refine XS.goto X0.here hx rfl (pc0 := 7) (pc' := 11) rfl (hb hby d1_7) (by decide) (by decide) ?_
        exact kt
      exact ⟨_, (if_pos hc2_3).symm, go3⟩
    · have go4 : own_go p e below (s₁.setTop (entryFrame m #[(.long q1)] 2)) (s₁.setTop (mkF m 11 #[.val (.long q1), .second] [(.long q1)])) := by
        intro t kt
        refine go1 t ?_
        show Steps p.tables e below (s₁.setTop (mkF m 3 #[.val (.long q1), .second] [(.int (lcmpW q1 (0 : Int64)))])) _
        refine XS.ifYes X0.here hx rfl (pc0 := 3) (pc' := 10) rfl (hb hby d1_3) rfl ((if0 _ _).trans (feq (fun q => hc2_3 ((lw_eq q1 (0 : Int64)).mp q))).2) (by decide) (by decide) ?_
        show Steps p.tables e below (s₁.setTop (mkF m 10 #[.val (.long q1), .second] [])) _
        refine XS.lloadN X0.here hx rfl (hb hby d1_10) rfl ?_
        exact kt
      exact ⟨_, (if_neg hc2_3).symm, go4⟩
  obtain ⟨fs, hr, hrun, hended, hW, hsame⟩ := X0.leave (v := some (.long v5)) (fun h => by rw [Bd.returns] at h; cases h)
  refine ⟨_, _, go6 _ ?_, hrun, hended, _, _, rfl, ?_, ⟨_, rfl⟩, hW, hsame.mono (by decide) (by decide)⟩
  · jvm_step X0.here [X0.here.top, hx, (hb hby d1_11), X0.method', Bd.returns, narrow]
    first | (intro acts; rw [hr _ acts rfl rfl rfl]) | rw [hr _ _ rfl rfl rfl]
    exact Steps.refl _
  · show Q1 Z q1 h0 n0 _ s₁.heap _
    rw [e0]
    exact ⟨by rw [hv_v5], N0, rfl⟩
theorem d2_0 : decode prog_28_method_1_code 0 = .ok (.aload_n 0, 1) := by decide +kernel
theorem own_pd0 : parseMethodDescriptor "()V" = some ⟨[], none⟩ := by decide +kernel
theorem d2_1 : decode prog_28_method_1_code 1 = .ok (.invokespecial 1, 3) := by decide +kernel
theorem d2_4 : decode prog_28_method_1_code 4 = .ok (.aload_n 0, 1) := by decide +kernel
theorem d2_5 : decode prog_28_method_1_code 5 = .ok (.lload_n 1, 1) := by decide +kernel
theorem d2_6 : decode prog_28_method_1_code 6 = .ok (.putfield 7, 3) := by decide +kernel
theorem d2_9 : decode prog_28_method_1_code 9 = .ok (.aload_n 0, 1) := by decide +kernel
theorem d2_10 : decode prog_28_method_1_code 10 = .ok (.lload_n 3, 1) := by decide +kernel
theorem d2_11 : decode prog_28_method_1_code 11 = .ok (.putfield 13, 3) := by decide +kernel
theorem d2_14 : decode prog_28_method_1_code 14 = .ok (.aload_n 0, 1) := by decide +kernel
theorem d2_15 : decode prog_28_method_1_code 15 = .ok (.lload 5, 2) := by decide +kernel
theorem d2_17 : decode prog_28_method_1_code 17 = .ok (.putfield 16, 3) := by decide +kernel
theorem d2_20 : decode prog_28_method_1_code 20 = .ok (.aload_n 0, 1) := by decide +kernel
theorem d2_21 : decode prog_28_method_1_code 21 = .ok (.lload 7, 2) := by decide +kernel
theorem d2_23 : decode prog_28_method_1_code 23 = .ok (.putfield 19, 3) := by decide +kernel
theorem d2_26 : decode prog_28_method_1_code 26 = .ok (.aload_n 0, 1) := by decide +kernel
theorem d2_27 : decode prog_28_method_1_code 27 = .ok (.lload 9, 2) := by decide +kernel
theorem d2_29 : decode prog_28_method_1_code 29 = .ok (.putfield 22, 3) := by decide +kernel
theorem d2_32 : decode prog_28_method_1_code 32 = .ok (.aload_n 0, 1) := by decide +kernel
theorem d2_33 : decode prog_28_method_1_code 33 = .ok (.lload 11, 2) := by decide +kernel
theorem d2_35 : decode prog_28_method_1_code 35 = .ok (.putfield 25, 3) := by decide +kernel
theorem d2_38 : decode prog_28_method_1_code 38 = .ok (.aload_n 0, 1) := by decide +kernel
theorem d2_39 : decode prog_28_method_1_code 39 = .ok (.lload 13, 2) := by decide +kernel
theorem d2_41 : decode prog_28_method_1_code 41 = .ok (.putfield 28, 3) := by decide +kernel
theorem d2_44 : decode prog_28_method_1_code 44 = .ok (.aload_n 0, 1) := by decide +kernel
theorem d2_45 : decode prog_28_method_1_code 45 = .ok (.lload 15, 2) := by decide +kernel
theorem d2_47 : decode prog_28_method_1_code 47 = .ok (.putfield 31, 3) := by decide +kernel
theorem d2_50 : decode prog_28_method_1_code 50 = .ok (.aload_n 0, 1) := by decide +kernel
theorem d2_51 : decode prog_28_method_1_code 51 = .ok (.lload 17, 2) := by decide +kernel
theorem d2_53 : decode prog_28_method_1_code 53 = .ok (.putfield 34, 3) := by decide +kernel
theorem d2_56 : decode prog_28_method_1_code 56 = .ok (.aload_n 0, 1) := by decide +kernel
theorem d2_57 : decode prog_28_method_1_code 57 = .ok (.lload 19, 2) := by decide +kernel
theorem d2_59 : decode prog_28_method_1_code 59 = .ok (.putfield 37, 3) := by decide +kernel
theorem d2_62 : decode prog_28_method_1_code 62 = .ok (.return_, 1) := by decide +kernel
theorem own_pn_com_example_allegheny_allegheny_bench_RatingsBench_Result : plainName "com/example/allegheny/allegheny/bench/RatingsBench$Result" = true := by first | (simp [plainName, overriddenIn]; done) | decide +kernel
theorem ef_2 (m : MethodId) (x0 : Addr) (x1 : Int64) (x2 : Int64) (x3 : Int64) (x4 : Int64) (x5 : Int64) (x6 : Int64) (x7 : Int64) (x8 : Int64) (x9 : Int64) (x10 : Int64) : entryFrame m #[(.ref x0), (.long x1), (.long x2), (.long x3), (.long x4), (.long x5), (.long x6), (.long x7), (.long x8), (.long x9), (.long x10)] 21 = mkF m 0 #[.val (.ref x0), .val (.long x1), .second, .val (.long x2), .second, .val (.long x3), .second, .val (.long x4), .second, .val (.long x5), .second, .val (.long x6), .second, .val (.long x7), .second, .val (.long x8), .second, .val (.long x9), .second, .val (.long x10), .second] [] := by first | (simp [entryFrame, mkF, argsToLocals, Value.category]; done) | rfl
def Q2 (Z : State) (a1 : Addr) (q2 : Int64) (q3 : Int64) (q4 : Int64) (q5 : Int64) (q6 : Int64) (q7 : Int64) (q8 : Int64) (q9 : Int64) (q10 : Int64) (q11 : Int64) (h0 : Heap) (n0 : Nat) (v : Option Value) (h : Heap) (L : List Loc) : Prop := v = none ∧ Fr n0 L ∧ Keep h0 h [a1] ∧ Exa Z h a1 "com/example/allegheny/allegheny/bench/RatingsBench$Result" ∧ Fld Z h a1 "com/example/allegheny/allegheny/bench/RatingsBench$Result" "ratings" "J" (.long q2) ∧ Fld Z h a1 "com/example/allegheny/allegheny/bench/RatingsBench$Result" "committed" "J" (.long q3) ∧ Fld Z h a1 "com/example/allegheny/allegheny/bench/RatingsBench$Result" "rejected" "J" (.long q4) ∧ Fld Z h a1 "com/example/allegheny/allegheny/bench/RatingsBench$Result" "falseRejections" "J" (.long q5) ∧ Fld Z h a1 "com/example/allegheny/allegheny/bench/RatingsBench$Result" "staleCommits" "J" (.long q6) ∧ Fld Z h a1 "com/example/allegheny/allegheny/bench/RatingsBench$Result" "sumMismatches" "J" (.long q7) ∧ Fld Z h a1 "com/example/allegheny/allegheny/bench/RatingsBench$Result" "members" "J" (.long q8) ∧ Fld Z h a1 "com/example/allegheny/allegheny/bench/RatingsBench$Result" "commitsPerSecond" "J" (.long q9) ∧ Fld Z h a1 "com/example/allegheny/allegheny/bench/RatingsBench$Result" "p50Nanos" "J" (.long q10) ∧ Fld Z h a1 "com/example/allegheny/allegheny/bench/RatingsBench$Result" "p99Nanos" "J" (.long q11)
set_option maxRecDepth 65536 in
set_option maxHeartbeats 40000000 in
theorem rm2 (l : Launch) (Z : State) (a0 : Array Value) (hw : ∀ d ∈ tables_1, d.before a0 Z = true) (ws : List Jvm.Cond) (a1 : Addr) (q2 : Int64) (q3 : Int64) (q4 : Int64) (q5 : Int64) (q6 : Int64) (q7 : Int64) (q8 : Int64) (q9 : Int64) (q10 : Int64) (q11 : Int64) (h0 : Heap) (n0 : Nat) (Z0 : n0 ≤ h0.size) (E_a1 : Exa Z h0 a1 "com/example/allegheny/allegheny/bench/RatingsBench$Result") (g_a1 : n0 ≤ a1) (F_ratings : Fld Z h0 a1 "com/example/allegheny/allegheny/bench/RatingsBench$Result" "ratings" "J" (.long (0 : Int64))) (F_committed : Fld Z h0 a1 "com/example/allegheny/allegheny/bench/RatingsBench$Result" "committed" "J" (.long (0 : Int64))) (F_rejected : Fld Z h0 a1 "com/example/allegheny/allegheny/bench/RatingsBench$Result" "rejected" "J" (.long (0 : Int64))) (F_falseRejections : Fld Z h0 a1 "com/example/allegheny/allegheny/bench/RatingsBench$Result" "falseRejections" "J" (.long (0 : Int64))) (F_staleCommits : Fld Z h0 a1 "com/example/allegheny/allegheny/bench/RatingsBench$Result" "staleCommits" "J" (.long (0 : Int64))) (F_sumMismatches : Fld Z h0 a1 "com/example/allegheny/allegheny/bench/RatingsBench$Result" "sumMismatches" "J" (.long (0 : Int64))) (F_members : Fld Z h0 a1 "com/example/allegheny/allegheny/bench/RatingsBench$Result" "members" "J" (.long (0 : Int64))) (F_commitsPerSecond : Fld Z h0 a1 "com/example/allegheny/allegheny/bench/RatingsBench$Result" "commitsPerSecond" "J" (.long (0 : Int64))) (F_p50Nanos : Fld Z h0 a1 "com/example/allegheny/allegheny/bench/RatingsBench$Result" "p50Nanos" "J" (.long (0 : Int64))) (F_p99Nanos : Fld Z h0 a1 "com/example/allegheny/allegheny/bench/RatingsBench$Result" "p99Nanos" "J" (.long (0 : Int64))) :
    MetFree l (⟨"com/example/allegheny/allegheny/bench/RatingsBench$Result", "<init>", "(JJJJJJJJJJ)V"⟩ : MethodName) (head1 (Jvm.Cond.code (⟨"com/example/allegheny/allegheny/bench/RatingsBench$Result", "<init>", "(JJJJJJJJJJ)V"⟩ : MethodName) prog_28_method_1_code 21 none :: ws) ({ frames := 2, cells := 0, slots := 0, locals := 24 } : Room)) (fun a U => a = #[(.ref a1), (.long q2), (.long q3), (.long q4), (.long q5), (.long q6), (.long q7), (.long q8), (.long q9), (.long q10), (.long q11)] ∧ Z.Warmed39 U.vm ∧ U.heap = h0) (fun _ _ _ _ _ => True) (fun _ U o U' => ∃ v L, o = .returned v ∧ Q2 Z a1 q2 q3 q4 q5 q6 q7 q8 q9 q10 q11 h0 n0 v U'.heap L ∧ FrameEnd U o U' L ({ frames := 2, cells := 0, slots := 0, locals := 24 } : Room).cells ({ frames := 2, cells := 0, slots := 0, locals := 24 } : Room).slots) := by
  refine MetFree.of_bodySF (plainFor_of_name own_pn_com_example_allegheny_allegheny_bench_RatingsBench_Result) hisR ?_
  intro p e s m args below meth c s₁ Bd hml0 hP hK
  obtain ⟨rfl, hZ, hh⟩ := hP
  have hx := Bd.exec
  have hby := Bd.bytes
  have hml : c.maxLocals = 21 := hml0
  have hown : s.vm.findClass "com/example/allegheny/allegheny/bench/RatingsBench$Result" = some m.cls := findClass_of_methodNamed Bd.named
  have hnm := (name_of_methodNamed Bd.named Bd.method).1
  have X0 : Stand p l e ({ frames := 2, cells := 0, slots := 0, locals := 24 } : Room) s m #[(.ref a1), (.long q2), (.long q3), (.long q4), (.long q5), (.long q6), (.long q7), (.long q8), (.long q9), (.long q10), (.long q11)] below meth c s₁ [] 0 0 := Stand.of_body Bd
  have e0 : s₁.heap = h0 := by rw [← hh, Bd.state]; rfl
  have N0 := Fr.nil n0
  have p0 : own_go p e below (s₁.setTop (entryFrame m #[(.ref a1), (.long q2), (.long q3), (.long q4), (.long q5), (.long q6), (.long q7), (.long q8), (.long q9), (.long q10), (.long q11)] 21)) (s₁.setTop (mkF m 0 #[.val (.ref a1), .val (.long q2), .second, .val (.long q3), .second, .val (.long q4), .second, .val (.long q5), .second, .val (.long q6), .second, .val (.long q7), .second, .val (.long q8), .second, .val (.long q9), .second, .val (.long q10), .second, .val (.long q11), .second] [])) := fun t k => castTop (ef_2 m a1 q2 q3 q4 q5 q6 q7 q8 q9 q10 q11) k
  obtain ⟨_, _, ⟨T1, L1, k1, n1⟩, -, X1, ⟨Lc1, hQ1, l1, y1, z1⟩, st1⟩ := X0.specialBack hx (y := (⟨"java/lang/Record", "<init>", "()V"⟩ : MethodName)) rfl hown (mvT hZ (hw _ (List.mem_of_getElem? (i := 10) rfl))) (mvT hZ (hw _ (List.mem_of_getElem? (i := 11) rfl))) (mvT hZ (hw _ (List.mem_of_getElem? (i := 14) rfl))) (by decide) (backOf (W := 0) (rm3 l Z a0 hw [] a1  h0 n0 Z0 ) hZ (hw _ (List.mem_of_getElem? (i := 14) rfl)) (hw _ (List.mem_of_getElem? (i := 13) rfl)) (by decide) (by decide)) (g := (mkF m 1 #[.val (.ref a1), .val (.long q2), .second, .val (.long q3), .second, .val (.long q4), .second, .val (.long q5), .second, .val (.long q6), .second, .val (.long q7), .second, .val (.long q8), .second, .val (.long q9), .second, .val (.long q10), .second, .val (.long q11), .second] [(.ref a1)])) rfl (by rw [hml]; rfl) (Steps.refl _) (a := a1) (argsL := []) (rest := []) (lenOf own_pd0 rfl) rfl (by show 2 * 0 + _ ≤ _; exact Nat.le_of_eq rfl) (hb hby d2_1) (fun _ _ => ⟨rfl, e0, (by decide : 0 + 0 ≤ _), (by decide : 0 + 0 ≤ _)⟩)
  dsimp only [Pt.U, Pt.locs, Pt.cells, Pt.slots] at X1 l1 y1 z1 st1 hQ1
  subst l1 y1 z1
  obtain ⟨rfl, Nq1, e1⟩ := hQ1
  have N1 := Fr.app N0 Nq1
  obtain ⟨T2, h2, X2, e2, W2, st2⟩ := putF X1 hx hZ hown (host := "") (Or.inl (hw _ (List.mem_of_getElem? (i := 18) rfl))) Via.refl e1 F_ratings E_a1 (Or.inr ⟨(hw _ (List.mem_of_getElem? (i := 19) rfl)), rfl, hnm⟩) (hw _ (List.mem_of_getElem? (i := 5) rfl)) (ty := .long) (by decide) rfl rfl (g := (mkF m 6 #[.val (.ref a1), .val (.long q2), .second, .val (.long q3), .second, .val (.long q4), .second, .val (.long q5), .second, .val (.long q6), .second, .val (.long q7), .second, .val (.long q8), .second, .val (.long q9), .second, .val (.long q10), .second, .val (.long q11), .second] [(.long q2), (.ref a1)])) rfl rfl (hb hby d2_6)
  have Z2 : n0 ≤ h2.size := Nat.le_trans Z0 (Nat.le_of_eq W2.size.symm)
  have K2 : Keep h0 h2 [a1] := (Keep.refl h0 [a1]).wr W2 (Or.inl (List.mem_of_getElem? (i := 0) rfl))
  have N2 := Fr.snoc X2 N1 g_a1
  have Fw2 := F_ratings.same W2
  have f3 := (F_committed.other W2 (Or.inr (slot_ne (Or.inr (hw _ (List.mem_of_getElem? (i := 21) rfl))) (Or.inr (hw _ (List.mem_of_getElem? (i := 19) rfl))) (by decide) (t := .long) (t' := .long) (by decide) (by decide))))
  have f4 := (E_a1.wr W2)
  obtain ⟨T5, h5, X5, e5, W5, st5⟩ := putF X2 hx hZ hown (host := "") (Or.inl (hw _ (List.mem_of_getElem? (i := 20) rfl))) Via.refl e2 f3 f4 (Or.inr ⟨(hw _ (List.mem_of_getElem? (i := 21) rfl)), rfl, hnm⟩) (hw _ (List.mem_of_getElem? (i := 5) rfl)) (ty := .long) (by decide) rfl rfl (g := (mkF m 11 #[.val (.ref a1), .val (.long q2), .second, .val (.long q3), .second, .val (.long q4), .second, .val (.long q5), .second, .val (.long q6), .second, .val (.long q7), .second, .val (.long q8), .second, .val (.long q9), .second, .val (.long q10), .second, .val (.long q11), .second] [(.long q3), (.ref a1)])) rfl rfl (hb hby d2_11)
  have Z5 : n0 ≤ h5.size := Nat.le_trans Z2 (Nat.le_of_eq W5.size.symm)
  have K5 : Keep h0 h5 [a1] := K2.wr W5 (Or.inl (List.mem_of_getElem? (i := 0) rfl))
  have N5 := Fr.snoc X5 N2 g_a1
  have Fw5 := f3.same W5
  have f6 := ((F_rejected.other W2 (Or.inr (slot_ne (Or.inr (hw _ (List.mem_of_getElem? (i := 23) rfl))) (Or.inr (hw _ (List.mem_of_getElem? (i := 19) rfl))) (by decide) (t := .long) (t' := .long) (by decide) (by decide)))).other W5 (Or.inr (slot_ne (Or.inr (hw _ (List.mem_of_getElem? (i := 23) rfl))) (Or.inr (hw _ (List.mem_of_getElem? (i := 21) rfl))) (by decide) (t := .long) (t' := .long) (by decide) (by decide))))
  have f7 := (f4.wr W5)
  obtain ⟨T8, h8, X8, e8, W8, st8⟩ := putF X5 hx hZ hown (host := "") (Or.inl (hw _ (List.mem_of_getElem? (i := 22) rfl))) Via.refl e5 f6 f7 (Or.inr ⟨(hw _ (List.mem_of_getElem? (i := 23) rfl)), rfl, hnm⟩) (hw _ (List.mem_of_getElem? (i := 5) rfl)) (ty := .long) (by decide) rfl rfl (g := (mkF m 17 #[.val (.ref a1), .val (.long q2), .second, .val (.long q3), .second, .val (.long q4), .second, .val (.long q5), .second, .val (.long q6), .second, .val (.long q7), .second, .val (.long q8), .second, .val (.long q9), .second, .val (.long q10), .second, .val (.long q11), .second] [(.long q4), (.ref a1)])) rfl rfl (hb hby d2_17)
  have Z8 : n0 ≤ h8.size := Nat.le_trans Z5 (Nat.le_of_eq W8.size.symm)
  have K8 : Keep h0 h8 [a1] := K5.wr W8 (Or.inl (List.mem_of_getElem? (i := 0) rfl))
  have N8 := Fr.snoc X8 N5 g_a1
  have Fw8 := f6.same W8
  have f9 := (((F_falseRejections.other W2 (Or.inr (slot_ne (Or.inr (hw _ (List.mem_of_getElem? (i := 25) rfl))) (Or.inr (hw _ (List.mem_of_getElem? (i := 19) rfl))) (by decide) (t := .long) (t' := .long) (by decide) (by decide)))).other W5 (Or.inr (slot_ne (Or.inr (hw _ (List.mem_of_getElem? (i := 25) rfl))) (Or.inr (hw _ (List.mem_of_getElem? (i := 21) rfl))) (by decide) (t := .long) (t' := .long) (by decide) (by decide)))).other W8 (Or.inr (slot_ne (Or.inr (hw _ (List.mem_of_getElem? (i := 25) rfl))) (Or.inr (hw _ (List.mem_of_getElem? (i := 23) rfl))) (by decide) (t := .long) (t' := .long) (by decide) (by decide))))
  have f10 := (f7.wr W8)
  obtain ⟨T11, h11, X11, e11, W11, st11⟩ := putF X8 hx hZ hown (host := "") (Or.inl (hw _ (List.mem_of_getElem? (i := 24) rfl))) Via.refl e8 f9 f10 (Or.inr ⟨(hw _ (List.mem_of_getElem? (i := 25) rfl)), rfl, hnm⟩) (hw _ (List.mem_of_getElem? (i := 5) rfl)) (ty := .long) (by decide) rfl rfl (g := (mkF m 23 #[.val (.ref a1), .val (.long q2), .second, .val (.long q3), .second, .val (.long q4), .second, .val (.long q5), .second, .val (.long q6), .second, .val (.long q7), .second, .val (.long q8), .second, .val (.long q9), .second, .val (.long q10), .second, .val (.long q11), .second] [(.long q5), (.ref a1)])) rfl rfl (hb hby d2_23)
  have Z11 : n0 ≤ h11.size := Nat.le_trans Z8 (Nat.le_of_eq W11.size.symm)
  have K11 : Keep h0 h11 [a1] := K8.wr W11 (Or.inl (List.mem_of_getElem? (i := 0) rfl))
  have N11 := Fr.snoc X11 N8 g_a1
  have Fw11 := f9.same W11
  have go12 : own_go p e below (s₁.setTop (entryFrame m #[(.ref a1), (.long q2), (.long q3), (.long q4), (.long q5), (.long q6), (.long q7), (.long q8), (.long q9), (.long q10), (.long q11)] 21)) (T11.setTop (mkF m 27 #[.val (.ref a1), .val (.long q2), .second, .val (.long q3), .second, .val (.long q4), .second, .val (.long q5), .second, .val (.long q6), .second, .val (.long q7), .second, .val (.long q8), .second, .val (.long q9), .second, .val (.long q10), .second, .val (.long q11), .second] [(.ref a1)])) := by
    intro t kt
    refine p0 t ?_
    show Steps p.tables e below (s₁.setTop (mkF m 0 #[.val (.ref a1), .val (.long q2), .second, .val (.long q3), .second, .val (.long q4), .second, .val (.long q5), .second, .val (.long q6), .second, .val (.long q7), .second, .val (.long q8), .second, .val (.long q9), .second, .val (.long q10), .second, .val (.long q11), .second] [])) _
    refine XS.aloadN X0.here hx rfl (hb hby d2_0) rfl rfl ?_
    show Steps p.tables e below (s₁.setTop (mkF m 1 #[.val (.ref a1), .val (.long q2), .second, .val (.long q3), .second, .val (.long q4), .second, .val (.long q5), .second, .val (.long q6), .second, .val (.long q7), .second, .val (.long q8), .second, .val (.long q9), .second, .val (.long q10), .second, .val (.long q11), .second] [(.ref a1)])) _
    refine st1.trans ?_
    show Steps p.tables e below (T1.setTop (mkF m 4 #[.val (.ref a1), .val (.long q2), .second, .val (.long q3), .second, .val (.long q4), .second, .val (.long q5), .second, .val (.long q6), .second, .val (.long q7), .second, .val (.long q8), .second, .val (.long q9), .second, .val (.long q10), .second, .val (.long q11), .second] [])) _
    refine XS.aloadN X1.here hx rfl (hb hby d2_4) rfl rfl ?_
    show Steps p.tables e below (T1.setTop (mkF m 5 #[.val (.ref a1), .val (.long q2), .second, .val (.long q3), .second, .val (.long q4), .second, .val (.long q5), .second, .val (.long q6), .second, .val (.long q7), .second, .val (.long q8), .second, .val (.long q9), .second, .val (.long q10), .second, .val (.long q11), .second] [(.ref a1)])) _
    refine XS.lloadN X1.here hx rfl (hb hby d2_5) rfl ?_
    show Steps p.tables e below (T1.setTop (mkF m 6 #[.val (.ref a1), .val (.long q2), .second, .val (.long q3), .second, .val (.long q4), .second, .val (.long q5), .second, .val (.long q6), .second, .val (.long q7), .second, .val (.long q8), .second, .val (.long q9), .second, .val (.long q10), .second, .val (.long q11), .second] [(.long q2), (.ref a1)])) _
    refine st2 _ ?_
    show Steps p.tables e below (T2.setTop (mkF m 9 #[.val (.ref a1), .val (.long q2), .second, .val (.long q3), .second, .val (.long q4), .second, .val (.long q5), .second, .val (.long q6), .second, .val (.long q7), .second, .val (.long q8), .second, .val (.long q9), .second, .val (.long q10), .second, .val (.long q11), .second] [])) _
    refine XS.aloadN X2.here hx rfl (hb hby d2_9) rfl rfl ?_
    show Steps p.tables e below (T2.setTop (mkF m 10 #[.val (.ref a1), .val (.long q2), .second, .val (.long q3), .second, .val (.long q4), .second, .val (.long q5), .second, .val (.long q6), .second, .val (.long q7), .second, .val (.long q8), .second, .val (.long q9), .second, .val (.long q10), .second, .val (.long q11), .second] [(.ref a1)])) _
    refine XS.lloadN X2.here hx rfl (hb hby d2_10) rfl ?_
    show Steps p.tables e below (T2.setTop (mkF m 11 #[.val (.ref a1), .val (.long q2), .second, .val (.long q3), .second, .val (.long q4), .second, .val (.long q5), .second, .val (.long q6), .second, .val (.long q7), .second, .val (.long q8), .second, .val (.long q9), .second, .val (.long q10), .second, .val (.long q11), .second] [(.long q3), (.ref a1)])) _
    refine st5 _ ?_
    show Steps p.tables e below (T5.setTop (mkF m 14 #[.val (.ref a1), .val (.long q2), .second, .val (.long q3), .second, .val (.long q4), .second, .val (.long q5), .second, .val (.long q6), .second, .val (.long q7), .second, .val (.long q8), .second, .val (.long q9), .second, .val (.long q10), .second, .val (.long q11), .second] [])) _
    refine XS.aloadN X5.here hx rfl (hb hby d2_14) rfl rfl ?_
    show Steps p.tables e below (T5.setTop (mkF m 15 #[.val (.ref a1), .val (.long q2), .second, .val (.long q3), .second, .val (.long q4), .second, .val (.long q5), .second, .val (.long q6), .second, .val (.long q7), .second, .val (.long q8), .second, .val (.long q9), .second, .val (.long q10), .second, .val (.long q11), .second] [(.ref a1)])) _
    refine XS.lload X5.here hx rfl (hb hby d2_15) rfl ?_
    show Steps p.tables e below (T5.setTop (mkF m 17 #[.val (.ref a1), .val (.long q2), .second, .val (.long q3), .second, .val (.long q4), .second, .val (.long q5), .second, .val (.long q6), .second, .val (.long q7), .second, .val (.long q8), .second, .val (.long q9), .second, .val (.long q10), .second, .val (.long q11), .second] [(.long q4), (.ref a1)])) _
    refine st8 _ ?_
    show Steps p.tables e below (T8.setTop (mkF m 20 #[.val (.ref a1), .val (.long q2), .second, .val (.long q3), .second, .val (.long q4), .second, .val (.long q5), .second, .val (.long q6), .second, .val (.long q7), .second, .val (.long q8), .second, .val (.long q9), .second, .val (.long q10), .second, .val (.long q11), .second] [])) _
    refine XS.aloadN X8.here hx rfl (hb hby d2_20) rfl rfl ?_
    show Steps p.tables e below (T8.setTop (mkF m 21 #[.val (.ref a1), .val (.long q2), .second, .val (.long q3), .second, .val (.long q4), .second, .val (.long q5), .second, .val (.long q6), .second, .val (.long q7), .second, .val (.long q8), .second, .val (.long q9), .second, .val (.long q10), .second, .val (.long q11), .second] [(.ref a1)])) _
    refine XS.lload X8.here hx rfl (hb hby d2_21) rfl ?_
    show Steps p.tables e below (T8.setTop (mkF m 23 #[.val (.ref a1), .val (.long q2), .second, .val (.long q3), .second, .val (.long q4), .second, .val (.long q5), .second, .val (.long q6), .second, .val (.long q7), .second, .val (.long q8), .second, .val (.long q9), .second, .val (.long q10), .second, .val (.long q11), .second] [(.long q5), (.ref a1)])) _
    refine st11 _ ?_
    show Steps p.tables e below (T11.setTop (mkF m 26 #[.val (.ref a1), .val (.long q2), .second, .val (.long q3), .second, .val (.long q4), .second, .val (.long q5), .second, .val (.long q6), .second, .val (.long q7), .second, .val (.long q8), .second, .val (.long q9), .second, .val (.long q10), .second, .val (.long q11), .second] [])) _
    refine XS.aloadN X11.here hx rfl (hb hby d2_26) rfl rfl ?_
    exact kt
  have f13 := ((((F_staleCommits.other W2 (Or.inr (slot_ne (Or.inr (hw _ (List.mem_of_getElem? (i := 27) rfl))) (Or.inr (hw _ (List.mem_of_getElem? (i := 19) rfl))) (by decide) (t := .long) (t' := .long) (by decide) (by decide)))).other W5 (Or.inr (slot_ne (Or.inr (hw _ (List.mem_of_getElem? (i := 27) rfl))) (Or.inr (hw _ (List.mem_of_getElem? (i := 21) rfl))) (by decide) (t := .long) (t' := .long) (by decide) (by decide)))).other W8 (Or.inr (slot_ne (Or.inr (hw _ (List.mem_of_getElem? (i := 27) rfl))) (Or.inr (hw _ (List.mem_of_getElem? (i := 23) rfl))) (by decide) (t := .long) (t' := .long) (by decide) (by decide)))).other W11 (Or.inr (slot_ne (Or.inr (hw _ (List.mem_of_getElem? (i := 27) rfl))) (Or.inr (hw _ (List.mem_of_getElem? (i := 25) rfl))) (by decide) (t := .long) (t' := .long) (by decide) (by decide))))
  have f14 := (f10.wr W11)
  obtain ⟨T15, h15, X15, e15, W15, st15⟩ := putF X11 hx hZ hown (host := "") (Or.inl (hw _ (List.mem_of_getElem? (i := 26) rfl))) Via.refl e11 f13 f14 (Or.inr ⟨(hw _ (List.mem_of_getElem? (i := 27) rfl)), rfl, hnm⟩) (hw _ (List.mem_of_getElem? (i := 5) rfl)) (ty := .long) (by decide) rfl rfl (g := (mkF m 29 #[.val (.ref a1), .val (.long q2), .second, .val (.long q3), .second, .val (.long q4), .second, .val (.long q5), .second, .val (.long q6), .second, .val (.long q7), .second, .val (.long q8), .second, .val (.long q9), .second, .val (.long q10), .second, .val (.long q11), .second] [(.long q6), (.ref a1)])) rfl rfl (hb hby d2_29)
  have Z15 : n0 ≤ h15.size := Nat.le_trans Z11 (Nat.le_of_eq W15.size.symm)
  have K15 : Keep h0 h15 [a1] := K11.wr W15 (Or.inl (List.mem_of_getElem? (i := 0) rfl))
  have N15 := Fr.snoc X15 N11 g_a1
  have Fw15 := f13.same W15
  have f16 := (((((F_sumMismatches.other W2 (Or.inr (slot_ne (Or.inr (hw _ (List.mem_of_getElem? (i := 29) rfl))) (Or.inr (hw _ (List.mem_of_getElem? (i := 19) rfl))) (by decide) (t := .long) (t' := .long) (by decide) (by decide)))).other W5 (Or.inr (slot_ne (Or.inr (hw _ (List.mem_of_getElem? (i := 29) rfl))) (Or.inr (hw _ (List.mem_of_getElem? (i := 21) rfl))) (by decide) (t := .long) (t' := .long) (by decide) (by decide)))).other W8 (Or.inr (slot_ne (Or.inr (hw _ (List.mem_of_getElem? (i := 29) rfl))) (Or.inr (hw _ (List.mem_of_getElem? (i := 23) rfl))) (by decide) (t := .long) (t' := .long) (by decide) (by decide)))).other W11 (Or.inr (slot_ne (Or.inr (hw _ (List.mem_of_getElem? (i := 29) rfl))) (Or.inr (hw _ (List.mem_of_getElem? (i := 25) rfl))) (by decide) (t := .long) (t' := .long) (by decide) (by decide)))).other W15 (Or.inr (slot_ne (Or.inr (hw _ (List.mem_of_getElem? (i := 29) rfl))) (Or.inr (hw _ (List.mem_of_getElem? (i := 27) rfl))) (by decide) (t := .long) (t' := .long) (by decide) (by decide))))
  have f17 := (f14.wr W15)
  obtain ⟨T18, h18, X18, e18, W18, st18⟩ := putF X15 hx hZ hown (host := "") (Or.inl (hw _ (List.mem_of_getElem? (i := 28) rfl))) Via.refl e15 f16 f17 (Or.inr ⟨(hw _ (List.mem_of_getElem? (i := 29) rfl)), rfl, hnm⟩) (hw _ (List.mem_of_getElem? (i := 5) rfl)) (ty := .long) (by decide) rfl rfl (g := (mkF m 35 #[.val (.ref a1), .val (.long q2), .second, .val (.long q3), .second, .val (.long q4), .second, .val (.long q5), .second, .val (.long q6), .second, .val (.long q7), .second, .val (.long q8), .second, .val (.long q9), .second, .val (.long q10), .second, .val (.long q11), .second] [(.long q7), (.ref a1)])) rfl rfl (hb hby d2_35)
  have Z18 : n0 ≤ h18.size := Nat.le_trans Z15 (Nat.le_of_eq W18.size.symm)
  have K18 : Keep h0 h18 [a1] := K15.wr W18 (Or.inl (List.mem_of_getElem? (i := 0) rfl))
  have N18 := Fr.snoc X18 N15 g_a1
  have Fw18 := f16.same W18
  have f19 := ((((((F_members.other W2 (Or.inr (slot_ne (Or.inr (hw _ (List.mem_of_getElem? (i := 31) rfl))) (Or.inr (hw _ (List.mem_of_getElem? (i := 19) rfl))) (by decide) (t := .long) (t' := .long) (by decide) (by decide)))).other W5 (Or.inr (slot_ne (Or.inr (hw _ (List.mem_of_getElem? (i := 31) rfl))) (Or.inr (hw _ (List.mem_of_getElem? (i := 21) rfl))) (by decide) (t := .long) (t' := .long) (by decide) (by decide)))).other W8 (Or.inr (slot_ne (Or.inr (hw _ (List.mem_of_getElem? (i := 31) rfl))) (Or.inr (hw _ (List.mem_of_getElem? (i := 23) rfl))) (by decide) (t := .long) (t' := .long) (by decide) (by decide)))).other W11 (Or.inr (slot_ne (Or.inr (hw _ (List.mem_of_getElem? (i := 31) rfl))) (Or.inr (hw _ (List.mem_of_getElem? (i := 25) rfl))) (by decide) (t := .long) (t' := .long) (by decide) (by decide)))).other W15 (Or.inr (slot_ne (Or.inr (hw _ (List.mem_of_getElem? (i := 31) rfl))) (Or.inr (hw _ (List.mem_of_getElem? (i := 27) rfl))) (by decide) (t := .long) (t' := .long) (by decide) (by decide)))).other W18 (Or.inr (slot_ne (Or.inr (hw _ (List.mem_of_getElem? (i := 31) rfl))) (Or.inr (hw _ (List.mem_of_getElem? (i := 29) rfl))) (by decide) (t := .long) (t' := .long) (by decide) (by decide))))
  have f20 := (f17.wr W18)
  obtain ⟨T21, h21, X21, e21, W21, st21⟩ := putF X18 hx hZ hown (host := "") (Or.inl (hw _ (List.mem_of_getElem? (i := 30) rfl))) Via.refl e18 f19 f20 (Or.inr ⟨(hw _ (List.mem_of_getElem? (i := 31) rfl)), rfl, hnm⟩) (hw _ (List.mem_of_getElem? (i := 5) rfl)) (ty := .long) (by decide) rfl rfl (g := (mkF m 41 #[.val (.ref a1), .val (.long q2), .second, .val (.long q3), .second, .val (.long q4), .second, .val (.long q5), .second, .val (.long q6), .second, .val (.long q7), .second, .val (.long q8), .second, .val (.long q9), .second, .val (.long q10), .second, .val (.long q11), .second] [(.long q8), (.ref a1)])) rfl rfl (hb hby d2_41)
  have Z21 : n0 ≤ h21.size := Nat.le_trans Z18 (Nat.le_of_eq W21.size.symm)
  have K21 : Keep h0 h21 [a1] := K18.wr W21 (Or.inl (List.mem_of_getElem? (i := 0) rfl))
  have N21 := Fr.snoc X21 N18 g_a1
  have Fw21 := f19.same W21
  have f22 := (((((((F_commitsPerSecond.other W2 (Or.inr (slot_ne (Or.inr (hw _ (List.mem_of_getElem? (i := 33) rfl))) (Or.inr (hw _ (List.mem_of_getElem? (i := 19) rfl))) (by decide) (t := .long) (t' := .long) (by decide) (by decide)))).other W5 (Or.inr (slot_ne (Or.inr (hw _ (List.mem_of_getElem? (i := 33) rfl))) (Or.inr (hw _ (List.mem_of_getElem? (i := 21) rfl))) (by decide) (t := .long) (t' := .long) (by decide) (by decide)))).other W8 (Or.inr (slot_ne (Or.inr (hw _ (List.mem_of_getElem? (i := 33) rfl))) (Or.inr (hw _ (List.mem_of_getElem? (i := 23) rfl))) (by decide) (t := .long) (t' := .long) (by decide) (by decide)))).other W11 (Or.inr (slot_ne (Or.inr (hw _ (List.mem_of_getElem? (i := 33) rfl))) (Or.inr (hw _ (List.mem_of_getElem? (i := 25) rfl))) (by decide) (t := .long) (t' := .long) (by decide) (by decide)))).other W15 (Or.inr (slot_ne (Or.inr (hw _ (List.mem_of_getElem? (i := 33) rfl))) (Or.inr (hw _ (List.mem_of_getElem? (i := 27) rfl))) (by decide) (t := .long) (t' := .long) (by decide) (by decide)))).other W18 (Or.inr (slot_ne (Or.inr (hw _ (List.mem_of_getElem? (i := 33) rfl))) (Or.inr (hw _ (List.mem_of_getElem? (i := 29) rfl))) (by decide) (t := .long) (t' := .long) (by decide) (by decide)))).other W21 (Or.inr (slot_ne (Or.inr (hw _ (List.mem_of_getElem? (i := 33) rfl))) (Or.inr (hw _ (List.mem_of_getElem? (i := 31) rfl))) (by decide) (t := .long) (t' := .long) (by decide) (by decide))))
  have f23 := (f20.wr W21)
  obtain ⟨T24, h24, X24, e24, W24, st24⟩ := putF X21 hx hZ hown (host := "") (Or.inl (hw _ (List.mem_of_getElem? (i := 32) rfl))) Via.refl e21 f22 f23 (Or.inr ⟨(hw _ (List.mem_of_getElem? (i := 33) rfl)), rfl, hnm⟩) (hw _ (List.mem_of_getElem? (i := 5) rfl)) (ty := .long) (by decide) rfl rfl (g := (mkF m 47 #[.val (.ref a1), .val (.long q2), .second, .val (.long q3), .second, .val (.long q4), .second, .val (.long q5), .second, .val (.long q6), .second, .val (.long q7), .second, .val (.long q8), .second, .val (.long q9), .second, .val (.long q10), .second, .val (.long q11), .second] [(.long q9), (.ref a1)])) rfl rfl (hb hby d2_47)
  have Z24 : n0 ≤ h24.size := Nat.le_trans Z21 (Nat.le_of_eq W24.size.symm)
  have K24 : Keep h0 h24 [a1] := K21.wr W24 (Or.inl (List.mem_of_getElem? (i := 0) rfl))
  have N24 := Fr.snoc X24 N21 g_a1
  have Fw24 := f22.same W24
  have f25 := ((((((((F_p50Nanos.other W2 (Or.inr (slot_ne (Or.inr (hw _ (List.mem_of_getElem? (i := 35) rfl))) (Or.inr (hw _ (List.mem_of_getElem? (i := 19) rfl))) (by decide) (t := .long) (t' := .long) (by decide) (by decide)))).other W5 (Or.inr (slot_ne (Or.inr (hw _ (List.mem_of_getElem? (i := 35) rfl))) (Or.inr (hw _ (List.mem_of_getElem? (i := 21) rfl))) (by decide) (t := .long) (t' := .long) (by decide) (by decide)))).other W8 (Or.inr (slot_ne (Or.inr (hw _ (List.mem_of_getElem? (i := 35) rfl))) (Or.inr (hw _ (List.mem_of_getElem? (i := 23) rfl))) (by decide) (t := .long) (t' := .long) (by decide) (by decide)))).other W11 (Or.inr (slot_ne (Or.inr (hw _ (List.mem_of_getElem? (i := 35) rfl))) (Or.inr (hw _ (List.mem_of_getElem? (i := 25) rfl))) (by decide) (t := .long) (t' := .long) (by decide) (by decide)))).other W15 (Or.inr (slot_ne (Or.inr (hw _ (List.mem_of_getElem? (i := 35) rfl))) (Or.inr (hw _ (List.mem_of_getElem? (i := 27) rfl))) (by decide) (t := .long) (t' := .long) (by decide) (by decide)))).other W18 (Or.inr (slot_ne (Or.inr (hw _ (List.mem_of_getElem? (i := 35) rfl))) (Or.inr (hw _ (List.mem_of_getElem? (i := 29) rfl))) (by decide) (t := .long) (t' := .long) (by decide) (by decide)))).other W21 (Or.inr (slot_ne (Or.inr (hw _ (List.mem_of_getElem? (i := 35) rfl))) (Or.inr (hw _ (List.mem_of_getElem? (i := 31) rfl))) (by decide) (t := .long) (t' := .long) (by decide) (by decide)))).other W24 (Or.inr (slot_ne (Or.inr (hw _ (List.mem_of_getElem? (i := 35) rfl))) (Or.inr (hw _ (List.mem_of_getElem? (i := 33) rfl))) (by decide) (t := .long) (t' := .long) (by decide) (by decide))))
  have f26 := (f23.wr W24)
  obtain ⟨T27, h27, X27, e27, W27, st27⟩ := putF X24 hx hZ hown (host := "") (Or.inl (hw _ (List.mem_of_getElem? (i := 34) rfl))) Via.refl e24 f25 f26 (Or.inr ⟨(hw _ (List.mem_of_getElem? (i := 35) rfl)), rfl, hnm⟩) (hw _ (List.mem_of_getElem? (i := 5) rfl)) (ty := .long) (by decide) rfl rfl (g := (mkF m 53 #[.val (.ref a1), .val (.long q2), .second, .val (.long q3), .second, .val (.long q4), .second, .val (.long q5), .second, .val (.long q6), .second, .val (.long q7), .second, .val (.long q8), .second, .val (.long q9), .second, .val (.long q10), .second, .val (.long q11), .second] [(.long q10), (.ref a1)])) rfl rfl (hb hby d2_53)
  have Z27 : n0 ≤ h27.size := Nat.le_trans Z24 (Nat.le_of_eq W27.size.symm)
  have K27 : Keep h0 h27 [a1] := K24.wr W27 (Or.inl (List.mem_of_getElem? (i := 0) rfl))
  have N27 := Fr.snoc X27 N24 g_a1
  have Fw27 := f25.same W27
  have go28 : own_go p e below (s₁.setTop (entryFrame m #[(.ref a1), (.long q2), (.long q3), (.long q4), (.long q5), (.long q6), (.long q7), (.long q8), (.long q9), (.long q10), (.long q11)] 21)) (T27.setTop (mkF m 57 #[.val (.ref a1), .val (.long q2), .second, .val (.long q3), .second, .val (.long q4), .second, .val (.long q5), .second, .val (.long q6), .second, .val (.long q7), .second, .val (.long q8), .second, .val (.long q9), .second, .val (.long q10), .second, .val (.long q11), .second] [(.ref a1)])) := by
    intro t kt
    refine go12 t ?_
    show Steps p.tables e below (T11.setTop (mkF m 27 #[.val (.ref a1), .val (.long q2), .second, .val (.long q3), .second, .val (.long q4), .second, .val (.long q5), .second, .val (.long q6), .second, .val (.long q7), .second, .val (.long q8), .second, .val (.long q9), .second, .val (.long q10), .second, .val (.long q11), .second] [(.ref a1)])) _
    refine XS.lload X11.here hx rfl (hb hby d2_27) rfl ?_
    show Steps p.tables e below (T11.setTop (mkF m 29 #[.val (.ref a1), .val (.long q2), .second, .val (.long q3), .second, .val (.long q4), .second, .val (.long q5), .second, .val (.long q6), .second, .val (.long q7), .second, .val (.long q8), .second, .val (.long q9), .second, .val (.long q10), .second, .val (.long q11), .second] [(.long q6), (.ref a1)])) _
    refine st15 _ ?_
    show Steps p.tables e below (T15.setTop (mkF m 32 #[.val (.ref a1), .val (.long q2), .second, .val (.long q3), .second, .val (.long q4), .second, .val (.long q5), .second, .val (.long q6), .second, .val (.long q7), .second, .val (.long q8), .second, .val (.long q9), .second, .val (.long q10), .second, .val (.long q11), .second] [])) _
    refine XS.aloadN X15.here hx rfl (hb hby d2_32) rfl rfl ?_
    show Steps p.tables e below (T15.setTop (mkF m 33 #[.val (.ref a1), .val (.long q2), .second, .val (.long q3), .second, .val (.long q4), .second, .val (.long q5), .second, .val (.long q6), .second, .val (.long q7), .second, .val (.long q8), .second, .val (.long q9), .second, .val (.long q10), .second, .val (.long q11), .second] [(.ref a1)])) _
    refine XS.lload X15.here hx rfl (hb hby d2_33) rfl ?_
    show Steps p.tables e below (T15.setTop (mkF m 35 #[.val (.ref a1), .val (.long q2), .second, .val (.long q3), .second, .val (.long q4), .second, .val (.long q5), .second, .val (.long q6), .second, .val (.long q7), .second, .val (.long q8), .second, .val (.long q9), .second, .val (.long q10), .second, .val (.long q11), .second] [(.long q7), (.ref a1)])) _
    refine st18 _ ?_
    show Steps p.tables e below (T18.setTop (mkF m 38 #[.val (.ref a1), .val (.long q2), .second, .val (.long q3), .second, .val (.long q4), .second, .val (.long q5), .second, .val (.long q6), .second, .val (.long q7), .second, .val (.long q8), .second, .val (.long q9), .second, .val (.long q10), .second, .val (.long q11), .second] [])) _
    refine XS.aloadN X18.here hx rfl (hb hby d2_38) rfl rfl ?_
    show Steps p.tables e below (T18.setTop (mkF m 39 #[.val (.ref a1), .val (.long q2), .second, .val (.long q3), .second, .val (.long q4), .second, .val (.long q5), .second, .val (.long q6), .second, .val (.long q7), .second, .val (.long q8), .second, .val (.long q9), .second, .val (.long q10), .second, .val (.long q11), .second] [(.ref a1)])) _
    refine XS.lload X18.here hx rfl (hb hby d2_39) rfl ?_
    show Steps p.tables e below (T18.setTop (mkF m 41 #[.val (.ref a1), .val (.long q2), .second, .val (.long q3), .second, .val (.long q4), .second, .val (.long q5), .second, .val (.long q6), .second, .val (.long q7), .second, .val (.long q8), .second, .val (.long q9), .second, .val (.long q10), .second, .val (.long q11), .second] [(.long q8), (.ref a1)])) _
    refine st21 _ ?_
    show Steps p.tables e below (T21.setTop (mkF m 44 #[.val (.ref a1), .val (.long q2), .second, .val (.long q3), .second, .val (.long q4), .second, .val (.long q5), .second, .val (.long q6), .second, .val (.long q7), .second, .val (.long q8), .second, .val (.long q9), .second, .val (.long q10), .second, .val (.long q11), .second] [])) _
    refine XS.aloadN X21.here hx rfl (hb hby d2_44) rfl rfl ?_
    show Steps p.tables e below (T21.setTop (mkF m 45 #[.val (.ref a1), .val (.long q2), .second, .val (.long q3), .second, .val (.long q4), .second, .val (.long q5), .second, .val (.long q6), .second, .val (.long q7), .second, .val (.long q8), .second, .val (.long q9), .second, .val (.long q10), .second, .val (.long q11), .second] [(.ref a1)])) _
    refine XS.lload X21.here hx rfl (hb hby d2_45) rfl ?_
    show Steps p.tables e below (T21.setTop (mkF m 47 #[.val (.ref a1), .val (.long q2), .second, .val (.long q3), .second, .val (.long q4), .second, .val (.long q5), .second, .val (.long q6), .second, .val (.long q7), .second, .val (.long q8), .second, .val (.long q9), .second, .val (.long q10), .second, .val (.long q11), .second] [(.long q9), (.ref a1)])) _
    refine st24 _ ?_
    show Steps p.tables e below (T24.setTop (mkF m 50 #[.val (.ref a1), .val (.long q2), .second, .val (.long q3), .second, .val (.long q4), .second, .val (.long q5), .second, .val (.long q6), .second, .val (.long q7), .second, .val (.long q8), .second, .val (.long q9), .second, .val (.long q10), .second, .val (.long q11), .second] [])) _
    refine XS.aloadN X24.here hx rfl (hb hby d2_50) rfl rfl ?_
    show Steps p.tables e below (T24.setTop (mkF m 51 #[.val (.ref a1), .val (.long q2), .second, .val (.long q3), .second, .val (.long q4), .second, .val (.long q5), .second, .val (.long q6), .second, .val (.long q7), .second, .val (.long q8), .second, .val (.long q9), .second, .val (.long q10), .second, .val (.long q11), .second] [(.ref a1)])) _
    refine XS.lload X24.here hx rfl (hb hby d2_51) rfl ?_
    show Steps p.tables e below (T24.setTop (mkF m 53 #[.val (.ref a1), .val (.long q2), .second, .val (.long q3), .second, .val (.long q4), .second, .val (.long q5), .second, .val (.long q6), .second, .val (.long q7), .second, .val (.long q8), .second, .val (.long q9), .second, .val (.long q10), .second, .val (.long q11), .second] [(.long q10), (.ref a1)])) _
    refine st27 _ ?_
    show Steps p.tables e below (T27.setTop (mkF m 56 #[.val (.ref a1), .val (.long q2), .second, .val (.long q3), .second, .val (.long q4), .second, .val (.long q5), .second, .val (.long q6), .second, .val (.long q7), .second, .val (.long q8), .second, .val (.long q9), .second, .val (.long q10), .second, .val (.long q11), .second] [])) _
    refine XS.aloadN X27.here hx rfl (hb hby d2_56) rfl rfl ?_
    exact kt
  have f29 := (((((((((F_p99Nanos.other W2 (Or.inr (slot_ne (Or.inr (hw _ (List.mem_of_getElem? (i := 37) rfl))) (Or.inr (hw _ (List.mem_of_getElem? (i := 19) rfl))) (by decide) (t := .long) (t' := .long) (by decide) (by decide)))).other W5 (Or.inr (slot_ne (Or.inr (hw _ (List.mem_of_getElem? (i := 37) rfl))) (Or.inr (hw _ (List.mem_of_getElem? (i := 21) rfl))) (by decide) (t := .long) (t' := .long) (by decide) (by decide)))).other W8 (Or.inr (slot_ne (Or.inr (hw _ (List.mem_of_getElem? (i := 37) rfl))) (Or.inr (hw _ (List.mem_of_getElem? (i := 23) rfl))) (by decide) (t := .long) (t' := .long) (by decide) (by decide)))).other W11 (Or.inr (slot_ne (Or.inr (hw _ (List.mem_of_getElem? (i := 37) rfl))) (Or.inr (hw _ (List.mem_of_getElem? (i := 25) rfl))) (by decide) (t := .long) (t' := .long) (by decide) (by decide)))).other W15 (Or.inr (slot_ne (Or.inr (hw _ (List.mem_of_getElem? (i := 37) rfl))) (Or.inr (hw _ (List.mem_of_getElem? (i := 27) rfl))) (by decide) (t := .long) (t' := .long) (by decide) (by decide)))).other W18 (Or.inr (slot_ne (Or.inr (hw _ (List.mem_of_getElem? (i := 37) rfl))) (Or.inr (hw _ (List.mem_of_getElem? (i := 29) rfl))) (by decide) (t := .long) (t' := .long) (by decide) (by decide)))).other W21 (Or.inr (slot_ne (Or.inr (hw _ (List.mem_of_getElem? (i := 37) rfl))) (Or.inr (hw _ (List.mem_of_getElem? (i := 31) rfl))) (by decide) (t := .long) (t' := .long) (by decide) (by decide)))).other W24 (Or.inr (slot_ne (Or.inr (hw _ (List.mem_of_getElem? (i := 37) rfl))) (Or.inr (hw _ (List.mem_of_getElem? (i := 33) rfl))) (by decide) (t := .long) (t' := .long) (by decide) (by decide)))).other W27 (Or.inr (slot_ne (Or.inr (hw _ (List.mem_of_getElem? (i := 37) rfl))) (Or.inr (hw _ (List.mem_of_getElem? (i := 35) rfl))) (by decide) (t := .long) (t' := .long) (by decide) (by decide))))
  have f30 := (f26.wr W27)
  obtain ⟨T31, h31, X31, e31, W31, st31⟩ := putF X27 hx hZ hown (host := "") (Or.inl (hw _ (List.mem_of_getElem? (i := 36) rfl))) Via.refl e27 f29 f30 (Or.inr ⟨(hw _ (List.mem_of_getElem? (i := 37) rfl)), rfl, hnm⟩) (hw _ (List.mem_of_getElem? (i := 5) rfl)) (ty := .long) (by decide) rfl rfl (g := (mkF m 59 #[.val (.ref a1), .val (.long q2), .second, .val (.long q3), .second, .val (.long q4), .second, .val (.long q5), .second, .val (.long q6), .second, .val (.long q7), .second, .val (.long q8), .second, .val (.long q9), .second, .val (.long q10), .second, .val (.long q11), .second] [(.long q11), (.ref a1)])) rfl rfl (hb hby d2_59)
  have Z31 : n0 ≤ h31.size := Nat.le_trans Z27 (Nat.le_of_eq W31.size.symm)
  have K31 : Keep h0 h31 [a1] := K27.wr W31 (Or.inl (List.mem_of_getElem? (i := 0) rfl))
  have N31 := Fr.snoc X31 N27 g_a1
  have Fw31 := f29.same W31
  have go32 : own_go p e below (s₁.setTop (entryFrame m #[(.ref a1), (.long q2), (.long q3), (.long q4), (.long q5), (.long q6), (.long q7), (.long q8), (.long q9), (.long q10), (.long q11)] 21)) (T31.setTop (mkF m 62 #[.val (.ref a1), .val (.long q2), .second, .val (.long q3), .second, .val (.long q4), .second, .val (.long q5), .second, .val (.long q6), .second, .val (.long q7), .second, .val (.long q8), .second, .val (.long q9), .second, .val (.long q10), .second, .val (.long q11), .second] [])) := by
    intro t kt
    refine go28 t ?_
    show Steps p.tables e below (T27.setTop (mkF m 57 #[.val (.ref a1), .val (.long q2), .second, .val (.long q3), .second, .val (.long q4), .second, .val (.long q5), .second, .val (.long q6), .second, .val (.long q7), .second, .val (.long q8), .second, .val (.long q9), .second, .val (.long q10), .second, .val (.long q11), .second] [(.ref a1)])) _
    refine XS.lload X27.here hx rfl (hb hby d2_57) rfl ?_
    show Steps p.tables e below (T27.setTop (mkF m 59 #[.val (.ref a1), .val (.long q2), .second, .val (.long q3), .second, .val (.long q4), .second, .val (.long q5), .second, .val (.long q6), .second, .val (.long q7), .second, .val (.long q8), .second, .val (.long q9), .second, .val (.long q10), .second, .val (.long q11), .second] [(.long q11), (.ref a1)])) _
    refine st31 _ ?_
    exact kt
  obtain ⟨fs, hr, hrun, hended, hW, hsame⟩ := X31.leave (v := none) (fun _ => rfl)
  refine ⟨_, _, go32 _ ?_, hrun, hended, _, _, rfl, ?_, ⟨_, rfl⟩, hW, hsame.mono (by decide) (by decide)⟩
  · exact X31.returnOut hx Bd.returns (hb hby d2_62) hr
  · show Q2 Z a1 q2 q3 q4 q5 q6 q7 q8 q9 q10 q11 h0 n0 _ T31.heap _
    rw [e31]
    have f33 := (f30.wr W31)
    have f34 := (((((((((Fw2.other W5 (Or.inr (slot_ne (Or.inr (hw _ (List.mem_of_getElem? (i := 19) rfl))) (Or.inr (hw _ (List.mem_of_getElem? (i := 21) rfl))) (by decide) (t := .long) (t' := .long) (by decide) (by decide)))).other W8 (Or.inr (slot_ne (Or.inr (hw _ (List.mem_of_getElem? (i := 19) rfl))) (Or.inr (hw _ (List.mem_of_getElem? (i := 23) rfl))) (by decide) (t := .long) (t' := .long) (by decide) (by decide)))).other W11 (Or.inr (slot_ne (Or.inr (hw _ (List.mem_of_getElem? (i := 19) rfl))) (Or.inr (hw _ (List.mem_of_getElem? (i := 25) rfl))) (by decide) (t := .long) (t' := .long) (by decide) (by decide)))).other W15 (Or.inr (slot_ne (Or.inr (hw _ (List.mem_of_getElem? (i := 19) rfl))) (Or.inr (hw _ (List.mem_of_getElem? (i := 27) rfl))) (by decide) (t := .long) (t' := .long) (by decide) (by decide)))).other W18 (Or.inr (slot_ne (Or.inr (hw _ (List.mem_of_getElem? (i := 19) rfl))) (Or.inr (hw _ (List.mem_of_getElem? (i := 29) rfl))) (by decide) (t := .long) (t' := .long) (by decide) (by decide)))).other W21 (Or.inr (slot_ne (Or.inr (hw _ (List.mem_of_getElem? (i := 19) rfl))) (Or.inr (hw _ (List.mem_of_getElem? (i := 31) rfl))) (by decide) (t := .long) (t' := .long) (by decide) (by decide)))).other W24 (Or.inr (slot_ne (Or.inr (hw _ (List.mem_of_getElem? (i := 19) rfl))) (Or.inr (hw _ (List.mem_of_getElem? (i := 33) rfl))) (by decide) (t := .long) (t' := .long) (by decide) (by decide)))).other W27 (Or.inr (slot_ne (Or.inr (hw _ (List.mem_of_getElem? (i := 19) rfl))) (Or.inr (hw _ (List.mem_of_getElem? (i := 35) rfl))) (by decide) (t := .long) (t' := .long) (by decide) (by decide)))).other W31 (Or.inr (slot_ne (Or.inr (hw _ (List.mem_of_getElem? (i := 19) rfl))) (Or.inr (hw _ (List.mem_of_getElem? (i := 37) rfl))) (by decide) (t := .long) (t' := .long) (by decide) (by decide))))
    have f35 := ((((((((Fw5.other W8 (Or.inr (slot_ne (Or.inr (hw _ (List.mem_of_getElem? (i := 21) rfl))) (Or.inr (hw _ (List.mem_of_getElem? (i := 23) rfl))) (by decide) (t := .long) (t' := .long) (by decide) (by decide)))).other W11 (Or.inr (slot_ne (Or.inr (hw _ (List.mem_of_getElem? (i := 21) rfl))) (Or.inr (hw _ (List.mem_of_getElem? (i := 25) rfl))) (by decide) (t := .long) (t' := .long) (by decide) (by decide)))).other W15 (Or.inr (slot_ne (Or.inr (hw _ (List.mem_of_getElem? (i := 21) rfl))) (Or.inr (hw _ (List.mem_of_getElem? (i := 27) rfl))) (by decide) (t := .long) (t' := .long) (by decide) (by decide)))).other W18 (Or.inr (slot_ne (Or.inr (hw _ (List.mem_of_getElem? (i := 21) rfl))) (Or.inr (hw _ (List.mem_of_getElem? (i := 29) rfl))) (by decide) (t := .long) (t' := .long) (by decide) (by decide)))).other W21 (Or.inr (slot_ne (Or.inr (hw _ (List.mem_of_getElem? (i := 21) rfl))) (Or.inr (hw _ (List.mem_of_getElem? (i := 31) rfl))) (by decide) (t := .long) (t' := .long) (by decide) (by decide)))).other W24 (Or.inr (slot_ne (Or.inr (hw _ (List.mem_of_getElem? (i := 21) rfl))) (Or.inr (hw _ (List.mem_of_getElem? (i := 33) rfl))) (by decide) (t := .long) (t' := .long) (by decide) (by decide)))).other W27 (Or.inr (slot_ne (Or.inr (hw _ (List.mem_of_getElem? (i := 21) rfl))) (Or.inr (hw _ (List.mem_of_getElem? (i := 35) rfl))) (by decide) (t := .long) (t' := .long) (by decide) (by decide)))).other W31 (Or.inr (slot_ne (Or.inr (hw _ (List.mem_of_getElem? (i := 21) rfl))) (Or.inr (hw _ (List.mem_of_getElem? (i := 37) rfl))) (by decide) (t := .long) (t' := .long) (by decide) (by decide))))
    have f36 := (((((((Fw8.other W11 (Or.inr (slot_ne (Or.inr (hw _ (List.mem_of_getElem? (i := 23) rfl))) (Or.inr (hw _ (List.mem_of_getElem? (i := 25) rfl))) (by decide) (t := .long) (t' := .long) (by decide) (by decide)))).other W15 (Or.inr (slot_ne (Or.inr (hw _ (List.mem_of_getElem? (i := 23) rfl))) (Or.inr (hw _ (List.mem_of_getElem? (i := 27) rfl))) (by decide) (t := .long) (t' := .long) (by decide) (by decide)))).other W18 (Or.inr (slot_ne (Or.inr (hw _ (List.mem_of_getElem? (i := 23) rfl))) (Or.inr (hw _ (List.mem_of_getElem? (i := 29) rfl))) (by decide) (t := .long) (t' := .long) (by decide) (by decide)))).other W21 (Or.inr (slot_ne (Or.inr (hw _ (List.mem_of_getElem? (i := 23) rfl))) (Or.inr (hw _ (List.mem_of_getElem? (i := 31) rfl))) (by decide) (t := .long) (t' := .long) (by decide) (by decide)))).other W24 (Or.inr (slot_ne (Or.inr (hw _ (List.mem_of_getElem? (i := 23) rfl))) (Or.inr (hw _ (List.mem_of_getElem? (i := 33) rfl))) (by decide) (t := .long) (t' := .long) (by decide) (by decide)))).other W27 (Or.inr (slot_ne (Or.inr (hw _ (List.mem_of_getElem? (i := 23) rfl))) (Or.inr (hw _ (List.mem_of_getElem? (i := 35) rfl))) (by decide) (t := .long) (t' := .long) (by decide) (by decide)))).other W31 (Or.inr (slot_ne (Or.inr (hw _ (List.mem_of_getElem? (i := 23) rfl))) (Or.inr (hw _ (List.mem_of_getElem? (i := 37) rfl))) (by decide) (t := .long) (t' := .long) (by decide) (by decide))))
    have f37 := ((((((Fw11.other W15 (Or.inr (slot_ne (Or.inr (hw _ (List.mem_of_getElem? (i := 25) rfl))) (Or.inr (hw _ (List.mem_of_getElem? (i := 27) rfl))) (by decide) (t := .long) (t' := .long) (by decide) (by decide)))).other W18 (Or.inr (slot_ne (Or.inr (hw _ (List.mem_of_getElem? (i := 25) rfl))) (Or.inr (hw _ (List.mem_of_getElem? (i := 29) rfl))) (by decide) (t := .long) (t' := .long) (by decide) (by decide)))).other W21 (Or.inr (slot_ne (Or.inr (hw _ (List.mem_of_getElem? (i := 25) rfl))) (Or.inr (hw _ (List.mem_of_getElem? (i := 31) rfl))) (by decide) (t := .long) (t' := .long) (by decide) (by decide)))).other W24 (Or.inr (slot_ne (Or.inr (hw _ (List.mem_of_getElem? (i := 25) rfl))) (Or.inr (hw _ (List.mem_of_getElem? (i := 33) rfl))) (by decide) (t := .long) (t' := .long) (by decide) (by decide)))).other W27 (Or.inr (slot_ne (Or.inr (hw _ (List.mem_of_getElem? (i := 25) rfl))) (Or.inr (hw _ (List.mem_of_getElem? (i := 35) rfl))) (by decide) (t := .long) (t' := .long) (by decide) (by decide)))).other W31 (Or.inr (slot_ne (Or.inr (hw _ (List.mem_of_getElem? (i := 25) rfl))) (Or.inr (hw _ (List.mem_of_getElem? (i := 37) rfl))) (by decide) (t := .long) (t' := .long) (by decide) (by decide))))
    have f38 := (((((Fw15.other W18 (Or.inr (slot_ne (Or.inr (hw _ (List.mem_of_getElem? (i := 27) rfl))) (Or.inr (hw _ (List.mem_of_getElem? (i := 29) rfl))) (by decide) (t := .long) (t' := .long) (by decide) (by decide)))).other W21 (Or.inr (slot_ne (Or.inr (hw _ (List.mem_of_getElem? (i := 27) rfl))) (Or.inr (hw _ (List.mem_of_getElem? (i := 31) rfl))) (by decide) (t := .long) (t' := .long) (by decide) (by decide)))).other W24 (Or.inr (slot_ne (Or.inr (hw _ (List.mem_of_getElem? (i := 27) rfl))) (Or.inr (hw _ (List.mem_of_getElem? (i := 33) rfl))) (by decide) (t := .long) (t' := .long) (by decide) (by decide)))).other W27 (Or.inr (slot_ne (Or.inr (hw _ (List.mem_of_getElem? (i := 27) rfl))) (Or.inr (hw _ (List.mem_of_getElem? (i := 35) rfl))) (by decide) (t := .long) (t' := .long) (by decide) (by decide)))).other W31 (Or.inr (slot_ne (Or.inr (hw _ (List.mem_of_getElem? (i := 27) rfl))) (Or.inr (hw _ (List.mem_of_getElem? (i := 37) rfl))) (by decide) (t := .long) (t' := .long) (by decide) (by decide))))
    have f39 := ((((Fw18.other W21 (Or.inr (slot_ne (Or.inr (hw _ (List.mem_of_getElem? (i := 29) rfl))) (Or.inr (hw _ (List.mem_of_getElem? (i := 31) rfl))) (by decide) (t := .long) (t' := .long) (by decide) (by decide)))).other W24 (Or.inr (slot_ne (Or.inr (hw _ (List.mem_of_getElem? (i := 29) rfl))) (Or.inr (hw _ (List.mem_of_getElem? (i := 33) rfl))) (by decide) (t := .long) (t' := .long) (by decide) (by decide)))).other W27 (Or.inr (slot_ne (Or.inr (hw _ (List.mem_of_getElem? (i := 29) rfl))) (Or.inr (hw _ (List.mem_of_getElem? (i := 35) rfl))) (by decide) (t := .long) (t' := .long) (by decide) (by decide)))).other W31 (Or.inr (slot_ne (Or.inr (hw _ (List.mem_of_getElem? (i := 29) rfl))) (Or.inr (hw _ (List.mem_of_getElem? (i := 37) rfl))) (by decide) (t := .long) (t' := .long) (by decide) (by decide))))
    have f40 := (((Fw21.other W24 (Or.inr (slot_ne (Or.inr (hw _ (List.mem_of_getElem? (i := 31) rfl))) (Or.inr (hw _ (List.mem_of_getElem? (i := 33) rfl))) (by decide) (t := .long) (t' := .long) (by decide) (by decide)))).other W27 (Or.inr (slot_ne (Or.inr (hw _ (List.mem_of_getElem? (i := 31) rfl))) (Or.inr (hw _ (List.mem_of_getElem? (i := 35) rfl))) (by decide) (t := .long) (t' := .long) (by decide) (by decide)))).other W31 (Or.inr (slot_ne (Or.inr (hw _ (List.mem_of_getElem? (i := 31) rfl))) (Or.inr (hw _ (List.mem_of_getElem? (i := 37) rfl))) (by decide) (t := .long) (t' := .long) (by decide) (by decide))))
    have f41 := ((Fw24.other W27 (Or.inr (slot_ne (Or.inr (hw _ (List.mem_of_getElem? (i := 33) rfl))) (Or.inr (hw _ (List.mem_of_getElem? (i := 35) rfl))) (by decide) (t := .long) (t' := .long) (by decide) (by decide)))).other W31 (Or.inr (slot_ne (Or.inr (hw _ (List.mem_of_getElem? (i := 33) rfl))) (Or.inr (hw _ (List.mem_of_getElem? (i := 37) rfl))) (by decide) (t := .long) (t' := .long) (by decide) (by decide))))
    have f42 := (Fw27.other W31 (Or.inr (slot_ne (Or.inr (hw _ (List.mem_of_getElem? (i := 35) rfl))) (Or.inr (hw _ (List.mem_of_getElem? (i := 37) rfl))) (by decide) (t := .long) (t' := .long) (by decide) (by decide))))
    exact ⟨rfl, N31, K31, f33, f34, f35, f36, f37, f38, f39, f40, f41, f42, Fw31⟩
theorem d5_0 : decode prog_28_method_2_code 0 = .ok (.aload_n 0, 1) := by decide +kernel
theorem d5_1 : decode prog_28_method_2_code 1 = .ok (.getfield 13, 3) := by decide +kernel
theorem d5_4 : decode prog_28_method_2_code 4 = .ok (.aload_n 0, 1) := by decide +kernel
theorem d5_5 : decode prog_28_method_2_code 5 = .ok (.getfield 7, 3) := by decide +kernel
theorem d5_8 : decode prog_28_method_2_code 8 = .ok (.lcmp, 1) := by decide +kernel
theorem d5_9 : decode prog_28_method_2_code 9 = .ok (.ifCond .ne 25, 3) := by decide +kernel
theorem d5_12 : decode prog_28_method_2_code 12 = .ok (.aload_n 0, 1) := by decide +kernel
theorem d5_13 : decode prog_28_method_2_code 13 = .ok (.getfield 22, 3) := by decide +kernel
theorem d5_16 : decode prog_28_method_2_code 16 = .ok (.lconst 0, 1) := by decide +kernel
theorem d5_17 : decode prog_28_method_2_code 17 = .ok (.lcmp, 1) := by decide +kernel
theorem d5_18 : decode prog_28_method_2_code 18 = .ok (.ifCond .ne 16, 3) := by decide +kernel
theorem d5_21 : decode prog_28_method_2_code 21 = .ok (.aload_n 0, 1) := by decide +kernel
theorem d5_22 : decode prog_28_method_2_code 22 = .ok (.getfield 25, 3) := by decide +kernel
theorem d5_25 : decode prog_28_method_2_code 25 = .ok (.lconst 0, 1) := by decide +kernel
theorem d5_26 : decode prog_28_method_2_code 26 = .ok (.lcmp, 1) := by decide +kernel
theorem d5_27 : decode prog_28_method_2_code 27 = .ok (.ifCond .ne 7, 3) := by decide +kernel
theorem d5_30 : decode prog_28_method_2_code 30 = .ok (.iconst 1, 1) := by decide +kernel
theorem d5_31 : decode prog_28_method_2_code 31 = .ok (.goto 4, 3) := by decide +kernel
theorem d5_34 : decode prog_28_method_2_code 34 = .ok (.iconst 0, 1) := by decide +kernel
theorem d5_35 : decode prog_28_method_2_code 35 = .ok (.ireturn, 1) := by decide +kernel
theorem ef_5 (m : MethodId) (x0 : Addr) : entryFrame m #[(.ref x0)] 1 = mkF m 0 #[.val (.ref x0)] [] := by first | (simp [entryFrame, mkF, argsToLocals, Value.category]; done) | rfl
def Q5 (Z : State) (a1 : Addr) (cm : Int64) (ra : Int64) (st : Int64) (mi : Int64) (h0 : Heap) (n0 : Nat) (v : Option Value) (h : Heap) (L : List Loc) : Prop := v = some (.int (if cm = ra then (if st = (0 : Int64) then (if mi = (0 : Int64) then (1 : Int32) else (0 : Int32)) else (0 : Int32)) else (0 : Int32))) ∧ Fr n0 L ∧ h = h0
set_option maxRecDepth 65536 in
set_option maxHeartbeats 40000000 in
theorem rm5 (l : Launch) (Z : State) (a0 : Array Value) (hw : ∀ d ∈ tables_1, d.before a0 Z = true) (ws : List Jvm.Cond) (a1 : Addr) (cm : Int64) (ra : Int64) (st : Int64) (mi : Int64) (h0 : Heap) (n0 : Nat) (Z0 : n0 ≤ h0.size) (F_committed : Fld Z h0 a1 "com/example/allegheny/allegheny/bench/RatingsBench$Result" "committed" "J" (.long cm)) (F_ratings : Fld Z h0 a1 "com/example/allegheny/allegheny/bench/RatingsBench$Result" "ratings" "J" (.long ra)) (F_staleCommits : Fld Z h0 a1 "com/example/allegheny/allegheny/bench/RatingsBench$Result" "staleCommits" "J" (.long st)) (F_sumMismatches : Fld Z h0 a1 "com/example/allegheny/allegheny/bench/RatingsBench$Result" "sumMismatches" "J" (.long mi)) :
    MetFree l (⟨"com/example/allegheny/allegheny/bench/RatingsBench$Result", "passed", "()Z"⟩ : MethodName) (head1 (Jvm.Cond.code (⟨"com/example/allegheny/allegheny/bench/RatingsBench$Result", "passed", "()Z"⟩ : MethodName) prog_28_method_2_code 1 (some .boolean) :: ws) ({ frames := 0, cells := 0, slots := 0, locals := 0 } : Room)) (fun a U => a = #[(.ref a1)] ∧ Z.Warmed39 U.vm ∧ U.heap = h0) (fun _ _ _ _ _ => True) (fun _ U o U' => ∃ v L, o = .returned v ∧ Q5 Z a1 cm ra st mi h0 n0 v U'.heap L ∧ FrameEnd U o U' L ({ frames := 0, cells := 0, slots := 0, locals := 0 } : Room).cells ({ frames := 0, cells := 0, slots := 0, locals := 0 } : Room).slots) := by
  refine MetFree.of_bodySF (plainFor_of_name own_pn_com_example_allegheny_allegheny_bench_RatingsBench_Result) hisR ?_
  intro p e s m args below meth c s₁ Bd hml0 hP hK
  obtain ⟨rfl, hZ, hh⟩ := hP
  have hx := Bd.exec
  have hby := Bd.bytes
  have hml : c.maxLocals = 1 := hml0
  have hown : s.vm.findClass "com/example/allegheny/allegheny/bench/RatingsBench$Result" = some m.cls := findClass_of_methodNamed Bd.named
  have hnm := (name_of_methodNamed Bd.named Bd.method).1
  have X0 : Stand p l e ({ frames := 0, cells := 0, slots := 0, locals := 0 } : Room) s m #[(.ref a1)] below meth c s₁ [] 0 0 := Stand.of_body Bd
  have e0 : s₁.heap = h0 := by rw [← hh, Bd.state]; rfl
  have N0 := Fr.nil n0
  have p0 : own_go p e below (s₁.setTop (entryFrame m #[(.ref a1)] 1)) (s₁.setTop (mkF m 0 #[.val (.ref a1)] [])) := fun t k => castTop (ef_5 m a1) k
  obtain ⟨T1, X1, e1, st1⟩ := getF X0 hx hZ hown (host := "") (Or.inl (hw _ (List.mem_of_getElem? (i := 20) rfl))) Via.refl e0 F_committed (g := (mkF m 1 #[.val (.ref a1)] [(.ref a1)])) rfl rfl (hb hby d5_1)
  obtain ⟨T2, X2, e2, st2⟩ := getF X1 hx hZ hown (host := "") (Or.inl (hw _ (List.mem_of_getElem? (i := 18) rfl))) Via.refl e1 F_ratings (g := (mkF m 5 #[.val (.ref a1)] [(.ref a1), (.long cm)])) rfl rfl (hb hby d5_5)
  have go3 : own_go p e below (s₁.setTop (entryFrame m #[(.ref a1)] 1)) (T2.setTop (mkF m 9 #[.val (.ref a1)] [(.int (lcmpW cm ra))])) := by
    intro t kt
    refine p0 t ?_
    show Steps p.tables e below (s₁.setTop (mkF m 0 #[.val (.ref a1)] [])) _
    refine XS.aloadN X0.here hx rfl (hb hby d5_0) rfl rfl ?_
    show Steps p.tables e below (s₁.setTop (mkF m 1 #[.val (.ref a1)] [(.ref a1)])) _
    refine st1 _ ?_
    show Steps p.tables e below (T1.setTop (mkF m 4 #[.val (.ref a1)] [(.long cm)])) _
    refine XS.aloadN X1.here hx rfl (hb hby d5_4) rfl rfl ?_
    show Steps p.tables e below (T1.setTop (mkF m 5 #[.val (.ref a1)] [(.ref a1), (.long cm)])) _
    refine st2 _ ?_
    show Steps p.tables e below (T2.setTop (mkF m 8 #[.val (.ref a1)] [(.long ra), (.long cm)])) _
    refine XS.lcmp X2.here hx rfl (hb hby d5_8) rfl ?_
    exact kt
  obtain ⟨T20, L20, v19, X20, N20, e20, hv_v19, go20⟩ : ∃ (T20 : State) (L20 : List Loc) (v19 : Int32), Stand p l e ({ frames := 0, cells := 0, slots := 0, locals := 0 } : Room) s m #[(.ref a1)] below meth c T20 L20 0 0 ∧ Fr n0 L20 ∧ T20.heap = h0 ∧ v19 = (if cm = ra then (if st = (0 : Int64) then (if mi = (0 : Int64) then (1 : Int32) else (0 : Int32)) else (0 : Int32)) else (0 : Int32)) ∧ own_go p e below (s₁.setTop (entryFrame m #[(.ref a1)] 1)) (T20.setTop (mkF m 35 #[.val (.ref a1)] [(.int v19)])) := by
    by_cases hc4_9 : cm = ra
    · obtain ⟨T5, X5, e5, st5⟩ := getF X2 hx hZ hown (host := "") (Or.inl (hw _ (List.mem_of_getElem? (i := 26) rfl))) Via.refl e2 F_staleCommits (g := (mkF m 13 #[.val (.ref a1)] [(.ref a1)])) rfl rfl (hb hby d5_13)
      have go6 : own_go p e below (s₁.setTop (entryFrame m #[(.ref a1)] 1)) (T5.setTop (mkF m 18 #[.val (.ref a1)] [(.int (lcmpW st (0 : Int64)))])) := by
        intro t kt
        refine go3 t ?_
        show Steps p.tables e below (T2.setTop (mkF m 9 #[.val (.ref a1)] [(.int (lcmpW cm ra))])) _
        refine XS.ifNo X2.here hx rfl (hb hby d5_9) rfl ((if0 _ _).trans (teq ((lw_eq cm ra).mpr hc4_9)).2) ?_
        show Steps p.tables e below (T2.setTop (mkF m 12 #[.val (.ref a1)] [])) _
        refine XS.aloadN X2.here hx rfl (hb hby d5_12) rfl rfl ?_
        show Steps p.tables e below (T2.setTop (mkF m 13 #[.val (.ref a1)] [(.ref a1)])) _
        refine st5 _ ?_
        show Steps p.tables e below (T5.setTop (mkF m 16 #[.val (.ref a1)] [(.long st)])) _
        refine XS.lconst X5.here hx rfl (hb hby d5_16) ?_
        show Steps p.tables e below (T5.setTop (mkF m 17 #[.val (.ref a1)] [(.long (0 : Int64)), (.long st)])) _
        refine XS.lcmp X5.here hx rfl (hb hby d5_17) rfl ?_
        exact kt
      obtain ⟨T17, L17, v16, X17, N17, e17, hv_v16, go17⟩ : ∃ (T17 : State) (L17 : List Loc) (v16 : Int32), Stand p l e ({ frames := 0, cells := 0, slots := 0, locals := 0 } : Room) s m #[(.ref a1)] below meth c T17 L17 0 0 ∧ Fr n0 L17 ∧ T17.heap = h0 ∧ v16 = (if st = (0 : Int64) then (if mi = (0 : Int64) then (1 : Int32) else (0 : Int32)) else (0 : Int32)) ∧ own_go p e below (s₁.setTop (entryFrame m #[(.ref a1)] 1)) (T17.setTop (mkF m 35 #[.val (.ref a1)] [(.int v16)])) := by
        by_cases hc7_18 : st = (0 : Int64)
        · obtain ⟨T8, X8, e8, st8⟩ := getF X5 hx hZ hown (host := "") (Or.inl (hw _ (List.mem_of_getElem? (i := 28) rfl))) Via.refl e5 F_sumMismatches (g := (mkF m 22 #[.val (.ref a1)] [(.ref a1)])) rfl rfl (hb hby d5_22)
          have go9 : own_go p e below (s₁.setTop (entryFrame m #[(.ref a1)] 1)) (T8.setTop (mkF m 27 #[.val (.ref a1)] [(.int (lcmpW mi (0 : Int64)))])) := by
            intro t kt
            refine go6 t ?_
            show Steps p.tables e below (T5.setTop (mkF m 18 #[.val (.ref a1)] [(.int (lcmpW st (0 : Int64)))])) _
            refine XS.ifNo X5.here hx rfl (hb hby d5_18) rfl ((if0 _ _).trans (teq ((lw_eq st (0 : Int64)).mpr hc7_18)).2) ?_
            show Steps p.tables e below (T5.setTop (mkF m 21 #[.val (.ref a1)] [])) _
            refine XS.aloadN X5.here hx rfl (hb hby d5_21) rfl rfl ?_
            show Steps p.tables e below (T5.setTop (mkF m 22 #[.val (.ref a1)] [(.ref a1)])) _
            refine st8 _ ?_
            show Steps p.tables e below (T8.setTop (mkF m 25 #[.val (.ref a1)] [(.long mi)])) _
            refine XS.lconst X8.here hx rfl (hb hby d5_25) ?_
            show Steps p.tables e below (T8.setTop (mkF m 26 #[.val (.ref a1)] [(.long (0 : Int64)), (.long mi)])) _
            refine XS.lcmp X8.here hx rfl (hb hby d5_26) rfl ?_
            exact kt
          obtain ⟨v13, hv_v13, go14⟩ : ∃ (v13 : Int32), v13 = (if mi = (0 : Int64) then (1 : Int32) else (0 : Int32)) ∧ own_go p e below (s₁.setTop (entryFrame m #[(.ref a1)] 1)) (T8.setTop (mkF m 35 #[.val (.ref a1)] [(.int v13)])) := by
            by_cases hc10_27 : mi = (0 : Int64)
            · have go11 : own_go p e below (s₁.setTop (entryFrame m #[(.ref a1)] 1)) (T8.setTop (mkF m 35 #[.val (.ref a1)] [(.int (1 : Int32))])) := by
                intro t kt
                refine go9 t ?_
                show Steps p.tables e below (T8.setTop (mkF m 27 #[.val (.ref a1)] [(.int (lcmpW mi (0 : Int64)))])) _
                refine XS.ifNo X8.here hx rfl (hb hby d5_27) rfl ((if0 _ _).trans (teq ((lw_eq mi (0 : Int64)).mpr hc10_27)).2) ?_
                show Steps p.tables e below (T8.setTop (mkF m 30 #[.val (.ref a1)] [])) _
                refine XS.iconst X8.here hx rfl (hb hby d5_30) ?_
                show Steps p.tables e below (T8.setTop (mkF m 31 #[.val (.ref a1)] [(.int (1 : Int32))])) _
                refine XS.goto X8.here hx rfl (pc0 := 31) (pc' := 35) rfl (hb hby d5_31) (by decide) (by decide) ?_
                exact kt
              exact ⟨_, (if_pos hc10_27).symm, go11⟩
            · have go12 : own_go p e below (s₁.setTop (entryFrame m #[(.ref a1)] 1)) (T8.setTop (mkF m 35 #[.val (.ref a1)] [(.int (0 : Int32))])) := by
                intro t kt
                refine go9 t ?_
                show Steps p.tables e below (T8.setTop (mkF m 27 #[.val (.ref a1)] [(.int (lcmpW mi (0 : Int64)))])) _
                refine XS.ifYes X8.here hx rfl (pc0 := 27) (pc' := 34) rfl (hb hby d5_27) rfl ((if0 _ _).trans (feq (fun q => hc10_27 ((lw_eq mi (0 : Int64)).mp q))).2) (by decide) (by decide) ?_
                show Steps p.tables e below (T8.setTop (mkF m 34 #[.val (.ref a1)] [])) _
                refine XS.iconst X8.here hx rfl (hb hby d5_34) ?_
                exact kt
              exact ⟨_, (if_neg hc10_27).symm, go12⟩
          subst hv_v13
          exact ⟨T8, _, _, X8, N0, e8, (if_pos hc7_18).symm, go14⟩
        · have go15 : own_go p e below (s₁.setTop (entryFrame m #[(.ref a1)] 1)) (T5.setTop (mkF m 35 #[.val (.ref a1)] [(.int (0 : Int32))])) := by
            intro t kt
            refine go6 t ?_
            show Steps p.tables e below (T5.setTop (mkF m 18 #[.val (.ref a1)] [(.int (lcmpW st (0 : Int64)))])) _
            refine XS.ifYes X5.here hx rfl (pc0 := 18) (pc' := 34) rfl (hb hby d5_18) rfl ((if0 _ _).trans (feq (fun q => hc7_18 ((lw_eq st (0 : Int64)).mp q))).2) (by decide) (by decide) ?_
            show Steps p.tables e below (T5.setTop (mkF m 34 #[.val (.ref a1)] [])) _
            refine XS.iconst X5.here hx rfl (hb hby d5_34) ?_
            exact kt
          exact ⟨T5, _, _, X5, N0, e5, (if_neg hc7_18).symm, go15⟩
      subst hv_v16
      exact ⟨T17, _, _, X17, N17, e17, (if_pos hc4_9).symm, go17⟩
    · have go18 : own_go p e below (s₁.setTop (entryFrame m #[(.ref a1)] 1)) (T2.setTop (mkF m 35 #[.val (.ref a1)] [(.int (0 : Int32))])) := by
        intro t kt
        refine go3 t ?_
        show Steps p.tables e below (T2.setTop (mkF m 9 #[.val (.ref a1)] [(.int (lcmpW cm ra))])) _
        refine XS.ifYes X2.here hx rfl (pc0 := 9) (pc' := 34) rfl (hb hby d5_9) rfl ((if0 _ _).trans (feq (fun q => hc4_9 ((lw_eq cm ra).mp q))).2) (by decide) (by decide) ?_
        show Steps p.tables e below (T2.setTop (mkF m 34 #[.val (.ref a1)] [])) _
        refine XS.iconst X2.here hx rfl (hb hby d5_34) ?_
        exact kt
      exact ⟨T2, _, _, X2, N0, e2, (if_neg hc4_9).symm, go18⟩
  obtain ⟨fs, hr, hrun, hended, hW, hsame⟩ := X20.leave (v := some (.int (nar .boolean v19))) (fun h => by rw [Bd.returns] at h; cases h)
  refine ⟨_, _, go20 _ ?_, hrun, hended, _, _, rfl, ?_, ⟨_, rfl⟩, hW, hsame.mono (by decide) (by decide)⟩
  · exact retN X20 hx (t := .boolean) Bd.returns (by simp) (hb hby d5_35) hr
  · show Q5 Z a1 cm ra st mi h0 n0 _ T20.heap _
    rw [e20]
    exact ⟨by rw [hv_v19]; (repeat' split) <;> rfl, N20, rfl⟩
theorem own_nz (x : Int64) : ¬ (if x = (0 : Int64) then (1 : Int64) else x) = 0 := by by_cases h : x = 0 <;> simp [h]
theorem own_ad (x y : Int64) (h : ¬ y = 0) : ¬ x + y = x := fun q => h (Int64.toInt_inj.mp (by have a := c_ladd x y; rw [q] at a; have r := rng64 y; have e : (0 : Int64).toInt = 0 := rfl; omega))
theorem own_main (r d s m : Int64) (a b c : Int32) : (if (if a = (0 : Int32) then (r + (if d = (0 : Int64) then (1 : Int64) else d)) else r) = r then (if (if b = (0 : Int32) then (if s = (0 : Int64) then (1 : Int64) else s) else (0 : Int64)) = (0 : Int64) then (if (if c = (0 : Int32) then (if m = (0 : Int64) then (1 : Int64) else m) else (0 : Int64)) = (0 : Int64) then (1 : Int32) else (0 : Int32)) else (0 : Int32)) else (0 : Int32)) = (if a = (0 : Int32) then (0 : Int32) else (if b = (0 : Int32) then (0 : Int32) else (if c = (0 : Int32) then (0 : Int32) else (1 : Int32)))) := by
  by_cases ha : a = 0
  · rw [if_pos ha, if_neg (own_ad _ _ (own_nz d)), if_pos ha]
  · rw [if_neg ha, if_pos rfl, if_neg ha]
    by_cases hb : b = 0
    · rw [if_pos hb, if_neg (own_nz s), if_pos hb]
    · rw [if_neg hb, if_pos rfl, if_neg hb]
      by_cases hc : c = 0
      · rw [if_pos hc, if_neg (own_nz m), if_pos hc]
      · rw [if_neg hc, if_pos rfl, if_neg hc]
theorem own_pd1 : parseMethodDescriptor "(J)J" = some ⟨[.long], some .long⟩ := by decide +kernel
theorem own_pd2 : parseMethodDescriptor "(JJJJJJJJJJ)V" = some ⟨[.long, .long, .long, .long, .long, .long, .long, .long, .long, .long], none⟩ := by decide +kernel
theorem own_pd3 : parseMethodDescriptor "()Z" = some ⟨[], some .boolean⟩ := by decide +kernel
theorem ef_0 (m : MethodId) (x0 : Int64) (x1 : Int64) (x2 : Int64) (x3 : Int64) (x4 : Int64) (x5 : Int32) : entryFrame m #[(.long x0), (.long x1), (.long x2), (.long x3), (.long x4), (.int x5)] maxLocals = mkF m 0 #[.val (.long x0), .second, .val (.long x1), .second, .val (.long x2), .second, .val (.long x3), .second, .val (.long x4), .second, .val (.int x5), .unset, .unset, .unset, .unset, .unset, .unset, .unset, .unset, .unset, .unset, .unset] [] := by first | (simp [entryFrame, mkF, argsToLocals, Value.category, maxLocals]; done) | rfl
def Q0 (Z : State) (q1 : Int64) (q2 : Int64) (q3 : Int64) (q4 : Int64) (q5 : Int64) (p6 : Int32) (h0 : Heap) (n0 : Nat) (v : Option Value) (h : Heap) (L : List Loc) : Prop := v = some (.int 1) ∧ Fr n0 L
set_option maxRecDepth 65536 in
set_option maxHeartbeats 40000000 in
theorem rm0 (l : Launch) (Z : State) (a0 : Array Value) (hw : ∀ d ∈ tables_1, d.before a0 Z = true) (ws : List Jvm.Cond) (q1 : Int64) (q2 : Int64) (q3 : Int64) (q4 : Int64) (q5 : Int64) (p6 : Int32) (h0 : Heap) (n0 : Nat) (Z0 : n0 ≤ h0.size) :
    MetFree l x (head1 (Jvm.Cond.code x code maxLocals ret :: ws) room_1) (fun a U => a = #[(.long q1), (.long q2), (.long q3), (.long q4), (.long q5), (.int p6)] ∧ Z.Warmed39 U.vm ∧ U.heap = h0) (fun _ _ _ _ _ => True) (fun _ U o U' => ∃ v L, o = .returned v ∧ Q0 Z q1 q2 q3 q4 q5 p6 h0 n0 v U'.heap L ∧ FrameEnd U o U' L 16 128) := by
  refine MetFree.of_bodySF (plainFor_of_name own_pn_com_example_allegheny_allegheny_bench_ResultPassedPinLaw) hisR ?_
  intro p e s m args below meth c s₁ Bd hml0 hP hK
  obtain ⟨rfl, hZ, hh⟩ := hP
  have hx := Bd.exec
  have hby := Bd.bytes
  have hml : c.maxLocals = 22 := hml0
  have hown : s.vm.findClass "com/example/allegheny/allegheny/bench/ResultPassedPinLaw" = some m.cls := findClass_of_methodNamed Bd.named
  have hnm := (name_of_methodNamed Bd.named Bd.method).1
  have X0 : Stand p l e room_1 s m #[(.long q1), (.long q2), (.long q3), (.long q4), (.long q5), (.int p6)] below meth c s₁ [] 0 0 := Stand.of_body Bd
  have e0 : s₁.heap = h0 := by rw [← hh, Bd.state]; rfl
  have N0 := Fr.nil n0
  have p0 : own_go p e below (s₁.setTop (entryFrame m #[(.long q1), (.long q2), (.long q3), (.long q4), (.long q5), (.int p6)] maxLocals)) (s₁.setTop (mkF m 0 #[.val (.long q1), .second, .val (.long q2), .second, .val (.long q3), .second, .val (.long q4), .second, .val (.long q5), .second, .val (.int p6), .unset, .unset, .unset, .unset, .unset, .unset, .unset, .unset, .unset, .unset, .unset] [])) := fun t k => castTop (ef_0 m q1 q2 q3 q4 q5 p6) k
  have go1 : own_go p e below (s₁.setTop (entryFrame m #[(.long q1), (.long q2), (.long q3), (.long q4), (.long q5), (.int p6)] maxLocals)) (s₁.setTop (mkF m 4 #[.val (.long q1), .second, .val (.long q2), .second, .val (.long q3), .second, .val (.long q4), .second, .val (.long q5), .second, .val (.int p6), .unset, .unset, .unset, .unset, .unset, .unset, .unset, .unset, .unset, .unset, .unset] [(.int (p6 &&& (1 : Int32)))])) := by
    intro t kt
    refine p0 t ?_
    show Steps p.tables e below (s₁.setTop (mkF m 0 #[.val (.long q1), .second, .val (.long q2), .second, .val (.long q3), .second, .val (.long q4), .second, .val (.long q5), .second, .val (.int p6), .unset, .unset, .unset, .unset, .unset, .unset, .unset, .unset, .unset, .unset, .unset] [])) _
    refine XS.iload X0.here hx rfl (hb hby at_0) rfl ?_
    show Steps p.tables e below (s₁.setTop (mkF m 2 #[.val (.long q1), .second, .val (.long q2), .second, .val (.long q3), .second, .val (.long q4), .second, .val (.long q5), .second, .val (.int p6), .unset, .unset, .unset, .unset, .unset, .unset, .unset, .unset, .unset, .unset, .unset] [(.int p6)])) _
    refine XS.iconst X0.here hx rfl (hb hby at_2) ?_
    show Steps p.tables e below (s₁.setTop (mkF m 3 #[.val (.long q1), .second, .val (.long q2), .second, .val (.long q3), .second, .val (.long q4), .second, .val (.long q5), .second, .val (.int p6), .unset, .unset, .unset, .unset, .unset, .unset, .unset, .unset, .unset, .unset, .unset] [(.int (1 : Int32)), (.int p6)])) _
    refine XS.iand X0.here hx rfl (hb hby at_3) rfl ?_
    exact kt
  obtain ⟨v5, hv_v5, go6⟩ : ∃ (v5 : Int32), v5 = (if (p6 &&& (1 : Int32)) = (0 : Int32) then (0 : Int32) else (1 : Int32)) ∧ own_go p e below (s₁.setTop (entryFrame m #[(.long q1), (.long q2), (.long q3), (.long q4), (.long q5), (.int p6)] maxLocals)) (s₁.setTop (mkF m 12 #[.val (.long q1), .second, .val (.long q2), .second, .val (.long q3), .second, .val (.long q4), .second, .val (.long q5), .second, .val (.int p6), .unset, .unset, .unset, .unset, .unset, .unset, .unset, .unset, .unset, .unset, .unset] [(.int v5)])) := by
    by_cases hc2_4 : (p6 &&& (1 : Int32)) = (0 : Int32)
    · have go3 : own_go p e below (s₁.setTop (entryFrame m #[(.long q1), (.long q2), (.long q3), (.long q4), (.long q5), (.int p6)] maxLocals)) (s₁.setTop (mkF m 12 #[.val (.long q1), .second, .val (.long q2), .second, .val (.long q3), .second, .val (.long q4), .second, .val (.long q5), .second, .val (.int p6), .unset, .unset, .unset, .unset, .unset, .unset, .unset, .unset, .unset, .unset, .unset] [(.int (0 : Int32))])) := by
        intro t kt
        refine go1 t ?_
        show Steps p.tables e below (s₁.setTop (mkF m 4 #[.val (.long q1), .second, .val (.long q2), .second, .val (.long q3), .second, .val (.long q4), .second, .val (.long q5), .second, .val (.int p6), .unset, .unset, .unset, .unset, .unset, .unset, .unset, .unset, .unset, .unset, .unset] [(.int (p6 &&& (1 : Int32)))])) _
        refine XS.ifYes X0.here hx rfl (pc0 := 4) (pc' := 11) rfl (hb hby at_4) rfl ((if0 _ _).trans (teq hc2_4).1) (by decide) (by decide) ?_
        show Steps p.tables e below (s₁.setTop (mkF m 11 #[.val (.long q1), .second, .val (.long q2), .second, .val (.long q3), .second, .val (.long q4), .second, .val (.long q5), .second, .val (.int p6), .unset, .unset, .unset, .unset, .unset, .unset, .unset, .unset, .unset, .unset, .unset] [])) _
        refine XS.iconst X0.here hx rfl (hb hby at_11) ?_
        exact kt
      exact ⟨_, (if_pos hc2_4).symm, go3⟩
    · have go4 : own_go p e below (s₁.setTop (entryFrame m #[(.long q1), (.long q2), (.long q3), (.long q4), (.long q5), (.int p6)] maxLocals)) (s₁.setTop (mkF m 12 #[.val (.long q1), .second, .val (.long q2), .second, .val (.long q3), .second, .val (.long q4), .second, .val (.long q5), .second, .val (.int p6), .unset, .unset, .unset, .unset, .unset, .unset, .unset, .unset, .unset, .unset, .unset] [(.int (1 : Int32))])) := by
        intro t kt
        refine go1 t ?_
        show Steps p.tables e below (s₁.setTop (mkF m 4 #[.val (.long q1), .second, .val (.long q2), .second, .val (.long q3), .second, .val (.long q4), .second, .val (.long q5), .second, .val (.int p6), .unset, .unset, .unset, .unset, .unset, .unset, .unset, .unset, .unset, .unset, .unset] [(.int (p6 &&& (1 : Int32)))])) _
        refine XS.ifNo X0.here hx rfl (hb hby at_4) rfl ((if0 _ _).trans (feq hc2_4).1) ?_
        show Steps p.tables e below (s₁.setTop (mkF m 7 #[.val (.long q1), .second, .val (.long q2), .second, .val (.long q3), .second, .val (.long q4), .second, .val (.long q5), .second, .val (.int p6), .unset, .unset, .unset, .unset, .unset, .unset, .unset, .unset, .unset, .unset, .unset] [])) _
        refine XS.iconst X0.here hx rfl (hb hby at_7) ?_
        show Steps p.tables e below (s₁.setTop (mkF m 8 #[.val (.long q1), .second, .val (.long q2), .second, .val (.long q3), .second, .val (.long q4), .second, .val (.long q5), .second, .val (.int p6), .unset, .unset, .unset, .unset, .unset, .unset, .unset, .unset, .unset, .unset, .unset] [(.int (1 : Int32))])) _
        refine XS.goto X0.here hx rfl (pc0 := 8) (pc' := 12) rfl (hb hby at_8) (by decide) (by decide) ?_
        exact kt
      exact ⟨_, (if_neg hc2_4).symm, go4⟩
  have go7 : own_go p e below (s₁.setTop (entryFrame m #[(.long q1), (.long q2), (.long q3), (.long q4), (.long q5), (.int p6)] maxLocals)) (s₁.setTop (mkF m 18 #[.val (.long q1), .second, .val (.long q2), .second, .val (.long q3), .second, .val (.long q4), .second, .val (.long q5), .second, .val (.int p6), .val (.int v5), .unset, .unset, .unset, .unset, .unset, .unset, .unset, .unset, .unset, .unset] [(.int (p6 &&& (2 : Int32)))])) := by
    intro t kt
    refine go6 t ?_
    show Steps p.tables e below (s₁.setTop (mkF m 12 #[.val (.long q1), .second, .val (.long q2), .second, .val (.long q3), .second, .val (.long q4), .second, .val (.long q5), .second, .val (.int p6), .unset, .unset, .unset, .unset, .unset, .unset, .unset, .unset, .unset, .unset, .unset] [(.int v5)])) _
    refine XS.istore X0.here hx rfl (hb hby at_12) rfl (l' := #[.val (.long q1), .second, .val (.long q2), .second, .val (.long q3), .second, .val (.long q4), .second, .val (.long q5), .second, .val (.int p6), .val (.int v5), .unset, .unset, .unset, .unset, .unset, .unset, .unset, .unset, .unset, .unset]) rfl ?_
    show Steps p.tables e below (s₁.setTop (mkF m 14 #[.val (.long q1), .second, .val (.long q2), .second, .val (.long q3), .second, .val (.long q4), .second, .val (.long q5), .second, .val (.int p6), .val (.int v5), .unset, .unset, .unset, .unset, .unset, .unset, .unset, .unset, .unset, .unset] [])) _
    refine XS.iload X0.here hx rfl (hb hby at_14) rfl ?_
    show Steps p.tables e below (s₁.setTop (mkF m 16 #[.val (.long q1), .second, .val (.long q2), .second, .val (.long q3), .second, .val (.long q4), .second, .val (.long q5), .second, .val (.int p6), .val (.int v5), .unset, .unset, .unset, .unset, .unset, .unset, .unset, .unset, .unset, .unset] [(.int p6)])) _
    refine XS.iconst X0.here hx rfl (hb hby at_16) ?_
    show Steps p.tables e below (s₁.setTop (mkF m 17 #[.val (.long q1), .second, .val (.long q2), .second, .val (.long q3), .second, .val (.long q4), .second, .val (.long q5), .second, .val (.int p6), .val (.int v5), .unset, .unset, .unset, .unset, .unset, .unset, .unset, .unset, .unset, .unset] [(.int (2 : Int32)), (.int p6)])) _
    refine XS.iand X0.here hx rfl (hb hby at_17) rfl ?_
    exact kt
  obtain ⟨v11, hv_v11, go12⟩ : ∃ (v11 : Int32), v11 = (if (p6 &&& (2 : Int32)) = (0 : Int32) then (0 : Int32) else (1 : Int32)) ∧ own_go p e below (s₁.setTop (entryFrame m #[(.long q1), (.long q2), (.long q3), (.long q4), (.long q5), (.int p6)] maxLocals)) (s₁.setTop (mkF m 26 #[.val (.long q1), .second, .val (.long q2), .second, .val (.long q3), .second, .val (.long q4), .second, .val (.long q5), .second, .val (.int p6), .val (.int v5), .unset, .unset, .unset, .unset, .unset, .unset, .unset, .unset, .unset, .unset] [(.int v11)])) := by
    by_cases hc8_18 : (p6 &&& (2 : Int32)) = (0 : Int32)
    · have go9 : own_go p e below (s₁.setTop (entryFrame m #[(.long q1), (.long q2), (.long q3), (.long q4), (.long q5), (.int p6)] maxLocals)) (s₁.setTop (mkF m 26 #[.val (.long q1), .second, .val (.long q2), .second, .val (.long q3), .second, .val (.long q4), .second, .val (.long q5), .second, .val (.int p6), .val (.int v5), .unset, .unset, .unset, .unset, .unset, .unset, .unset, .unset, .unset, .unset] [(.int (0 : Int32))])) := by
        intro t kt
        refine go7 t ?_
        show Steps p.tables e below (s₁.setTop (mkF m 18 #[.val (.long q1), .second, .val (.long q2), .second, .val (.long q3), .second, .val (.long q4), .second, .val (.long q5), .second, .val (.int p6), .val (.int v5), .unset, .unset, .unset, .unset, .unset, .unset, .unset, .unset, .unset, .unset] [(.int (p6 &&& (2 : Int32)))])) _
        refine XS.ifYes X0.here hx rfl (pc0 := 18) (pc' := 25) rfl (hb hby at_18) rfl ((if0 _ _).trans (teq hc8_18).1) (by decide) (by decide) ?_
        show Steps p.tables e below (s₁.setTop (mkF m 25 #[.val (.long q1), .second, .val (.long q2), .second, .val (.long q3), .second, .val (.long q4), .second, .val (.long q5), .second, .val (.int p6), .val (.int v5), .unset, .unset, .unset, .unset, .unset, .unset, .unset, .unset, .unset, .unset] [])) _
        refine XS.iconst X0.here hx rfl (hb hby at_25) ?_
        exact kt
      exact ⟨_, (if_pos hc8_18).symm, go9⟩
    · have go10 : own_go p e below (s₁.setTop (entryFrame m #[(.long q1), (.long q2), (.long q3), (.long q4), (.long q5), (.int p6)] maxLocals)) (s₁.setTop (mkF m 26 #[.val (.long q1), .second, .val (.long q2), .second, .val (.long q3), .second, .val (.long q4), .second, .val (.long q5), .second, .val (.int p6), .val (.int v5), .unset, .unset, .unset, .unset, .unset, .unset, .unset, .unset, .unset, .unset] [(.int (1 : Int32))])) := by
        intro t kt
        refine go7 t ?_
        show Steps p.tables e below (s₁.setTop (mkF m 18 #[.val (.long q1), .second, .val (.long q2), .second, .val (.long q3), .second, .val (.long q4), .second, .val (.long q5), .second, .val (.int p6), .val (.int v5), .unset, .unset, .unset, .unset, .unset, .unset, .unset, .unset, .unset, .unset] [(.int (p6 &&& (2 : Int32)))])) _
        refine XS.ifNo X0.here hx rfl (hb hby at_18) rfl ((if0 _ _).trans (feq hc8_18).1) ?_
        show Steps p.tables e below (s₁.setTop (mkF m 21 #[.val (.long q1), .second, .val (.long q2), .second, .val (.long q3), .second, .val (.long q4), .second, .val (.long q5), .second, .val (.int p6), .val (.int v5), .unset, .unset, .unset, .unset, .unset, .unset, .unset, .unset, .unset, .unset] [])) _
        refine XS.iconst X0.here hx rfl (hb hby at_21) ?_
        show Steps p.tables e below (s₁.setTop (mkF m 22 #[.val (.long q1), .second, .val (.long q2), .second, .val (.long q3), .second, .val (.long q4), .second, .val (.long q5), .second, .val (.int p6), .val (.int v5), .unset, .unset, .unset, .unset, .unset, .unset, .unset, .unset, .unset, .unset] [(.int (1 : Int32))])) _
        refine XS.goto X0.here hx rfl (pc0 := 22) (pc' := 26) rfl (hb hby at_22) (by decide) (by decide) ?_
        exact kt
      exact ⟨_, (if_neg hc8_18).symm, go10⟩
  have go13 : own_go p e below (s₁.setTop (entryFrame m #[(.long q1), (.long q2), (.long q3), (.long q4), (.long q5), (.int p6)] maxLocals)) (s₁.setTop (mkF m 32 #[.val (.long q1), .second, .val (.long q2), .second, .val (.long q3), .second, .val (.long q4), .second, .val (.long q5), .second, .val (.int p6), .val (.int v5), .val (.int v11), .unset, .unset, .unset, .unset, .unset, .unset, .unset, .unset, .unset] [(.int (p6 &&& (4 : Int32)))])) := by
    intro t kt
    refine go12 t ?_
    show Steps p.tables e below (s₁.setTop (mkF m 26 #[.val (.long q1), .second, .val (.long q2), .second, .val (.long q3), .second, .val (.long q4), .second, .val (.long q5), .second, .val (.int p6), .val (.int v5), .unset, .unset, .unset, .unset, .unset, .unset, .unset, .unset, .unset, .unset] [(.int v11)])) _
    refine XS.istore X0.here hx rfl (hb hby at_26) rfl (l' := #[.val (.long q1), .second, .val (.long q2), .second, .val (.long q3), .second, .val (.long q4), .second, .val (.long q5), .second, .val (.int p6), .val (.int v5), .val (.int v11), .unset, .unset, .unset, .unset, .unset, .unset, .unset, .unset, .unset]) rfl ?_
    show Steps p.tables e below (s₁.setTop (mkF m 28 #[.val (.long q1), .second, .val (.long q2), .second, .val (.long q3), .second, .val (.long q4), .second, .val (.long q5), .second, .val (.int p6), .val (.int v5), .val (.int v11), .unset, .unset, .unset, .unset, .unset, .unset, .unset, .unset, .unset] [])) _
    refine XS.iload X0.here hx rfl (hb hby at_28) rfl ?_
    show Steps p.tables e below (s₁.setTop (mkF m 30 #[.val (.long q1), .second, .val (.long q2), .second, .val (.long q3), .second, .val (.long q4), .second, .val (.long q5), .second, .val (.int p6), .val (.int v5), .val (.int v11), .unset, .unset, .unset, .unset, .unset, .unset, .unset, .unset, .unset] [(.int p6)])) _
    refine XS.iconst X0.here hx rfl (hb hby at_30) ?_
    show Steps p.tables e below (s₁.setTop (mkF m 31 #[.val (.long q1), .second, .val (.long q2), .second, .val (.long q3), .second, .val (.long q4), .second, .val (.long q5), .second, .val (.int p6), .val (.int v5), .val (.int v11), .unset, .unset, .unset, .unset, .unset, .unset, .unset, .unset, .unset] [(.int (4 : Int32)), (.int p6)])) _
    refine XS.iand X0.here hx rfl (hb hby at_31) rfl ?_
    exact kt
  obtain ⟨v17, hv_v17, go18⟩ : ∃ (v17 : Int32), v17 = (if (p6 &&& (4 : Int32)) = (0 : Int32) then (0 : Int32) else (1 : Int32)) ∧ own_go p e below (s₁.setTop (entryFrame m #[(.long q1), (.long q2), (.long q3), (.long q4), (.long q5), (.int p6)] maxLocals)) (s₁.setTop (mkF m 40 #[.val (.long q1), .second, .val (.long q2), .second, .val (.long q3), .second, .val (.long q4), .second, .val (.long q5), .second, .val (.int p6), .val (.int v5), .val (.int v11), .unset, .unset, .unset, .unset, .unset, .unset, .unset, .unset, .unset] [(.int v17)])) := by
    by_cases hc14_32 : (p6 &&& (4 : Int32)) = (0 : Int32)
    · have go15 : own_go p e below (s₁.setTop (entryFrame m #[(.long q1), (.long q2), (.long q3), (.long q4), (.long q5), (.int p6)] maxLocals)) (s₁.setTop (mkF m 40 #[.val (.long q1), .second, .val (.long q2), .second, .val (.long q3), .second, .val (.long q4), .second, .val (.long q5), .second, .val (.int p6), .val (.int v5), .val (.int v11), .unset, .unset, .unset, .unset, .unset, .unset, .unset, .unset, .unset] [(.int (0 : Int32))])) := by
        intro t kt
        refine go13 t ?_
        show Steps p.tables e below (s₁.setTop (mkF m 32 #[.val (.long q1), .second, .val (.long q2), .second, .val (.long q3), .second, .val (.long q4), .second, .val (.long q5), .second, .val (.int p6), .val (.int v5), .val (.int v11), .unset, .unset, .unset, .unset, .unset, .unset, .unset, .unset, .unset] [(.int (p6 &&& (4 : Int32)))])) _
        refine XS.ifYes X0.here hx rfl (pc0 := 32) (pc' := 39) rfl (hb hby at_32) rfl ((if0 _ _).trans (teq hc14_32).1) (by decide) (by decide) ?_
        show Steps p.tables e below (s₁.setTop (mkF m 39 #[.val (.long q1), .second, .val (.long q2), .second, .val (.long q3), .second, .val (.long q4), .second, .val (.long q5), .second, .val (.int p6), .val (.int v5), .val (.int v11), .unset, .unset, .unset, .unset, .unset, .unset, .unset, .unset, .unset] [])) _
        refine XS.iconst X0.here hx rfl (hb hby at_39) ?_
        exact kt
      exact ⟨_, (if_pos hc14_32).symm, go15⟩
    · have go16 : own_go p e below (s₁.setTop (entryFrame m #[(.long q1), (.long q2), (.long q3), (.long q4), (.long q5), (.int p6)] maxLocals)) (s₁.setTop (mkF m 40 #[.val (.long q1), .second, .val (.long q2), .second, .val (.long q3), .second, .val (.long q4), .second, .val (.long q5), .second, .val (.int p6), .val (.int v5), .val (.int v11), .unset, .unset, .unset, .unset, .unset, .unset, .unset, .unset, .unset] [(.int (1 : Int32))])) := by
        intro t kt
        refine go13 t ?_
        show Steps p.tables e below (s₁.setTop (mkF m 32 #[.val (.long q1), .second, .val (.long q2), .second, .val (.long q3), .second, .val (.long q4), .second, .val (.long q5), .second, .val (.int p6), .val (.int v5), .val (.int v11), .unset, .unset, .unset, .unset, .unset, .unset, .unset, .unset, .unset] [(.int (p6 &&& (4 : Int32)))])) _
        refine XS.ifNo X0.here hx rfl (hb hby at_32) rfl ((if0 _ _).trans (feq hc14_32).1) ?_
        show Steps p.tables e below (s₁.setTop (mkF m 35 #[.val (.long q1), .second, .val (.long q2), .second, .val (.long q3), .second, .val (.long q4), .second, .val (.long q5), .second, .val (.int p6), .val (.int v5), .val (.int v11), .unset, .unset, .unset, .unset, .unset, .unset, .unset, .unset, .unset] [])) _
        refine XS.iconst X0.here hx rfl (hb hby at_35) ?_
        show Steps p.tables e below (s₁.setTop (mkF m 36 #[.val (.long q1), .second, .val (.long q2), .second, .val (.long q3), .second, .val (.long q4), .second, .val (.long q5), .second, .val (.int p6), .val (.int v5), .val (.int v11), .unset, .unset, .unset, .unset, .unset, .unset, .unset, .unset, .unset] [(.int (1 : Int32))])) _
        refine XS.goto X0.here hx rfl (pc0 := 36) (pc' := 40) rfl (hb hby at_36) (by decide) (by decide) ?_
        exact kt
      exact ⟨_, (if_neg hc14_32).symm, go16⟩
  have go19 : own_go p e below (s₁.setTop (entryFrame m #[(.long q1), (.long q2), (.long q3), (.long q4), (.long q5), (.int p6)] maxLocals)) (s₁.setTop (mkF m 44 #[.val (.long q1), .second, .val (.long q2), .second, .val (.long q3), .second, .val (.long q4), .second, .val (.long q5), .second, .val (.int p6), .val (.int v5), .val (.int v11), .val (.int v17), .unset, .unset, .unset, .unset, .unset, .unset, .unset, .unset] [(.int v5)])) := by
    intro t kt
    refine go18 t ?_
    show Steps p.tables e below (s₁.setTop (mkF m 40 #[.val (.long q1), .second, .val (.long q2), .second, .val (.long q3), .second, .val (.long q4), .second, .val (.long q5), .second, .val (.int p6), .val (.int v5), .val (.int v11), .unset, .unset, .unset, .unset, .unset, .unset, .unset, .unset, .unset] [(.int v17)])) _
    refine XS.istore X0.here hx rfl (hb hby at_40) rfl (l' := #[.val (.long q1), .second, .val (.long q2), .second, .val (.long q3), .second, .val (.long q4), .second, .val (.long q5), .second, .val (.int p6), .val (.int v5), .val (.int v11), .val (.int v17), .unset, .unset, .unset, .unset, .unset, .unset, .unset, .unset]) rfl ?_
    show Steps p.tables e below (s₁.setTop (mkF m 42 #[.val (.long q1), .second, .val (.long q2), .second, .val (.long q3), .second, .val (.long q4), .second, .val (.long q5), .second, .val (.int p6), .val (.int v5), .val (.int v11), .val (.int v17), .unset, .unset, .unset, .unset, .unset, .unset, .unset, .unset] [])) _
    refine XS.iload X0.here hx rfl (hb hby at_42) rfl ?_
    exact kt
  obtain ⟨T25, L25, v24, X25, N25, e25, hv_v24, go25⟩ : ∃ (T25 : State) (L25 : List Loc) (v24 : Int64), Stand p l e room_1 s m #[(.long q1), (.long q2), (.long q3), (.long q4), (.long q5), (.int p6)] below meth c T25 L25 0 0 ∧ Fr n0 L25 ∧ T25.heap = h0 ∧ v24 = (if v5 = (0 : Int32) then (q1 + (if q2 = (0 : Int64) then (1 : Int64) else q2)) else q1) ∧ own_go p e below (s₁.setTop (entryFrame m #[(.long q1), (.long q2), (.long q3), (.long q4), (.long q5), (.int p6)] maxLocals)) (T25.setTop (mkF m 57 #[.val (.long q1), .second, .val (.long q2), .second, .val (.long q3), .second, .val (.long q4), .second, .val (.long q5), .second, .val (.int p6), .val (.int v5), .val (.int v11), .val (.int v17), .unset, .unset, .unset, .unset, .unset, .unset, .unset, .unset] [(.long v24)])) := by
    by_cases hc20_44 : v5 = (0 : Int32)
    · obtain ⟨_, _, ⟨T21, L21, k21, n21⟩, -, X21, ⟨Lc21, hQ21, l21, y21, z21⟩, st21⟩ := Jvm.LawKit.callS X0 hx (y := (⟨"com/example/allegheny/allegheny/bench/ResultPassedPinLaw", "nonZero", "(J)J"⟩ : MethodName)) hown (mvT hZ (hw _ (List.mem_of_getElem? (i := 0) rfl))) (mvT hZ (hw _ (List.mem_of_getElem? (i := 1) rfl))) (mvT hZ (hw _ (List.mem_of_getElem? (i := 2) rfl))) (mvT hZ (hw _ (List.mem_of_getElem? (i := 3) rfl))) (by decide) (backOf (W := 2) (rm1 l Z a0 hw [] q2  h0 n0 Z0 ) hZ (hw _ (List.mem_of_getElem? (i := 3) rfl)) (hw _ (List.mem_of_getElem? (i := 2) rfl)) (by decide) (by decide)) (g := (mkF m 53 #[.val (.long q1), .second, .val (.long q2), .second, .val (.long q3), .second, .val (.long q4), .second, .val (.long q5), .second, .val (.int p6), .val (.int v5), .val (.int v11), .val (.int v17), .unset, .unset, .unset, .unset, .unset, .unset, .unset, .unset] [(.long q2), (.long q1)])) rfl (by rw [hml]; rfl) (argsL := [(.long q2)]) (rest := [(.long q1)]) (lenOf own_pd1 rfl) rfl (by show 2 * 0 + _ ≤ _; exact Nat.le_of_eq rfl) (hb hby at_53) (fun _ _ => ⟨rfl, e0, (by decide : 0 + 0 ≤ _), (by decide : 0 + 0 ≤ _)⟩)
      dsimp only [Pt.U, Pt.locs, Pt.cells, Pt.slots] at X21 l21 y21 z21 st21 hQ21
      subst l21 y21 z21
      obtain ⟨rfl, Nq21, e21⟩ := hQ21
      have N21 := Fr.app N0 Nq21
      have go22 : own_go p e below (s₁.setTop (entryFrame m #[(.long q1), (.long q2), (.long q3), (.long q4), (.long q5), (.int p6)] maxLocals)) (T21.setTop (mkF m 57 #[.val (.long q1), .second, .val (.long q2), .second, .val (.long q3), .second, .val (.long q4), .second, .val (.long q5), .second, .val (.int p6), .val (.int v5), .val (.int v11), .val (.int v17), .unset, .unset, .unset, .unset, .unset, .unset, .unset, .unset] [(.long (q1 + (if q2 = (0 : Int64) then (1 : Int64) else q2)))])) := by
        intro t kt
        refine go19 t ?_
        show Steps p.tables e below (s₁.setTop (mkF m 44 #[.val (.long q1), .second, .val (.long q2), .second, .val (.long q3), .second, .val (.long q4), .second, .val (.long q5), .second, .val (.int p6), .val (.int v5), .val (.int v11), .val (.int v17), .unset, .unset, .unset, .unset, .unset, .unset, .unset, .unset] [(.int v5)])) _
        refine XS.ifYes X0.here hx rfl (pc0 := 44) (pc' := 51) rfl (hb hby at_44) rfl ((if0 _ _).trans (teq hc20_44).1) (by decide) (by decide) ?_
        show Steps p.tables e below (s₁.setTop (mkF m 51 #[.val (.long q1), .second, .val (.long q2), .second, .val (.long q3), .second, .val (.long q4), .second, .val (.long q5), .second, .val (.int p6), .val (.int v5), .val (.int v11), .val (.int v17), .unset, .unset, .unset, .unset, .unset, .unset, .unset, .unset] [])) _
        refine XS.lloadN X0.here hx rfl (hb hby at_51) rfl ?_
        show Steps p.tables e below (s₁.setTop (mkF m 52 #[.val (.long q1), .second, .val (.long q2), .second, .val (.long q3), .second, .val (.long q4), .second, .val (.long q5), .second, .val (.int p6), .val (.int v5), .val (.int v11), .val (.int v17), .unset, .unset, .unset, .unset, .unset, .unset, .unset, .unset] [(.long q1)])) _
        refine XS.lloadN X0.here hx rfl (hb hby at_52) rfl ?_
        show Steps p.tables e below (s₁.setTop (mkF m 53 #[.val (.long q1), .second, .val (.long q2), .second, .val (.long q3), .second, .val (.long q4), .second, .val (.long q5), .second, .val (.int p6), .val (.int v5), .val (.int v11), .val (.int v17), .unset, .unset, .unset, .unset, .unset, .unset, .unset, .unset] [(.long q2), (.long q1)])) _
        refine st21 _ ?_
        show Steps p.tables e below (T21.setTop (mkF m 56 #[.val (.long q1), .second, .val (.long q2), .second, .val (.long q3), .second, .val (.long q4), .second, .val (.long q5), .second, .val (.int p6), .val (.int v5), .val (.int v11), .val (.int v17), .unset, .unset, .unset, .unset, .unset, .unset, .unset, .unset] [(.long (if q2 = (0 : Int64) then (1 : Int64) else q2)), (.long q1)])) _
        refine XS.ladd X21.here hx rfl (hb hby at_56) rfl ?_
        exact kt
      exact ⟨T21, _, _, X21, N21, e21, (if_pos hc20_44).symm, go22⟩
    · have go23 : own_go p e below (s₁.setTop (entryFrame m #[(.long q1), (.long q2), (.long q3), (.long q4), (.long q5), (.int p6)] maxLocals)) (s₁.setTop (mkF m 57 #[.val (.long q1), .second, .val (.long q2), .second, .val (.long q3), .second, .val (.long q4), .second, .val (.long q5), .second, .val (.int p6), .val (.int v5), .val (.int v11), .val (.int v17), .unset, .unset, .unset, .unset, .unset, .unset, .unset, .unset] [(.long q1)])) := by
        intro t kt
        refine go19 t ?_
        show Steps p.tables e below (s₁.setTop (mkF m 44 #[.val (.long q1), .second, .val (.long q2), .second, .val (.long q3), .second, .val (.long q4), .second, .val (.long q5), .second, .val (.int p6), .val (.int v5), .val (.int v11), .val (.int v17), .unset, .unset, .unset, .unset, .unset, .unset, .unset, .unset] [(.int v5)])) _
        refine XS.ifNo X0.here hx rfl (hb hby at_44) rfl ((if0 _ _).trans (feq hc20_44).1) ?_
        show Steps p.tables e below (s₁.setTop (mkF m 47 #[.val (.long q1), .second, .val (.long q2), .second, .val (.long q3), .second, .val (.long q4), .second, .val (.long q5), .second, .val (.int p6), .val (.int v5), .val (.int v11), .val (.int v17), .unset, .unset, .unset, .unset, .unset, .unset, .unset, .unset] [])) _
        refine XS.lloadN X0.here hx rfl (hb hby at_47) rfl ?_
        show Steps p.tables e below (s₁.setTop (mkF m 48 #[.val (.long q1), .second, .val (.long q2), .second, .val (.long q3), .second, .val (.long q4), .second, .val (.long q5), .second, .val (.int p6), .val (.int v5), .val (.int v11), .val (.int v17), .unset, .unset, .unset, .unset, .unset, .unset, .unset, .unset] [(.long q1)])) _
        refine XS.goto X0.here hx rfl (pc0 := 48) (pc' := 57) rfl (hb hby at_48) (by decide) (by decide) ?_
        exact kt
      exact ⟨s₁, _, _, X0, N0, e0, (if_neg hc20_44).symm, go23⟩
  have go26 : own_go p e below (s₁.setTop (entryFrame m #[(.long q1), (.long q2), (.long q3), (.long q4), (.long q5), (.int p6)] maxLocals)) (T25.setTop (mkF m 61 #[.val (.long q1), .second, .val (.long q2), .second, .val (.long q3), .second, .val (.long q4), .second, .val (.long q5), .second, .val (.int p6), .val (.int v5), .val (.int v11), .val (.int v17), .val (.long v24), .second, .unset, .unset, .unset, .unset, .unset, .unset] [(.int v11)])) := by
    intro t kt
    refine go25 t ?_
    show Steps p.tables e below (T25.setTop (mkF m 57 #[.val (.long q1), .second, .val (.long q2), .second, .val (.long q3), .second, .val (.long q4), .second, .val (.long q5), .second, .val (.int p6), .val (.int v5), .val (.int v11), .val (.int v17), .unset, .unset, .unset, .unset, .unset, .unset, .unset, .unset] [(.long v24)])) _
    refine XS.lstore X25.here hx rfl (hb hby at_57) rfl (l' := #[.val (.long q1), .second, .val (.long q2), .second, .val (.long q3), .second, .val (.long q4), .second, .val (.long q5), .second, .val (.int p6), .val (.int v5), .val (.int v11), .val (.int v17), .val (.long v24), .second, .unset, .unset, .unset, .unset, .unset, .unset]) rfl ?_
    show Steps p.tables e below (T25.setTop (mkF m 59 #[.val (.long q1), .second, .val (.long q2), .second, .val (.long q3), .second, .val (.long q4), .second, .val (.long q5), .second, .val (.int p6), .val (.int v5), .val (.int v11), .val (.int v17), .val (.long v24), .second, .unset, .unset, .unset, .unset, .unset, .unset] [])) _
    refine XS.iload X25.here hx rfl (hb hby at_59) rfl ?_
    exact kt
  obtain ⟨T32, L32, v31, X32, N32, e32, hv_v31, go32⟩ : ∃ (T32 : State) (L32 : List Loc) (v31 : Int64), Stand p l e room_1 s m #[(.long q1), (.long q2), (.long q3), (.long q4), (.long q5), (.int p6)] below meth c T32 L32 0 0 ∧ Fr n0 L32 ∧ T32.heap = h0 ∧ v31 = (if v11 = (0 : Int32) then (if q3 = (0 : Int64) then (1 : Int64) else q3) else (0 : Int64)) ∧ own_go p e below (s₁.setTop (entryFrame m #[(.long q1), (.long q2), (.long q3), (.long q4), (.long q5), (.int p6)] maxLocals)) (T32.setTop (mkF m 73 #[.val (.long q1), .second, .val (.long q2), .second, .val (.long q3), .second, .val (.long q4), .second, .val (.long q5), .second, .val (.int p6), .val (.int v5), .val (.int v11), .val (.int v17), .val (.long v24), .second, .unset, .unset, .unset, .unset, .unset, .unset] [(.long v31)])) := by
    by_cases hc27_61 : v11 = (0 : Int32)
    · obtain ⟨_, _, ⟨T28, L28, k28, n28⟩, -, X28, ⟨Lc28, hQ28, l28, y28, z28⟩, st28⟩ := Jvm.LawKit.callS X25 hx (y := (⟨"com/example/allegheny/allegheny/bench/ResultPassedPinLaw", "nonZero", "(J)J"⟩ : MethodName)) hown (mvT hZ (hw _ (List.mem_of_getElem? (i := 0) rfl))) (mvT hZ (hw _ (List.mem_of_getElem? (i := 1) rfl))) (mvT hZ (hw _ (List.mem_of_getElem? (i := 2) rfl))) (mvT hZ (hw _ (List.mem_of_getElem? (i := 3) rfl))) (by decide) (backOf (W := 0) (rm1 l Z a0 hw [] q3  h0 n0 Z0 ) hZ (hw _ (List.mem_of_getElem? (i := 3) rfl)) (hw _ (List.mem_of_getElem? (i := 2) rfl)) (by decide) (by decide)) (g := (mkF m 70 #[.val (.long q1), .second, .val (.long q2), .second, .val (.long q3), .second, .val (.long q4), .second, .val (.long q5), .second, .val (.int p6), .val (.int v5), .val (.int v11), .val (.int v17), .val (.long v24), .second, .unset, .unset, .unset, .unset, .unset, .unset] [(.long q3)])) rfl (by rw [hml]; rfl) (argsL := [(.long q3)]) (rest := []) (lenOf own_pd1 rfl) rfl (by show 2 * 0 + _ ≤ _; exact Nat.le_of_eq rfl) (hb hby at_70) (fun _ _ => ⟨rfl, e25, (by decide : 0 + 0 ≤ _), (by decide : 0 + 0 ≤ _)⟩)
      dsimp only [Pt.U, Pt.locs, Pt.cells, Pt.slots] at X28 l28 y28 z28 st28 hQ28
      subst l28 y28 z28
      obtain ⟨rfl, Nq28, e28⟩ := hQ28
      have N28 := Fr.app N25 Nq28
      have go29 : own_go p e below (s₁.setTop (entryFrame m #[(.long q1), (.long q2), (.long q3), (.long q4), (.long q5), (.int p6)] maxLocals)) (T28.setTop (mkF m 73 #[.val (.long q1), .second, .val (.long q2), .second, .val (.long q3), .second, .val (.long q4), .second, .val (.long q5), .second, .val (.int p6), .val (.int v5), .val (.int v11), .val (.int v17), .val (.long v24), .second, .unset, .unset, .unset, .unset, .unset, .unset] [(.long (if q3 = (0 : Int64) then (1 : Int64) else q3))])) := by
        intro t kt
        refine go26 t ?_
        show Steps p.tables e below (T25.setTop (mkF m 61 #[.val (.long q1), .second, .val (.long q2), .second, .val (.long q3), .second, .val (.long q4), .second, .val (.long q5), .second, .val (.int p6), .val (.int v5), .val (.int v11), .val (.int v17), .val (.long v24), .second, .unset, .unset, .unset, .unset, .unset, .unset] [(.int v11)])) _
        refine XS.ifYes X25.here hx rfl (pc0 := 61) (pc' := 68) rfl (hb hby at_61) rfl ((if0 _ _).trans (teq hc27_61).1) (by decide) (by decide) ?_
        show Steps p.tables e below (T25.setTop (mkF m 68 #[.val (.long q1), .second, .val (.long q2), .second, .val (.long q3), .second, .val (.long q4), .second, .val (.long q5), .second, .val (.int p6), .val (.int v5), .val (.int v11), .val (.int v17), .val (.long v24), .second, .unset, .unset, .unset, .unset, .unset, .unset] [])) _
        refine XS.lload X25.here hx rfl (hb hby at_68) rfl ?_
        show Steps p.tables e below (T25.setTop (mkF m 70 #[.val (.long q1), .second, .val (.long q2), .second, .val (.long q3), .second, .val (.long q4), .second, .val (.long q5), .second, .val (.int p6), .val (.int v5), .val (.int v11), .val (.int v17), .val (.long v24), .second, .unset, .unset, .unset, .unset, .unset, .unset] [(.long q3)])) _
        refine st28 _ ?_
        exact kt
      exact ⟨T28, _, _, X28, N28, e28, (if_pos hc27_61).symm, go29⟩
    · have go30 : own_go p e below (s₁.setTop (entryFrame m #[(.long q1), (.long q2), (.long q3), (.long q4), (.long q5), (.int p6)] maxLocals)) (T25.setTop (mkF m 73 #[.val (.long q1), .second, .val (.long q2), .second, .val (.long q3), .second, .val (.long q4), .second, .val (.long q5), .second, .val (.int p6), .val (.int v5), .val (.int v11), .val (.int v17), .val (.long v24), .second, .unset, .unset, .unset, .unset, .unset, .unset] [(.long (0 : Int64))])) := by
        intro t kt
        refine go26 t ?_
        show Steps p.tables e below (T25.setTop (mkF m 61 #[.val (.long q1), .second, .val (.long q2), .second, .val (.long q3), .second, .val (.long q4), .second, .val (.long q5), .second, .val (.int p6), .val (.int v5), .val (.int v11), .val (.int v17), .val (.long v24), .second, .unset, .unset, .unset, .unset, .unset, .unset] [(.int v11)])) _
        refine XS.ifNo X25.here hx rfl (hb hby at_61) rfl ((if0 _ _).trans (feq hc27_61).1) ?_
        show Steps p.tables e below (T25.setTop (mkF m 64 #[.val (.long q1), .second, .val (.long q2), .second, .val (.long q3), .second, .val (.long q4), .second, .val (.long q5), .second, .val (.int p6), .val (.int v5), .val (.int v11), .val (.int v17), .val (.long v24), .second, .unset, .unset, .unset, .unset, .unset, .unset] [])) _
        refine XS.lconst X25.here hx rfl (hb hby at_64) ?_
        show Steps p.tables e below (T25.setTop (mkF m 65 #[.val (.long q1), .second, .val (.long q2), .second, .val (.long q3), .second, .val (.long q4), .second, .val (.long q5), .second, .val (.int p6), .val (.int v5), .val (.int v11), .val (.int v17), .val (.long v24), .second, .unset, .unset, .unset, .unset, .unset, .unset] [(.long (0 : Int64))])) _
        refine XS.goto X25.here hx rfl (pc0 := 65) (pc' := 73) rfl (hb hby at_65) (by decide) (by decide) ?_
        exact kt
      exact ⟨T25, _, _, X25, N25, e25, (if_neg hc27_61).symm, go30⟩
  have go33 : own_go p e below (s₁.setTop (entryFrame m #[(.long q1), (.long q2), (.long q3), (.long q4), (.long q5), (.int p6)] maxLocals)) (T32.setTop (mkF m 77 #[.val (.long q1), .second, .val (.long q2), .second, .val (.long q3), .second, .val (.long q4), .second, .val (.long q5), .second, .val (.int p6), .val (.int v5), .val (.int v11), .val (.int v17), .val (.long v24), .second, .val (.long v31), .second, .unset, .unset, .unset, .unset] [(.int v17)])) := by
    intro t kt
    refine go32 t ?_
    show Steps p.tables e below (T32.setTop (mkF m 73 #[.val (.long q1), .second, .val (.long q2), .second, .val (.long q3), .second, .val (.long q4), .second, .val (.long q5), .second, .val (.int p6), .val (.int v5), .val (.int v11), .val (.int v17), .val (.long v24), .second, .unset, .unset, .unset, .unset, .unset, .unset] [(.long v31)])) _
    refine XS.lstore X32.here hx rfl (hb hby at_73) rfl (l' := #[.val (.long q1), .second, .val (.long q2), .second, .val (.long q3), .second, .val (.long q4), .second, .val (.long q5), .second, .val (.int p6), .val (.int v5), .val (.int v11), .val (.int v17), .val (.long v24), .second, .val (.long v31), .second, .unset, .unset, .unset, .unset]) rfl ?_
    show Steps p.tables e below (T32.setTop (mkF m 75 #[.val (.long q1), .second, .val (.long q2), .second, .val (.long q3), .second, .val (.long q4), .second, .val (.long q5), .second, .val (.int p6), .val (.int v5), .val (.int v11), .val (.int v17), .val (.long v24), .second, .val (.long v31), .second, .unset, .unset, .unset, .unset] [])) _
    refine XS.iload X32.here hx rfl (hb hby at_75) rfl ?_
    exact kt
  obtain ⟨T39, L39, v38, X39, N39, e39, hv_v38, go39⟩ : ∃ (T39 : State) (L39 : List Loc) (v38 : Int64), Stand p l e room_1 s m #[(.long q1), (.long q2), (.long q3), (.long q4), (.long q5), (.int p6)] below meth c T39 L39 0 0 ∧ Fr n0 L39 ∧ T39.heap = h0 ∧ v38 = (if v17 = (0 : Int32) then (if q4 = (0 : Int64) then (1 : Int64) else q4) else (0 : Int64)) ∧ own_go p e below (s₁.setTop (entryFrame m #[(.long q1), (.long q2), (.long q3), (.long q4), (.long q5), (.int p6)] maxLocals)) (T39.setTop (mkF m 89 #[.val (.long q1), .second, .val (.long q2), .second, .val (.long q3), .second, .val (.long q4), .second, .val (.long q5), .second, .val (.int p6), .val (.int v5), .val (.int v11), .val (.int v17), .val (.long v24), .second, .val (.long v31), .second, .unset, .unset, .unset, .unset] [(.long v38)])) := by
    by_cases hc34_77 : v17 = (0 : Int32)
    · obtain ⟨_, _, ⟨T35, L35, k35, n35⟩, -, X35, ⟨Lc35, hQ35, l35, y35, z35⟩, st35⟩ := Jvm.LawKit.callS X32 hx (y := (⟨"com/example/allegheny/allegheny/bench/ResultPassedPinLaw", "nonZero", "(J)J"⟩ : MethodName)) hown (mvT hZ (hw _ (List.mem_of_getElem? (i := 0) rfl))) (mvT hZ (hw _ (List.mem_of_getElem? (i := 1) rfl))) (mvT hZ (hw _ (List.mem_of_getElem? (i := 2) rfl))) (mvT hZ (hw _ (List.mem_of_getElem? (i := 3) rfl))) (by decide) (backOf (W := 0) (rm1 l Z a0 hw [] q4  h0 n0 Z0 ) hZ (hw _ (List.mem_of_getElem? (i := 3) rfl)) (hw _ (List.mem_of_getElem? (i := 2) rfl)) (by decide) (by decide)) (g := (mkF m 86 #[.val (.long q1), .second, .val (.long q2), .second, .val (.long q3), .second, .val (.long q4), .second, .val (.long q5), .second, .val (.int p6), .val (.int v5), .val (.int v11), .val (.int v17), .val (.long v24), .second, .val (.long v31), .second, .unset, .unset, .unset, .unset] [(.long q4)])) rfl (by rw [hml]; rfl) (argsL := [(.long q4)]) (rest := []) (lenOf own_pd1 rfl) rfl (by show 2 * 0 + _ ≤ _; exact Nat.le_of_eq rfl) (hb hby at_86) (fun _ _ => ⟨rfl, e32, (by decide : 0 + 0 ≤ _), (by decide : 0 + 0 ≤ _)⟩)
      dsimp only [Pt.U, Pt.locs, Pt.cells, Pt.slots] at X35 l35 y35 z35 st35 hQ35
      subst l35 y35 z35
      obtain ⟨rfl, Nq35, e35⟩ := hQ35
      have N35 := Fr.app N32 Nq35
      have go36 : own_go p e below (s₁.setTop (entryFrame m #[(.long q1), (.long q2), (.long q3), (.long q4), (.long q5), (.int p6)] maxLocals)) (T35.setTop (mkF m 89 #[.val (.long q1), .second, .val (.long q2), .second, .val (.long q3), .second, .val (.long q4), .second, .val (.long q5), .second, .val (.int p6), .val (.int v5), .val (.int v11), .val (.int v17), .val (.long v24), .second, .val (.long v31), .second, .unset, .unset, .unset, .unset] [(.long (if q4 = (0 : Int64) then (1 : Int64) else q4))])) := by
        intro t kt
        refine go33 t ?_
        show Steps p.tables e below (T32.setTop (mkF m 77 #[.val (.long q1), .second, .val (.long q2), .second, .val (.long q3), .second, .val (.long q4), .second, .val (.long q5), .second, .val (.int p6), .val (.int v5), .val (.int v11), .val (.int v17), .val (.long v24), .second, .val (.long v31), .second, .unset, .unset, .unset, .unset] [(.int v17)])) _
        refine XS.ifYes X32.here hx rfl (pc0 := 77) (pc' := 84) rfl (hb hby at_77) rfl ((if0 _ _).trans (teq hc34_77).1) (by decide) (by decide) ?_
        show Steps p.tables e below (T32.setTop (mkF m 84 #[.val (.long q1), .second, .val (.long q2), .second, .val (.long q3), .second, .val (.long q4), .second, .val (.long q5), .second, .val (.int p6), .val (.int v5), .val (.int v11), .val (.int v17), .val (.long v24), .second, .val (.long v31), .second, .unset, .unset, .unset, .unset] [])) _
        refine XS.lload X32.here hx rfl (hb hby at_84) rfl ?_
        show Steps p.tables e below (T32.setTop (mkF m 86 #[.val (.long q1), .second, .val (.long q2), .second, .val (.long q3), .second, .val (.long q4), .second, .val (.long q5), .second, .val (.int p6), .val (.int v5), .val (.int v11), .val (.int v17), .val (.long v24), .second, .val (.long v31), .second, .unset, .unset, .unset, .unset] [(.long q4)])) _
        refine st35 _ ?_
        exact kt
      exact ⟨T35, _, _, X35, N35, e35, (if_pos hc34_77).symm, go36⟩
    · have go37 : own_go p e below (s₁.setTop (entryFrame m #[(.long q1), (.long q2), (.long q3), (.long q4), (.long q5), (.int p6)] maxLocals)) (T32.setTop (mkF m 89 #[.val (.long q1), .second, .val (.long q2), .second, .val (.long q3), .second, .val (.long q4), .second, .val (.long q5), .second, .val (.int p6), .val (.int v5), .val (.int v11), .val (.int v17), .val (.long v24), .second, .val (.long v31), .second, .unset, .unset, .unset, .unset] [(.long (0 : Int64))])) := by
        intro t kt
        refine go33 t ?_
        show Steps p.tables e below (T32.setTop (mkF m 77 #[.val (.long q1), .second, .val (.long q2), .second, .val (.long q3), .second, .val (.long q4), .second, .val (.long q5), .second, .val (.int p6), .val (.int v5), .val (.int v11), .val (.int v17), .val (.long v24), .second, .val (.long v31), .second, .unset, .unset, .unset, .unset] [(.int v17)])) _
        refine XS.ifNo X32.here hx rfl (hb hby at_77) rfl ((if0 _ _).trans (feq hc34_77).1) ?_
        show Steps p.tables e below (T32.setTop (mkF m 80 #[.val (.long q1), .second, .val (.long q2), .second, .val (.long q3), .second, .val (.long q4), .second, .val (.long q5), .second, .val (.int p6), .val (.int v5), .val (.int v11), .val (.int v17), .val (.long v24), .second, .val (.long v31), .second, .unset, .unset, .unset, .unset] [])) _
        refine XS.lconst X32.here hx rfl (hb hby at_80) ?_
        show Steps p.tables e below (T32.setTop (mkF m 81 #[.val (.long q1), .second, .val (.long q2), .second, .val (.long q3), .second, .val (.long q4), .second, .val (.long q5), .second, .val (.int p6), .val (.int v5), .val (.int v11), .val (.int v17), .val (.long v24), .second, .val (.long v31), .second, .unset, .unset, .unset, .unset] [(.long (0 : Int64))])) _
        refine XS.goto X32.here hx rfl (pc0 := 81) (pc' := 89) rfl (hb hby at_81) (by decide) (by decide) ?_
        exact kt
      exact ⟨T32, _, _, X32, N32, e32, (if_neg hc34_77).symm, go37⟩
  obtain ⟨T40, h40, X40, e40, E40, A40, D40, -, st40⟩ := newO X39 hx hZ hown (hw _ (List.mem_of_getElem? (i := 4) rfl)) (hw _ (List.mem_of_getElem? (i := 5) rfl)) (hw _ (List.mem_of_getElem? (i := 6) rfl)) e39 (g := (mkF m 91 #[.val (.long q1), .second, .val (.long q2), .second, .val (.long q3), .second, .val (.long q4), .second, .val (.long q5), .second, .val (.int p6), .val (.int v5), .val (.int v11), .val (.int v17), .val (.long v24), .second, .val (.long v31), .second, .val (.long v38), .second, .unset, .unset] [])) rfl (hb hby at_91) (by decide) (by decide)
  obtain ⟨b40, g40⟩ : ∃ z, z = h0.size := ⟨_, rfl⟩
  rw [← g40] at A40 D40 st40
  have g_b40 : n0 ≤ b40 := Nat.le_trans Z0 (Nat.le_of_eq g40.symm)
  have Z40 : n0 ≤ h40.size := Nat.le_trans Z0 E40.1
  have F40_ratings : Fld Z h40 b40 "com/example/allegheny/allegheny/bench/RatingsBench$Result" "ratings" "J" (.long (0 : Int64)) := D40 (Or.inr (hw _ (List.mem_of_getElem? (i := 19) rfl))) (ty := .long) (by decide)
  have F40_committed : Fld Z h40 b40 "com/example/allegheny/allegheny/bench/RatingsBench$Result" "committed" "J" (.long (0 : Int64)) := D40 (Or.inr (hw _ (List.mem_of_getElem? (i := 21) rfl))) (ty := .long) (by decide)
  have F40_rejected : Fld Z h40 b40 "com/example/allegheny/allegheny/bench/RatingsBench$Result" "rejected" "J" (.long (0 : Int64)) := D40 (Or.inr (hw _ (List.mem_of_getElem? (i := 23) rfl))) (ty := .long) (by decide)
  have F40_falseRejections : Fld Z h40 b40 "com/example/allegheny/allegheny/bench/RatingsBench$Result" "falseRejections" "J" (.long (0 : Int64)) := D40 (Or.inr (hw _ (List.mem_of_getElem? (i := 25) rfl))) (ty := .long) (by decide)
  have F40_staleCommits : Fld Z h40 b40 "com/example/allegheny/allegheny/bench/RatingsBench$Result" "staleCommits" "J" (.long (0 : Int64)) := D40 (Or.inr (hw _ (List.mem_of_getElem? (i := 27) rfl))) (ty := .long) (by decide)
  have F40_sumMismatches : Fld Z h40 b40 "com/example/allegheny/allegheny/bench/RatingsBench$Result" "sumMismatches" "J" (.long (0 : Int64)) := D40 (Or.inr (hw _ (List.mem_of_getElem? (i := 29) rfl))) (ty := .long) (by decide)
  have F40_members : Fld Z h40 b40 "com/example/allegheny/allegheny/bench/RatingsBench$Result" "members" "J" (.long (0 : Int64)) := D40 (Or.inr (hw _ (List.mem_of_getElem? (i := 31) rfl))) (ty := .long) (by decide)
  have F40_commitsPerSecond : Fld Z h40 b40 "com/example/allegheny/allegheny/bench/RatingsBench$Result" "commitsPerSecond" "J" (.long (0 : Int64)) := D40 (Or.inr (hw _ (List.mem_of_getElem? (i := 33) rfl))) (ty := .long) (by decide)
  have F40_p50Nanos : Fld Z h40 b40 "com/example/allegheny/allegheny/bench/RatingsBench$Result" "p50Nanos" "J" (.long (0 : Int64)) := D40 (Or.inr (hw _ (List.mem_of_getElem? (i := 35) rfl))) (ty := .long) (by decide)
  have F40_p99Nanos : Fld Z h40 b40 "com/example/allegheny/allegheny/bench/RatingsBench$Result" "p99Nanos" "J" (.long (0 : Int64)) := D40 (Or.inr (hw _ (List.mem_of_getElem? (i := 37) rfl))) (ty := .long) (by decide)
  have go41 : own_go p e below (s₁.setTop (entryFrame m #[(.long q1), (.long q2), (.long q3), (.long q4), (.long q5), (.int p6)] maxLocals)) (T40.setTop (mkF m 114 #[.val (.long q1), .second, .val (.long q2), .second, .val (.long q3), .second, .val (.long q4), .second, .val (.long q5), .second, .val (.int p6), .val (.int v5), .val (.int v11), .val (.int v17), .val (.long v24), .second, .val (.long v31), .second, .val (.long v38), .second, .unset, .unset] [(.long q2), (.long (q5 + q3)), (.long v38), (.long v31), (.long (q5 ^^^ q2)), (.long q5), (.long v24), (.long q1), (.ref b40), (.ref b40)])) := by
    intro t kt
    refine go39 t ?_
    show Steps p.tables e below (T39.setTop (mkF m 89 #[.val (.long q1), .second, .val (.long q2), .second, .val (.long q3), .second, .val (.long q4), .second, .val (.long q5), .second, .val (.int p6), .val (.int v5), .val (.int v11), .val (.int v17), .val (.long v24), .second, .val (.long v31), .second, .unset, .unset, .unset, .unset] [(.long v38)])) _
    refine XS.lstore X39.here hx rfl (hb hby at_89) rfl (l' := #[.val (.long q1), .second, .val (.long q2), .second, .val (.long q3), .second, .val (.long q4), .second, .val (.long q5), .second, .val (.int p6), .val (.int v5), .val (.int v11), .val (.int v17), .val (.long v24), .second, .val (.long v31), .second, .val (.long v38), .second, .unset, .unset]) rfl ?_
    show Steps p.tables e below (T39.setTop (mkF m 91 #[.val (.long q1), .second, .val (.long q2), .second, .val (.long q3), .second, .val (.long q4), .second, .val (.long q5), .second, .val (.int p6), .val (.int v5), .val (.int v11), .val (.int v17), .val (.long v24), .second, .val (.long v31), .second, .val (.long v38), .second, .unset, .unset] [])) _
    refine st40 _ ?_
    show Steps p.tables e below (T40.setTop (mkF m 94 #[.val (.long q1), .second, .val (.long q2), .second, .val (.long q3), .second, .val (.long q4), .second, .val (.long q5), .second, .val (.int p6), .val (.int v5), .val (.int v11), .val (.int v17), .val (.long v24), .second, .val (.long v31), .second, .val (.long v38), .second, .unset, .unset] [(.ref b40)])) _
    refine XS.dup X40.here hx rfl (hb hby at_94) rfl rfl ?_
    show Steps p.tables e below (T40.setTop (mkF m 95 #[.val (.long q1), .second, .val (.long q2), .second, .val (.long q3), .second, .val (.long q4), .second, .val (.long q5), .second, .val (.int p6), .val (.int v5), .val (.int v11), .val (.int v17), .val (.long v24), .second, .val (.long v31), .second, .val (.long v38), .second, .unset, .unset] [(.ref b40), (.ref b40)])) _
    refine XS.lloadN X40.here hx rfl (hb hby at_95) rfl ?_
    show Steps p.tables e below (T40.setTop (mkF m 96 #[.val (.long q1), .second, .val (.long q2), .second, .val (.long q3), .second, .val (.long q4), .second, .val (.long q5), .second, .val (.int p6), .val (.int v5), .val (.int v11), .val (.int v17), .val (.long v24), .second, .val (.long v31), .second, .val (.long v38), .second, .unset, .unset] [(.long q1), (.ref b40), (.ref b40)])) _
    refine XS.lload X40.here hx rfl (hb hby at_96) rfl ?_
    show Steps p.tables e below (T40.setTop (mkF m 98 #[.val (.long q1), .second, .val (.long q2), .second, .val (.long q3), .second, .val (.long q4), .second, .val (.long q5), .second, .val (.int p6), .val (.int v5), .val (.int v11), .val (.int v17), .val (.long v24), .second, .val (.long v31), .second, .val (.long v38), .second, .unset, .unset] [(.long v24), (.long q1), (.ref b40), (.ref b40)])) _
    refine XS.lload X40.here hx rfl (hb hby at_98) rfl ?_
    show Steps p.tables e below (T40.setTop (mkF m 100 #[.val (.long q1), .second, .val (.long q2), .second, .val (.long q3), .second, .val (.long q4), .second, .val (.long q5), .second, .val (.int p6), .val (.int v5), .val (.int v11), .val (.int v17), .val (.long v24), .second, .val (.long v31), .second, .val (.long v38), .second, .unset, .unset] [(.long q5), (.long v24), (.long q1), (.ref b40), (.ref b40)])) _
    refine XS.lload X40.here hx rfl (hb hby at_100) rfl ?_
    show Steps p.tables e below (T40.setTop (mkF m 102 #[.val (.long q1), .second, .val (.long q2), .second, .val (.long q3), .second, .val (.long q4), .second, .val (.long q5), .second, .val (.int p6), .val (.int v5), .val (.int v11), .val (.int v17), .val (.long v24), .second, .val (.long v31), .second, .val (.long v38), .second, .unset, .unset] [(.long q5), (.long q5), (.long v24), (.long q1), (.ref b40), (.ref b40)])) _
    refine XS.lloadN X40.here hx rfl (hb hby at_102) rfl ?_
    show Steps p.tables e below (T40.setTop (mkF m 103 #[.val (.long q1), .second, .val (.long q2), .second, .val (.long q3), .second, .val (.long q4), .second, .val (.long q5), .second, .val (.int p6), .val (.int v5), .val (.int v11), .val (.int v17), .val (.long v24), .second, .val (.long v31), .second, .val (.long v38), .second, .unset, .unset] [(.long q2), (.long q5), (.long q5), (.long v24), (.long q1), (.ref b40), (.ref b40)])) _
    refine XS.lxor X40.here hx rfl (hb hby at_103) rfl ?_
    show Steps p.tables e below (T40.setTop (mkF m 104 #[.val (.long q1), .second, .val (.long q2), .second, .val (.long q3), .second, .val (.long q4), .second, .val (.long q5), .second, .val (.int p6), .val (.int v5), .val (.int v11), .val (.int v17), .val (.long v24), .second, .val (.long v31), .second, .val (.long v38), .second, .unset, .unset] [(.long (q5 ^^^ q2)), (.long q5), (.long v24), (.long q1), (.ref b40), (.ref b40)])) _
    refine XS.lload X40.here hx rfl (hb hby at_104) rfl ?_
    show Steps p.tables e below (T40.setTop (mkF m 106 #[.val (.long q1), .second, .val (.long q2), .second, .val (.long q3), .second, .val (.long q4), .second, .val (.long q5), .second, .val (.int p6), .val (.int v5), .val (.int v11), .val (.int v17), .val (.long v24), .second, .val (.long v31), .second, .val (.long v38), .second, .unset, .unset] [(.long v31), (.long (q5 ^^^ q2)), (.long q5), (.long v24), (.long q1), (.ref b40), (.ref b40)])) _
    refine XS.lload X40.here hx rfl (hb hby at_106) rfl ?_
    show Steps p.tables e below (T40.setTop (mkF m 108 #[.val (.long q1), .second, .val (.long q2), .second, .val (.long q3), .second, .val (.long q4), .second, .val (.long q5), .second, .val (.int p6), .val (.int v5), .val (.int v11), .val (.int v17), .val (.long v24), .second, .val (.long v31), .second, .val (.long v38), .second, .unset, .unset] [(.long v38), (.long v31), (.long (q5 ^^^ q2)), (.long q5), (.long v24), (.long q1), (.ref b40), (.ref b40)])) _
    refine XS.lload X40.here hx rfl (hb hby at_108) rfl ?_
    show Steps p.tables e below (T40.setTop (mkF m 110 #[.val (.long q1), .second, .val (.long q2), .second, .val (.long q3), .second, .val (.long q4), .second, .val (.long q5), .second, .val (.int p6), .val (.int v5), .val (.int v11), .val (.int v17), .val (.long v24), .second, .val (.long v31), .second, .val (.long v38), .second, .unset, .unset] [(.long q5), (.long v38), (.long v31), (.long (q5 ^^^ q2)), (.long q5), (.long v24), (.long q1), (.ref b40), (.ref b40)])) _
    refine XS.lload X40.here hx rfl (hb hby at_110) rfl ?_
    show Steps p.tables e below (T40.setTop (mkF m 112 #[.val (.long q1), .second, .val (.long q2), .second, .val (.long q3), .second, .val (.long q4), .second, .val (.long q5), .second, .val (.int p6), .val (.int v5), .val (.int v11), .val (.int v17), .val (.long v24), .second, .val (.long v31), .second, .val (.long v38), .second, .unset, .unset] [(.long q3), (.long q5), (.long v38), (.long v31), (.long (q5 ^^^ q2)), (.long q5), (.long v24), (.long q1), (.ref b40), (.ref b40)])) _
    refine XS.ladd X40.here hx rfl (hb hby at_112) rfl ?_
    show Steps p.tables e below (T40.setTop (mkF m 113 #[.val (.long q1), .second, .val (.long q2), .second, .val (.long q3), .second, .val (.long q4), .second, .val (.long q5), .second, .val (.int p6), .val (.int v5), .val (.int v11), .val (.int v17), .val (.long v24), .second, .val (.long v31), .second, .val (.long v38), .second, .unset, .unset] [(.long (q5 + q3)), (.long v38), (.long v31), (.long (q5 ^^^ q2)), (.long q5), (.long v24), (.long q1), (.ref b40), (.ref b40)])) _
    refine XS.lloadN X40.here hx rfl (hb hby at_113) rfl ?_
    exact kt
  obtain ⟨_, _, ⟨T42, L42, k42, n42⟩, -, X42, ⟨Lc42, hQ42, l42, y42, z42⟩, st42⟩ := X40.specialBack hx (y := (⟨"com/example/allegheny/allegheny/bench/RatingsBench$Result", "<init>", "(JJJJJJJJJJ)V"⟩ : MethodName)) rfl hown (mvT hZ (hw _ (List.mem_of_getElem? (i := 7) rfl))) (mvT hZ (hw _ (List.mem_of_getElem? (i := 8) rfl))) (mvT hZ (hw _ (List.mem_of_getElem? (i := 9) rfl))) (by decide) (backOf (W := 1) (rm2 l Z a0 hw [] b40 q1 v24 q5 (q5 ^^^ q2) v31 v38 (q5 + q3) (q2 ^^^ q4) q3 q4  h40 n0 Z40 A40 g_b40 F40_ratings F40_committed F40_rejected F40_falseRejections F40_staleCommits F40_sumMismatches F40_members F40_commitsPerSecond F40_p50Nanos F40_p99Nanos) hZ (hw _ (List.mem_of_getElem? (i := 9) rfl)) (hw _ (List.mem_of_getElem? (i := 6) rfl)) (by decide) (by decide)) (g := (mkF m 121 #[.val (.long q1), .second, .val (.long q2), .second, .val (.long q3), .second, .val (.long q4), .second, .val (.long q5), .second, .val (.int p6), .val (.int v5), .val (.int v11), .val (.int v17), .val (.long v24), .second, .val (.long v31), .second, .val (.long v38), .second, .unset, .unset] [(.long q4), (.long q3), (.long (q2 ^^^ q4)), (.long (q5 + q3)), (.long v38), (.long v31), (.long (q5 ^^^ q2)), (.long q5), (.long v24), (.long q1), (.ref b40), (.ref b40)])) rfl (by rw [hml]; rfl) (Steps.refl _) (a := b40) (argsL := [(.long q1), (.long v24), (.long q5), (.long (q5 ^^^ q2)), (.long v31), (.long v38), (.long (q5 + q3)), (.long (q2 ^^^ q4)), (.long q3), (.long q4)]) (rest := [(.ref b40)]) (lenOf own_pd2 rfl) rfl (by show 2 * 0 + _ ≤ _; exact Nat.le_of_eq rfl) (hb hby at_121) (fun _ _ => ⟨rfl, e40, (by decide : 1 + 0 ≤ _), (by decide : 10 + 0 ≤ _)⟩)
  dsimp only [Pt.U, Pt.locs, Pt.cells, Pt.slots] at X42 l42 y42 z42 st42 hQ42
  subst l42 y42 z42
  obtain ⟨rfl, Nq42, Kq42, Eq42, Fq42_ratings, Fq42_committed, Fq42_rejected, Fq42_falseRejections, Fq42_staleCommits, Fq42_sumMismatches, Fq42_members, Fq42_commitsPerSecond, Fq42_p50Nanos, Fq42_p99Nanos⟩ := hQ42
  have N42 := Fr.app N39 Nq42
  have Z42 : n0 ≤ T42.heap.size := Nat.le_trans Z40 Kq42.1
  have go43 : own_go p e below (s₁.setTop (entryFrame m #[(.long q1), (.long q2), (.long q3), (.long q4), (.long q5), (.int p6)] maxLocals)) (T42.setTop (mkF m 128 #[.val (.long q1), .second, .val (.long q2), .second, .val (.long q3), .second, .val (.long q4), .second, .val (.long q5), .second, .val (.int p6), .val (.int v5), .val (.int v11), .val (.int v17), .val (.long v24), .second, .val (.long v31), .second, .val (.long v38), .second, .val (.ref b40), .unset] [(.int v5)])) := by
    intro t kt
    refine go41 t ?_
    show Steps p.tables e below (T40.setTop (mkF m 114 #[.val (.long q1), .second, .val (.long q2), .second, .val (.long q3), .second, .val (.long q4), .second, .val (.long q5), .second, .val (.int p6), .val (.int v5), .val (.int v11), .val (.int v17), .val (.long v24), .second, .val (.long v31), .second, .val (.long v38), .second, .unset, .unset] [(.long q2), (.long (q5 + q3)), (.long v38), (.long v31), (.long (q5 ^^^ q2)), (.long q5), (.long v24), (.long q1), (.ref b40), (.ref b40)])) _
    refine XS.lload X40.here hx rfl (hb hby at_114) rfl ?_
    show Steps p.tables e below (T40.setTop (mkF m 116 #[.val (.long q1), .second, .val (.long q2), .second, .val (.long q3), .second, .val (.long q4), .second, .val (.long q5), .second, .val (.int p6), .val (.int v5), .val (.int v11), .val (.int v17), .val (.long v24), .second, .val (.long v31), .second, .val (.long v38), .second, .unset, .unset] [(.long q4), (.long q2), (.long (q5 + q3)), (.long v38), (.long v31), (.long (q5 ^^^ q2)), (.long q5), (.long v24), (.long q1), (.ref b40), (.ref b40)])) _
    refine XS.lxor X40.here hx rfl (hb hby at_116) rfl ?_
    show Steps p.tables e below (T40.setTop (mkF m 117 #[.val (.long q1), .second, .val (.long q2), .second, .val (.long q3), .second, .val (.long q4), .second, .val (.long q5), .second, .val (.int p6), .val (.int v5), .val (.int v11), .val (.int v17), .val (.long v24), .second, .val (.long v31), .second, .val (.long v38), .second, .unset, .unset] [(.long (q2 ^^^ q4)), (.long (q5 + q3)), (.long v38), (.long v31), (.long (q5 ^^^ q2)), (.long q5), (.long v24), (.long q1), (.ref b40), (.ref b40)])) _
    refine XS.lload X40.here hx rfl (hb hby at_117) rfl ?_
    show Steps p.tables e below (T40.setTop (mkF m 119 #[.val (.long q1), .second, .val (.long q2), .second, .val (.long q3), .second, .val (.long q4), .second, .val (.long q5), .second, .val (.int p6), .val (.int v5), .val (.int v11), .val (.int v17), .val (.long v24), .second, .val (.long v31), .second, .val (.long v38), .second, .unset, .unset] [(.long q3), (.long (q2 ^^^ q4)), (.long (q5 + q3)), (.long v38), (.long v31), (.long (q5 ^^^ q2)), (.long q5), (.long v24), (.long q1), (.ref b40), (.ref b40)])) _
    refine XS.lload X40.here hx rfl (hb hby at_119) rfl ?_
    show Steps p.tables e below (T40.setTop (mkF m 121 #[.val (.long q1), .second, .val (.long q2), .second, .val (.long q3), .second, .val (.long q4), .second, .val (.long q5), .second, .val (.int p6), .val (.int v5), .val (.int v11), .val (.int v17), .val (.long v24), .second, .val (.long v31), .second, .val (.long v38), .second, .unset, .unset] [(.long q4), (.long q3), (.long (q2 ^^^ q4)), (.long (q5 + q3)), (.long v38), (.long v31), (.long (q5 ^^^ q2)), (.long q5), (.long v24), (.long q1), (.ref b40), (.ref b40)])) _
    refine st42.trans ?_
    show Steps p.tables e below (T42.setTop (mkF m 124 #[.val (.long q1), .second, .val (.long q2), .second, .val (.long q3), .second, .val (.long q4), .second, .val (.long q5), .second, .val (.int p6), .val (.int v5), .val (.int v11), .val (.int v17), .val (.long v24), .second, .val (.long v31), .second, .val (.long v38), .second, .unset, .unset] [(.ref b40)])) _
    refine XS.astore X42.here hx rfl (hb hby at_124) rfl rfl (l' := #[.val (.long q1), .second, .val (.long q2), .second, .val (.long q3), .second, .val (.long q4), .second, .val (.long q5), .second, .val (.int p6), .val (.int v5), .val (.int v11), .val (.int v17), .val (.long v24), .second, .val (.long v31), .second, .val (.long v38), .second, .val (.ref b40), .unset]) rfl ?_
    show Steps p.tables e below (T42.setTop (mkF m 126 #[.val (.long q1), .second, .val (.long q2), .second, .val (.long q3), .second, .val (.long q4), .second, .val (.long q5), .second, .val (.int p6), .val (.int v5), .val (.int v11), .val (.int v17), .val (.long v24), .second, .val (.long v31), .second, .val (.long v38), .second, .val (.ref b40), .unset] [])) _
    refine XS.iload X42.here hx rfl (hb hby at_126) rfl ?_
    exact kt
  obtain ⟨v57, hv_v57, go58⟩ : ∃ (v57 : Int32), v57 = (if v5 = (0 : Int32) then (0 : Int32) else (if v11 = (0 : Int32) then (0 : Int32) else (if v17 = (0 : Int32) then (0 : Int32) else (1 : Int32)))) ∧ own_go p e below (s₁.setTop (entryFrame m #[(.long q1), (.long q2), (.long q3), (.long q4), (.long q5), (.int p6)] maxLocals)) (T42.setTop (mkF m 146 #[.val (.long q1), .second, .val (.long q2), .second, .val (.long q3), .second, .val (.long q4), .second, .val (.long q5), .second, .val (.int p6), .val (.int v5), .val (.int v11), .val (.int v17), .val (.long v24), .second, .val (.long v31), .second, .val (.long v38), .second, .val (.ref b40), .unset] [(.int v57)])) := by
    by_cases hc44_128 : v5 = (0 : Int32)
    · have go45 : own_go p e below (s₁.setTop (entryFrame m #[(.long q1), (.long q2), (.long q3), (.long q4), (.long q5), (.int p6)] maxLocals)) (T42.setTop (mkF m 146 #[.val (.long q1), .second, .val (.long q2), .second, .val (.long q3), .second, .val (.long q4), .second, .val (.long q5), .second, .val (.int p6), .val (.int v5), .val (.int v11), .val (.int v17), .val (.long v24), .second, .val (.long v31), .second, .val (.long v38), .second, .val (.ref b40), .unset] [(.int (0 : Int32))])) := by
        intro t kt
        refine go43 t ?_
        show Steps p.tables e below (T42.setTop (mkF m 128 #[.val (.long q1), .second, .val (.long q2), .second, .val (.long q3), .second, .val (.long q4), .second, .val (.long q5), .second, .val (.int p6), .val (.int v5), .val (.int v11), .val (.int v17), .val (.long v24), .second, .val (.long v31), .second, .val (.long v38), .second, .val (.ref b40), .unset] [(.int v5)])) _
        refine XS.ifYes X42.here hx rfl (pc0 := 128) (pc' := 145) rfl (hb hby at_128) rfl ((if0 _ _).trans (teq hc44_128).1) (by decide) (by decide) ?_
        show Steps p.tables e below (T42.setTop (mkF m 145 #[.val (.long q1), .second, .val (.long q2), .second, .val (.long q3), .second, .val (.long q4), .second, .val (.long q5), .second, .val (.int p6), .val (.int v5), .val (.int v11), .val (.int v17), .val (.long v24), .second, .val (.long v31), .second, .val (.long v38), .second, .val (.ref b40), .unset] [])) _
        refine XS.iconst X42.here hx rfl (hb hby at_145) ?_
        exact kt
      exact ⟨_, (if_pos hc44_128).symm, go45⟩
    · have go46 : own_go p e below (s₁.setTop (entryFrame m #[(.long q1), (.long q2), (.long q3), (.long q4), (.long q5), (.int p6)] maxLocals)) (T42.setTop (mkF m 133 #[.val (.long q1), .second, .val (.long q2), .second, .val (.long q3), .second, .val (.long q4), .second, .val (.long q5), .second, .val (.int p6), .val (.int v5), .val (.int v11), .val (.int v17), .val (.long v24), .second, .val (.long v31), .second, .val (.long v38), .second, .val (.ref b40), .unset] [(.int v11)])) := by
        intro t kt
        refine go43 t ?_
        show Steps p.tables e below (T42.setTop (mkF m 128 #[.val (.long q1), .second, .val (.long q2), .second, .val (.long q3), .second, .val (.long q4), .second, .val (.long q5), .second, .val (.int p6), .val (.int v5), .val (.int v11), .val (.int v17), .val (.long v24), .second, .val (.long v31), .second, .val (.long v38), .second, .val (.ref b40), .unset] [(.int v5)])) _
        refine XS.ifNo X42.here hx rfl (hb hby at_128) rfl ((if0 _ _).trans (feq hc44_128).1) ?_
        show Steps p.tables e below (T42.setTop (mkF m 131 #[.val (.long q1), .second, .val (.long q2), .second, .val (.long q3), .second, .val (.long q4), .second, .val (.long q5), .second, .val (.int p6), .val (.int v5), .val (.int v11), .val (.int v17), .val (.long v24), .second, .val (.long v31), .second, .val (.long v38), .second, .val (.ref b40), .unset] [])) _
        refine XS.iload X42.here hx rfl (hb hby at_131) rfl ?_
        exact kt
      obtain ⟨v55, hv_v55, go56⟩ : ∃ (v55 : Int32), v55 = (if v11 = (0 : Int32) then (0 : Int32) else (if v17 = (0 : Int32) then (0 : Int32) else (1 : Int32))) ∧ own_go p e below (s₁.setTop (entryFrame m #[(.long q1), (.long q2), (.long q3), (.long q4), (.long q5), (.int p6)] maxLocals)) (T42.setTop (mkF m 146 #[.val (.long q1), .second, .val (.long q2), .second, .val (.long q3), .second, .val (.long q4), .second, .val (.long q5), .second, .val (.int p6), .val (.int v5), .val (.int v11), .val (.int v17), .val (.long v24), .second, .val (.long v31), .second, .val (.long v38), .second, .val (.ref b40), .unset] [(.int v55)])) := by
        by_cases hc47_133 : v11 = (0 : Int32)
        · have go48 : own_go p e below (s₁.setTop (entryFrame m #[(.long q1), (.long q2), (.long q3), (.long q4), (.long q5), (.int p6)] maxLocals)) (T42.setTop (mkF m 146 #[.val (.long q1), .second, .val (.long q2), .second, .val (.long q3), .second, .val (.long q4), .second, .val (.long q5), .second, .val (.int p6), .val (.int v5), .val (.int v11), .val (.int v17), .val (.long v24), .second, .val (.long v31), .second, .val (.long v38), .second, .val (.ref b40), .unset] [(.int (0 : Int32))])) := by
            intro t kt
            refine go46 t ?_
            show Steps p.tables e below (T42.setTop (mkF m 133 #[.val (.long q1), .second, .val (.long q2), .second, .val (.long q3), .second, .val (.long q4), .second, .val (.long q5), .second, .val (.int p6), .val (.int v5), .val (.int v11), .val (.int v17), .val (.long v24), .second, .val (.long v31), .second, .val (.long v38), .second, .val (.ref b40), .unset] [(.int v11)])) _
            refine XS.ifYes X42.here hx rfl (pc0 := 133) (pc' := 145) rfl (hb hby at_133) rfl ((if0 _ _).trans (teq hc47_133).1) (by decide) (by decide) ?_
            show Steps p.tables e below (T42.setTop (mkF m 145 #[.val (.long q1), .second, .val (.long q2), .second, .val (.long q3), .second, .val (.long q4), .second, .val (.long q5), .second, .val (.int p6), .val (.int v5), .val (.int v11), .val (.int v17), .val (.long v24), .second, .val (.long v31), .second, .val (.long v38), .second, .val (.ref b40), .unset] [])) _
            refine XS.iconst X42.here hx rfl (hb hby at_145) ?_
            exact kt
          exact ⟨_, (if_pos hc47_133).symm, go48⟩
        · have go49 : own_go p e below (s₁.setTop (entryFrame m #[(.long q1), (.long q2), (.long q3), (.long q4), (.long q5), (.int p6)] maxLocals)) (T42.setTop (mkF m 138 #[.val (.long q1), .second, .val (.long q2), .second, .val (.long q3), .second, .val (.long q4), .second, .val (.long q5), .second, .val (.int p6), .val (.int v5), .val (.int v11), .val (.int v17), .val (.long v24), .second, .val (.long v31), .second, .val (.long v38), .second, .val (.ref b40), .unset] [(.int v17)])) := by
            intro t kt
            refine go46 t ?_
            show Steps p.tables e below (T42.setTop (mkF m 133 #[.val (.long q1), .second, .val (.long q2), .second, .val (.long q3), .second, .val (.long q4), .second, .val (.long q5), .second, .val (.int p6), .val (.int v5), .val (.int v11), .val (.int v17), .val (.long v24), .second, .val (.long v31), .second, .val (.long v38), .second, .val (.ref b40), .unset] [(.int v11)])) _
            refine XS.ifNo X42.here hx rfl (hb hby at_133) rfl ((if0 _ _).trans (feq hc47_133).1) ?_
            show Steps p.tables e below (T42.setTop (mkF m 136 #[.val (.long q1), .second, .val (.long q2), .second, .val (.long q3), .second, .val (.long q4), .second, .val (.long q5), .second, .val (.int p6), .val (.int v5), .val (.int v11), .val (.int v17), .val (.long v24), .second, .val (.long v31), .second, .val (.long v38), .second, .val (.ref b40), .unset] [])) _
            refine XS.iload X42.here hx rfl (hb hby at_136) rfl ?_
            exact kt
          obtain ⟨v53, hv_v53, go54⟩ : ∃ (v53 : Int32), v53 = (if v17 = (0 : Int32) then (0 : Int32) else (1 : Int32)) ∧ own_go p e below (s₁.setTop (entryFrame m #[(.long q1), (.long q2), (.long q3), (.long q4), (.long q5), (.int p6)] maxLocals)) (T42.setTop (mkF m 146 #[.val (.long q1), .second, .val (.long q2), .second, .val (.long q3), .second, .val (.long q4), .second, .val (.long q5), .second, .val (.int p6), .val (.int v5), .val (.int v11), .val (.int v17), .val (.long v24), .second, .val (.long v31), .second, .val (.long v38), .second, .val (.ref b40), .unset] [(.int v53)])) := by
            by_cases hc50_138 : v17 = (0 : Int32)
            · have go51 : own_go p e below (s₁.setTop (entryFrame m #[(.long q1), (.long q2), (.long q3), (.long q4), (.long q5), (.int p6)] maxLocals)) (T42.setTop (mkF m 146 #[.val (.long q1), .second, .val (.long q2), .second, .val (.long q3), .second, .val (.long q4), .second, .val (.long q5), .second, .val (.int p6), .val (.int v5), .val (.int v11), .val (.int v17), .val (.long v24), .second, .val (.long v31), .second, .val (.long v38), .second, .val (.ref b40), .unset] [(.int (0 : Int32))])) := by
                intro t kt
                refine go49 t ?_
                show Steps p.tables e below (T42.setTop (mkF m 138 #[.val (.long q1), .second, .val (.long q2), .second, .val (.long q3), .second, .val (.long q4), .second, .val (.long q5), .second, .val (.int p6), .val (.int v5), .val (.int v11), .val (.int v17), .val (.long v24), .second, .val (.long v31), .second, .val (.long v38), .second, .val (.ref b40), .unset] [(.int v17)])) _
                refine XS.ifYes X42.here hx rfl (pc0 := 138) (pc' := 145) rfl (hb hby at_138) rfl ((if0 _ _).trans (teq hc50_138).1) (by decide) (by decide) ?_
                show Steps p.tables e below (T42.setTop (mkF m 145 #[.val (.long q1), .second, .val (.long q2), .second, .val (.long q3), .second, .val (.long q4), .second, .val (.long q5), .second, .val (.int p6), .val (.int v5), .val (.int v11), .val (.int v17), .val (.long v24), .second, .val (.long v31), .second, .val (.long v38), .second, .val (.ref b40), .unset] [])) _
                refine XS.iconst X42.here hx rfl (hb hby at_145) ?_
                exact kt
              exact ⟨_, (if_pos hc50_138).symm, go51⟩
            · have go52 : own_go p e below (s₁.setTop (entryFrame m #[(.long q1), (.long q2), (.long q3), (.long q4), (.long q5), (.int p6)] maxLocals)) (T42.setTop (mkF m 146 #[.val (.long q1), .second, .val (.long q2), .second, .val (.long q3), .second, .val (.long q4), .second, .val (.long q5), .second, .val (.int p6), .val (.int v5), .val (.int v11), .val (.int v17), .val (.long v24), .second, .val (.long v31), .second, .val (.long v38), .second, .val (.ref b40), .unset] [(.int (1 : Int32))])) := by
                intro t kt
                refine go49 t ?_
                show Steps p.tables e below (T42.setTop (mkF m 138 #[.val (.long q1), .second, .val (.long q2), .second, .val (.long q3), .second, .val (.long q4), .second, .val (.long q5), .second, .val (.int p6), .val (.int v5), .val (.int v11), .val (.int v17), .val (.long v24), .second, .val (.long v31), .second, .val (.long v38), .second, .val (.ref b40), .unset] [(.int v17)])) _
                refine XS.ifNo X42.here hx rfl (hb hby at_138) rfl ((if0 _ _).trans (feq hc50_138).1) ?_
                show Steps p.tables e below (T42.setTop (mkF m 141 #[.val (.long q1), .second, .val (.long q2), .second, .val (.long q3), .second, .val (.long q4), .second, .val (.long q5), .second, .val (.int p6), .val (.int v5), .val (.int v11), .val (.int v17), .val (.long v24), .second, .val (.long v31), .second, .val (.long v38), .second, .val (.ref b40), .unset] [])) _
                refine XS.iconst X42.here hx rfl (hb hby at_141) ?_
                show Steps p.tables e below (T42.setTop (mkF m 142 #[.val (.long q1), .second, .val (.long q2), .second, .val (.long q3), .second, .val (.long q4), .second, .val (.long q5), .second, .val (.int p6), .val (.int v5), .val (.int v11), .val (.int v17), .val (.long v24), .second, .val (.long v31), .second, .val (.long v38), .second, .val (.ref b40), .unset] [(.int (1 : Int32))])) _
                refine XS.goto X42.here hx rfl (pc0 := 142) (pc' := 146) rfl (hb hby at_142) (by decide) (by decide) ?_
                exact kt
              exact ⟨_, (if_neg hc50_138).symm, go52⟩
          subst hv_v53
          exact ⟨_, (if_neg hc47_133).symm, go54⟩
      subst hv_v55
      exact ⟨_, (if_neg hc44_128).symm, go56⟩
  obtain ⟨cq59, kq59, q59a, q59b, q59c⟩ := isOf hZ rfl Eq42
  obtain ⟨_, _, ⟨T59, L59, k59, n59⟩, -, X59, ⟨Lc59, hQ59, l59, y59, z59⟩, st59⟩ := X42.virtualBack hx (y := (⟨"com/example/allegheny/allegheny/bench/RatingsBench$Result", "passed", "()Z"⟩ : MethodName)) (z := (⟨"com/example/allegheny/allegheny/bench/RatingsBench$Result", "passed", "()Z"⟩ : MethodName)) hown (mvT hZ (hw _ (List.mem_of_getElem? (i := 38) rfl))) (mvT hZ (hw _ (List.mem_of_getElem? (i := 39) rfl))) (notFace_of_selects (args := #[]) (mvT hZ (hw _ (List.mem_of_getElem? (i := 41) rfl)))) (mvT hZ (hw _ (List.mem_of_getElem? (i := 41) rfl))) (mvT hZ (hw _ (List.mem_of_getElem? (i := 40) rfl))) (by decide) (backOf (W := 0) (rm5 l Z a0 hw [] b40 v24 q1 v31 v38 T42.heap n0 Z42 Fq42_committed Fq42_ratings Fq42_staleCommits Fq42_sumMismatches) hZ (hw _ (List.mem_of_getElem? (i := 42) rfl)) (hw _ (List.mem_of_getElem? (i := 6) rfl)) (by decide) (by decide)) q59a q59c (g := (mkF m 150 #[.val (.long q1), .second, .val (.long q2), .second, .val (.long q3), .second, .val (.long q4), .second, .val (.long q5), .second, .val (.int p6), .val (.int v5), .val (.int v11), .val (.int v17), .val (.long v24), .second, .val (.long v31), .second, .val (.long v38), .second, .val (.ref b40), .val (.int v57)] [(.ref b40)])) rfl (by rw [hml]; rfl) (Steps.refl _) (argsL := []) (rest := []) (lenOf own_pd3 rfl) rfl (by show 2 * 0 + _ ≤ _; exact Nat.le_of_eq rfl) (hb hby at_150) (fun _ _ => ⟨rfl, rfl, (by decide : 1 + 0 ≤ _), (by decide : 10 + 0 ≤ _)⟩)
  dsimp only [Pt.U, Pt.locs, Pt.cells, Pt.slots] at X59 l59 y59 z59 st59 hQ59
  subst l59 y59 z59
  obtain ⟨rfl, Nq59, e59⟩ := hQ59
  have N59 := Fr.app N42 Nq59
  have hc60_155 : (if v24 = q1 then (if v31 = (0 : Int64) then (if v38 = (0 : Int64) then (1 : Int32) else (0 : Int32)) else (0 : Int32)) else (0 : Int32)) = v57 := by rw [hv_v24, hv_v31, hv_v38, hv_v57]; exact own_main _ _ _ _ _ _ _
  have go61 : own_go p e below (s₁.setTop (entryFrame m #[(.long q1), (.long q2), (.long q3), (.long q4), (.long q5), (.int p6)] maxLocals)) (T59.setTop (mkF m 163 #[.val (.long q1), .second, .val (.long q2), .second, .val (.long q3), .second, .val (.long q4), .second, .val (.long q5), .second, .val (.int p6), .val (.int v5), .val (.int v11), .val (.int v17), .val (.long v24), .second, .val (.long v31), .second, .val (.long v38), .second, .val (.ref b40), .val (.int v57)] [(.int (1 : Int32))])) := by
    intro t kt
    refine go58 t ?_
    show Steps p.tables e below (T42.setTop (mkF m 146 #[.val (.long q1), .second, .val (.long q2), .second, .val (.long q3), .second, .val (.long q4), .second, .val (.long q5), .second, .val (.int p6), .val (.int v5), .val (.int v11), .val (.int v17), .val (.long v24), .second, .val (.long v31), .second, .val (.long v38), .second, .val (.ref b40), .unset] [(.int v57)])) _
    refine XS.istore X42.here hx rfl (hb hby at_146) rfl (l' := #[.val (.long q1), .second, .val (.long q2), .second, .val (.long q3), .second, .val (.long q4), .second, .val (.long q5), .second, .val (.int p6), .val (.int v5), .val (.int v11), .val (.int v17), .val (.long v24), .second, .val (.long v31), .second, .val (.long v38), .second, .val (.ref b40), .val (.int v57)]) rfl ?_
    show Steps p.tables e below (T42.setTop (mkF m 148 #[.val (.long q1), .second, .val (.long q2), .second, .val (.long q3), .second, .val (.long q4), .second, .val (.long q5), .second, .val (.int p6), .val (.int v5), .val (.int v11), .val (.int v17), .val (.long v24), .second, .val (.long v31), .second, .val (.long v38), .second, .val (.ref b40), .val (.int v57)] [])) _
    refine XS.aload X42.here hx rfl (hb hby at_148) rfl rfl ?_
    show Steps p.tables e below (T42.setTop (mkF m 150 #[.val (.long q1), .second, .val (.long q2), .second, .val (.long q3), .second, .val (.long q4), .second, .val (.long q5), .second, .val (.int p6), .val (.int v5), .val (.int v11), .val (.int v17), .val (.long v24), .second, .val (.long v31), .second, .val (.long v38), .second, .val (.ref b40), .val (.int v57)] [(.ref b40)])) _
    refine st59.trans ?_
    show Steps p.tables e below (T59.setTop (mkF m 153 #[.val (.long q1), .second, .val (.long q2), .second, .val (.long q3), .second, .val (.long q4), .second, .val (.long q5), .second, .val (.int p6), .val (.int v5), .val (.int v11), .val (.int v17), .val (.long v24), .second, .val (.long v31), .second, .val (.long v38), .second, .val (.ref b40), .val (.int v57)] [(.int (if v24 = q1 then (if v31 = (0 : Int64) then (if v38 = (0 : Int64) then (1 : Int32) else (0 : Int32)) else (0 : Int32)) else (0 : Int32)))])) _
    refine XS.iload X59.here hx rfl (hb hby at_153) rfl ?_
    show Steps p.tables e below (T59.setTop (mkF m 155 #[.val (.long q1), .second, .val (.long q2), .second, .val (.long q3), .second, .val (.long q4), .second, .val (.long q5), .second, .val (.int p6), .val (.int v5), .val (.int v11), .val (.int v17), .val (.long v24), .second, .val (.long v31), .second, .val (.long v38), .second, .val (.ref b40), .val (.int v57)] [(.int v57), (.int (if v24 = q1 then (if v31 = (0 : Int64) then (if v38 = (0 : Int64) then (1 : Int32) else (0 : Int32)) else (0 : Int32)) else (0 : Int32)))])) _
    refine XS.icmpNo X59.here hx rfl (hb hby at_155) rfl (teq hc60_155).2 ?_
    show Steps p.tables e below (T59.setTop (mkF m 158 #[.val (.long q1), .second, .val (.long q2), .second, .val (.long q3), .second, .val (.long q4), .second, .val (.long q5), .second, .val (.int p6), .val (.int v5), .val (.int v11), .val (.int v17), .val (.long v24), .second, .val (.long v31), .second, .val (.long v38), .second, .val (.ref b40), .val (.int v57)] [])) _
    refine XS.iconst X59.here hx rfl (hb hby at_158) ?_
    show Steps p.tables e below (T59.setTop (mkF m 159 #[.val (.long q1), .second, .val (.long q2), .second, .val (.long q3), .second, .val (.long q4), .second, .val (.long q5), .second, .val (.int p6), .val (.int v5), .val (.int v11), .val (.int v17), .val (.long v24), .second, .val (.long v31), .second, .val (.long v38), .second, .val (.ref b40), .val (.int v57)] [(.int (1 : Int32))])) _
    refine XS.goto X59.here hx rfl (pc0 := 159) (pc' := 163) rfl (hb hby at_159) (by decide) (by decide) ?_
    exact kt
  obtain ⟨fs, hr, hrun, hended, hW, hsame⟩ := X59.leave (v := some (.int (1 : Int32))) (fun h => by rw [Bd.returns] at h; cases h)
  refine ⟨_, _, go61 _ ?_, hrun, hended, _, _, rfl, ?_, ⟨_, rfl⟩, hW, hsame.mono (by decide) (by decide)⟩
  · exact retN X59 hx (t := .boolean) Bd.returns (by simp) (hb hby at_163) hr
  · show Q0 Z q1 q2 q3 q4 q5 p6 h0 n0 _ T59.heap _
    rw [e59]
    exact ⟨rfl, N59⟩
set_option maxRecDepth 65536 in
set_option maxHeartbeats 40000000 in
theorem comes_1 {Post : Tables → Env → Array Value → State → Outcome → State → Prop} (hpost : ∀ tb e args s v u, (limb_1_1.after args s (.returned v) u = true ∧ limb_1_2.after args s (.returned v) u = true ∧ True) → FrameEnd s (.returned v) u (Jvm.fieldLocs frame_1_writes args s ++ Jvm.arrayLocs frame_1_arrays args s ++ Jvm.staticLocs frame_1_statics s) 16 128 → Post tb e args s (.returned v) u) :
    ArmFor flags0 classFile x code maxLocals ret World_1 tables_1 room_1 Calls_1 rest_1 Pre_1 Post := by
  intro l hfl _ _ p e ha hc hk s m args below hf hA hF happ hP
  obtain ⟨hcalls, hrest, hpre⟩ := hP
  obtain ⟨-, -, -, hnamed, -, -, -, hat⟩ := (Spec.applies_iff hf).mp happ
  obtain ⟨hg, hn⟩ := and_e (Cond.before_iff.mp (show (Jvm.Cond.and given_1 narrow_1).before args s = true from hpre))
  obtain ⟨ga0, gb0⟩ := and_e hg
  obtain ⟨ga1, gb1⟩ := and_e gb0
  obtain ⟨ga2, gb2⟩ := and_e gb1
  obtain ⟨ga3, gb3⟩ := and_e gb2
  obtain ⟨ga4, gb4⟩ := and_e gb3
  obtain ⟨ga5, gb5⟩ := and_e gb4
  obtain ⟨w0, w1, w2, w3, w4, w5, rfl⟩ : ∃ w0 w1 w2 w3 w4 w5 : Value, args = #[w0, w1, w2, w3, w4, w5] := by
    have hs : args.size = 6 := by simpa [Cond.value, given_1] using ga0
    obtain ⟨L⟩ := args
    match L, hs with
    | [w0, w1, w2, w3, w4, w5], _ => exact ⟨w0, w1, w2, w3, w4, w5, rfl⟩
  have hw := fun d (hd : d ∈ tables_1) => atoms_spec (ws := Jvm.Cond.code x code maxLocals ret :: tables_1) hat d (List.mem_cons_of_mem _ hd)
  have hfit : Fit s := fun {y c} hc i hi => by
    obtain ⟨ha, rfl⟩ := Array.getElem?_eq_some_iff.mp hc
    have q := List.all_eq_true.mp ((Array.all_eq_true_iff_forall_mem.mp hF) _ (Array.getElem_mem ha)) i (List.mem_range.mpr hi)
    simpa [Array.getElem?_eq_getElem hi] using q
  obtain ⟨i0, ei0⟩ := isL_v ga1
  obtain rfl : w0 = (.long i0) := Option.some.inj ei0
  obtain ⟨i1, ei1⟩ := isL_v ga2
  obtain rfl : w1 = (.long i1) := Option.some.inj ei1
  obtain ⟨i2, ei2⟩ := isL_v ga3
  obtain rfl : w2 = (.long i2) := Option.some.inj ei2
  obtain ⟨i3, ei3⟩ := isL_v ga4
  obtain rfl : w3 = (.long i3) := Option.some.inj ei3
  obtain ⟨i4, ei4⟩ := isL_v ga5
  obtain rfl : w4 = (.long i4) := Option.some.inj ei4
  obtain ⟨i5, ei5⟩ := is_v gb5
  obtain rfl : w5 = (.int i5) := Option.some.inj ei5
  obtain ⟨n, o, h1, h2, h3, _, L, rfl, ⟨rfl, N⟩, hq⟩ := rm0 l s _ hw tables_1 i0 i1 i2 i3 i4 i5  s.heap s.heap.size (Nat.le_refl _)  p e ha hc hk s m _ below hf ((Spec.applies_iff_loose hf).mp happ).1 ⟨rfl, State.Warmed39.refl s, rfl⟩ trivial
  refine ⟨n, _, h1, h2, h3, hpost _ _ _ _ _ _ ⟨Cond.after_iff.mpr rfl, Cond.after_iff.mpr (eq_i res_at (Term.int_eval (1)) rfl), trivial⟩ ⟨hq.1, hq.2.1, (hq.2.2.sift fun y hy => Or.inr (N y hy)).mono (by decide) (by decide)⟩⟩
theorem main_1_1 : Claimed_1_1 := comes_1 fun _ _ _ _ _ _ h hF => ⟨h.1, hF⟩
theorem main_1_2 : Claimed_1_2 := comes_1 fun _ _ _ _ _ _ h hF => ⟨h.2.1, hF⟩
end Jvm.Pilot.@@N@@
namespace Jvm.Pilot.@@N@@
open Jvm Jvm.ClassFile Sem Op Lib Jvm.Free Jvm.Stand Jvm.Pilot.@@N@@.Jvm.D
/-! MADE BY PROGRAM (witnessworld.py) out of the Statement's table words and the real class files: 10 classes; the members and pool entries that the words name. The judged class is class 1, her method 2. -/
namespace start1
open Jvm.ClassFile
def u (s : String) : CpInfo := .utf8 (stringToUtf16 s)
/-- a pool by its gaps: so many unusable entries, then the entry; so many at the end -/
def gap : Nat → List CpInfo → List CpInfo
  | 0, r => r
  | n + 1, r => .unusable :: gap n r
def poolList (es : List (Nat × CpInfo)) (last : Nat) : List CpInfo := es.foldr (fun e r => gap e.1 (e.2 :: r)) (gap last [])
def pool (es : List (Nat × CpInfo)) (last : Nat) : Array CpInfo := ⟨poolList es last⟩
def fileOf (pool : Array CpInfo) (this : Nat) (attrs : Array Attribute := #[]) (ms : Array MethodInfo := #[]) (fl : Nat := 33) (sup : Nat := 0) (ifs : Array Nat := #[]) (fds : Array FieldInfo := #[]) : ClassFile where
  minorVersion := 0
  majorVersion := 65
  constantPool := pool
  accessFlags := fl
  thisClass := this
  superClass := sup
  interfaces := ifs
  fields := fds
  methods := ms
  attributes := attrs
def plain (name : String) (sup : Option ClassId) : Class where
  name := name
  kind := .ordinary
  loader := none
  accessFlags := 33
  super := sup
  interfaces := #[]
  cf := none
  fields := #[]
  methods := #[]
  instanceTypes := #[]
  staticTypes := #[]
  resolved := #[]
  callSites := []
  init := .initialized
  statics := none
  mirror := none

def pool0 : Array CpInfo := pool [(5, u "<init>"), (0, u "()V"), (1, .class_ 10), (1, u "java/lang/Object")] 113

def k0c0 : Code := { maxStack := 0, maxLocals := 1, code := object_method_1_code, exceptionTable := #[], attributes := #[] }
def k0m0 : Method := { name := "<init>", desc := "()V", sig := { parameters := [], returnType := none }, accessFlags := 1, code := some k0c0 }
/-- java/lang/Object -/
def k0 : Class := { plain "java/lang/Object" none with
  accessFlags := 33
  interfaces := #[]
  cf := some (fileOf pool0 8 #[] #[{ accessFlags := 1, nameIndex := 5, descriptorIndex := 6, attributes := #[] }] 33 0 #[] #[])
  fields := #[]
  methods := #[k0m0]
  instanceTypes := #[]
  staticTypes := #[]
  resolved := Array.replicate 124 none
  statics := none }

def pool1 : Array CpInfo := pool [(2, .class_ 4), (1, u "java/lang/Object"), (0, u "<init>"), (0, u "()V"), (0, .methodref 8 9), (0, .class_ 10), (0, .nameAndType 11 12), (0, u "com/example/allegheny/allegheny/bench/ResultPassedPinLaw"), (0, u "nonZero"), (0, u "(J)J"), (0, .class_ 14), (0, u "com/example/allegheny/allegheny/bench/RatingsBench$Result"), (0, .methodref 13 16), (0, .nameAndType 5 17), (0, u "(JJJJJJJJJJ)V"), (0, .methodref 13 19), (0, .nameAndType 20 21), (0, u "passed"), (0, u "()Z"), (3, u "law"), (0, u "(JJJJJI)Z")] 6

def k1m0 : Method := { name := "<init>", desc := "()V", sig := { parameters := [], returnType := none }, accessFlags := 1, code := none }
def k1c1 : Code := { maxStack := 4, maxLocals := 2, code := method_2_code, exceptionTable := #[], attributes := #[] }
def k1m1 : Method := { name := "nonZero", desc := "(J)J", sig := { parameters := [.long], returnType := some .long }, accessFlags := 10, code := some k1c1 }
def k1c2 : Code := { maxStack := 22, maxLocals := 22, code := code, exceptionTable := #[], attributes := #[] }
def k1m2 : Method := { name := "law", desc := "(JJJJJI)Z", sig := { parameters := [.long, .long, .long, .long, .long, .int], returnType := some .boolean }, accessFlags := 9, code := some k1c2 }
/-- com/example/allegheny/allegheny/bench/ResultPassedPinLaw -/
def k1 : Class := { plain "com/example/allegheny/allegheny/bench/ResultPassedPinLaw" (some 0) with
  accessFlags := 49
  interfaces := #[]
  cf := some (fileOf pool1 8 #[] #[{ accessFlags := 1, nameIndex := 5, descriptorIndex := 6, attributes := #[] }, { accessFlags := 10, nameIndex := 11, descriptorIndex := 12, attributes := #[] }, { accessFlags := 9, nameIndex := 25, descriptorIndex := 26, attributes := #[] }] 49 2 #[] #[])
  fields := #[]
  methods := #[k1m0, k1m1, k1m2]
  instanceTypes := #[]
  staticTypes := #[]
  resolved := Array.replicate 33 none
  statics := none }

def pool2 : Array CpInfo := pool [(1, .methodref 2 3), (0, .class_ 4), (0, .nameAndType 5 6), (0, u "java/lang/Object"), (0, u "<init>"), (0, u "()V"), (0, .class_ 8), (0, u "java/lang/Record")] 13

def k2c0 : Code := { maxStack := 1, maxLocals := 1, code := jdk_30_method_1_code, exceptionTable := #[], attributes := #[] }
def k2m0 : Method := { name := "<init>", desc := "()V", sig := { parameters := [], returnType := none }, accessFlags := 4, code := some k2c0 }
/-- java/lang/Record -/
def k2 : Class := { plain "java/lang/Record" (some 0) with
  accessFlags := 1057
  interfaces := #[]
  cf := some (fileOf pool2 7 #[] #[{ accessFlags := 4, nameIndex := 5, descriptorIndex := 6, attributes := #[] }] 1057 2 #[] #[])
  fields := #[]
  methods := #[k2m0]
  instanceTypes := #[]
  staticTypes := #[]
  resolved := Array.replicate 22 none
  statics := none }

def pool3 : Array CpInfo := pool [(1, .methodref 2 3), (0, .class_ 4), (0, .nameAndType 5 6), (0, u "java/lang/Record"), (0, u "<init>"), (0, u "()V"), (0, .fieldref 8 9), (0, .class_ 10), (0, .nameAndType 11 12), (0, u "com/example/allegheny/allegheny/bench/RatingsBench$Result"), (0, u "ratings"), (0, u "J"), (0, .fieldref 8 14), (0, .nameAndType 15 12), (0, u "committed"), (0, .fieldref 8 17), (0, .nameAndType 18 12), (0, u "rejected"), (0, .fieldref 8 20), (0, .nameAndType 21 12), (0, u "falseRejections"), (0, .fieldref 8 23), (0, .nameAndType 24 12), (0, u "staleCommits"), (0, .fieldref 8 26), (0, .nameAndType 27 12), (0, u "sumMismatches"), (0, .fieldref 8 29), (0, .nameAndType 30 12), (0, u "members"), (0, .fieldref 8 32), (0, .nameAndType 33 12), (0, u "commitsPerSecond"), (0, .fieldref 8 35), (0, .nameAndType 36 12), (0, u "p50Nanos"), (0, .fieldref 8 38), (0, .nameAndType 39 12), (0, u "p99Nanos"), (44, u "(JJJJJJJJJJ)V"), (3, u "passed"), (0, u "()Z"), (9, .class_ 100), (0, u "com/example/allegheny/allegheny/bench/RatingsBench")] 36

def k3c0 : Code := { maxStack := 3, maxLocals := 21, code := prog_28_method_1_code, exceptionTable := #[], attributes := #[] }
def k3m0 : Method := { name := "<init>", desc := "(JJJJJJJJJJ)V", sig := { parameters := [.long, .long, .long, .long, .long, .long, .long, .long, .long, .long], returnType := none }, accessFlags := 1, code := some k3c0 }
def k3c1 : Code := { maxStack := 4, maxLocals := 1, code := prog_28_method_2_code, exceptionTable := #[], attributes := #[] }
def k3m1 : Method := { name := "passed", desc := "()Z", sig := { parameters := [], returnType := some .boolean }, accessFlags := 1, code := some k3c1 }
/-- com/example/allegheny/allegheny/bench/RatingsBench$Result -/
def k3 : Class := { plain "com/example/allegheny/allegheny/bench/RatingsBench$Result" (some 2) with
  accessFlags := 49
  interfaces := #[]
  cf := some (fileOf pool3 8 #[.nestHost 99] #[{ accessFlags := 1, nameIndex := 5, descriptorIndex := 84, attributes := #[] }, { accessFlags := 1, nameIndex := 88, descriptorIndex := 89, attributes := #[] }] 49 2 #[] #[{ accessFlags := 18, nameIndex := 11, descriptorIndex := 12, attributes := #[] }, { accessFlags := 18, nameIndex := 15, descriptorIndex := 12, attributes := #[] }, { accessFlags := 18, nameIndex := 18, descriptorIndex := 12, attributes := #[] }, { accessFlags := 18, nameIndex := 21, descriptorIndex := 12, attributes := #[] }, { accessFlags := 18, nameIndex := 24, descriptorIndex := 12, attributes := #[] }, { accessFlags := 18, nameIndex := 27, descriptorIndex := 12, attributes := #[] }, { accessFlags := 18, nameIndex := 30, descriptorIndex := 12, attributes := #[] }, { accessFlags := 18, nameIndex := 33, descriptorIndex := 12, attributes := #[] }, { accessFlags := 18, nameIndex := 36, descriptorIndex := 12, attributes := #[] }, { accessFlags := 18, nameIndex := 39, descriptorIndex := 12, attributes := #[] }])
  fields := #[{ name := "ratings", type := .long, accessFlags := 18, slot := 0, constantValue := 0 }, { name := "committed", type := .long, accessFlags := 18, slot := 1, constantValue := 0 }, { name := "rejected", type := .long, accessFlags := 18, slot := 2, constantValue := 0 }, { name := "falseRejections", type := .long, accessFlags := 18, slot := 3, constantValue := 0 }, { name := "staleCommits", type := .long, accessFlags := 18, slot := 4, constantValue := 0 }, { name := "sumMismatches", type := .long, accessFlags := 18, slot := 5, constantValue := 0 }, { name := "members", type := .long, accessFlags := 18, slot := 6, constantValue := 0 }, { name := "commitsPerSecond", type := .long, accessFlags := 18, slot := 7, constantValue := 0 }, { name := "p50Nanos", type := .long, accessFlags := 18, slot := 8, constantValue := 0 }, { name := "p99Nanos", type := .long, accessFlags := 18, slot := 9, constantValue := 0 }]
  methods := #[k3m0, k3m1]
  instanceTypes := #[.long, .long, .long, .long, .long, .long, .long, .long, .long, .long]
  staticTypes := #[]
  resolved := Array.replicate 137 none
  statics := none }

def pool4 : Array CpInfo := pool [(1, u "java/lang/Cloneable"), (0, .class_ 1), (0, u "java/lang/Object"), (0, .class_ 3)] 3

/-- java/lang/Cloneable -/
def k4 : Class := { plain "java/lang/Cloneable" (some 0) with
  accessFlags := 1537
  interfaces := #[]
  cf := some (fileOf pool4 2 #[] #[] 1537 4 #[] #[])
  fields := #[]
  methods := #[]
  instanceTypes := #[]
  staticTypes := #[]
  resolved := Array.replicate 8 none
  statics := none }

def pool5 : Array CpInfo := pool [(1, u "java/io/Serializable"), (0, .class_ 1), (0, u "java/lang/Object"), (0, .class_ 3)] 3

/-- java/io/Serializable -/
def k5 : Class := { plain "java/io/Serializable" (some 0) with
  accessFlags := 1537
  interfaces := #[]
  cf := some (fileOf pool5 2 #[] #[] 1537 4 #[] #[])
  fields := #[]
  methods := #[]
  instanceTypes := #[]
  staticTypes := #[]
  resolved := Array.replicate 8 none
  statics := none }

/-- the primitive byte -/
def k6 : Class := { plain "byte" none with kind := .primitive 'B', accessFlags := 0x411 }
/-- [B -/
def k7 : Class := { plain "[B" (some 0) with kind := .array 6 .byte, interfaces := #[4, 5], accessFlags := 1041 }

/-- the primitive int -/
def k8 : Class := { plain "int" none with kind := .primitive 'I', accessFlags := 0x411 }
/-- [I -/
def k9 : Class := { plain "[I" (some 0) with kind := .array 8 .int, interfaces := #[4, 5], accessFlags := 1041 }

def heap : Heap := #[]
def classes : Array Class := #[k0, k1, k2, k3, k4, k5, k6, k7, k8, k9]
def interned : List (Array UInt16 × Addr) := []
def slotsUsed : Nat := 0
def theMethod : MethodId := ⟨1, 2⟩
def args0 : Array Value := #[.long 3, .long 4, .long 5, .long 6, .long 7, .int 8]
def aboutOver (below : List Frame) : State where
  vm := { classes := classes, interned := interned.toArray }
  heap := heap
  slotsUsed := slotsUsed
  threads := #[{ frames := .invoking theMethod args0 :: below }]
def below0 : List Frame := [.native { method := ⟨0, 0⟩, args := #[] }]
def about1 : State := aboutOver below0
def p0 : Program := .bare "" "" ""
def e0 : Env := launch0.env 0 0 0
theorem w_frames : about1.frames = Frame.invoking theMethod args0 :: below0 := rfl
set_option maxRecDepth 65536 in
theorem w_args : argsFit about1.vm theMethod args0 = true := by decide +kernel
set_option maxRecDepth 65536 in
theorem w_heap : heapFits about1 = true := by decide +kernel
set_option maxRecDepth 65536 in
theorem w_runnable : about1.curStatus? = some .runnable := by decide +kernel
set_option maxRecDepth 65536 in
theorem w_alone : about1.alone = true := by decide +kernel
set_option maxRecDepth 65536 in
theorem w_named : about1.methodNamed? x = some theMethod := by decide +kernel
set_option maxRecDepth 65536 in
theorem w_hears : about1.hears theMethod below0 = true := by decide +kernel
set_option maxRecDepth 65536 in
theorem w_ripe : about1.ripe theMethod args0 below0 = true := by decide +kernel
theorem w_running : about1.status = .running := rfl
set_option maxRecDepth 65536 in
theorem w_room : about1.hasRoom e0.platform room_1 = true :=
  launch0.hasRoom_least _ room_1 (by decide +kernel) (by decide +kernel) (by decide +kernel) (by decide +kernel) (by decide +kernel) (by decide +kernel)
theorem allAtoms_all (ts : List Jvm.Cond) (a : Array Jvm.Value) (st : Jvm.State) : (allAtoms ts).before a st = ts.all (fun c => c.before a st) := by
  induction ts with
  | nil => rfl
  | cons c t ih =>
    show (Jvm.Cond.and c (allAtoms t)).before a st = _
    rw [Jvm.Cond.before_and, ih, List.all_cons]
def words1 : List Jvm.Cond := Jvm.Cond.code x code maxLocals ret :: tables_1
/-- a 'code' word, met by the world's own term for the bytes: nothing is compared byte by byte -/
theorem code_word {y : MethodName} {bytes : ByteArray} {mx : Nat} {rt : Option FieldType} {a : Array Value} {s : State} {m : MethodId} {meth : Method} {c : Code} (h1 : s.methodNamed? y = some m) (h2 : s.vm.method? m = some meth) (h3 : meth.code = some c) (h4 : c.code = bytes)
    (h5 : (c.maxLocals == mx && c.exceptionTable.isEmpty && decide (c.maxStack ≤ mostOperands) && decide (meth.sig.returnType = rt) && !meth.locks && decide (parseMethodDescriptor y.desc = some meth.sig)) = true) : (Jvm.Cond.code y bytes mx rt).before a s = true := by
  simp only [Bool.and_eq_true, beq_iff_eq, Bool.not_eq_true', decide_eq_true_eq] at h5
  obtain ⟨⟨⟨⟨⟨g1, g2⟩, g3⟩, g4⟩, g5⟩, g6⟩ := h5
  simp [Cond.before, Cond.holds, Cond.value, h1, h2, h3, h4, g1, g2, g3, g4, g5, g6]
def isCode : Jvm.Cond → Bool
  | .code _ _ _ _ => true
  | _ => false
theorem all_split {L : List Jvm.Cond} {P : Jvm.Cond → Bool} (h1 : L.all (fun c => isCode c || P c) = true) (h2 : ∀ c ∈ L.filter isCode, P c = true) : L.all P = true := by
  refine List.all_eq_true.mpr fun c hc => ?_
  have h := List.all_eq_true.mp h1 c hc
  rcases Bool.eq_false_or_eq_true (isCode c) with hi | hi
  · exact h2 c (List.mem_filter.mpr ⟨hc, hi⟩)
  · simpa [hi] using h
set_option maxRecDepth 65536 in
theorem w_c0 : (Jvm.Cond.code x code maxLocals ret).before args0 about1 = true := code_word (m := ⟨1, 2⟩) (meth := k1m2) (c := k1c2) (by decide +kernel) rfl rfl rfl (by decide +kernel)
set_option maxRecDepth 65536 in
theorem w_c1 : (Jvm.Cond.code ({ cls := "com/example/allegheny/allegheny/bench/ResultPassedPinLaw", name := "nonZero", desc := "(J)J" } : Jvm.MethodName) method_2_code (2 : Nat) (Option.some Jvm.ClassFile.FieldType.long)).before args0 about1 = true := code_word (m := ⟨1, 1⟩) (meth := k1m1) (c := k1c1) (by decide +kernel) rfl rfl rfl (by decide +kernel)
set_option maxRecDepth 65536 in
theorem w_c2 : (Jvm.Cond.code ({ cls := "com/example/allegheny/allegheny/bench/RatingsBench$Result", name := "<init>", desc := "(JJJJJJJJJJ)V" } : Jvm.MethodName) prog_28_method_1_code (21 : Nat) (Option.none : Option Jvm.ClassFile.FieldType)).before args0 about1 = true := code_word (m := ⟨3, 0⟩) (meth := k3m0) (c := k3c0) (by decide +kernel) rfl rfl rfl (by decide +kernel)
set_option maxRecDepth 65536 in
theorem w_c3 : (Jvm.Cond.code ({ cls := "java/lang/Record", name := "<init>", desc := "()V" } : Jvm.MethodName) jdk_30_method_1_code (1 : Nat) (Option.none : Option Jvm.ClassFile.FieldType)).before args0 about1 = true := code_word (m := ⟨2, 0⟩) (meth := k2m0) (c := k2c0) (by decide +kernel) rfl rfl rfl (by decide +kernel)
set_option maxRecDepth 65536 in
theorem w_c4 : (Jvm.Cond.code ({ cls := "java/lang/Object", name := "<init>", desc := "()V" } : Jvm.MethodName) object_method_1_code (1 : Nat) (Option.none : Option Jvm.ClassFile.FieldType)).before args0 about1 = true := code_word (m := ⟨0, 0⟩) (meth := k0m0) (c := k0c0) (by decide +kernel) rfl rfl rfl (by decide +kernel)
set_option maxRecDepth 65536 in
theorem w_c5 : (Jvm.Cond.code ({ cls := "com/example/allegheny/allegheny/bench/RatingsBench$Result", name := "passed", desc := "()Z" } : Jvm.MethodName) prog_28_method_2_code (1 : Nat) (Option.some Jvm.ClassFile.FieldType.boolean)).before args0 about1 = true := code_word (m := ⟨3, 1⟩) (meth := k3m1) (c := k3c1) (by decide +kernel) rfl rfl rfl (by decide +kernel)
def codes1 : List Jvm.Cond := [Jvm.Cond.code x code maxLocals ret, Jvm.Cond.code ({ cls := "com/example/allegheny/allegheny/bench/ResultPassedPinLaw", name := "nonZero", desc := "(J)J" } : Jvm.MethodName) method_2_code (2 : Nat) (Option.some Jvm.ClassFile.FieldType.long), Jvm.Cond.code ({ cls := "com/example/allegheny/allegheny/bench/RatingsBench$Result", name := "<init>", desc := "(JJJJJJJJJJ)V" } : Jvm.MethodName) prog_28_method_1_code (21 : Nat) (Option.none : Option Jvm.ClassFile.FieldType), Jvm.Cond.code ({ cls := "java/lang/Record", name := "<init>", desc := "()V" } : Jvm.MethodName) jdk_30_method_1_code (1 : Nat) (Option.none : Option Jvm.ClassFile.FieldType), Jvm.Cond.code ({ cls := "java/lang/Object", name := "<init>", desc := "()V" } : Jvm.MethodName) object_method_1_code (1 : Nat) (Option.none : Option Jvm.ClassFile.FieldType), Jvm.Cond.code ({ cls := "com/example/allegheny/allegheny/bench/RatingsBench$Result", name := "passed", desc := "()Z" } : Jvm.MethodName) prog_28_method_2_code (1 : Nat) (Option.some Jvm.ClassFile.FieldType.boolean)]
set_option maxRecDepth 65536 in
theorem codes_eq : words1.filter isCode = codes1 := rfl
theorem w_codes : ∀ c ∈ words1.filter isCode, c.before args0 about1 = true := by
  rw [codes_eq]
  intro c hc
  simp only [codes1, List.mem_cons, List.not_mem_nil, or_false] at hc
  rcases hc with rfl | rfl | rfl | rfl | rfl | rfl
  · exact w_c0
  · exact w_c1
  · exact w_c2
  · exact w_c3
  · exact w_c4
  · exact w_c5
set_option maxRecDepth 65536 in
theorem w_t1 : (words1.take 24).all (fun c => isCode c || c.before args0 about1) = true := by decide +kernel
set_option maxRecDepth 65536 in
theorem w_t2 : (words1.drop 24).all (fun c => isCode c || c.before args0 about1) = true := by decide +kernel
theorem w_tables : (allAtoms (Jvm.Cond.code x code maxLocals ret :: tables_1)).before args0 about1 = true := by
  rw [allAtoms_all]
  show words1.all (fun c => c.before args0 about1) = true
  refine all_split ?_ w_codes
  rw [← List.take_append_drop 24 words1, List.all_append, w_t1, w_t2]
  rfl
set_option maxRecDepth 65536 in
theorem w_case : (Jvm.Cond.and given_1 narrow_1).before args0 about1 = true := by decide +kernel
theorem w_applies : (headSpec (Jvm.Cond.code x code maxLocals ret :: tables_1) room_1).applies x e0.platform about1 = true :=
  (Spec.applies_iff w_frames).mpr ⟨w_running, w_runnable, w_alone, w_named, w_hears, w_ripe, w_room, w_tables⟩
theorem atStart : AtStart classFile x code maxLocals ret World_1 tables_1 room_1 Calls_1 rest_1 Pre_1 launch0 p0 e0 about1 theMethod args0 below0 :=
  ⟨lists_1, trivial, launch0.admits_env _ _ _, launch0.least_env, fairChoices_fair.cas, fairChoices_fair.clock, w_frames, w_args, w_heap, w_applies, trivial, trivial, w_case⟩
end start1
theorem witness_1 : WitnessClaimed_1 := ⟨start1.p0, start1.e0, start1.about1, start1.theMethod, start1.args0, start1.below0, start1.atStart⟩
end Jvm.Pilot.@@N@@
