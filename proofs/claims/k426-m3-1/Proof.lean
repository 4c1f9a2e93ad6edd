import JvmDerived
import JvmDerived.Pilot.@@N@@Statement
import JvmDerived.Pilot.@@N@@Code
set_option linter.unusedVariables false
set_option linter.unusedSimpArgs false
namespace Jvm.RoadKit
open Sem ClassFile Op Lib Jvm.Stand Jvm.Free Jvm.LawKit
section New
variable {p : Program} {l : Launch} {e : Env} {R : Room} {s : State} {m : MethodId} {args : Array Value} {below : List Frame} {meth : Method} {c : Code} {T : State} {locs : List Loc} {cells slots : Nat}
theorem retI (X : Stand p l e R s m args below meth c T locs cells slots) (hx : p.tables.exec = Jvm.exec) {pc : Nat} {Ls : Array Slot} {z : Int32} {rest : List Value} (hret : meth.sig.returnType = some .int) (hd : decode c.code pc = .ok (.ireturn, 1)) {fs : List Frame}
    (hl : ∀ (f : JFrame) (acts : List Action), f.method = m → f.locked = none → f.entered = [] → (doReturn e (T.setTop f) acts (some (.int z))).1 = T.setFrames fs) : Steps p.tables e below (T.setTop (mkF m pc Ls (.int z :: rest))) (T.setFrames fs) := by
  have hm' : T.vm.method? m = some meth := X.method'
  have hn : narrow .int (.int z) = .int z := rfl
  show Steps p.tables e below (T.setTop { method := m, pc := pc, locals := Ls, stack := _ :: rest, locked := none }) _
  jvm_step X.here [X.here.top, hx, hd, hm', hret, hn]
  first | (intro acts; rw [hl _ acts rfl rfl rfl]) | rw [hl _ _ rfl rfl rfl]
  exact Steps.refl _
end New
end Jvm.RoadKit
namespace Jvm.Pilot.@@N@@
open Jvm Jvm.ClassFile Sem Op Lib Jvm.Free Jvm.Stand Jvm.LawKit Jvm.RoadKit Bundle Jvm.Pilot.@@N@@.Jvm.D
/-- from the state A the run comes to the state B -/
def own_go (p : Program) (e : Env) (below : List Frame) (A B : State) : Prop := ∀ t, Steps p.tables e below B t → Steps p.tables e below A t
theorem own_wide {p : Program} {l : Launch} {e : Env} {R : Room} {s : State} {m : MethodId} {args : Array Value} {below : List Frame} {meth : Method} {c : Code} {T : State} {locs : List Loc} {cells slots k n : Nat} (X : Stand p l e R s m args below meth c T locs cells slots) (h1 : cells ≤ k) (h2 : slots ≤ n) : Stand p l e R s m args below meth c T locs k n :=
  { X with same := X.same.weaken (fun _ h _ => h) h1 h2 }
theorem own_hp {T : State} {h : Heap} {a : Addr} {c : Cell} (e : T.heap = h) (q : h[a]? = some c) : T.heap[a]? = some c := by rw [e]; exact q
theorem own_getD {α : Type} (f : α → Value) : ∀ (l : List α) (d : α) (k : Nat), (l.map f).getD k (f d) = f (l.getD k d)
  | [], _, _ => rfl
  | _ :: _, _, 0 => rfl
  | _ :: t, d, k + 1 => own_getD f t d k
theorem d5_0 : decode jdk_29_method_69_code 0 = .ok (.iload_n 0, 1) := by decide +kernel
theorem d5_1 : decode jdk_29_method_69_code 1 = .ok (.iload_n 1, 1) := by decide +kernel
theorem d5_2 : decode jdk_29_method_69_code 2 = .ok (.if_icmp .gt 7, 3) := by decide +kernel
theorem d5_9 : decode jdk_29_method_69_code 9 = .ok (.iload_n 1, 1) := by decide +kernel
theorem d5_5 : decode jdk_29_method_69_code 5 = .ok (.iload_n 0, 1) := by decide +kernel
theorem d5_6 : decode jdk_29_method_69_code 6 = .ok (.goto 4, 3) := by decide +kernel
theorem d5_10 : decode jdk_29_method_69_code 10 = .ok (.ireturn, 1) := by decide +kernel
theorem ef_5 (m : MethodId) (x0 : Int32) (x1 : Int32) : entryFrame m #[(.int x0), (.int x1)] 2 = mkF m 0 #[.val (.int x0), .val (.int x1)] [] := by first | (simp [entryFrame, mkF, argsToLocals, Value.category]; done) | rfl
def Q5 (Z : State) (p1 : Int32) (p2 : Int32) (h0 : Heap) (n0 : Nat) (v : Option Value) (h : Heap) (L : List Loc) : Prop := v = some (.int (if p2 < p1 then p2 else p1)) ∧ Fr n0 L ∧ h = h0
set_option maxRecDepth 65536 in
set_option maxHeartbeats 40000000 in
theorem rm5 (l : Launch) (Z : State) (a0 : Array Value) (hw : ∀ d ∈ tables_1, d.before a0 Z = true) (ws : List Jvm.Cond) (p1 : Int32) (p2 : Int32) (h0 : Heap) (n0 : Nat) (Z0 : n0 ≤ h0.size) :
    MetFree l (⟨"java/lang/Math", "min", "(II)I"⟩ : MethodName) (head1 (Jvm.Cond.code (⟨"java/lang/Math", "min", "(II)I"⟩ : MethodName) jdk_29_method_69_code 2 (some .int) :: ws) ({ frames := 0, cells := 0, slots := 0, locals := 0 } : Room)) (fun aax UU => aax = #[(.int p1), (.int p2)] ∧ Z.Warmed39 UU.vm ∧ UU.heap = h0) (fun _ _ _ _ _ => True) (fun _ UU oux UU' => ∃ rvx Lrx, oux = .returned rvx ∧ Q5 Z p1 p2 h0 n0 rvx UU'.heap Lrx ∧ FrameEnd UU oux UU' Lrx ({ frames := 0, cells := 0, slots := 0, locals := 0 } : Room).cells ({ frames := 0, cells := 0, slots := 0, locals := 0 } : Room).slots) := by
  refine MetFree.of_bodySF (Jvm.Free.JP.mathPlain rfl (by decide +kernel)) hisR ?_
  intro p e s m args below meth c s₁ Bd hml0 hP hK
  obtain ⟨rfl, hZ, hh⟩ := hP
  have hx := Bd.exec
  have hby := Bd.bytes
  have hml : c.maxLocals = 2 := hml0
  have hown : s.vm.findClass "java/lang/Math" = some m.cls := findClass_of_methodNamed Bd.named
  have hnm := (name_of_methodNamed Bd.named Bd.method).1
  have X0 : Stand p l e ({ frames := 0, cells := 0, slots := 0, locals := 0 } : Room) s m #[(.int p1), (.int p2)] below meth c s₁ [] 0 0 := Stand.of_body Bd
  have e0 : s₁.heap = h0 := by rw [← hh, Bd.state]; rfl
  have N0 := Fr.nil n0
  have p0 : own_go p e below (s₁.setTop (entryFrame m #[(.int p1), (.int p2)] 2)) (s₁.setTop (mkF m 0 #[.val (.int p1), .val (.int p2)] [])) := fun ttx ktx => castTop (ef_5 m p1 p2) ktx
  have go1 : own_go p e below (s₁.setTop (entryFrame m #[(.int p1), (.int p2)] 2)) (s₁.setTop (mkF m 2 #[.val (.int p1), .val (.int p2)] [(.int p2), (.int p1)])) := by
    intro ttx ktx
    refine p0 ttx ?_
    show Steps p.tables e below (s₁.setTop (mkF m 0 #[.val (.int p1), .val (.int p2)] [])) _
    refine XS.iloadN X0.here hx rfl (hb hby d5_0) rfl ?_
    show Steps p.tables e below (s₁.setTop (mkF m 1 #[.val (.int p1), .val (.int p2)] [(.int p1)])) _
    refine XS.iloadN X0.here hx rfl (hb hby d5_1) rfl ?_
    exact ktx
  obtain ⟨v5, hv_v5, go6⟩ : ∃ (v5 : Int32), v5 = (if p2 < p1 then p2 else p1) ∧ own_go p e below (s₁.setTop (entryFrame m #[(.int p1), (.int p2)] 2)) (s₁.setTop (mkF m 10 #[.val (.int p1), .val (.int p2)] [(.int v5)])) := by
    by_cases hc2_2 : p2 < p1
    · have go3 : own_go p e below (s₁.setTop (entryFrame m #[(.int p1), (.int p2)] 2)) (s₁.setTop (mkF m 10 #[.val (.int p1), .val (.int p2)] [(.int p2)])) := by
        intro ttx ktx
        refine go1 ttx ?_
        show Steps p.tables e below (s₁.setTop (mkF m 2 #[.val (.int p1), .val (.int p2)] [(.int p2), (.int p1)])) _
        refine XS.icmpYes X0.here hx rfl (pc0 := 2) (pc' := 9) rfl (hb hby d5_2) rfl (tlt hc2_2).2.2.1 (by decide) (by decide) ?_
        show Steps p.tables e below (s₁.setTop (mkF m 9 #[.val (.int p1), .val (.int p2)] [])) _
        refine XS.iloadN X0.here hx rfl (hb hby d5_9) rfl ?_
        exact ktx
      exact ⟨_, (if_pos hc2_2).symm, go3⟩
    · have go4 : own_go p e below (s₁.setTop (entryFrame m #[(.int p1), (.int p2)] 2)) (s₁.setTop (mkF m 10 #[.val (.int p1), .val (.int p2)] [(.int p1)])) := by
        intro ttx ktx
        refine go1 ttx ?_
        show Steps p.tables e below (s₁.setTop (mkF m 2 #[.val (.int p1), .val (.int p2)] [(.int p2), (.int p1)])) _
        refine XS.icmpNo X0.here hx rfl (hb hby d5_2) rfl (flt hc2_2).2.2.1 ?_
        show Steps p.tables e below (s₁.setTop (mkF m 5 #[.val (.int p1), .val (.int p2)] [])) _
        refine XS.iloadN X0.here hx rfl (hb hby d5_5) rfl ?_
        show Steps p.tables e below (s₁.setTop (mkF m 6 #[.val (.int p1), .val (.int p2)] [(.int p1)])) _
        refine XS.goto X0.here hx rfl (pc0 := 6) (pc' := 10) rfl (hb hby d5_6) (by decide) (by decide) ?_
        exact ktx
      exact ⟨_, (if_neg hc2_2).symm, go4⟩
  obtain ⟨fs, hr, hrun, hended, hW, hsame⟩ := X0.leave (v := some (.int v5)) (fun h => by rw [Bd.returns] at h; cases h)
  refine ⟨_, _, go6 _ ?_, hrun, hended, _, _, rfl, ?_, ⟨_, rfl⟩, hW, hsame.mono (by decide) (by decide)⟩
  · exact retI X0 hx Bd.returns (hb hby d5_10) hr
  · show Q5 Z p1 p2 h0 n0 _ s₁.heap _
    rw [e0]
    exact ⟨by rw [hv_v5], N0, rfl⟩
theorem own_nn {x : Int32} (h : 0 ≤ x.toInt) : ¬ x < 0 := by rw [Int32.lt_iff_toInt_lt]; have e0 : (0 : Int32).toInt = 0 := rfl; omega
theorem own_tn (x : Int32) : x.toNatClampNeg = x.toInt.toNat := rfl
theorem own_min (a b : Int32) (ha : 0 ≤ a.toInt) (hb : 0 ≤ b.toInt) : 0 ≤ (if b < a then b else a).toInt ∧ (if b < a then b else a).toInt ≤ a.toInt ∧ (if b < a then b else a).toInt ≤ b.toInt ∧ ((if b < a then b else a).toInt = a.toInt ∨ (if b < a then b else a).toInt = b.toInt) := by
  split
  · rename_i h; rw [Int32.lt_iff_toInt_lt] at h; omega
  · rename_i h; rw [Int32.lt_iff_toInt_lt] at h; omega
theorem own_cpd (vd vs : List Value) (dv : Value) (m i : Nat) (h : i < m) : (vd.take 0 ++ (List.range m).map (fun k => vs.getD (0 + k) dv) ++ vd.drop (0 + m)).getD i dv = vs.getD i dv := by
  simp [List.getD, List.getElem?_append, h]
theorem d4_0 : decode jdk_65_method_123_code 0 = .ok (.iload_n 1, 1) := by decide +kernel
theorem d4_1 : decode jdk_65_method_123_code 1 = .ok (.aload_n 0, 1) := by decide +kernel
theorem d4_2 : decode jdk_65_method_123_code 2 = .ok (.arraylength, 1) := by decide +kernel
theorem d4_3 : decode jdk_65_method_123_code 3 = .ok (.if_icmp .ne 11, 3) := by decide +kernel
theorem d4_6 : decode jdk_65_method_123_code 6 = .ok (.aload_n 0, 1) := by decide +kernel
theorem d4_7 : decode jdk_65_method_123_code 7 = .ok (.invokevirtual 316, 3) := by decide +kernel
theorem d4_10 : decode jdk_65_method_123_code 10 = .ok (.checkcast 317, 3) := by decide +kernel
theorem d4_13 : decode jdk_65_method_123_code 13 = .ok (.areturn, 1) := by decide +kernel
theorem d4_14 : decode jdk_65_method_123_code 14 = .ok (.iload_n 1, 1) := by decide +kernel
theorem d4_15 : decode jdk_65_method_123_code 15 = .ok (.newarray .int, 2) := by decide +kernel
theorem d4_17 : decode jdk_65_method_123_code 17 = .ok (.astore_n 2, 1) := by decide +kernel
theorem d4_18 : decode jdk_65_method_123_code 18 = .ok (.aload_n 0, 1) := by decide +kernel
theorem d4_19 : decode jdk_65_method_123_code 19 = .ok (.iconst 0, 1) := by decide +kernel
theorem d4_20 : decode jdk_65_method_123_code 20 = .ok (.aload_n 2, 1) := by decide +kernel
theorem d4_21 : decode jdk_65_method_123_code 21 = .ok (.iconst 0, 1) := by decide +kernel
theorem d4_22 : decode jdk_65_method_123_code 22 = .ok (.aload_n 0, 1) := by decide +kernel
theorem d4_23 : decode jdk_65_method_123_code 23 = .ok (.arraylength, 1) := by decide +kernel
theorem d4_24 : decode jdk_65_method_123_code 24 = .ok (.iload_n 1, 1) := by decide +kernel
theorem own_pd0 : parseMethodDescriptor "(II)I" = some ⟨[.int, .int], some .int⟩ := by decide +kernel
theorem d4_25 : decode jdk_65_method_123_code 25 = .ok (.invokestatic 304, 3) := by decide +kernel
theorem d4_28 : decode jdk_65_method_123_code 28 = .ok (.invokestatic 150, 3) := by decide +kernel
theorem d4_31 : decode jdk_65_method_123_code 31 = .ok (.aload_n 2, 1) := by decide +kernel
theorem d4_32 : decode jdk_65_method_123_code 32 = .ok (.areturn, 1) := by decide +kernel
theorem own_pn_java_util_Arrays : plainName "java/util/Arrays" = true := by first | (simp [plainName, overriddenIn]; done) | decide +kernel
theorem ef_CPY (m : MethodId) (x0 : Addr) (x1 : Int32) : entryFrame m #[(.ref x0), (.int x1)] 3 = mkF m 0 #[.val (.ref x0), .val (.int x1), .unset] [] := by first | (simp [entryFrame, mkF, argsToLocals, Value.category]; done) | rfl
def QCPY (Z : State) (a1 : Addr) (p2 : Int32) (kc : ClassId) (z : Int32) (vs : List Value) (h0 : Heap) (n0 : Nat) (v : Option Value) (h : Heap) (L : List Loc) : Prop := ∃ (b : Addr) (kb : ClassId) (ws : List Value), v = some (.ref b) ∧ Fr n0 L ∧ Keep h0 h [] ∧ h0.size ≤ b ∧ Exa Z h b "[I" ∧ Arv Z h b kb .int p2 ws (.int (0 : Int32)) ∧ ∀ i, i < p2.toNatClampNeg → i < z.toNatClampNeg → ws.getD i (.int (0 : Int32)) = vs.getD i (.int (0 : Int32))
set_option maxRecDepth 65536 in
set_option maxHeartbeats 40000000 in
theorem rmCPY (l : Launch) (Z : State) (a0 : Array Value) (hw : ∀ d ∈ tables_1, d.before a0 Z = true) (ws : List Jvm.Cond) (a1 : Addr) (p2 : Int32) (kc : ClassId) (z : Int32) (vs : List Value) (h0 : Heap) (n0 : Nat) (Z0 : n0 ≤ h0.size) (V_a : Arv Z h0 a1 kc .int z vs (.int (0 : Int32))) (E_a : Exa Z h0 a1 "[I") (hp : 0 ≤ p2.toInt ∧ p2.toInt ≤ 16) (hz : 0 ≤ z.toInt ∧ z.toInt ≤ 16) :
    MetFree l (⟨"java/util/Arrays", "copyOf", "([II)[I"⟩ : MethodName) (head1 (Jvm.Cond.code (⟨"java/util/Arrays", "copyOf", "([II)[I"⟩ : MethodName) jdk_65_method_123_code 3 (some (.array .int)) :: ws) ({ frames := 1, cells := 1, slots := 16, locals := 40 } : Room)) (fun aax UU => aax = #[(.ref a1), (.int p2)] ∧ Z.Warmed39 UU.vm ∧ UU.heap = h0) (fun _ _ _ _ _ => True) (fun _ UU oux UU' => ∃ rvx Lrx, oux = .returned rvx ∧ QCPY Z a1 p2 kc z vs h0 n0 rvx UU'.heap Lrx ∧ FrameEnd UU oux UU' Lrx ({ frames := 1, cells := 1, slots := 16, locals := 40 } : Room).cells ({ frames := 1, cells := 1, slots := 16, locals := 40 } : Room).slots) := by
  refine MetFree.of_bodySF (plainFor_of_name own_pn_java_util_Arrays) hisR ?_
  intro p e s m args below meth c s₁ Bd hml0 hP hK
  obtain ⟨rfl, hZ, hh⟩ := hP
  have hx := Bd.exec
  have hby := Bd.bytes
  have hml : c.maxLocals = 3 := hml0
  have hown : s.vm.findClass "java/util/Arrays" = some m.cls := findClass_of_methodNamed Bd.named
  have hnm := (name_of_methodNamed Bd.named Bd.method).1
  have X0 : Stand p l e ({ frames := 1, cells := 1, slots := 16, locals := 40 } : Room) s m #[(.ref a1), (.int p2)] below meth c s₁ [] 0 0 := Stand.of_body Bd
  have e0 : s₁.heap = h0 := by rw [← hh, Bd.state]; rfl
  have N0 := Fr.nil n0
  have p0 : own_go p e below (s₁.setTop (entryFrame m #[(.ref a1), (.int p2)] 3)) (s₁.setTop (mkF m 0 #[.val (.ref a1), .val (.int p2), .unset] [])) := fun ttx ktx => castTop (ef_CPY m a1 p2) ktx
  obtain ⟨cl1, Ar1, -, S1, M1, -, -⟩ := id V_a
  have go2 : own_go p e below (s₁.setTop (entryFrame m #[(.ref a1), (.int p2)] 3)) (s₁.setTop (mkF m 3 #[.val (.ref a1), .val (.int p2), .unset] [(.int z), (.int p2)])) := by
    intro ttx ktx
    refine p0 ttx ?_
    show Steps p.tables e below (s₁.setTop (mkF m 0 #[.val (.ref a1), .val (.int p2), .unset] [])) _
    refine XS.iloadN X0.here hx rfl (hb hby d4_0) rfl ?_
    show Steps p.tables e below (s₁.setTop (mkF m 1 #[.val (.ref a1), .val (.int p2), .unset] [(.int p2)])) _
    refine XS.aloadN X0.here hx rfl (hb hby d4_1) rfl rfl ?_
    show Steps p.tables e below (s₁.setTop (mkF m 2 #[.val (.ref a1), .val (.int p2), .unset] [(.ref a1), (.int p2)])) _
    refine X0.arraylength hx (own_hp e0 Ar1.1) (State.isArrayOf_alike hZ.alike Ar1.2.1) (g := (mkF m 2 #[.val (.ref a1), .val (.int p2), .unset] [(.ref a1), (.int p2)])) rfl rfl (hb hby d4_2) _ ?_
    rw [len_of S1 M1]
    exact ktx
  by_cases hc3_3 : p2 = z
  · have hcl : z.toNatClampNeg ≤ 16 := by rw [own_tn]; omega
    obtain ⟨T4, h4, X4, e4, E4, V4, B4, st4⟩ := cloneH X0 hx hZ hown (hw _ (List.mem_of_getElem? (i := 41) rfl)) (hw _ (List.mem_of_getElem? (i := 42) rfl)) (hw _ (List.mem_of_getElem? (i := 46) rfl)) (hw _ (List.mem_of_getElem? (i := 44) rfl)) (hw _ (List.mem_of_getElem? (i := 45) rfl)) (hw _ (List.mem_of_getElem? (i := 47) rfl)) e0 (Arv.arh V_a) E_a (g := (mkF m 7 #[.val (.ref a1), .val (.int p2), .unset] [(.ref a1)])) rfl (by rw [hml]; rfl) rfl (hb hby d4_7) (by decide) (W := 0) (cap := 16) (by show 2 * 0 + _ ≤ _; exact Nat.le_of_eq rfl) (by decide) hcl (by decide) (by decide)
    obtain ⟨b4, g4⟩ : ∃ z, z = h0.size := ⟨_, rfl⟩
    rw [← g4] at V4 B4 st4
    have ne5 : a1 ≠ b4 := Nat.ne_of_lt (Nat.lt_of_lt_of_le V_a.lt (Nat.le_of_eq g4.symm))
    have g_b4 : n0 ≤ b4 := Nat.le_trans Z0 (Nat.le_of_eq g4.symm)
    have sz_b4 : h0.size ≤ b4 := Nat.le_trans (Keep.refl h0 []).1 (Nat.le_of_eq g4.symm)
    have Z4 : n0 ≤ h4.size := Nat.le_trans Z0 E4.1
    have K4 : Keep h0 h4 [] := (Keep.refl h0 []).ext E4
    obtain ⟨T6, X6, e6, st6⟩ := castY X4 hx hZ hown (hw _ (List.mem_of_getElem? (i := 48) rfl)) e4 (Ins.self B4) (g := (mkF m 10 #[.val (.ref a1), .val (.int p2), .unset] [(.ref b4)])) rfl rfl (hb hby d4_10)
    have go7 : own_go p e below (s₁.setTop (entryFrame m #[(.ref a1), (.int p2)] 3)) (T6.setTop (mkF m 13 #[.val (.ref a1), .val (.int p2), .unset] [(.ref b4)])) := by
      intro ttx ktx
      refine go2 ttx ?_
      show Steps p.tables e below (s₁.setTop (mkF m 3 #[.val (.ref a1), .val (.int p2), .unset] [(.int z), (.int p2)])) _
      refine XS.icmpNo X0.here hx rfl (hb hby d4_3) rfl (teq hc3_3).2 ?_
      show Steps p.tables e below (s₁.setTop (mkF m 6 #[.val (.ref a1), .val (.int p2), .unset] [])) _
      refine XS.aloadN X0.here hx rfl (hb hby d4_6) rfl rfl ?_
      show Steps p.tables e below (s₁.setTop (mkF m 7 #[.val (.ref a1), .val (.int p2), .unset] [(.ref a1)])) _
      refine st4 _ ?_
      show Steps p.tables e below (T4.setTop (mkF m 10 #[.val (.ref a1), .val (.int p2), .unset] [(.ref b4)])) _
      refine st6 _ ?_
      exact ktx
    obtain ⟨fs, hr, hrun, hended, hW, hsame⟩ := X6.leave (v := some (.ref b4)) (fun h => by rw [Bd.returns] at h; cases h)
    refine ⟨_, _, go7 _ ?_, hrun, hended, _, _, rfl, ?_, ⟨_, rfl⟩, hW, hsame.mono (by decide) (by decide)⟩
    · exact retOut X6 hx Bd.returns rfl (Or.inr (Or.inr (Or.inr (Or.inr ⟨rfl, rfl, rfl⟩)))) (hb hby d4_13) hr
    · show QCPY Z a1 p2 kc z vs h0 n0 _ T6.heap _
      rw [e6]
      subst hc3_3
      exact ⟨b4, _, _, rfl, N0, K4, sz_b4, B4, V4, fun i h1 h2 => rfl⟩
  · have hcp : p2.toNatClampNeg ≤ 16 := by rw [own_tn]; omega
    obtain ⟨T8, h8, k8, X8, e8, E8, A8, B8, st8⟩ := newPE X0 hx hZ (hw _ (List.mem_of_getElem? (i := 1) rfl)) e0 (g := (mkF m 15 #[.val (.ref a1), .val (.int p2), .unset] [(.int p2)])) rfl (hb hby d4_15) rfl (own_nn hp.1) (cap := 16) hcp (by decide) (by decide) (by decide) (ad := "[I") (by decide)
    obtain ⟨b8, g8⟩ : ∃ z, z = h0.size := ⟨_, rfl⟩
    rw [← g8] at A8 B8 st8
    have ne9 : a1 ≠ b8 := Nat.ne_of_lt (Nat.lt_of_lt_of_le V_a.lt (Nat.le_of_eq g8.symm))
    have g_b8 : n0 ≤ b8 := Nat.le_trans Z0 (Nat.le_of_eq g8.symm)
    have sz_b8 : h0.size ≤ b8 := Nat.le_trans (Keep.refl h0 []).1 (Nat.le_of_eq g8.symm)
    have Z8 : n0 ≤ h8.size := Nat.le_trans Z0 E8.1
    have K8 : Keep h0 h8 [] := (Keep.refl h0 []).ext E8
    have V8 : Arv Z h8 b8 k8 .int p2 [] (.int (0 : Int32)) := Arv.new A8 (own_nn hp.1)
    have f10 := (V_a.ext E8)
    obtain ⟨cl11, Ar11, -, S11, M11, -, -⟩ := id f10
    obtain ⟨_, _, ⟨T12, L12, k12, n12⟩, -, X12, ⟨Lc12, hQ12, l12, y12, z12⟩, st12⟩ := Jvm.LawKit.callS X8 hx (y := (⟨"java/lang/Math", "min", "(II)I"⟩ : MethodName)) hown (mvT hZ (hw _ (List.mem_of_getElem? (i := 24) rfl))) (mvT hZ (hw _ (List.mem_of_getElem? (i := 25) rfl))) (mvT hZ (hw _ (List.mem_of_getElem? (i := 26) rfl))) (mvT hZ (hw _ (List.mem_of_getElem? (i := 27) rfl))) (by decide) (backOf (W := 4) (rm5 l Z a0 hw [] z p2  h8 n0 Z8 ) hZ (hw _ (List.mem_of_getElem? (i := 27) rfl)) (hw _ (List.mem_of_getElem? (i := 26) rfl)) (by decide) (by decide)) (g := (mkF m 25 #[.val (.ref a1), .val (.int p2), .val (.ref b8)] [(.int p2), (.int z), (.int (0 : Int32)), (.ref b8), (.int (0 : Int32)), (.ref a1)])) rfl (by rw [hml]; rfl) (argsL := [(.int z), (.int p2)]) (rest := [(.int (0 : Int32)), (.ref b8), (.int (0 : Int32)), (.ref a1)]) (lenOf own_pd0 rfl) rfl (by show 2 * 0 + _ ≤ _; exact Nat.le_of_eq rfl) (hb hby d4_25) (fun _ _ => ⟨rfl, e8, (by decide : 1 + 0 ≤ _), (by decide : 16 + 0 ≤ _)⟩)
    dsimp only [Pt.U, Pt.locs, Pt.cells, Pt.slots] at X12 l12 y12 z12 st12 hQ12
    subst l12 y12 z12
    obtain ⟨rfl, Nq12, e12⟩ := hQ12
    have N12 := Fr.app N0 Nq12
    have hmn := own_min z p2 hz.1 hp.1
    have hb1 := hmn.1
    have hb2 := hmn.2.1
    have hb3 := hmn.2.2.1
    have e00 : (0 : Int32).toNatClampNeg = 0 := rfl
    obtain ⟨T13, h13, L13, X13, e13, N13, Kc13, V13, st13⟩ := cpA X12 hx hZ hown (hw _ (List.mem_of_getElem? (i := 28) rfl)) (hw _ (List.mem_of_getElem? (i := 31) rfl)) (hw _ (List.mem_of_getElem? (i := 29) rfl)) (hw _ (List.mem_of_getElem? (i := 30) rfl)) e12 f10 (V8.pad (pad_rep [] (.int (0 : Int32)) 16)) (Or.inl ⟨rfl, rfl⟩) (by decide) (by decide) (own_nn hb1) (by rw [e00, own_tn, own_tn]; omega) (by rw [e00, own_tn, own_tn]; omega) rfl (by rw [e00, own_tn, List.nil_append, List.length_replicate]; omega) N12 g_b8 (g := (mkF m 28 #[.val (.ref a1), .val (.int p2), .val (.ref b8)] [(.int (if p2 < z then p2 else z)), (.int (0 : Int32)), (.ref b8), (.int (0 : Int32)), (.ref a1)])) rfl (by rw [hml]; rfl) rfl (hb hby d4_28) (by decide) (W := 0) (by show 2 * 0 + _ ≤ _; exact Nat.le_of_eq rfl) (by decide)
    have Z13 : n0 ≤ h13.size := Nat.le_trans Z8 Kc13.1
    have K13 : Keep h0 h13 [] := K8.trans Kc13 (allS (Or.inr sz_b8) all0)
    have go14 : own_go p e below (s₁.setTop (entryFrame m #[(.ref a1), (.int p2)] 3)) (T13.setTop (mkF m 32 #[.val (.ref a1), .val (.int p2), .val (.ref b8)] [(.ref b8)])) := by
      intro ttx ktx
      refine go2 ttx ?_
      show Steps p.tables e below (s₁.setTop (mkF m 3 #[.val (.ref a1), .val (.int p2), .unset] [(.int z), (.int p2)])) _
      refine XS.icmpYes X0.here hx rfl (pc0 := 3) (pc' := 14) rfl (hb hby d4_3) rfl (feq hc3_3).2 (by decide) (by decide) ?_
      show Steps p.tables e below (s₁.setTop (mkF m 14 #[.val (.ref a1), .val (.int p2), .unset] [])) _
      refine XS.iloadN X0.here hx rfl (hb hby d4_14) rfl ?_
      show Steps p.tables e below (s₁.setTop (mkF m 15 #[.val (.ref a1), .val (.int p2), .unset] [(.int p2)])) _
      refine st8 _ ?_
      show Steps p.tables e below (T8.setTop (mkF m 17 #[.val (.ref a1), .val (.int p2), .unset] [(.ref b8)])) _
      refine XS.astoreN X8.here hx rfl (hb hby d4_17) rfl rfl (l' := #[.val (.ref a1), .val (.int p2), .val (.ref b8)]) rfl ?_
      show Steps p.tables e below (T8.setTop (mkF m 18 #[.val (.ref a1), .val (.int p2), .val (.ref b8)] [])) _
      refine XS.aloadN X8.here hx rfl (hb hby d4_18) rfl rfl ?_
      show Steps p.tables e below (T8.setTop (mkF m 19 #[.val (.ref a1), .val (.int p2), .val (.ref b8)] [(.ref a1)])) _
      refine XS.iconst X8.here hx rfl (hb hby d4_19) ?_
      show Steps p.tables e below (T8.setTop (mkF m 20 #[.val (.ref a1), .val (.int p2), .val (.ref b8)] [(.int (0 : Int32)), (.ref a1)])) _
      refine XS.aloadN X8.here hx rfl (hb hby d4_20) rfl rfl ?_
      show Steps p.tables e below (T8.setTop (mkF m 21 #[.val (.ref a1), .val (.int p2), .val (.ref b8)] [(.ref b8), (.int (0 : Int32)), (.ref a1)])) _
      refine XS.iconst X8.here hx rfl (hb hby d4_21) ?_
      show Steps p.tables e below (T8.setTop (mkF m 22 #[.val (.ref a1), .val (.int p2), .val (.ref b8)] [(.int (0 : Int32)), (.ref b8), (.int (0 : Int32)), (.ref a1)])) _
      refine XS.aloadN X8.here hx rfl (hb hby d4_22) rfl rfl ?_
      show Steps p.tables e below (T8.setTop (mkF m 23 #[.val (.ref a1), .val (.int p2), .val (.ref b8)] [(.ref a1), (.int (0 : Int32)), (.ref b8), (.int (0 : Int32)), (.ref a1)])) _
      refine X8.arraylength hx (own_hp e8 Ar11.1) (State.isArrayOf_alike hZ.alike Ar11.2.1) (g := (mkF m 23 #[.val (.ref a1), .val (.int p2), .val (.ref b8)] [(.ref a1), (.int (0 : Int32)), (.ref b8), (.int (0 : Int32)), (.ref a1)])) rfl rfl (hb hby d4_23) _ ?_
      rw [len_of S11 M11]
      show Steps p.tables e below (T8.setTop (mkF m 24 #[.val (.ref a1), .val (.int p2), .val (.ref b8)] [(.int z), (.int (0 : Int32)), (.ref b8), (.int (0 : Int32)), (.ref a1)])) _
      refine XS.iloadN X8.here hx rfl (hb hby d4_24) rfl ?_
      show Steps p.tables e below (T8.setTop (mkF m 25 #[.val (.ref a1), .val (.int p2), .val (.ref b8)] [(.int p2), (.int z), (.int (0 : Int32)), (.ref b8), (.int (0 : Int32)), (.ref a1)])) _
      refine st12 _ ?_
      show Steps p.tables e below (T12.setTop (mkF m 28 #[.val (.ref a1), .val (.int p2), .val (.ref b8)] [(.int (if p2 < z then p2 else z)), (.int (0 : Int32)), (.ref b8), (.int (0 : Int32)), (.ref a1)])) _
      refine st13 _ ?_
      show Steps p.tables e below (T13.setTop (mkF m 31 #[.val (.ref a1), .val (.int p2), .val (.ref b8)] [])) _
      refine XS.aloadN X13.here hx rfl (hb hby d4_31) rfl rfl ?_
      exact ktx
    obtain ⟨fs, hr, hrun, hended, hW, hsame⟩ := X13.leave (v := some (.ref b8)) (fun h => by rw [Bd.returns] at h; cases h)
    refine ⟨_, _, go14 _ ?_, hrun, hended, _, _, rfl, ?_, ⟨_, rfl⟩, hW, hsame.mono (by decide) (by decide)⟩
    · exact retOut X13 hx Bd.returns rfl (Or.inr (Or.inr (Or.inr (Or.inr ⟨rfl, rfl, rfl⟩)))) (hb hby d4_32) hr
    · show QCPY Z a1 p2 kc z vs h0 n0 _ T13.heap _
      rw [e13]
      have f15 := (B8.keep Kc13)
      exact ⟨b8, _, _, rfl, N13, K13, sz_b8, f15, V13, fun i h1 h2 => own_cpd _ _ _ _ _ (by rw [own_tn] at *; have := hmn.2.2.2; omega)⟩
def own_ls (Z : State) (h : Heap) (r t : Addr) (xs : List Int32) : Prop := Exa Z h r "com/example/viable/viable/IntList" ∧ Fld Z h r "com/example/viable/viable/IntList" "values" "[I" (.ref t) ∧ Fld Z h r "com/example/viable/viable/IntList" "size" "I" (.int (Int32.ofNat xs.length)) ∧ Exa Z h t "[I" ∧ ∃ (kc : ClassId) (z : Int32) (ws : List Value), Arv Z h t kc .int z ws (.int (0 : Int32)) ∧ (z = 8 ∨ z = 16) ∧ (xs.length : Int) ≤ z.toInt ∧ xs.length ≤ 9 ∧ ∀ i, i < xs.length → ws.getD i (.int (0 : Int32)) = .int (xs.getD i 0)
theorem own_of (n : Nat) (h : n ≤ 100) : (Int32.ofNat n).toInt = n := Int32.toInt_ofNat_of_lt (by omega)
theorem own_up (n : Nat) : Int32.ofNat n + 1 = Int32.ofNat (n + 1) := by
  rw [Int32.ofNat_add]; rfl
theorem own_snoc (ws : List Value) (xs : List Int32) (p : Int32) (i k : Nat) (hk : k = xs.length) (hl : k < ws.length) (H : ∀ i, i < xs.length → ws.getD i (.int (0 : Int32)) = .int (xs.getD i 0)) (hi : i < (xs ++ [p]).length) : (ws.set k (.int p)).getD i (.int (0 : Int32)) = .int ((xs ++ [p]).getD i 0) := by
  subst hk
  by_cases e : i = xs.length
  · subst e; simp [List.getD, hl]
  · have hi' : i < xs.length := by simp at hi; omega
    have := H i hi'
    simp only [List.getD] at *
    rw [List.getElem?_set_ne (Ne.symm e), this, List.getElem?_append_left hi']
theorem own_pad (ws : List Value) (xs : List Int32) (H : ∀ i, i < xs.length → ws.getD i (.int (0 : Int32)) = .int (xs.getD i 0)) : ∀ i, i < xs.length → (ws ++ List.replicate 20 (Value.int (0 : Int32))).getD i (.int (0 : Int32)) = .int (xs.getD i 0) := fun i hi => by rw [pad_rep]; exact H i hi
theorem d1_0 : decode prog_18_method_1_code 0 = .ok (.aload_n 0, 1) := by decide +kernel
theorem d1_1 : decode prog_18_method_1_code 1 = .ok (.invokespecial 1, 3) := by decide +kernel
theorem d1_4 : decode prog_18_method_1_code 4 = .ok (.aload_n 0, 1) := by decide +kernel
theorem d1_5 : decode prog_18_method_1_code 5 = .ok (.bipush 8, 2) := by decide +kernel
theorem d1_7 : decode prog_18_method_1_code 7 = .ok (.newarray .int, 2) := by decide +kernel
theorem d1_9 : decode prog_18_method_1_code 9 = .ok (.putfield 7, 3) := by decide +kernel
theorem d1_12 : decode prog_18_method_1_code 12 = .ok (.return_, 1) := by decide +kernel
theorem own_pn_com_example_viable_viable_IntList : plainName "com/example/viable/viable/IntList" = true := by first | (simp [plainName, overriddenIn]; done) | decide +kernel
theorem ef_1 (m : MethodId) (x0 : Addr) : entryFrame m #[(.ref x0)] 1 = mkF m 0 #[.val (.ref x0)] [] := by first | (simp [entryFrame, mkF, argsToLocals, Value.category]; done) | rfl
def Q1 (Z : State) (a1 : Addr) (h0 : Heap) (n0 : Nat) (v : Option Value) (h : Heap) (L : List Loc) : Prop := v = none ∧ Fr n0 L ∧ Keep h0 h [a1] ∧ ∃ t : Addr, n0 ≤ t ∧ h0.size ≤ t ∧ own_ls Z h a1 t []
set_option maxRecDepth 65536 in
set_option maxHeartbeats 40000000 in
theorem rm1 (l : Launch) (Z : State) (a0 : Array Value) (hw : ∀ d ∈ tables_1, d.before a0 Z = true) (ws : List Jvm.Cond) (a1 : Addr) (h0 : Heap) (n0 : Nat) (Z0 : n0 ≤ h0.size) (E_a1 : Exa Z h0 a1 "com/example/viable/viable/IntList") (g_a1 : n0 ≤ a1) (F_values : Fld Z h0 a1 "com/example/viable/viable/IntList" "values" "[I" .null) (F_size : Fld Z h0 a1 "com/example/viable/viable/IntList" "size" "I" (.int (0 : Int32))) :
    MetFree l (⟨"com/example/viable/viable/IntList", "<init>", "()V"⟩ : MethodName) (head1 (Jvm.Cond.code (⟨"com/example/viable/viable/IntList", "<init>", "()V"⟩ : MethodName) prog_18_method_1_code 1 none :: ws) ({ frames := 1, cells := 1, slots := 8, locals := 12 } : Room)) (fun aax UU => aax = #[(.ref a1)] ∧ Z.Warmed39 UU.vm ∧ UU.heap = h0) (fun _ _ _ _ _ => True) (fun _ UU oux UU' => ∃ rvx Lrx, oux = .returned rvx ∧ Q1 Z a1 h0 n0 rvx UU'.heap Lrx ∧ FrameEnd UU oux UU' Lrx ({ frames := 1, cells := 1, slots := 8, locals := 12 } : Room).cells ({ frames := 1, cells := 1, slots := 8, locals := 12 } : Room).slots) := by
  refine MetFree.of_bodySF (plainFor_of_name own_pn_com_example_viable_viable_IntList) hisR ?_
  intro p e s m args below meth c s₁ Bd hml0 hP hK
  obtain ⟨rfl, hZ, hh⟩ := hP
  have hx := Bd.exec
  have hby := Bd.bytes
  have hml : c.maxLocals = 1 := hml0
  have hown : s.vm.findClass "com/example/viable/viable/IntList" = some m.cls := findClass_of_methodNamed Bd.named
  have hnm := (name_of_methodNamed Bd.named Bd.method).1
  have X0 : Stand p l e ({ frames := 1, cells := 1, slots := 8, locals := 12 } : Room) s m #[(.ref a1)] below meth c s₁ [] 0 0 := Stand.of_body Bd
  have e0 : s₁.heap = h0 := by rw [← hh, Bd.state]; rfl
  have N0 := Fr.nil n0
  have p0 : own_go p e below (s₁.setTop (entryFrame m #[(.ref a1)] 1)) (s₁.setTop (mkF m 0 #[.val (.ref a1)] [])) := fun ttx ktx => castTop (ef_1 m a1) ktx
  obtain ⟨T1, X1, e1, st1⟩ := initO X0 hx hZ hown (hw _ (List.mem_of_getElem? (i := 8) rfl)) (hw _ (List.mem_of_getElem? (i := 9) rfl)) (hw _ (List.mem_of_getElem? (i := 10) rfl)) e0 (g := (mkF m 1 #[.val (.ref a1)] [(.ref a1)])) rfl (by rw [hml]; rfl) rfl (hb hby d1_1) (by decide) (W := 0) (by show 2 * 0 + _ ≤ _; exact Nat.le_of_eq rfl) (by decide)
  obtain ⟨T2, h2, k2, X2, e2, E2, A2, B2, st2⟩ := newPE X1 hx hZ (hw _ (List.mem_of_getElem? (i := 1) rfl)) e1 (g := (mkF m 7 #[.val (.ref a1)] [(.int (8 : Int32)), (.ref a1)])) rfl (hb hby d1_7) rfl (by decide) (cap := 8) (by decide) (by decide) (by decide) (by decide) (ad := "[I") (by decide)
  obtain ⟨b2, g2⟩ : ∃ z, z = h0.size := ⟨_, rfl⟩
  rw [← g2] at A2 B2 st2
  have ne3 : a1 ≠ b2 := Nat.ne_of_lt (Nat.lt_of_lt_of_le E_a1.lt (Nat.le_of_eq g2.symm))
  have g_b2 : n0 ≤ b2 := Nat.le_trans Z0 (Nat.le_of_eq g2.symm)
  have sz_b2 : h0.size ≤ b2 := Nat.le_trans (Keep.refl h0 [a1]).1 (Nat.le_of_eq g2.symm)
  have Z2 : n0 ≤ h2.size := Nat.le_trans Z0 E2.1
  have K2 : Keep h0 h2 [a1] := (Keep.refl h0 [a1]).ext E2
  have V2 : Arv Z h2 b2 k2 .int (8 : Int32) [(.int (0 : Int32)), (.int (0 : Int32)), (.int (0 : Int32)), (.int (0 : Int32)), (.int (0 : Int32)), (.int (0 : Int32)), (.int (0 : Int32)), (.int (0 : Int32))] (.int (0 : Int32)) := (Arv.new A2 (by decide)).pad (pad_rep [] (.int (0 : Int32)) 8)
  have f4 := (F_values.ext E2)
  have f5 := (E_a1.ext E2)
  obtain ⟨T6, h6, X6, e6, W6, st6⟩ := putF X2 hx hZ hown (host := "") (Or.inl (hw _ (List.mem_of_getElem? (i := 11) rfl))) Via.refl e2 f4 f5 (Or.inl (hw _ (List.mem_of_getElem? (i := 12) rfl))) (hw _ (List.mem_of_getElem? (i := 3) rfl)) (ty := (.array .int)) (by decide) rfl rfl (g := (mkF m 9 #[.val (.ref a1)] [(.ref b2), (.ref a1)])) rfl rfl (hb hby d1_9)
  have Z6 : n0 ≤ h6.size := Nat.le_trans Z2 (Nat.le_of_eq W6.size.symm)
  have K6 : Keep h0 h6 [a1] := K2.wr W6 (Or.inl (List.mem_of_getElem? (i := 0) rfl))
  have N6 := Fr.snoc X6 N0 g_a1
  have Fw6 := f4.same W6
  have go7 : own_go p e below (s₁.setTop (entryFrame m #[(.ref a1)] 1)) (T6.setTop (mkF m 12 #[.val (.ref a1)] [])) := by
    intro ttx ktx
    refine p0 ttx ?_
    show Steps p.tables e below (s₁.setTop (mkF m 0 #[.val (.ref a1)] [])) _
    refine XS.aloadN X0.here hx rfl (hb hby d1_0) rfl rfl ?_
    show Steps p.tables e below (s₁.setTop (mkF m 1 #[.val (.ref a1)] [(.ref a1)])) _
    refine st1 _ ?_
    show Steps p.tables e below (T1.setTop (mkF m 4 #[.val (.ref a1)] [])) _
    refine XS.aloadN X1.here hx rfl (hb hby d1_4) rfl rfl ?_
    show Steps p.tables e below (T1.setTop (mkF m 5 #[.val (.ref a1)] [(.ref a1)])) _
    refine XS.bipush X1.here hx rfl (hb hby d1_5) ?_
    show Steps p.tables e below (T1.setTop (mkF m 7 #[.val (.ref a1)] [(.int (8 : Int32)), (.ref a1)])) _
    refine st2 _ ?_
    show Steps p.tables e below (T2.setTop (mkF m 9 #[.val (.ref a1)] [(.ref b2), (.ref a1)])) _
    refine st6 _ ?_
    exact ktx
  obtain ⟨fs, hr, hrun, hended, hW, hsame⟩ := X6.leave (v := none) (fun _ => rfl)
  refine ⟨_, _, go7 _ ?_, hrun, hended, _, _, rfl, ?_, ⟨_, rfl⟩, hW, hsame.mono (by decide) (by decide)⟩
  · exact X6.returnOut hx Bd.returns (hb hby d1_12) hr
  · show Q1 Z a1 h0 n0 _ T6.heap _
    rw [e6]
    have f8 := (f5.wr W6)
    have f9 := ((F_size.ext E2).other W6 (Or.inr (slot_ne (Or.inl (hw _ (List.mem_of_getElem? (i := 19) rfl))) (Or.inl (hw _ (List.mem_of_getElem? (i := 12) rfl))) (by decide) (t := .int) (t' := (.array .int)) (by decide) (by decide))))
    have f10 := (B2.wr W6)
    have f11 := (V2.other W6 (Ne.symm ne3))
    exact ⟨rfl, N6, K6, b2, g_b2, sz_b2, f8, Fw6, f9, f10, _, _, _, f11, Or.inl rfl, by decide, by decide, fun i hi => absurd hi (Nat.not_lt_zero i)⟩
theorem d7_0 : decode prog_18_method_4_code 0 = .ok (.aload_n 0, 1) := by decide +kernel
theorem d7_1 : decode prog_18_method_4_code 1 = .ok (.getfield 13, 3) := by decide +kernel
theorem d7_4 : decode prog_18_method_4_code 4 = .ok (.aload_n 0, 1) := by decide +kernel
theorem d7_5 : decode prog_18_method_4_code 5 = .ok (.getfield 7, 3) := by decide +kernel
theorem d7_8 : decode prog_18_method_4_code 8 = .ok (.arraylength, 1) := by decide +kernel
theorem d7_9 : decode prog_18_method_4_code 9 = .ok (.if_icmp .ne 20, 3) := by decide +kernel
theorem d7_12 : decode prog_18_method_4_code 12 = .ok (.aload_n 0, 1) := by decide +kernel
theorem d7_13 : decode prog_18_method_4_code 13 = .ok (.aload_n 0, 1) := by decide +kernel
theorem d7_14 : decode prog_18_method_4_code 14 = .ok (.getfield 7, 3) := by decide +kernel
theorem d7_17 : decode prog_18_method_4_code 17 = .ok (.aload_n 0, 1) := by decide +kernel
theorem d7_18 : decode prog_18_method_4_code 18 = .ok (.getfield 13, 3) := by decide +kernel
theorem d7_21 : decode prog_18_method_4_code 21 = .ok (.iconst 2, 1) := by decide +kernel
theorem d7_22 : decode prog_18_method_4_code 22 = .ok (.imul, 1) := by decide +kernel
theorem own_pd1 : parseMethodDescriptor "([II)[I" = some ⟨[(.array .int), .int], some (.array .int)⟩ := by decide +kernel
theorem d7_23 : decode prog_18_method_4_code 23 = .ok (.invokestatic 22, 3) := by decide +kernel
theorem d7_26 : decode prog_18_method_4_code 26 = .ok (.putfield 7, 3) := by decide +kernel
theorem d7_29 : decode prog_18_method_4_code 29 = .ok (.aload_n 0, 1) := by decide +kernel
theorem d7_30 : decode prog_18_method_4_code 30 = .ok (.getfield 7, 3) := by decide +kernel
theorem d7_33 : decode prog_18_method_4_code 33 = .ok (.aload_n 0, 1) := by decide +kernel
theorem d7_34 : decode prog_18_method_4_code 34 = .ok (.dup, 1) := by decide +kernel
theorem d7_35 : decode prog_18_method_4_code 35 = .ok (.getfield 13, 3) := by decide +kernel
theorem d7_38 : decode prog_18_method_4_code 38 = .ok (.dup_x1, 1) := by decide +kernel
theorem d7_39 : decode prog_18_method_4_code 39 = .ok (.iconst 1, 1) := by decide +kernel
theorem d7_40 : decode prog_18_method_4_code 40 = .ok (.iadd, 1) := by decide +kernel
theorem d7_41 : decode prog_18_method_4_code 41 = .ok (.putfield 13, 3) := by decide +kernel
theorem d7_44 : decode prog_18_method_4_code 44 = .ok (.iload_n 1, 1) := by decide +kernel
theorem d7_45 : decode prog_18_method_4_code 45 = .ok (.iastore, 1) := by decide +kernel
theorem d7_46 : decode prog_18_method_4_code 46 = .ok (.return_, 1) := by decide +kernel
theorem ef_7 (m : MethodId) (x0 : Addr) (x1 : Int32) : entryFrame m #[(.ref x0), (.int x1)] 2 = mkF m 0 #[.val (.ref x0), .val (.int x1)] [] := by first | (simp [entryFrame, mkF, argsToLocals, Value.category]; done) | rfl
def Q7 (Z : State) (a1 : Addr) (p2 : Int32) (t : Addr) (xs : List Int32) (h0 : Heap) (n0 : Nat) (v : Option Value) (h : Heap) (L : List Loc) : Prop := v = none ∧ Fr n0 L ∧ Keep h0 h [a1, t] ∧ ∃ t2 : Addr, n0 ≤ t2 ∧ (t2 = t ∨ h0.size ≤ t2) ∧ own_ls Z h a1 t2 (xs ++ [p2])
set_option maxRecDepth 65536 in
set_option maxHeartbeats 40000000 in
theorem rm7 (l : Launch) (Z : State) (a0 : Array Value) (hw : ∀ d ∈ tables_1, d.before a0 Z = true) (ws : List Jvm.Cond) (a1 : Addr) (p2 : Int32) (t : Addr) (xs : List Int32) (h0 : Heap) (n0 : Nat) (Z0 : n0 ≤ h0.size) (g_a1 : n0 ≤ a1) (g_t : n0 ≤ t) (ne_t : a1 ≠ t) (hls : own_ls Z h0 a1 t xs) (h8 : xs.length ≤ 8) :
    MetFree l (⟨"com/example/viable/viable/IntList", "add", "(I)V"⟩ : MethodName) (head1 (Jvm.Cond.code (⟨"com/example/viable/viable/IntList", "add", "(I)V"⟩ : MethodName) prog_18_method_4_code 2 none :: ws) ({ frames := 2, cells := 1, slots := 16, locals := 55 } : Room)) (fun aax UU => aax = #[(.ref a1), (.int p2)] ∧ Z.Warmed39 UU.vm ∧ UU.heap = h0) (fun _ _ _ _ _ => True) (fun _ UU oux UU' => ∃ rvx Lrx, oux = .returned rvx ∧ Q7 Z a1 p2 t xs h0 n0 rvx UU'.heap Lrx ∧ FrameEnd UU oux UU' Lrx ({ frames := 2, cells := 1, slots := 16, locals := 55 } : Room).cells ({ frames := 2, cells := 1, slots := 16, locals := 55 } : Room).slots) := by
  refine MetFree.of_bodySF (plainFor_of_name own_pn_com_example_viable_viable_IntList) hisR ?_
  intro p e s m args below meth c s₁ Bd hml0 hP hK
  obtain ⟨rfl, hZ, hh⟩ := hP
  have hx := Bd.exec
  have hby := Bd.bytes
  have hml : c.maxLocals = 2 := hml0
  have hown : s.vm.findClass "com/example/viable/viable/IntList" = some m.cls := findClass_of_methodNamed Bd.named
  have hnm := (name_of_methodNamed Bd.named Bd.method).1
  have X0 : Stand p l e ({ frames := 2, cells := 1, slots := 16, locals := 55 } : Room) s m #[(.ref a1), (.int p2)] below meth c s₁ [] 0 0 := Stand.of_body Bd
  have e0 : s₁.heap = h0 := by rw [← hh, Bd.state]; rfl
  have N0 := Fr.nil n0
  have p0 : own_go p e below (s₁.setTop (entryFrame m #[(.ref a1), (.int p2)] 2)) (s₁.setTop (mkF m 0 #[.val (.ref a1), .val (.int p2)] [])) := fun ttx ktx => castTop (ef_7 m a1 p2) ktx
  obtain ⟨E_a1, F_values, F_size, E_t, kc, z, ws, V_t, hz, hzl, h9, hxs⟩ := hls
  obtain ⟨sz, hsz⟩ : ∃ q : Int32, q = Int32.ofNat xs.length := ⟨_, rfl⟩
  rw [← hsz] at F_size
  have hszi : sz.toInt = xs.length := by rw [hsz]; exact own_of _ (by omega)
  have hz16 : 0 ≤ z.toInt ∧ z.toInt ≤ 16 := by rcases hz with rfl | rfl <;> decide
  obtain ⟨T1, X1, e1, st1⟩ := getF X0 hx hZ hown (host := "") (Or.inl (hw _ (List.mem_of_getElem? (i := 18) rfl))) Via.refl e0 F_size (g := (mkF m 1 #[.val (.ref a1), .val (.int p2)] [(.ref a1)])) rfl rfl (hb hby d7_1)
  obtain ⟨T2, X2, e2, st2⟩ := getF X1 hx hZ hown (host := "") (Or.inl (hw _ (List.mem_of_getElem? (i := 11) rfl))) Via.refl e1 F_values (g := (mkF m 5 #[.val (.ref a1), .val (.int p2)] [(.ref a1), (.int sz)])) rfl rfl (hb hby d7_5)
  obtain ⟨cl3, Ar3, -, S3, M3, -, -⟩ := id V_t
  have go4 : own_go p e below (s₁.setTop (entryFrame m #[(.ref a1), (.int p2)] 2)) (T2.setTop (mkF m 9 #[.val (.ref a1), .val (.int p2)] [(.int z), (.int sz)])) := by
    intro ttx ktx
    refine p0 ttx ?_
    show Steps p.tables e below (s₁.setTop (mkF m 0 #[.val (.ref a1), .val (.int p2)] [])) _
    refine XS.aloadN X0.here hx rfl (hb hby d7_0) rfl rfl ?_
    show Steps p.tables e below (s₁.setTop (mkF m 1 #[.val (.ref a1), .val (.int p2)] [(.ref a1)])) _
    refine st1 _ ?_
    show Steps p.tables e below (T1.setTop (mkF m 4 #[.val (.ref a1), .val (.int p2)] [(.int sz)])) _
    refine XS.aloadN X1.here hx rfl (hb hby d7_4) rfl rfl ?_
    show Steps p.tables e below (T1.setTop (mkF m 5 #[.val (.ref a1), .val (.int p2)] [(.ref a1), (.int sz)])) _
    refine st2 _ ?_
    show Steps p.tables e below (T2.setTop (mkF m 8 #[.val (.ref a1), .val (.int p2)] [(.ref t), (.int sz)])) _
    refine X2.arraylength hx (own_hp e2 Ar3.1) (State.isArrayOf_alike hZ.alike Ar3.2.1) (g := (mkF m 8 #[.val (.ref a1), .val (.int p2)] [(.ref t), (.int sz)])) rfl rfl (hb hby d7_8) _ ?_
    rw [len_of S3 M3]
    exact ktx
  by_cases hc5_9 : sz = z
  · obtain ⟨T6, X6, e6, st6⟩ := getF X2 hx hZ hown (host := "") (Or.inl (hw _ (List.mem_of_getElem? (i := 11) rfl))) Via.refl e2 F_values (g := (mkF m 14 #[.val (.ref a1), .val (.int p2)] [(.ref a1), (.ref a1)])) rfl rfl (hb hby d7_14)
    obtain ⟨T7, X7, e7, st7⟩ := getF X6 hx hZ hown (host := "") (Or.inl (hw _ (List.mem_of_getElem? (i := 18) rfl))) Via.refl e6 F_size (g := (mkF m 18 #[.val (.ref a1), .val (.int p2)] [(.ref a1), (.ref t), (.ref a1)])) rfl rfl (hb hby d7_18)
    have hz8 : z = 8 := by rcases hz with q | q; exact q; exfalso; rw [q] at hc5_9; rw [hc5_9] at hszi; have : (16 : Int32).toInt = 16 := rfl; omega
    have hgr : (sz * (2 : Int32)).toInt = 16 := by rw [hc5_9, hz8]; rfl
    have hgp : 0 ≤ (sz * (2 : Int32)).toInt ∧ (sz * (2 : Int32)).toInt ≤ 16 := by omega
    obtain ⟨_, _, ⟨T8, L8, k8, n8⟩, -, X8, ⟨Lc8, hQ8, l8, y8, z8⟩, st8⟩ := Jvm.LawKit.callS X7 hx (y := (⟨"java/util/Arrays", "copyOf", "([II)[I"⟩ : MethodName)) hown (mvT hZ (hw _ (List.mem_of_getElem? (i := 20) rfl))) (mvT hZ (hw _ (List.mem_of_getElem? (i := 21) rfl))) (mvT hZ (hw _ (List.mem_of_getElem? (i := 22) rfl))) (mvT hZ (hw _ (List.mem_of_getElem? (i := 23) rfl))) (by decide) (backOf (W := 1) (rmCPY l Z a0 hw [] t (sz * (2 : Int32)) kc z ws h0 n0 Z0 V_t E_t hgp hz16) hZ (hw _ (List.mem_of_getElem? (i := 23) rfl)) (hw _ (List.mem_of_getElem? (i := 22) rfl)) (by decide) (by decide)) (g := (mkF m 23 #[.val (.ref a1), .val (.int p2)] [(.int (sz * (2 : Int32))), (.ref t), (.ref a1)])) rfl (by rw [hml]; rfl) (argsL := [(.ref t), (.int (sz * (2 : Int32)))]) (rest := [(.ref a1)]) (lenOf own_pd1 rfl) rfl (by show 2 * 0 + _ ≤ _; exact Nat.le_of_eq rfl) (hb hby d7_23) (fun _ _ => ⟨rfl, e7, (by decide : 0 + 1 ≤ _), (by decide : 0 + 16 ≤ _)⟩)
    dsimp only [Pt.U, Pt.locs, Pt.cells, Pt.slots] at X8 l8 y8 z8 st8 hQ8
    subst l8 y8 z8
    obtain ⟨b8, kb8, ws8, rfl, Nq8, Kq8, sq8, Eq8, Vq8, hq8⟩ := hQ8
    have N8 := Fr.app N0 Nq8
    have ne9 : a1 ≠ b8 := Nat.ne_of_lt (Nat.lt_of_lt_of_le E_a1.lt sq8)
    have ne10 : t ≠ b8 := Nat.ne_of_lt (Nat.lt_of_lt_of_le E_t.lt sq8)
    have g_b8 : n0 ≤ b8 := Nat.le_trans Z0 sq8
    have sz_b8 : h0.size ≤ b8 := Nat.le_trans (Keep.refl h0 [a1, t]).1 sq8
    have Z8 : n0 ≤ T8.heap.size := Nat.le_trans Z0 Kq8.1
    have K8 : Keep h0 T8.heap [a1, t] := (Keep.refl h0 [a1, t]).trans Kq8 all0
    have f11 := (F_values.keep Kq8 nin0)
    have f12 := (E_a1.keep Kq8)
    obtain ⟨T13, h13, X13, e13, W13, st13⟩ := putF X8 hx hZ hown (host := "") (Or.inl (hw _ (List.mem_of_getElem? (i := 11) rfl))) Via.refl rfl f11 f12 (Or.inl (hw _ (List.mem_of_getElem? (i := 12) rfl))) (hw _ (List.mem_of_getElem? (i := 3) rfl)) (ty := (.array .int)) (by decide) rfl rfl (g := (mkF m 26 #[.val (.ref a1), .val (.int p2)] [(.ref b8), (.ref a1)])) rfl rfl (hb hby d7_26)
    have Z13 : n0 ≤ h13.size := Nat.le_trans Z8 (Nat.le_of_eq W13.size.symm)
    have K13 : Keep h0 h13 [a1, t] := K8.wr W13 (Or.inl (List.mem_of_getElem? (i := 0) rfl))
    have N13 := Fr.snoc X13 N8 g_a1
    have Fw13 := f11.same W13
    obtain ⟨T14, X14, e14, st14⟩ := getF X13 hx hZ hown (host := "") (Or.inl (hw _ (List.mem_of_getElem? (i := 11) rfl))) Via.refl e13 Fw13 (g := (mkF m 30 #[.val (.ref a1), .val (.int p2)] [(.ref a1)])) rfl rfl (hb hby d7_30)
    have f15 := ((F_size.keep Kq8 nin0).other W13 (Or.inr (slot_ne (Or.inl (hw _ (List.mem_of_getElem? (i := 19) rfl))) (Or.inl (hw _ (List.mem_of_getElem? (i := 12) rfl))) (by decide) (t := .int) (t' := (.array .int)) (by decide) (by decide))))
    obtain ⟨T16, X16, e16, st16⟩ := getF X14 hx hZ hown (host := "") (Or.inl (hw _ (List.mem_of_getElem? (i := 18) rfl))) Via.refl e14 f15 (g := (mkF m 35 #[.val (.ref a1), .val (.int p2)] [(.ref a1), (.ref a1), (.ref b8)])) rfl rfl (hb hby d7_35)
    have go17 : own_go p e below (s₁.setTop (entryFrame m #[(.ref a1), (.int p2)] 2)) (T16.setTop (mkF m 38 #[.val (.ref a1), .val (.int p2)] [(.int sz), (.ref a1), (.ref b8)])) := by
      intro ttx ktx
      refine go4 ttx ?_
      show Steps p.tables e below (T2.setTop (mkF m 9 #[.val (.ref a1), .val (.int p2)] [(.int z), (.int sz)])) _
      refine XS.icmpNo X2.here hx rfl (hb hby d7_9) rfl (teq hc5_9).2 ?_
      show Steps p.tables e below (T2.setTop (mkF m 12 #[.val (.ref a1), .val (.int p2)] [])) _
      refine XS.aloadN X2.here hx rfl (hb hby d7_12) rfl rfl ?_
      show Steps p.tables e below (T2.setTop (mkF m 13 #[.val (.ref a1), .val (.int p2)] [(.ref a1)])) _
      refine XS.aloadN X2.here hx rfl (hb hby d7_13) rfl rfl ?_
      show Steps p.tables e below (T2.setTop (mkF m 14 #[.val (.ref a1), .val (.int p2)] [(.ref a1), (.ref a1)])) _
      refine st6 _ ?_
      show Steps p.tables e below (T6.setTop (mkF m 17 #[.val (.ref a1), .val (.int p2)] [(.ref t), (.ref a1)])) _
      refine XS.aloadN X6.here hx rfl (hb hby d7_17) rfl rfl ?_
      show Steps p.tables e below (T6.setTop (mkF m 18 #[.val (.ref a1), .val (.int p2)] [(.ref a1), (.ref t), (.ref a1)])) _
      refine st7 _ ?_
      show Steps p.tables e below (T7.setTop (mkF m 21 #[.val (.ref a1), .val (.int p2)] [(.int sz), (.ref t), (.ref a1)])) _
      refine XS.iconst X7.here hx rfl (hb hby d7_21) ?_
      show Steps p.tables e below (T7.setTop (mkF m 22 #[.val (.ref a1), .val (.int p2)] [(.int (2 : Int32)), (.int sz), (.ref t), (.ref a1)])) _
      refine XS.imul X7.here hx rfl (hb hby d7_22) rfl ?_
      show Steps p.tables e below (T7.setTop (mkF m 23 #[.val (.ref a1), .val (.int p2)] [(.int (sz * (2 : Int32))), (.ref t), (.ref a1)])) _
      refine st8 _ ?_
      show Steps p.tables e below (T8.setTop (mkF m 26 #[.val (.ref a1), .val (.int p2)] [(.ref b8), (.ref a1)])) _
      refine st13 _ ?_
      show Steps p.tables e below (T13.setTop (mkF m 29 #[.val (.ref a1), .val (.int p2)] [])) _
      refine XS.aloadN X13.here hx rfl (hb hby d7_29) rfl rfl ?_
      show Steps p.tables e below (T13.setTop (mkF m 30 #[.val (.ref a1), .val (.int p2)] [(.ref a1)])) _
      refine st14 _ ?_
      show Steps p.tables e below (T14.setTop (mkF m 33 #[.val (.ref a1), .val (.int p2)] [(.ref b8)])) _
      refine XS.aloadN X14.here hx rfl (hb hby d7_33) rfl rfl ?_
      show Steps p.tables e below (T14.setTop (mkF m 34 #[.val (.ref a1), .val (.int p2)] [(.ref a1), (.ref b8)])) _
      refine XS.dup X14.here hx rfl (hb hby d7_34) rfl rfl ?_
      show Steps p.tables e below (T14.setTop (mkF m 35 #[.val (.ref a1), .val (.int p2)] [(.ref a1), (.ref a1), (.ref b8)])) _
      refine st16 _ ?_
      exact ktx
    have f18 := (f12.wr W13)
    obtain ⟨T19, h19, X19, e19, W19, st19⟩ := putF X16 hx hZ hown (host := "") (Or.inl (hw _ (List.mem_of_getElem? (i := 18) rfl))) Via.refl e16 f15 f18 (Or.inl (hw _ (List.mem_of_getElem? (i := 19) rfl))) (hw _ (List.mem_of_getElem? (i := 3) rfl)) (ty := .int) (by decide) rfl rfl (g := (mkF m 41 #[.val (.ref a1), .val (.int p2)] [(.int (sz + (1 : Int32))), (.ref a1), (.int sz), (.ref b8)])) rfl rfl (hb hby d7_41)
    have Z19 : n0 ≤ h19.size := Nat.le_trans Z13 (Nat.le_of_eq W19.size.symm)
    have K19 : Keep h0 h19 [a1, t] := K13.wr W19 (Or.inl (List.mem_of_getElem? (i := 0) rfl))
    have N19 := Fr.snoc X19 N13 g_a1
    have Fw19 := f15.same W19
    have f20 := ((Vq8.other W13 (Ne.symm ne9)).other W19 (Ne.symm ne9))
    have Vp := f20.pad (pad_rep ws8 (.int (0 : Int32)) 20)
    obtain ⟨cl21, Ar21, q21, S21, M21, H21, G21⟩ := id Vp
    have hlt21 : ¬ sz < 0 ∧ sz < (sz * (2 : Int32)) := by rw [Int32.lt_iff_toInt_lt, Int32.lt_iff_toInt_lt]; have e0 : (0 : Int32).toInt = 0 := rfl; rw [hgr]; omega
    have hin21 : ¬ (sz < 0 ∨ cl21.slots.size ≤ (sz).toNatClampNeg) := inb_of S21 hlt21
    obtain ⟨T22, h22, X22, e22, W22, st22⟩ := stI X19 hx hZ e19 Ar21 (j := sz) hin21 (g := (mkF m 45 #[.val (.ref a1), .val (.int p2)] [(.int p2), (.int sz), (.ref b8)])) rfl rfl (hb hby d7_45)
    have Z22 : n0 ≤ h22.size := Nat.le_trans Z19 (Nat.le_of_eq W22.size.symm)
    have K22 : Keep h0 h22 [a1, t] := K19.wr W22 (Or.inr sz_b8)
    have N22 := Fr.snoc X22 N19 g_b8
    have V22 := Arv.set Ar21 q21 S21 M21 H21 G21 rfl W22 sz.toNatClampNeg rfl (by rw [own_tn, List.length_append, List.length_replicate]; omega)
    have go23 : own_go p e below (s₁.setTop (entryFrame m #[(.ref a1), (.int p2)] 2)) (T22.setTop (mkF m 46 #[.val (.ref a1), .val (.int p2)] [])) := by
      intro ttx ktx
      refine go17 ttx ?_
      show Steps p.tables e below (T16.setTop (mkF m 38 #[.val (.ref a1), .val (.int p2)] [(.int sz), (.ref a1), (.ref b8)])) _
      refine XS.dupX1 X16.here hx rfl (hb hby d7_38) rfl rfl rfl ?_
      show Steps p.tables e below (T16.setTop (mkF m 39 #[.val (.ref a1), .val (.int p2)] [(.int sz), (.ref a1), (.int sz), (.ref b8)])) _
      refine XS.iconst X16.here hx rfl (hb hby d7_39) ?_
      show Steps p.tables e below (T16.setTop (mkF m 40 #[.val (.ref a1), .val (.int p2)] [(.int (1 : Int32)), (.int sz), (.ref a1), (.int sz), (.ref b8)])) _
      refine XS.iadd X16.here hx rfl (hb hby d7_40) rfl ?_
      show Steps p.tables e below (T16.setTop (mkF m 41 #[.val (.ref a1), .val (.int p2)] [(.int (sz + (1 : Int32))), (.ref a1), (.int sz), (.ref b8)])) _
      refine st19 _ ?_
      show Steps p.tables e below (T19.setTop (mkF m 44 #[.val (.ref a1), .val (.int p2)] [(.int sz), (.ref b8)])) _
      refine XS.iloadN X19.here hx rfl (hb hby d7_44) rfl ?_
      show Steps p.tables e below (T19.setTop (mkF m 45 #[.val (.ref a1), .val (.int p2)] [(.int p2), (.int sz), (.ref b8)])) _
      refine st22 _ ?_
      exact ktx
    obtain ⟨fs, hr, hrun, hended, hW, hsame⟩ := X22.leave (v := none) (fun _ => rfl)
    refine ⟨_, _, go23 _ ?_, hrun, hended, _, _, rfl, ?_, ⟨_, rfl⟩, hW, hsame.mono (by decide) (by decide)⟩
    · exact X22.returnOut hx Bd.returns (hb hby d7_46) hr
    · show Q7 Z a1 p2 t xs h0 n0 _ T22.heap _
      rw [e22]
      have f24 := ((f18.wr W19).wr W22)
      have f25 := ((Fw13.other W19 (Or.inr (slot_ne (Or.inl (hw _ (List.mem_of_getElem? (i := 12) rfl))) (Or.inl (hw _ (List.mem_of_getElem? (i := 19) rfl))) (by decide) (t := (.array .int)) (t' := .int) (by decide) (by decide)))).other W22 (Or.inl ne9))
      have f26 := (Fw19.other W22 (Or.inl ne9))
      have f27 := (((Eq8.wr W13).wr W19).wr W22)
      exact ⟨rfl, N22, K22, b8, g_b8, Or.inr sz_b8, f24, f25, by rw [List.length_append]; show Fld Z _ _ _ _ _ (.int (Int32.ofNat (xs.length + 1))); rw [← own_up, ← hsz]; exact f26, f27, _, _, _, V22, Or.inr (Int32.toInt_inj.mp (by rw [hgr]; rfl)), by rw [List.length_append]; rw [hgr]; show ((xs.length + 1 : Nat) : Int) ≤ 16; omega, by rw [List.length_append]; show xs.length + 1 ≤ 9; omega, fun i hi => own_snoc _ _ _ _ _ (by rw [own_tn]; omega) (by rw [own_tn, List.length_append, List.length_replicate]; omega) (own_pad _ xs (fun i hi => (hq8 i (by rw [own_tn]; rw [hgr]; omega) (by rw [own_tn]; omega)).trans (hxs i hi))) hi⟩
  · obtain ⟨T28, X28, e28, st28⟩ := getF X2 hx hZ hown (host := "") (Or.inl (hw _ (List.mem_of_getElem? (i := 11) rfl))) Via.refl e2 F_values (g := (mkF m 30 #[.val (.ref a1), .val (.int p2)] [(.ref a1)])) rfl rfl (hb hby d7_30)
    obtain ⟨T29, X29, e29, st29⟩ := getF X28 hx hZ hown (host := "") (Or.inl (hw _ (List.mem_of_getElem? (i := 18) rfl))) Via.refl e28 F_size (g := (mkF m 35 #[.val (.ref a1), .val (.int p2)] [(.ref a1), (.ref a1), (.ref t)])) rfl rfl (hb hby d7_35)
    obtain ⟨T30, h30, X30, e30, W30, st30⟩ := putF X29 hx hZ hown (host := "") (Or.inl (hw _ (List.mem_of_getElem? (i := 18) rfl))) Via.refl e29 F_size E_a1 (Or.inl (hw _ (List.mem_of_getElem? (i := 19) rfl))) (hw _ (List.mem_of_getElem? (i := 3) rfl)) (ty := .int) (by decide) rfl rfl (g := (mkF m 41 #[.val (.ref a1), .val (.int p2)] [(.int (sz + (1 : Int32))), (.ref a1), (.int sz), (.ref t)])) rfl rfl (hb hby d7_41)
    have Z30 : n0 ≤ h30.size := Nat.le_trans Z0 (Nat.le_of_eq W30.size.symm)
    have K30 : Keep h0 h30 [a1, t] := (Keep.refl h0 [a1, t]).wr W30 (Or.inl (List.mem_of_getElem? (i := 0) rfl))
    have N30 := Fr.snoc X30 N0 g_a1
    have Fw30 := F_size.same W30
    have f31 := (V_t.other W30 (Ne.symm ne_t))
    have Vp := f31.pad (pad_rep ws (.int (0 : Int32)) 20)
    obtain ⟨cl32, Ar32, q32, S32, M32, H32, G32⟩ := id Vp
    have hlt32 : ¬ sz < 0 ∧ sz < z := by rw [Int32.lt_iff_toInt_lt, Int32.lt_iff_toInt_lt]; have e0 : (0 : Int32).toInt = 0 := rfl; have : sz.toInt ≠ z.toInt := fun q => hc5_9 (Int32.toInt_inj.mp q); omega
    have hin32 : ¬ (sz < 0 ∨ cl32.slots.size ≤ (sz).toNatClampNeg) := inb_of S32 hlt32
    obtain ⟨T33, h33, X33, e33, W33, st33⟩ := stI X30 hx hZ e30 Ar32 (j := sz) hin32 (g := (mkF m 45 #[.val (.ref a1), .val (.int p2)] [(.int p2), (.int sz), (.ref t)])) rfl rfl (hb hby d7_45)
    have Z33 : n0 ≤ h33.size := Nat.le_trans Z30 (Nat.le_of_eq W33.size.symm)
    have K33 : Keep h0 h33 [a1, t] := K30.wr W33 (Or.inl (List.mem_of_getElem? (i := 1) rfl))
    have N33 := Fr.snoc X33 N30 g_t
    have V33 := Arv.set Ar32 q32 S32 M32 H32 G32 rfl W33 sz.toNatClampNeg rfl (by rw [own_tn, List.length_append, List.length_replicate]; omega)
    have go34 : own_go p e below (s₁.setTop (entryFrame m #[(.ref a1), (.int p2)] 2)) (T33.setTop (mkF m 46 #[.val (.ref a1), .val (.int p2)] [])) := by
      intro ttx ktx
      refine go4 ttx ?_
      show Steps p.tables e below (T2.setTop (mkF m 9 #[.val (.ref a1), .val (.int p2)] [(.int z), (.int sz)])) _
      refine XS.icmpYes X2.here hx rfl (pc0 := 9) (pc' := 29) rfl (hb hby d7_9) rfl (feq hc5_9).2 (by decide) (by decide) ?_
      show Steps p.tables e below (T2.setTop (mkF m 29 #[.val (.ref a1), .val (.int p2)] [])) _
      refine XS.aloadN X2.here hx rfl (hb hby d7_29) rfl rfl ?_
      show Steps p.tables e below (T2.setTop (mkF m 30 #[.val (.ref a1), .val (.int p2)] [(.ref a1)])) _
      refine st28 _ ?_
      show Steps p.tables e below (T28.setTop (mkF m 33 #[.val (.ref a1), .val (.int p2)] [(.ref t)])) _
      refine XS.aloadN X28.here hx rfl (hb hby d7_33) rfl rfl ?_
      show Steps p.tables e below (T28.setTop (mkF m 34 #[.val (.ref a1), .val (.int p2)] [(.ref a1), (.ref t)])) _
      refine XS.dup X28.here hx rfl (hb hby d7_34) rfl rfl ?_
      show Steps p.tables e below (T28.setTop (mkF m 35 #[.val (.ref a1), .val (.int p2)] [(.ref a1), (.ref a1), (.ref t)])) _
      refine st29 _ ?_
      show Steps p.tables e below (T29.setTop (mkF m 38 #[.val (.ref a1), .val (.int p2)] [(.int sz), (.ref a1), (.ref t)])) _
      refine XS.dupX1 X29.here hx rfl (hb hby d7_38) rfl rfl rfl ?_
      show Steps p.tables e below (T29.setTop (mkF m 39 #[.val (.ref a1), .val (.int p2)] [(.int sz), (.ref a1), (.int sz), (.ref t)])) _
      refine XS.iconst X29.here hx rfl (hb hby d7_39) ?_
      show Steps p.tables e below (T29.setTop (mkF m 40 #[.val (.ref a1), .val (.int p2)] [(.int (1 : Int32)), (.int sz), (.ref a1), (.int sz), (.ref t)])) _
      refine XS.iadd X29.here hx rfl (hb hby d7_40) rfl ?_
      show Steps p.tables e below (T29.setTop (mkF m 41 #[.val (.ref a1), .val (.int p2)] [(.int (sz + (1 : Int32))), (.ref a1), (.int sz), (.ref t)])) _
      refine st30 _ ?_
      show Steps p.tables e below (T30.setTop (mkF m 44 #[.val (.ref a1), .val (.int p2)] [(.int sz), (.ref t)])) _
      refine XS.iloadN X30.here hx rfl (hb hby d7_44) rfl ?_
      show Steps p.tables e below (T30.setTop (mkF m 45 #[.val (.ref a1), .val (.int p2)] [(.int p2), (.int sz), (.ref t)])) _
      refine st33 _ ?_
      exact ktx
    obtain ⟨fs, hr, hrun, hended, hW, hsame⟩ := X33.leave (v := none) (fun _ => rfl)
    refine ⟨_, _, go34 _ ?_, hrun, hended, _, _, rfl, ?_, ⟨_, rfl⟩, hW, hsame.mono (by decide) (by decide)⟩
    · exact X33.returnOut hx Bd.returns (hb hby d7_46) hr
    · show Q7 Z a1 p2 t xs h0 n0 _ T33.heap _
      rw [e33]
      have f35 := ((E_a1.wr W30).wr W33)
      have f36 := ((F_values.other W30 (Or.inr (slot_ne (Or.inl (hw _ (List.mem_of_getElem? (i := 12) rfl))) (Or.inl (hw _ (List.mem_of_getElem? (i := 19) rfl))) (by decide) (t := (.array .int)) (t' := .int) (by decide) (by decide)))).other W33 (Or.inl ne_t))
      have f37 := (Fw30.other W33 (Or.inl ne_t))
      have f38 := ((E_t.wr W30).wr W33)
      exact ⟨rfl, N33, K33, t, g_t, Or.inl rfl, f35, f36, by rw [List.length_append]; show Fld Z _ _ _ _ _ (.int (Int32.ofNat (xs.length + 1))); rw [← own_up, ← hsz]; exact f37, f38, _, _, _, V33, hz, by rw [List.length_append]; show ((xs.length + 1 : Nat) : Int) ≤ z.toInt; have : sz.toInt ≠ z.toInt := fun q => hc5_9 (Int32.toInt_inj.mp q); omega, by rw [List.length_append]; show xs.length + 1 ≤ 9; omega, fun i hi => own_snoc _ _ _ _ _ (by rw [own_tn]; omega) (by rw [own_tn, List.length_append, List.length_replicate]; omega) (own_pad ws xs hxs) hi⟩
theorem d3_0 : decode prog_18_method_6_code 0 = .ok (.aload_n 0, 1) := by decide +kernel
theorem d3_1 : decode prog_18_method_6_code 1 = .ok (.getfield 7, 3) := by decide +kernel
theorem d3_4 : decode prog_18_method_6_code 4 = .ok (.aload_n 0, 1) := by decide +kernel
theorem d3_5 : decode prog_18_method_6_code 5 = .ok (.getfield 13, 3) := by decide +kernel
theorem d3_8 : decode prog_18_method_6_code 8 = .ok (.invokestatic 22, 3) := by decide +kernel
theorem d3_11 : decode prog_18_method_6_code 11 = .ok (.areturn, 1) := by decide +kernel
theorem ef_3 (m : MethodId) (x0 : Addr) : entryFrame m #[(.ref x0)] 1 = mkF m 0 #[.val (.ref x0)] [] := by first | (simp [entryFrame, mkF, argsToLocals, Value.category]; done) | rfl
def Q3 (Z : State) (a1 : Addr) (t : Addr) (xs : List Int32) (h0 : Heap) (n0 : Nat) (v : Option Value) (h : Heap) (L : List Loc) : Prop := ∃ (b : Addr) (kb : ClassId) (ws : List Value), v = some (.ref b) ∧ Fr n0 L ∧ Keep h0 h [] ∧ h0.size ≤ b ∧ Arv Z h b kb .int (Int32.ofNat xs.length) ws (.int (0 : Int32)) ∧ ∀ i, i < xs.length → ws.getD i (.int (0 : Int32)) = .int (xs.getD i 0)
set_option maxRecDepth 65536 in
set_option maxHeartbeats 40000000 in
theorem rm3 (l : Launch) (Z : State) (a0 : Array Value) (hw : ∀ d ∈ tables_1, d.before a0 Z = true) (ws : List Jvm.Cond) (a1 : Addr) (t : Addr) (xs : List Int32) (h0 : Heap) (n0 : Nat) (Z0 : n0 ≤ h0.size) (hls : own_ls Z h0 a1 t xs) :
    MetFree l (⟨"com/example/viable/viable/IntList", "toArray", "()[I"⟩ : MethodName) (head1 (Jvm.Cond.code (⟨"com/example/viable/viable/IntList", "toArray", "()[I"⟩ : MethodName) prog_18_method_6_code 1 (some (.array .int)) :: ws) ({ frames := 2, cells := 1, slots := 16, locals := 54 } : Room)) (fun aax UU => aax = #[(.ref a1)] ∧ Z.Warmed39 UU.vm ∧ UU.heap = h0) (fun _ _ _ _ _ => True) (fun _ UU oux UU' => ∃ rvx Lrx, oux = .returned rvx ∧ Q3 Z a1 t xs h0 n0 rvx UU'.heap Lrx ∧ FrameEnd UU oux UU' Lrx ({ frames := 2, cells := 1, slots := 16, locals := 54 } : Room).cells ({ frames := 2, cells := 1, slots := 16, locals := 54 } : Room).slots) := by
  refine MetFree.of_bodySF (plainFor_of_name own_pn_com_example_viable_viable_IntList) hisR ?_
  intro p e s m args below meth c s₁ Bd hml0 hP hK
  obtain ⟨rfl, hZ, hh⟩ := hP
  have hx := Bd.exec
  have hby := Bd.bytes
  have hml : c.maxLocals = 1 := hml0
  have hown : s.vm.findClass "com/example/viable/viable/IntList" = some m.cls := findClass_of_methodNamed Bd.named
  have hnm := (name_of_methodNamed Bd.named Bd.method).1
  have X0 : Stand p l e ({ frames := 2, cells := 1, slots := 16, locals := 54 } : Room) s m #[(.ref a1)] below meth c s₁ [] 0 0 := Stand.of_body Bd
  have e0 : s₁.heap = h0 := by rw [← hh, Bd.state]; rfl
  have N0 := Fr.nil n0
  have p0 : own_go p e below (s₁.setTop (entryFrame m #[(.ref a1)] 1)) (s₁.setTop (mkF m 0 #[.val (.ref a1)] [])) := fun ttx ktx => castTop (ef_3 m a1) ktx
  obtain ⟨E_a1, F_values, F_size, E_t, kc, z, ws, V_t, hz, hzl, h9, hxs⟩ := hls
  obtain ⟨sz, hsz⟩ : ∃ q : Int32, q = Int32.ofNat xs.length := ⟨_, rfl⟩
  rw [← hsz] at F_size
  have hszi : sz.toInt = xs.length := by rw [hsz]; exact own_of _ (by omega)
  have hz16 : 0 ≤ z.toInt ∧ z.toInt ≤ 16 := by rcases hz with rfl | rfl <;> decide
  obtain ⟨T1, X1, e1, st1⟩ := getF X0 hx hZ hown (host := "") (Or.inl (hw _ (List.mem_of_getElem? (i := 11) rfl))) Via.refl e0 F_values (g := (mkF m 1 #[.val (.ref a1)] [(.ref a1)])) rfl rfl (hb hby d3_1)
  obtain ⟨T2, X2, e2, st2⟩ := getF X1 hx hZ hown (host := "") (Or.inl (hw _ (List.mem_of_getElem? (i := 18) rfl))) Via.refl e1 F_size (g := (mkF m 5 #[.val (.ref a1)] [(.ref a1), (.ref t)])) rfl rfl (hb hby d3_5)
  obtain ⟨_, _, ⟨T3, L3, k3, n3⟩, -, X3, ⟨Lc3, hQ3, l3, y3, z3⟩, st3⟩ := Jvm.LawKit.callS X2 hx (y := (⟨"java/util/Arrays", "copyOf", "([II)[I"⟩ : MethodName)) hown (mvT hZ (hw _ (List.mem_of_getElem? (i := 20) rfl))) (mvT hZ (hw _ (List.mem_of_getElem? (i := 21) rfl))) (mvT hZ (hw _ (List.mem_of_getElem? (i := 22) rfl))) (mvT hZ (hw _ (List.mem_of_getElem? (i := 23) rfl))) (by decide) (backOf (W := 0) (rmCPY l Z a0 hw [] t sz kc z ws h0 n0 Z0 V_t E_t (by omega) hz16) hZ (hw _ (List.mem_of_getElem? (i := 23) rfl)) (hw _ (List.mem_of_getElem? (i := 22) rfl)) (by decide) (by decide)) (g := (mkF m 8 #[.val (.ref a1)] [(.int sz), (.ref t)])) rfl (by rw [hml]; rfl) (argsL := [(.ref t), (.int sz)]) (rest := []) (lenOf own_pd1 rfl) rfl (by show 2 * 0 + _ ≤ _; exact Nat.le_of_eq rfl) (hb hby d3_8) (fun _ _ => ⟨rfl, e2, (by decide : 0 + 1 ≤ _), (by decide : 0 + 16 ≤ _)⟩)
  dsimp only [Pt.U, Pt.locs, Pt.cells, Pt.slots] at X3 l3 y3 z3 st3 hQ3
  subst l3 y3 z3
  obtain ⟨b3, kb3, ws3, rfl, Nq3, Kq3, sq3, Eq3, Vq3, hq3⟩ := hQ3
  have N3 := Fr.app N0 Nq3
  have ne4 : a1 ≠ b3 := Nat.ne_of_lt (Nat.lt_of_lt_of_le E_a1.lt sq3)
  have ne5 : t ≠ b3 := Nat.ne_of_lt (Nat.lt_of_lt_of_le E_t.lt sq3)
  have g_b3 : n0 ≤ b3 := Nat.le_trans Z0 sq3
  have sz_b3 : h0.size ≤ b3 := Nat.le_trans (Keep.refl h0 []).1 sq3
  have Z3 : n0 ≤ T3.heap.size := Nat.le_trans Z0 Kq3.1
  have K3 : Keep h0 T3.heap [] := (Keep.refl h0 []).trans Kq3 all0
  have go6 : own_go p e below (s₁.setTop (entryFrame m #[(.ref a1)] 1)) (T3.setTop (mkF m 11 #[.val (.ref a1)] [(.ref b3)])) := by
    intro ttx ktx
    refine p0 ttx ?_
    show Steps p.tables e below (s₁.setTop (mkF m 0 #[.val (.ref a1)] [])) _
    refine XS.aloadN X0.here hx rfl (hb hby d3_0) rfl rfl ?_
    show Steps p.tables e below (s₁.setTop (mkF m 1 #[.val (.ref a1)] [(.ref a1)])) _
    refine st1 _ ?_
    show Steps p.tables e below (T1.setTop (mkF m 4 #[.val (.ref a1)] [(.ref t)])) _
    refine XS.aloadN X1.here hx rfl (hb hby d3_4) rfl rfl ?_
    show Steps p.tables e below (T1.setTop (mkF m 5 #[.val (.ref a1)] [(.ref a1), (.ref t)])) _
    refine st2 _ ?_
    show Steps p.tables e below (T2.setTop (mkF m 8 #[.val (.ref a1)] [(.int sz), (.ref t)])) _
    refine st3 _ ?_
    exact ktx
  obtain ⟨fs, hr, hrun, hended, hW, hsame⟩ := X3.leave (v := some (.ref b3)) (fun h => by rw [Bd.returns] at h; cases h)
  refine ⟨_, _, go6 _ ?_, hrun, hended, _, _, rfl, ?_, ⟨_, rfl⟩, hW, hsame.mono (by decide) (by decide)⟩
  · exact retOut X3 hx Bd.returns rfl (Or.inr (Or.inr (Or.inr (Or.inr ⟨rfl, rfl, rfl⟩)))) (hb hby d3_11) hr
  · show Q3 Z a1 t xs h0 n0 _ T3.heap _
    exact ⟨b3, _, _, rfl, N3, K3, sz_b3, by rw [← hsz]; exact Vq3, fun i hi => (hq3 i (by rw [own_tn]; omega) (by rw [own_tn]; omega)).trans (hxs i hi)⟩
theorem d6_0 : decode method_3_code 0 = .ok (.iload_n 2, 1) := by decide +kernel
theorem d6_1 : decode method_3_code 1 = .ok (.iload_n 3, 1) := by decide +kernel
theorem d6_2 : decode method_3_code 2 = .ok (.if_icmp .ge 12, 3) := by decide +kernel
theorem d6_5 : decode method_3_code 5 = .ok (.aload_n 0, 1) := by decide +kernel
theorem d6_6 : decode method_3_code 6 = .ok (.iload_n 2, 1) := by decide +kernel
theorem d6_7 : decode method_3_code 7 = .ok (.iaload, 1) := by decide +kernel
theorem d6_8 : decode method_3_code 8 = .ok (.aload_n 1, 1) := by decide +kernel
theorem d6_9 : decode method_3_code 9 = .ok (.iload_n 2, 1) := by decide +kernel
theorem d6_10 : decode method_3_code 10 = .ok (.iaload, 1) := by decide +kernel
theorem d6_11 : decode method_3_code 11 = .ok (.if_icmp .ne 7, 3) := by decide +kernel
theorem d6_14 : decode method_3_code 14 = .ok (.iconst 1, 1) := by decide +kernel
theorem d6_15 : decode method_3_code 15 = .ok (.goto 4, 3) := by decide +kernel
theorem d6_19 : decode method_3_code 19 = .ok (.ireturn, 1) := by decide +kernel
theorem own_pn_com_example_viable_viable_IntListAddPinLaw : plainName "com/example/viable/viable/IntListAddPinLaw" = true := by first | (simp [plainName, overriddenIn]; done) | decide +kernel
theorem ef_AT (m : MethodId) (x0 : Addr) (x1 : Addr) (x2 : Int32) (x3 : Int32) : entryFrame m #[(.ref x0), (.ref x1), (.int x2), (.int x3)] 4 = mkF m 0 #[.val (.ref x0), .val (.ref x1), .val (.int x2), .val (.int x3)] [] := by first | (simp [entryFrame, mkF, argsToLocals, Value.category]; done) | rfl
def QAT (Z : State) (a1 : Addr) (a2 : Addr) (p3 : Int32) (p4 : Int32) (k1 : ClassId) (z1 : Int32) (w1 : List Value) (k2 : ClassId) (z2 : Int32) (w2 : List Value) (h0 : Heap) (n0 : Nat) (v : Option Value) (h : Heap) (L : List Loc) : Prop := v = some (.int (1 : Int32)) ∧ Fr n0 L ∧ h = h0
set_option maxRecDepth 65536 in
set_option maxHeartbeats 40000000 in
theorem rmAT (l : Launch) (Z : State) (a0 : Array Value) (hw : ∀ d ∈ tables_1, d.before a0 Z = true) (ws : List Jvm.Cond) (a1 : Addr) (a2 : Addr) (p3 : Int32) (p4 : Int32) (k1 : ClassId) (z1 : Int32) (w1 : List Value) (k2 : ClassId) (z2 : Int32) (w2 : List Value) (h0 : Heap) (n0 : Nat) (Z0 : n0 ≤ h0.size) (V1 : Arv Z h0 a1 k1 .int z1 w1 (.int (0 : Int32))) (V2 : Arv Z h0 a2 k2 .int z2 w2 (.int (0 : Int32))) (hlt : p3 < p4 → (¬ p3 < 0 ∧ p3 < z1) ∧ (¬ p3 < 0 ∧ p3 < z2) ∧ ∃ x : Int32, w1.getD p3.toNatClampNeg (.int (0 : Int32)) = .int x ∧ w2.getD p3.toNatClampNeg (.int (0 : Int32)) = .int x) :
    MetFree l (⟨"com/example/viable/viable/IntListAddPinLaw", "at", "([I[III)Z"⟩ : MethodName) (head1 (Jvm.Cond.code (⟨"com/example/viable/viable/IntListAddPinLaw", "at", "([I[III)Z"⟩ : MethodName) method_3_code 4 (some .boolean) :: ws) ({ frames := 0, cells := 0, slots := 0, locals := 0 } : Room)) (fun aax UU => aax = #[(.ref a1), (.ref a2), (.int p3), (.int p4)] ∧ Z.Warmed39 UU.vm ∧ UU.heap = h0) (fun _ _ _ _ _ => True) (fun _ UU oux UU' => ∃ rvx Lrx, oux = .returned rvx ∧ QAT Z a1 a2 p3 p4 k1 z1 w1 k2 z2 w2 h0 n0 rvx UU'.heap Lrx ∧ FrameEnd UU oux UU' Lrx ({ frames := 0, cells := 0, slots := 0, locals := 0 } : Room).cells ({ frames := 0, cells := 0, slots := 0, locals := 0 } : Room).slots) := by
  refine MetFree.of_bodySF (plainFor_of_name own_pn_com_example_viable_viable_IntListAddPinLaw) hisR ?_
  intro p e s m args below meth c s₁ Bd hml0 hP hK
  obtain ⟨rfl, hZ, hh⟩ := hP
  have hx := Bd.exec
  have hby := Bd.bytes
  have hml : c.maxLocals = 4 := hml0
  have hown : s.vm.findClass "com/example/viable/viable/IntListAddPinLaw" = some m.cls := findClass_of_methodNamed Bd.named
  have hnm := (name_of_methodNamed Bd.named Bd.method).1
  have X0 : Stand p l e ({ frames := 0, cells := 0, slots := 0, locals := 0 } : Room) s m #[(.ref a1), (.ref a2), (.int p3), (.int p4)] below meth c s₁ [] 0 0 := Stand.of_body Bd
  have e0 : s₁.heap = h0 := by rw [← hh, Bd.state]; rfl
  have N0 := Fr.nil n0
  have p0 : own_go p e below (s₁.setTop (entryFrame m #[(.ref a1), (.ref a2), (.int p3), (.int p4)] 4)) (s₁.setTop (mkF m 0 #[.val (.ref a1), .val (.ref a2), .val (.int p3), .val (.int p4)] [])) := fun ttx ktx => castTop (ef_AT m a1 a2 p3 p4) ktx
  have go1 : own_go p e below (s₁.setTop (entryFrame m #[(.ref a1), (.ref a2), (.int p3), (.int p4)] 4)) (s₁.setTop (mkF m 2 #[.val (.ref a1), .val (.ref a2), .val (.int p3), .val (.int p4)] [(.int p4), (.int p3)])) := by
    intro ttx ktx
    refine p0 ttx ?_
    show Steps p.tables e below (s₁.setTop (mkF m 0 #[.val (.ref a1), .val (.ref a2), .val (.int p3), .val (.int p4)] [])) _
    refine XS.iloadN X0.here hx rfl (hb hby d6_0) rfl ?_
    show Steps p.tables e below (s₁.setTop (mkF m 1 #[.val (.ref a1), .val (.ref a2), .val (.int p3), .val (.int p4)] [(.int p3)])) _
    refine XS.iloadN X0.here hx rfl (hb hby d6_1) rfl ?_
    exact ktx
  by_cases hc2_2 : p3 < p4
  · obtain ⟨b1, b2, x, g1, g2⟩ := hlt hc2_2
    obtain ⟨cl3, Ar3, q3, S3, M3, H3, G3⟩ := id V1
    have hin3 : ¬ (p3 < 0 ∨ cl3.slots.size ≤ (p3).toNatClampNeg) := inb_of S3 b1
    have hat3 := Has.at H3 hin3 g1
    obtain ⟨cl4, Ar4, q4, S4, M4, H4, G4⟩ := id V2
    have hin4 : ¬ (p3 < 0 ∨ cl4.slots.size ≤ (p3).toNatClampNeg) := inb_of S4 b2
    have hat4 := Has.at H4 hin4 g2
    have hc5_11 : x = x := rfl
    have go6 : own_go p e below (s₁.setTop (entryFrame m #[(.ref a1), (.ref a2), (.int p3), (.int p4)] 4)) (s₁.setTop (mkF m 19 #[.val (.ref a1), .val (.ref a2), .val (.int p3), .val (.int p4)] [(.int (1 : Int32))])) := by
      intro ttx ktx
      refine go1 ttx ?_
      show Steps p.tables e below (s₁.setTop (mkF m 2 #[.val (.ref a1), .val (.ref a2), .val (.int p3), .val (.int p4)] [(.int p4), (.int p3)])) _
      refine XS.icmpNo X0.here hx rfl (hb hby d6_2) rfl (tlt hc2_2).2.1 ?_
      show Steps p.tables e below (s₁.setTop (mkF m 5 #[.val (.ref a1), .val (.ref a2), .val (.int p3), .val (.int p4)] [])) _
      refine XS.aloadN X0.here hx rfl (hb hby d6_5) rfl rfl ?_
      show Steps p.tables e below (s₁.setTop (mkF m 6 #[.val (.ref a1), .val (.ref a2), .val (.int p3), .val (.int p4)] [(.ref a1)])) _
      refine XS.iloadN X0.here hx rfl (hb hby d6_6) rfl ?_
      show Steps p.tables e below (s₁.setTop (mkF m 7 #[.val (.ref a1), .val (.ref a2), .val (.int p3), .val (.int p4)] [(.int p3), (.ref a1)])) _
      refine X0.iaload hx (j := p3) (v := (.int x)) (own_hp e0 Ar3.1) (State.isArrayOf_alike hZ.alike Ar3.2.1) Ar3.2.2 hin3 hat3 (g := (mkF m 7 #[.val (.ref a1), .val (.ref a2), .val (.int p3), .val (.int p4)] [(.int p3), (.ref a1)])) rfl rfl (hb hby d6_7) _ ?_
      show Steps p.tables e below (s₁.setTop (mkF m 8 #[.val (.ref a1), .val (.ref a2), .val (.int p3), .val (.int p4)] [(.int x)])) _
      refine XS.aloadN X0.here hx rfl (hb hby d6_8) rfl rfl ?_
      show Steps p.tables e below (s₁.setTop (mkF m 9 #[.val (.ref a1), .val (.ref a2), .val (.int p3), .val (.int p4)] [(.ref a2), (.int x)])) _
      refine XS.iloadN X0.here hx rfl (hb hby d6_9) rfl ?_
      show Steps p.tables e below (s₁.setTop (mkF m 10 #[.val (.ref a1), .val (.ref a2), .val (.int p3), .val (.int p4)] [(.int p3), (.ref a2), (.int x)])) _
      refine X0.iaload hx (j := p3) (v := (.int x)) (own_hp e0 Ar4.1) (State.isArrayOf_alike hZ.alike Ar4.2.1) Ar4.2.2 hin4 hat4 (g := (mkF m 10 #[.val (.ref a1), .val (.ref a2), .val (.int p3), .val (.int p4)] [(.int p3), (.ref a2), (.int x)])) rfl rfl (hb hby d6_10) _ ?_
      show Steps p.tables e below (s₁.setTop (mkF m 11 #[.val (.ref a1), .val (.ref a2), .val (.int p3), .val (.int p4)] [(.int x), (.int x)])) _
      refine XS.icmpNo X0.here hx rfl (hb hby d6_11) rfl (teq hc5_11).2 ?_
      show Steps p.tables e below (s₁.setTop (mkF m 14 #[.val (.ref a1), .val (.ref a2), .val (.int p3), .val (.int p4)] [])) _
      refine XS.iconst X0.here hx rfl (hb hby d6_14) ?_
      show Steps p.tables e below (s₁.setTop (mkF m 15 #[.val (.ref a1), .val (.ref a2), .val (.int p3), .val (.int p4)] [(.int (1 : Int32))])) _
      refine XS.goto X0.here hx rfl (pc0 := 15) (pc' := 19) rfl (hb hby d6_15) (by decide) (by decide) ?_
      exact ktx
    obtain ⟨fs, hr, hrun, hended, hW, hsame⟩ := X0.leave (v := some (.int (1 : Int32))) (fun h => by rw [Bd.returns] at h; cases h)
    refine ⟨_, _, go6 _ ?_, hrun, hended, _, _, rfl, ?_, ⟨_, rfl⟩, hW, hsame.mono (by decide) (by decide)⟩
    · exact retN X0 hx (t := .boolean) Bd.returns (by simp) (hb hby d6_19) hr
    · show QAT Z a1 a2 p3 p4 k1 z1 w1 k2 z2 w2 h0 n0 _ s₁.heap _
      rw [e0]
      exact ⟨rfl, N0, rfl⟩
  · have go7 : own_go p e below (s₁.setTop (entryFrame m #[(.ref a1), (.ref a2), (.int p3), (.int p4)] 4)) (s₁.setTop (mkF m 19 #[.val (.ref a1), .val (.ref a2), .val (.int p3), .val (.int p4)] [(.int (1 : Int32))])) := by
      intro ttx ktx
      refine go1 ttx ?_
      show Steps p.tables e below (s₁.setTop (mkF m 2 #[.val (.ref a1), .val (.ref a2), .val (.int p3), .val (.int p4)] [(.int p4), (.int p3)])) _
      refine XS.icmpYes X0.here hx rfl (pc0 := 2) (pc' := 14) rfl (hb hby d6_2) rfl (flt hc2_2).2.1 (by decide) (by decide) ?_
      show Steps p.tables e below (s₁.setTop (mkF m 14 #[.val (.ref a1), .val (.ref a2), .val (.int p3), .val (.int p4)] [])) _
      refine XS.iconst X0.here hx rfl (hb hby d6_14) ?_
      show Steps p.tables e below (s₁.setTop (mkF m 15 #[.val (.ref a1), .val (.ref a2), .val (.int p3), .val (.int p4)] [(.int (1 : Int32))])) _
      refine XS.goto X0.here hx rfl (pc0 := 15) (pc' := 19) rfl (hb hby d6_15) (by decide) (by decide) ?_
      exact ktx
    obtain ⟨fs, hr, hrun, hended, hW, hsame⟩ := X0.leave (v := some (.int (1 : Int32))) (fun h => by rw [Bd.returns] at h; cases h)
    refine ⟨_, _, go7 _ ?_, hrun, hended, _, _, rfl, ?_, ⟨_, rfl⟩, hW, hsame.mono (by decide) (by decide)⟩
    · exact retN X0 hx (t := .boolean) Bd.returns (by simp) (hb hby d6_19) hr
    · show QAT Z a1 a2 p3 p4 k1 z1 w1 k2 z2 w2 h0 n0 _ s₁.heap _
      rw [e0]
      exact ⟨rfl, N0, rfl⟩
theorem own_at (xs ys : List Int32) (ws : List Value) (nv : Int32) (i : Nat) (hi : i < 9) (hnv : nv = Int32.ofNat xs.length) (h9 : xs.length ≤ 9) (hxy : ∀ j, j < xs.length → xs.getD j 0 = ys.getD j 0) (hws : ∀ j, j < xs.length → ws.getD j (.int (0 : Int32)) = .int (xs.getD j 0)) (hlt : Int32.ofNat i < nv) : (¬ Int32.ofNat i < 0 ∧ Int32.ofNat i < nv) ∧ (¬ Int32.ofNat i < 0 ∧ Int32.ofNat i < 9) ∧ ∃ x : Int32, ws.getD (Int32.ofNat i).toNatClampNeg (.int (0 : Int32)) = .int x ∧ (ys.map Value.int).getD (Int32.ofNat i).toNatClampNeg (.int (0 : Int32)) = .int x := by
  have e1 := own_of i (by omega)
  have e2 := own_of xs.length (by omega)
  have hlt' := hlt
  rw [hnv, Int32.lt_iff_toInt_lt] at hlt'
  have e3 : (Int32.ofNat i).toNatClampNeg = i := by rw [own_tn]; omega
  have n0 : ¬ Int32.ofNat i < 0 := by rw [Int32.lt_iff_toInt_lt]; have e0 : (0 : Int32).toInt = 0 := rfl; omega
  have n9 : Int32.ofNat i < 9 := by rw [Int32.lt_iff_toInt_lt]; have e0 : (9 : Int32).toInt = 9 := rfl; omega
  refine ⟨⟨n0, hlt⟩, ⟨n0, n9⟩, xs.getD i 0, ?_, ?_⟩
  · rw [e3]; exact hws i (by omega)
  · rw [e3, hxy i (by omega)]; exact own_getD Value.int ys 0 i
theorem own_pd2 : parseMethodDescriptor "()[I" = some ⟨[], some (.array .int)⟩ := by decide +kernel
theorem own_pd3 : parseMethodDescriptor "([I[III)Z" = some ⟨[(.array .int), (.array .int), .int, .int], some .boolean⟩ := by decide +kernel
set_option maxRecDepth 65536 in
set_option maxHeartbeats 40000000 in
theorem own_tail {p : Program} {l : Launch} {e : Env} {s : State} {m : MethodId} {args : Array Value} {below : List Frame} {meth : Method} {c : Code} {T0 : State} {locs : List Loc} {Z : State} {a0 : Array Value} {h0 : Heap} {n0 : Nat} (q0 : Int32) (q1 : Int32) (q2 : Int32) (q3 : Int32) (q4 : Int32) (q5 : Int32) (nv : Int32) (vv r t : Addr) (kv : ClassId) (y0 : Int32) (y1 : Int32) (y2 : Int32) (y3 : Int32) (y4 : Int32) (y5 : Int32) (y6 : Int32) (y7 : Int32) (y8 : Int32) (xs : List Int32)
    (X0 : Stand p l e room_1 s m args below meth c T0 locs 13 164) (hx : p.tables.exec = Jvm.exec) (hZ : Z.Warmed39 s.vm) (hw : ∀ d ∈ tables_1, d.before a0 Z = true) (hby : c.code = code) (hml : c.maxLocals = 10) (hown : s.vm.findClass "com/example/viable/viable/IntListAddPinLaw" = some m.cls) (e0 : T0.heap = h0) (Z0 : n0 ≤ h0.size) (N0 : Fr n0 locs) (V_v : Arv Z h0 vv kv .int (9 : Int32) [(.int y0), (.int y1), (.int y2), (.int y3), (.int y4), (.int y5), (.int y6), (.int y7), (.int y8)] (.int (0 : Int32))) (hls : own_ls Z h0 r t xs) (hnv : nv = Int32.ofNat xs.length) (h9 : xs.length ≤ 9) (hxy : ∀ j, j < xs.length → xs.getD j 0 = ([y0, y1, y2, y3, y4, y5, y6, y7, y8] : List Int32).getD j 0) :
    ∃ (T' : State) (h' : Heap) (locs' : List Loc) (b1 : Addr), Stand p l e room_1 s m args below meth c T' locs' 14 180 ∧ T'.heap = h' ∧ Fr n0 locs' ∧ own_go p e below (T0.setTop (mkF m 216 #[.val (.int q0), .val (.int q1), .val (.int q2), .val (.int q3), .val (.int q4), .val (.int q5), .val (.int nv), .val (.ref vv), .val (.ref r), .unset] [])) (T'.setTop (mkF m 353 #[.val (.int q0), .val (.int q1), .val (.int q2), .val (.int q3), .val (.int q4), .val (.int q5), .val (.int nv), .val (.ref vv), .val (.ref r), .val (.ref b1)] [])) := by
  have go0 : own_go p e below (T0.setTop (mkF m 216 #[.val (.int q0), .val (.int q1), .val (.int q2), .val (.int q3), .val (.int q4), .val (.int q5), .val (.int nv), .val (.ref vv), .val (.ref r), .unset] [])) (T0.setTop (mkF m 216 #[.val (.int q0), .val (.int q1), .val (.int q2), .val (.int q3), .val (.int q4), .val (.int q5), .val (.int nv), .val (.ref vv), .val (.ref r), .unset] [])) := fun t k => k
  have E_r := hls.1
  obtain ⟨cq1, kq1, q1a, q1b, q1c⟩ := isOf hZ e0 E_r
  obtain ⟨_, _, ⟨T1, L1, k1, n1⟩, -, X1, ⟨Lc1, hQ1, l1, y1, z1⟩, st1⟩ := X0.virtualBack hx (y := (⟨"com/example/viable/viable/IntList", "toArray", "()[I"⟩ : MethodName)) (z := (⟨"com/example/viable/viable/IntList", "toArray", "()[I"⟩ : MethodName)) hown (mvT hZ (hw _ (List.mem_of_getElem? (i := 13) rfl))) (mvT hZ (hw _ (List.mem_of_getElem? (i := 14) rfl))) (notFace_of_selects (args := #[]) (mvT hZ (hw _ (List.mem_of_getElem? (i := 16) rfl)))) (mvT hZ (hw _ (List.mem_of_getElem? (i := 16) rfl))) (mvT hZ (hw _ (List.mem_of_getElem? (i := 15) rfl))) (by decide) (backOf (W := 0) (rm3 l Z a0 hw [] r t xs h0 n0 Z0 hls) hZ (hw _ (List.mem_of_getElem? (i := 17) rfl)) (hw _ (List.mem_of_getElem? (i := 4) rfl)) (by decide) (by decide)) q1a q1c (g := (mkF m 218 #[.val (.int q0), .val (.int q1), .val (.int q2), .val (.int q3), .val (.int q4), .val (.int q5), .val (.int nv), .val (.ref vv), .val (.ref r), .unset] [(.ref r)])) rfl (by rw [hml]; rfl) (Steps.refl _) (argsL := []) (rest := []) (lenOf own_pd2 rfl) rfl (by show 2 * 0 + _ ≤ _; exact Nat.le_of_eq rfl) (hb hby at_218) (fun _ _ => ⟨rfl, e0, (by decide : 13 + 1 ≤ _), (by decide : 164 + 16 ≤ _)⟩)
  dsimp only [Pt.U, Pt.locs, Pt.cells, Pt.slots] at X1 l1 y1 z1 st1 hQ1
  subst l1 y1 z1
  obtain ⟨b1, kb1, ws1, rfl, Nq1, Kq1, sq1, Vq1, hq1⟩ := hQ1
  have N1 := Fr.app N0 Nq1
  have ne2 : vv ≠ b1 := Nat.ne_of_lt (Nat.lt_of_lt_of_le V_v.lt sq1)
  have ne3 : r ≠ b1 := Nat.ne_of_lt (Nat.lt_of_lt_of_le E_r.lt sq1)
  have g_b1 : n0 ≤ b1 := Nat.le_trans Z0 sq1
  have Z1 : n0 ≤ T1.heap.size := Nat.le_trans Z0 Kq1.1
  rw [← hnv] at Vq1
  obtain ⟨cl4, Ar4, -, S4, M4, -, -⟩ := id Vq1
  have hc5_228 : nv = nv := rfl
  have f7 := (V_v.keep Kq1 nin0)
  obtain ⟨_, _, ⟨T6, L6, k6, n6⟩, -, X6, ⟨Lc6, hQ6, l6, y6, z6⟩, st6⟩ := Jvm.LawKit.callS X1 hx (y := (⟨"com/example/viable/viable/IntListAddPinLaw", "at", "([I[III)Z"⟩ : MethodName)) hown (mvT hZ (hw _ (List.mem_of_getElem? (i := 32) rfl))) (mvT hZ (hw _ (List.mem_of_getElem? (i := 33) rfl))) (mvT hZ (hw _ (List.mem_of_getElem? (i := 34) rfl))) (mvT hZ (hw _ (List.mem_of_getElem? (i := 35) rfl))) (by decide) (backOf (W := 0) (rmAT l Z a0 hw [] b1 vv (0 : Int32) nv kb1 nv ws1 kv (9 : Int32) [(.int y0), (.int y1), (.int y2), (.int y3), (.int y4), (.int y5), (.int y6), (.int y7), (.int y8)] T1.heap n0 Z1 Vq1 f7 (own_at xs ([y0, y1, y2, y3, y4, y5, y6, y7, y8] : List Int32) _ nv 0 (by decide) hnv h9 hxy hq1)) hZ (hw _ (List.mem_of_getElem? (i := 35) rfl)) (hw _ (List.mem_of_getElem? (i := 34) rfl)) (by decide) (by decide)) (g := (mkF m 240 #[.val (.int q0), .val (.int q1), .val (.int q2), .val (.int q3), .val (.int q4), .val (.int q5), .val (.int nv), .val (.ref vv), .val (.ref r), .val (.ref b1)] [(.int nv), (.int (0 : Int32)), (.ref vv), (.ref b1)])) rfl (by rw [hml]; rfl) (argsL := [(.ref b1), (.ref vv), (.int (0 : Int32)), (.int nv)]) (rest := []) (lenOf own_pd3 rfl) rfl (by show 2 * 0 + _ ≤ _; exact Nat.le_of_eq rfl) (hb hby at_240) (fun _ _ => ⟨rfl, rfl, (by decide : 14 + 0 ≤ _), (by decide : 180 + 0 ≤ _)⟩)
  dsimp only [Pt.U, Pt.locs, Pt.cells, Pt.slots] at X6 l6 y6 z6 st6 hQ6
  subst l6 y6 z6
  obtain ⟨rfl, Nq6, e6⟩ := hQ6
  have N6 := Fr.app N1 Nq6
  have hc8_243 : ¬ ((1 : Int32) = (0 : Int32)) := (by decide)
  have go9 : own_go p e below (T0.setTop (mkF m 216 #[.val (.int q0), .val (.int q1), .val (.int q2), .val (.int q3), .val (.int q4), .val (.int q5), .val (.int nv), .val (.ref vv), .val (.ref r), .unset] [])) (T6.setTop (mkF m 248 #[.val (.int q0), .val (.int q1), .val (.int q2), .val (.int q3), .val (.int q4), .val (.int q5), .val (.int nv), .val (.ref vv), .val (.ref r), .val (.ref b1)] [(.ref b1)])) := by
    intro ttx ktx
    refine go0 ttx ?_
    show Steps p.tables e below (T0.setTop (mkF m 216 #[.val (.int q0), .val (.int q1), .val (.int q2), .val (.int q3), .val (.int q4), .val (.int q5), .val (.int nv), .val (.ref vv), .val (.ref r), .unset] [])) _
    refine XS.aload X0.here hx rfl (hb hby at_216) rfl rfl ?_
    show Steps p.tables e below (T0.setTop (mkF m 218 #[.val (.int q0), .val (.int q1), .val (.int q2), .val (.int q3), .val (.int q4), .val (.int q5), .val (.int nv), .val (.ref vv), .val (.ref r), .unset] [(.ref r)])) _
    refine st1.trans ?_
    show Steps p.tables e below (T1.setTop (mkF m 221 #[.val (.int q0), .val (.int q1), .val (.int q2), .val (.int q3), .val (.int q4), .val (.int q5), .val (.int nv), .val (.ref vv), .val (.ref r), .unset] [(.ref b1)])) _
    refine XS.astore X1.here hx rfl (hb hby at_221) rfl rfl (l' := #[.val (.int q0), .val (.int q1), .val (.int q2), .val (.int q3), .val (.int q4), .val (.int q5), .val (.int nv), .val (.ref vv), .val (.ref r), .val (.ref b1)]) rfl ?_
    show Steps p.tables e below (T1.setTop (mkF m 223 #[.val (.int q0), .val (.int q1), .val (.int q2), .val (.int q3), .val (.int q4), .val (.int q5), .val (.int nv), .val (.ref vv), .val (.ref r), .val (.ref b1)] [])) _
    refine XS.aload X1.here hx rfl (hb hby at_223) rfl rfl ?_
    show Steps p.tables e below (T1.setTop (mkF m 225 #[.val (.int q0), .val (.int q1), .val (.int q2), .val (.int q3), .val (.int q4), .val (.int q5), .val (.int nv), .val (.ref vv), .val (.ref r), .val (.ref b1)] [(.ref b1)])) _
    refine X1.arraylength hx (own_hp rfl Ar4.1) (State.isArrayOf_alike hZ.alike Ar4.2.1) (g := (mkF m 225 #[.val (.int q0), .val (.int q1), .val (.int q2), .val (.int q3), .val (.int q4), .val (.int q5), .val (.int nv), .val (.ref vv), .val (.ref r), .val (.ref b1)] [(.ref b1)])) rfl rfl (hb hby at_225) _ ?_
    rw [len_of S4 M4]
    show Steps p.tables e below (T1.setTop (mkF m 226 #[.val (.int q0), .val (.int q1), .val (.int q2), .val (.int q3), .val (.int q4), .val (.int q5), .val (.int nv), .val (.ref vv), .val (.ref r), .val (.ref b1)] [(.int nv)])) _
    refine XS.iload X1.here hx rfl (hb hby at_226) rfl ?_
    show Steps p.tables e below (T1.setTop (mkF m 228 #[.val (.int q0), .val (.int q1), .val (.int q2), .val (.int q3), .val (.int q4), .val (.int q5), .val (.int nv), .val (.ref vv), .val (.ref r), .val (.ref b1)] [(.int nv), (.int nv)])) _
    refine XS.icmpYes X1.here hx rfl (pc0 := 228) (pc' := 233) rfl (hb hby at_228) rfl (teq hc5_228).1 (by decide) (by decide) ?_
    show Steps p.tables e below (T1.setTop (mkF m 233 #[.val (.int q0), .val (.int q1), .val (.int q2), .val (.int q3), .val (.int q4), .val (.int q5), .val (.int nv), .val (.ref vv), .val (.ref r), .val (.ref b1)] [])) _
    refine XS.aload X1.here hx rfl (hb hby at_233) rfl rfl ?_
    show Steps p.tables e below (T1.setTop (mkF m 235 #[.val (.int q0), .val (.int q1), .val (.int q2), .val (.int q3), .val (.int q4), .val (.int q5), .val (.int nv), .val (.ref vv), .val (.ref r), .val (.ref b1)] [(.ref b1)])) _
    refine XS.aload X1.here hx rfl (hb hby at_235) rfl rfl ?_
    show Steps p.tables e below (T1.setTop (mkF m 237 #[.val (.int q0), .val (.int q1), .val (.int q2), .val (.int q3), .val (.int q4), .val (.int q5), .val (.int nv), .val (.ref vv), .val (.ref r), .val (.ref b1)] [(.ref vv), (.ref b1)])) _
    refine XS.iconst X1.here hx rfl (hb hby at_237) ?_
    show Steps p.tables e below (T1.setTop (mkF m 238 #[.val (.int q0), .val (.int q1), .val (.int q2), .val (.int q3), .val (.int q4), .val (.int q5), .val (.int nv), .val (.ref vv), .val (.ref r), .val (.ref b1)] [(.int (0 : Int32)), (.ref vv), (.ref b1)])) _
    refine XS.iload X1.here hx rfl (hb hby at_238) rfl ?_
    show Steps p.tables e below (T1.setTop (mkF m 240 #[.val (.int q0), .val (.int q1), .val (.int q2), .val (.int q3), .val (.int q4), .val (.int q5), .val (.int nv), .val (.ref vv), .val (.ref r), .val (.ref b1)] [(.int nv), (.int (0 : Int32)), (.ref vv), (.ref b1)])) _
    refine st6 _ ?_
    show Steps p.tables e below (T6.setTop (mkF m 243 #[.val (.int q0), .val (.int q1), .val (.int q2), .val (.int q3), .val (.int q4), .val (.int q5), .val (.int nv), .val (.ref vv), .val (.ref r), .val (.ref b1)] [(.int (1 : Int32))])) _
    refine XS.ifNo X6.here hx rfl (hb hby at_243) rfl ((if0 _ _).trans (feq hc8_243).1) ?_
    show Steps p.tables e below (T6.setTop (mkF m 246 #[.val (.int q0), .val (.int q1), .val (.int q2), .val (.int q3), .val (.int q4), .val (.int q5), .val (.int nv), .val (.ref vv), .val (.ref r), .val (.ref b1)] [])) _
    refine XS.aload X6.here hx rfl (hb hby at_246) rfl rfl ?_
    exact ktx
  obtain ⟨_, _, ⟨T10, L10, k10, n10⟩, -, X10, ⟨Lc10, hQ10, l10, y10, z10⟩, st10⟩ := Jvm.LawKit.callS X6 hx (y := (⟨"com/example/viable/viable/IntListAddPinLaw", "at", "([I[III)Z"⟩ : MethodName)) hown (mvT hZ (hw _ (List.mem_of_getElem? (i := 32) rfl))) (mvT hZ (hw _ (List.mem_of_getElem? (i := 33) rfl))) (mvT hZ (hw _ (List.mem_of_getElem? (i := 34) rfl))) (mvT hZ (hw _ (List.mem_of_getElem? (i := 35) rfl))) (by decide) (backOf (W := 0) (rmAT l Z a0 hw [] b1 vv (1 : Int32) nv kb1 nv ws1 kv (9 : Int32) [(.int y0), (.int y1), (.int y2), (.int y3), (.int y4), (.int y5), (.int y6), (.int y7), (.int y8)] T1.heap n0 Z1 Vq1 f7 (own_at xs ([y0, y1, y2, y3, y4, y5, y6, y7, y8] : List Int32) _ nv 1 (by decide) hnv h9 hxy hq1)) hZ (hw _ (List.mem_of_getElem? (i := 35) rfl)) (hw _ (List.mem_of_getElem? (i := 34) rfl)) (by decide) (by decide)) (g := (mkF m 253 #[.val (.int q0), .val (.int q1), .val (.int q2), .val (.int q3), .val (.int q4), .val (.int q5), .val (.int nv), .val (.ref vv), .val (.ref r), .val (.ref b1)] [(.int nv), (.int (1 : Int32)), (.ref vv), (.ref b1)])) rfl (by rw [hml]; rfl) (argsL := [(.ref b1), (.ref vv), (.int (1 : Int32)), (.int nv)]) (rest := []) (lenOf own_pd3 rfl) rfl (by show 2 * 0 + _ ≤ _; exact Nat.le_of_eq rfl) (hb hby at_253) (fun _ _ => ⟨rfl, e6, (by decide : 14 + 0 ≤ _), (by decide : 180 + 0 ≤ _)⟩)
  dsimp only [Pt.U, Pt.locs, Pt.cells, Pt.slots] at X10 l10 y10 z10 st10 hQ10
  subst l10 y10 z10
  obtain ⟨rfl, Nq10, e10⟩ := hQ10
  have N10 := Fr.app N6 Nq10
  have hc11_256 : ¬ ((1 : Int32) = (0 : Int32)) := (by decide)
  obtain ⟨_, _, ⟨T12, L12, k12, n12⟩, -, X12, ⟨Lc12, hQ12, l12, y12, z12⟩, st12⟩ := Jvm.LawKit.callS X10 hx (y := (⟨"com/example/viable/viable/IntListAddPinLaw", "at", "([I[III)Z"⟩ : MethodName)) hown (mvT hZ (hw _ (List.mem_of_getElem? (i := 32) rfl))) (mvT hZ (hw _ (List.mem_of_getElem? (i := 33) rfl))) (mvT hZ (hw _ (List.mem_of_getElem? (i := 34) rfl))) (mvT hZ (hw _ (List.mem_of_getElem? (i := 35) rfl))) (by decide) (backOf (W := 0) (rmAT l Z a0 hw [] b1 vv (2 : Int32) nv kb1 nv ws1 kv (9 : Int32) [(.int y0), (.int y1), (.int y2), (.int y3), (.int y4), (.int y5), (.int y6), (.int y7), (.int y8)] T1.heap n0 Z1 Vq1 f7 (own_at xs ([y0, y1, y2, y3, y4, y5, y6, y7, y8] : List Int32) _ nv 2 (by decide) hnv h9 hxy hq1)) hZ (hw _ (List.mem_of_getElem? (i := 35) rfl)) (hw _ (List.mem_of_getElem? (i := 34) rfl)) (by decide) (by decide)) (g := (mkF m 266 #[.val (.int q0), .val (.int q1), .val (.int q2), .val (.int q3), .val (.int q4), .val (.int q5), .val (.int nv), .val (.ref vv), .val (.ref r), .val (.ref b1)] [(.int nv), (.int (2 : Int32)), (.ref vv), (.ref b1)])) rfl (by rw [hml]; rfl) (argsL := [(.ref b1), (.ref vv), (.int (2 : Int32)), (.int nv)]) (rest := []) (lenOf own_pd3 rfl) rfl (by show 2 * 0 + _ ≤ _; exact Nat.le_of_eq rfl) (hb hby at_266) (fun _ _ => ⟨rfl, e10, (by decide : 14 + 0 ≤ _), (by decide : 180 + 0 ≤ _)⟩)
  dsimp only [Pt.U, Pt.locs, Pt.cells, Pt.slots] at X12 l12 y12 z12 st12 hQ12
  subst l12 y12 z12
  obtain ⟨rfl, Nq12, e12⟩ := hQ12
  have N12 := Fr.app N10 Nq12
  have hc13_269 : ¬ ((1 : Int32) = (0 : Int32)) := (by decide)
  have go14 : own_go p e below (T0.setTop (mkF m 216 #[.val (.int q0), .val (.int q1), .val (.int q2), .val (.int q3), .val (.int q4), .val (.int q5), .val (.int nv), .val (.ref vv), .val (.ref r), .unset] [])) (T12.setTop (mkF m 279 #[.val (.int q0), .val (.int q1), .val (.int q2), .val (.int q3), .val (.int q4), .val (.int q5), .val (.int nv), .val (.ref vv), .val (.ref r), .val (.ref b1)] [(.int nv), (.int (3 : Int32)), (.ref vv), (.ref b1)])) := by
    intro ttx ktx
    refine go9 ttx ?_
    show Steps p.tables e below (T6.setTop (mkF m 248 #[.val (.int q0), .val (.int q1), .val (.int q2), .val (.int q3), .val (.int q4), .val (.int q5), .val (.int nv), .val (.ref vv), .val (.ref r), .val (.ref b1)] [(.ref b1)])) _
    refine XS.aload X6.here hx rfl (hb hby at_248) rfl rfl ?_
    show Steps p.tables e below (T6.setTop (mkF m 250 #[.val (.int q0), .val (.int q1), .val (.int q2), .val (.int q3), .val (.int q4), .val (.int q5), .val (.int nv), .val (.ref vv), .val (.ref r), .val (.ref b1)] [(.ref vv), (.ref b1)])) _
    refine XS.iconst X6.here hx rfl (hb hby at_250) ?_
    show Steps p.tables e below (T6.setTop (mkF m 251 #[.val (.int q0), .val (.int q1), .val (.int q2), .val (.int q3), .val (.int q4), .val (.int q5), .val (.int nv), .val (.ref vv), .val (.ref r), .val (.ref b1)] [(.int (1 : Int32)), (.ref vv), (.ref b1)])) _
    refine XS.iload X6.here hx rfl (hb hby at_251) rfl ?_
    show Steps p.tables e below (T6.setTop (mkF m 253 #[.val (.int q0), .val (.int q1), .val (.int q2), .val (.int q3), .val (.int q4), .val (.int q5), .val (.int nv), .val (.ref vv), .val (.ref r), .val (.ref b1)] [(.int nv), (.int (1 : Int32)), (.ref vv), (.ref b1)])) _
    refine st10 _ ?_
    show Steps p.tables e below (T10.setTop (mkF m 256 #[.val (.int q0), .val (.int q1), .val (.int q2), .val (.int q3), .val (.int q4), .val (.int q5), .val (.int nv), .val (.ref vv), .val (.ref r), .val (.ref b1)] [(.int (1 : Int32))])) _
    refine XS.ifNo X10.here hx rfl (hb hby at_256) rfl ((if0 _ _).trans (feq hc11_256).1) ?_
    show Steps p.tables e below (T10.setTop (mkF m 259 #[.val (.int q0), .val (.int q1), .val (.int q2), .val (.int q3), .val (.int q4), .val (.int q5), .val (.int nv), .val (.ref vv), .val (.ref r), .val (.ref b1)] [])) _
    refine XS.aload X10.here hx rfl (hb hby at_259) rfl rfl ?_
    show Steps p.tables e below (T10.setTop (mkF m 261 #[.val (.int q0), .val (.int q1), .val (.int q2), .val (.int q3), .val (.int q4), .val (.int q5), .val (.int nv), .val (.ref vv), .val (.ref r), .val (.ref b1)] [(.ref b1)])) _
    refine XS.aload X10.here hx rfl (hb hby at_261) rfl rfl ?_
    show Steps p.tables e below (T10.setTop (mkF m 263 #[.val (.int q0), .val (.int q1), .val (.int q2), .val (.int q3), .val (.int q4), .val (.int q5), .val (.int nv), .val (.ref vv), .val (.ref r), .val (.ref b1)] [(.ref vv), (.ref b1)])) _
    refine XS.iconst X10.here hx rfl (hb hby at_263) ?_
    show Steps p.tables e below (T10.setTop (mkF m 264 #[.val (.int q0), .val (.int q1), .val (.int q2), .val (.int q3), .val (.int q4), .val (.int q5), .val (.int nv), .val (.ref vv), .val (.ref r), .val (.ref b1)] [(.int (2 : Int32)), (.ref vv), (.ref b1)])) _
    refine XS.iload X10.here hx rfl (hb hby at_264) rfl ?_
    show Steps p.tables e below (T10.setTop (mkF m 266 #[.val (.int q0), .val (.int q1), .val (.int q2), .val (.int q3), .val (.int q4), .val (.int q5), .val (.int nv), .val (.ref vv), .val (.ref r), .val (.ref b1)] [(.int nv), (.int (2 : Int32)), (.ref vv), (.ref b1)])) _
    refine st12 _ ?_
    show Steps p.tables e below (T12.setTop (mkF m 269 #[.val (.int q0), .val (.int q1), .val (.int q2), .val (.int q3), .val (.int q4), .val (.int q5), .val (.int nv), .val (.ref vv), .val (.ref r), .val (.ref b1)] [(.int (1 : Int32))])) _
    refine XS.ifNo X12.here hx rfl (hb hby at_269) rfl ((if0 _ _).trans (feq hc13_269).1) ?_
    show Steps p.tables e below (T12.setTop (mkF m 272 #[.val (.int q0), .val (.int q1), .val (.int q2), .val (.int q3), .val (.int q4), .val (.int q5), .val (.int nv), .val (.ref vv), .val (.ref r), .val (.ref b1)] [])) _
    refine XS.aload X12.here hx rfl (hb hby at_272) rfl rfl ?_
    show Steps p.tables e below (T12.setTop (mkF m 274 #[.val (.int q0), .val (.int q1), .val (.int q2), .val (.int q3), .val (.int q4), .val (.int q5), .val (.int nv), .val (.ref vv), .val (.ref r), .val (.ref b1)] [(.ref b1)])) _
    refine XS.aload X12.here hx rfl (hb hby at_274) rfl rfl ?_
    show Steps p.tables e below (T12.setTop (mkF m 276 #[.val (.int q0), .val (.int q1), .val (.int q2), .val (.int q3), .val (.int q4), .val (.int q5), .val (.int nv), .val (.ref vv), .val (.ref r), .val (.ref b1)] [(.ref vv), (.ref b1)])) _
    refine XS.iconst X12.here hx rfl (hb hby at_276) ?_
    show Steps p.tables e below (T12.setTop (mkF m 277 #[.val (.int q0), .val (.int q1), .val (.int q2), .val (.int q3), .val (.int q4), .val (.int q5), .val (.int nv), .val (.ref vv), .val (.ref r), .val (.ref b1)] [(.int (3 : Int32)), (.ref vv), (.ref b1)])) _
    refine XS.iload X12.here hx rfl (hb hby at_277) rfl ?_
    exact ktx
  obtain ⟨_, _, ⟨T15, L15, k15, n15⟩, -, X15, ⟨Lc15, hQ15, l15, y15, z15⟩, st15⟩ := Jvm.LawKit.callS X12 hx (y := (⟨"com/example/viable/viable/IntListAddPinLaw", "at", "([I[III)Z"⟩ : MethodName)) hown (mvT hZ (hw _ (List.mem_of_getElem? (i := 32) rfl))) (mvT hZ (hw _ (List.mem_of_getElem? (i := 33) rfl))) (mvT hZ (hw _ (List.mem_of_getElem? (i := 34) rfl))) (mvT hZ (hw _ (List.mem_of_getElem? (i := 35) rfl))) (by decide) (backOf (W := 0) (rmAT l Z a0 hw [] b1 vv (3 : Int32) nv kb1 nv ws1 kv (9 : Int32) [(.int y0), (.int y1), (.int y2), (.int y3), (.int y4), (.int y5), (.int y6), (.int y7), (.int y8)] T1.heap n0 Z1 Vq1 f7 (own_at xs ([y0, y1, y2, y3, y4, y5, y6, y7, y8] : List Int32) _ nv 3 (by decide) hnv h9 hxy hq1)) hZ (hw _ (List.mem_of_getElem? (i := 35) rfl)) (hw _ (List.mem_of_getElem? (i := 34) rfl)) (by decide) (by decide)) (g := (mkF m 279 #[.val (.int q0), .val (.int q1), .val (.int q2), .val (.int q3), .val (.int q4), .val (.int q5), .val (.int nv), .val (.ref vv), .val (.ref r), .val (.ref b1)] [(.int nv), (.int (3 : Int32)), (.ref vv), (.ref b1)])) rfl (by rw [hml]; rfl) (argsL := [(.ref b1), (.ref vv), (.int (3 : Int32)), (.int nv)]) (rest := []) (lenOf own_pd3 rfl) rfl (by show 2 * 0 + _ ≤ _; exact Nat.le_of_eq rfl) (hb hby at_279) (fun _ _ => ⟨rfl, e12, (by decide : 14 + 0 ≤ _), (by decide : 180 + 0 ≤ _)⟩)
  dsimp only [Pt.U, Pt.locs, Pt.cells, Pt.slots] at X15 l15 y15 z15 st15 hQ15
  subst l15 y15 z15
  obtain ⟨rfl, Nq15, e15⟩ := hQ15
  have N15 := Fr.app N12 Nq15
  have hc16_282 : ¬ ((1 : Int32) = (0 : Int32)) := (by decide)
  obtain ⟨_, _, ⟨T17, L17, k17, n17⟩, -, X17, ⟨Lc17, hQ17, l17, y17, z17⟩, st17⟩ := Jvm.LawKit.callS X15 hx (y := (⟨"com/example/viable/viable/IntListAddPinLaw", "at", "([I[III)Z"⟩ : MethodName)) hown (mvT hZ (hw _ (List.mem_of_getElem? (i := 32) rfl))) (mvT hZ (hw _ (List.mem_of_getElem? (i := 33) rfl))) (mvT hZ (hw _ (List.mem_of_getElem? (i := 34) rfl))) (mvT hZ (hw _ (List.mem_of_getElem? (i := 35) rfl))) (by decide) (backOf (W := 0) (rmAT l Z a0 hw [] b1 vv (4 : Int32) nv kb1 nv ws1 kv (9 : Int32) [(.int y0), (.int y1), (.int y2), (.int y3), (.int y4), (.int y5), (.int y6), (.int y7), (.int y8)] T1.heap n0 Z1 Vq1 f7 (own_at xs ([y0, y1, y2, y3, y4, y5, y6, y7, y8] : List Int32) _ nv 4 (by decide) hnv h9 hxy hq1)) hZ (hw _ (List.mem_of_getElem? (i := 35) rfl)) (hw _ (List.mem_of_getElem? (i := 34) rfl)) (by decide) (by decide)) (g := (mkF m 292 #[.val (.int q0), .val (.int q1), .val (.int q2), .val (.int q3), .val (.int q4), .val (.int q5), .val (.int nv), .val (.ref vv), .val (.ref r), .val (.ref b1)] [(.int nv), (.int (4 : Int32)), (.ref vv), (.ref b1)])) rfl (by rw [hml]; rfl) (argsL := [(.ref b1), (.ref vv), (.int (4 : Int32)), (.int nv)]) (rest := []) (lenOf own_pd3 rfl) rfl (by show 2 * 0 + _ ≤ _; exact Nat.le_of_eq rfl) (hb hby at_292) (fun _ _ => ⟨rfl, e15, (by decide : 14 + 0 ≤ _), (by decide : 180 + 0 ≤ _)⟩)
  dsimp only [Pt.U, Pt.locs, Pt.cells, Pt.slots] at X17 l17 y17 z17 st17 hQ17
  subst l17 y17 z17
  obtain ⟨rfl, Nq17, e17⟩ := hQ17
  have N17 := Fr.app N15 Nq17
  have hc18_295 : ¬ ((1 : Int32) = (0 : Int32)) := (by decide)
  obtain ⟨_, _, ⟨T19, L19, k19, n19⟩, -, X19, ⟨Lc19, hQ19, l19, y19, z19⟩, st19⟩ := Jvm.LawKit.callS X17 hx (y := (⟨"com/example/viable/viable/IntListAddPinLaw", "at", "([I[III)Z"⟩ : MethodName)) hown (mvT hZ (hw _ (List.mem_of_getElem? (i := 32) rfl))) (mvT hZ (hw _ (List.mem_of_getElem? (i := 33) rfl))) (mvT hZ (hw _ (List.mem_of_getElem? (i := 34) rfl))) (mvT hZ (hw _ (List.mem_of_getElem? (i := 35) rfl))) (by decide) (backOf (W := 0) (rmAT l Z a0 hw [] b1 vv (5 : Int32) nv kb1 nv ws1 kv (9 : Int32) [(.int y0), (.int y1), (.int y2), (.int y3), (.int y4), (.int y5), (.int y6), (.int y7), (.int y8)] T1.heap n0 Z1 Vq1 f7 (own_at xs ([y0, y1, y2, y3, y4, y5, y6, y7, y8] : List Int32) _ nv 5 (by decide) hnv h9 hxy hq1)) hZ (hw _ (List.mem_of_getElem? (i := 35) rfl)) (hw _ (List.mem_of_getElem? (i := 34) rfl)) (by decide) (by decide)) (g := (mkF m 305 #[.val (.int q0), .val (.int q1), .val (.int q2), .val (.int q3), .val (.int q4), .val (.int q5), .val (.int nv), .val (.ref vv), .val (.ref r), .val (.ref b1)] [(.int nv), (.int (5 : Int32)), (.ref vv), (.ref b1)])) rfl (by rw [hml]; rfl) (argsL := [(.ref b1), (.ref vv), (.int (5 : Int32)), (.int nv)]) (rest := []) (lenOf own_pd3 rfl) rfl (by show 2 * 0 + _ ≤ _; exact Nat.le_of_eq rfl) (hb hby at_305) (fun _ _ => ⟨rfl, e17, (by decide : 14 + 0 ≤ _), (by decide : 180 + 0 ≤ _)⟩)
  dsimp only [Pt.U, Pt.locs, Pt.cells, Pt.slots] at X19 l19 y19 z19 st19 hQ19
  subst l19 y19 z19
  obtain ⟨rfl, Nq19, e19⟩ := hQ19
  have N19 := Fr.app N17 Nq19
  have hc20_308 : ¬ ((1 : Int32) = (0 : Int32)) := (by decide)
  have go21 : own_go p e below (T0.setTop (mkF m 216 #[.val (.int q0), .val (.int q1), .val (.int q2), .val (.int q3), .val (.int q4), .val (.int q5), .val (.int nv), .val (.ref vv), .val (.ref r), .unset] [])) (T19.setTop (mkF m 313 #[.val (.int q0), .val (.int q1), .val (.int q2), .val (.int q3), .val (.int q4), .val (.int q5), .val (.int nv), .val (.ref vv), .val (.ref r), .val (.ref b1)] [(.ref b1)])) := by
    intro ttx ktx
    refine go14 ttx ?_
    show Steps p.tables e below (T12.setTop (mkF m 279 #[.val (.int q0), .val (.int q1), .val (.int q2), .val (.int q3), .val (.int q4), .val (.int q5), .val (.int nv), .val (.ref vv), .val (.ref r), .val (.ref b1)] [(.int nv), (.int (3 : Int32)), (.ref vv), (.ref b1)])) _
    refine st15 _ ?_
    show Steps p.tables e below (T15.setTop (mkF m 282 #[.val (.int q0), .val (.int q1), .val (.int q2), .val (.int q3), .val (.int q4), .val (.int q5), .val (.int nv), .val (.ref vv), .val (.ref r), .val (.ref b1)] [(.int (1 : Int32))])) _
    refine XS.ifNo X15.here hx rfl (hb hby at_282) rfl ((if0 _ _).trans (feq hc16_282).1) ?_
    show Steps p.tables e below (T15.setTop (mkF m 285 #[.val (.int q0), .val (.int q1), .val (.int q2), .val (.int q3), .val (.int q4), .val (.int q5), .val (.int nv), .val (.ref vv), .val (.ref r), .val (.ref b1)] [])) _
    refine XS.aload X15.here hx rfl (hb hby at_285) rfl rfl ?_
    show Steps p.tables e below (T15.setTop (mkF m 287 #[.val (.int q0), .val (.int q1), .val (.int q2), .val (.int q3), .val (.int q4), .val (.int q5), .val (.int nv), .val (.ref vv), .val (.ref r), .val (.ref b1)] [(.ref b1)])) _
    refine XS.aload X15.here hx rfl (hb hby at_287) rfl rfl ?_
    show Steps p.tables e below (T15.setTop (mkF m 289 #[.val (.int q0), .val (.int q1), .val (.int q2), .val (.int q3), .val (.int q4), .val (.int q5), .val (.int nv), .val (.ref vv), .val (.ref r), .val (.ref b1)] [(.ref vv), (.ref b1)])) _
    refine XS.iconst X15.here hx rfl (hb hby at_289) ?_
    show Steps p.tables e below (T15.setTop (mkF m 290 #[.val (.int q0), .val (.int q1), .val (.int q2), .val (.int q3), .val (.int q4), .val (.int q5), .val (.int nv), .val (.ref vv), .val (.ref r), .val (.ref b1)] [(.int (4 : Int32)), (.ref vv), (.ref b1)])) _
    refine XS.iload X15.here hx rfl (hb hby at_290) rfl ?_
    show Steps p.tables e below (T15.setTop (mkF m 292 #[.val (.int q0), .val (.int q1), .val (.int q2), .val (.int q3), .val (.int q4), .val (.int q5), .val (.int nv), .val (.ref vv), .val (.ref r), .val (.ref b1)] [(.int nv), (.int (4 : Int32)), (.ref vv), (.ref b1)])) _
    refine st17 _ ?_
    show Steps p.tables e below (T17.setTop (mkF m 295 #[.val (.int q0), .val (.int q1), .val (.int q2), .val (.int q3), .val (.int q4), .val (.int q5), .val (.int nv), .val (.ref vv), .val (.ref r), .val (.ref b1)] [(.int (1 : Int32))])) _
    refine XS.ifNo X17.here hx rfl (hb hby at_295) rfl ((if0 _ _).trans (feq hc18_295).1) ?_
    show Steps p.tables e below (T17.setTop (mkF m 298 #[.val (.int q0), .val (.int q1), .val (.int q2), .val (.int q3), .val (.int q4), .val (.int q5), .val (.int nv), .val (.ref vv), .val (.ref r), .val (.ref b1)] [])) _
    refine XS.aload X17.here hx rfl (hb hby at_298) rfl rfl ?_
    show Steps p.tables e below (T17.setTop (mkF m 300 #[.val (.int q0), .val (.int q1), .val (.int q2), .val (.int q3), .val (.int q4), .val (.int q5), .val (.int nv), .val (.ref vv), .val (.ref r), .val (.ref b1)] [(.ref b1)])) _
    refine XS.aload X17.here hx rfl (hb hby at_300) rfl rfl ?_
    show Steps p.tables e below (T17.setTop (mkF m 302 #[.val (.int q0), .val (.int q1), .val (.int q2), .val (.int q3), .val (.int q4), .val (.int q5), .val (.int nv), .val (.ref vv), .val (.ref r), .val (.ref b1)] [(.ref vv), (.ref b1)])) _
    refine XS.iconst X17.here hx rfl (hb hby at_302) ?_
    show Steps p.tables e below (T17.setTop (mkF m 303 #[.val (.int q0), .val (.int q1), .val (.int q2), .val (.int q3), .val (.int q4), .val (.int q5), .val (.int nv), .val (.ref vv), .val (.ref r), .val (.ref b1)] [(.int (5 : Int32)), (.ref vv), (.ref b1)])) _
    refine XS.iload X17.here hx rfl (hb hby at_303) rfl ?_
    show Steps p.tables e below (T17.setTop (mkF m 305 #[.val (.int q0), .val (.int q1), .val (.int q2), .val (.int q3), .val (.int q4), .val (.int q5), .val (.int nv), .val (.ref vv), .val (.ref r), .val (.ref b1)] [(.int nv), (.int (5 : Int32)), (.ref vv), (.ref b1)])) _
    refine st19 _ ?_
    show Steps p.tables e below (T19.setTop (mkF m 308 #[.val (.int q0), .val (.int q1), .val (.int q2), .val (.int q3), .val (.int q4), .val (.int q5), .val (.int nv), .val (.ref vv), .val (.ref r), .val (.ref b1)] [(.int (1 : Int32))])) _
    refine XS.ifNo X19.here hx rfl (hb hby at_308) rfl ((if0 _ _).trans (feq hc20_308).1) ?_
    show Steps p.tables e below (T19.setTop (mkF m 311 #[.val (.int q0), .val (.int q1), .val (.int q2), .val (.int q3), .val (.int q4), .val (.int q5), .val (.int nv), .val (.ref vv), .val (.ref r), .val (.ref b1)] [])) _
    refine XS.aload X19.here hx rfl (hb hby at_311) rfl rfl ?_
    exact ktx
  obtain ⟨_, _, ⟨T22, L22, k22, n22⟩, -, X22, ⟨Lc22, hQ22, l22, y22, z22⟩, st22⟩ := Jvm.LawKit.callS X19 hx (y := (⟨"com/example/viable/viable/IntListAddPinLaw", "at", "([I[III)Z"⟩ : MethodName)) hown (mvT hZ (hw _ (List.mem_of_getElem? (i := 32) rfl))) (mvT hZ (hw _ (List.mem_of_getElem? (i := 33) rfl))) (mvT hZ (hw _ (List.mem_of_getElem? (i := 34) rfl))) (mvT hZ (hw _ (List.mem_of_getElem? (i := 35) rfl))) (by decide) (backOf (W := 0) (rmAT l Z a0 hw [] b1 vv (6 : Int32) nv kb1 nv ws1 kv (9 : Int32) [(.int y0), (.int y1), (.int y2), (.int y3), (.int y4), (.int y5), (.int y6), (.int y7), (.int y8)] T1.heap n0 Z1 Vq1 f7 (own_at xs ([y0, y1, y2, y3, y4, y5, y6, y7, y8] : List Int32) _ nv 6 (by decide) hnv h9 hxy hq1)) hZ (hw _ (List.mem_of_getElem? (i := 35) rfl)) (hw _ (List.mem_of_getElem? (i := 34) rfl)) (by decide) (by decide)) (g := (mkF m 319 #[.val (.int q0), .val (.int q1), .val (.int q2), .val (.int q3), .val (.int q4), .val (.int q5), .val (.int nv), .val (.ref vv), .val (.ref r), .val (.ref b1)] [(.int nv), (.int (6 : Int32)), (.ref vv), (.ref b1)])) rfl (by rw [hml]; rfl) (argsL := [(.ref b1), (.ref vv), (.int (6 : Int32)), (.int nv)]) (rest := []) (lenOf own_pd3 rfl) rfl (by show 2 * 0 + _ ≤ _; exact Nat.le_of_eq rfl) (hb hby at_319) (fun _ _ => ⟨rfl, e19, (by decide : 14 + 0 ≤ _), (by decide : 180 + 0 ≤ _)⟩)
  dsimp only [Pt.U, Pt.locs, Pt.cells, Pt.slots] at X22 l22 y22 z22 st22 hQ22
  subst l22 y22 z22
  obtain ⟨rfl, Nq22, e22⟩ := hQ22
  have N22 := Fr.app N19 Nq22
  have hc23_322 : ¬ ((1 : Int32) = (0 : Int32)) := (by decide)
  obtain ⟨_, _, ⟨T24, L24, k24, n24⟩, -, X24, ⟨Lc24, hQ24, l24, y24, z24⟩, st24⟩ := Jvm.LawKit.callS X22 hx (y := (⟨"com/example/viable/viable/IntListAddPinLaw", "at", "([I[III)Z"⟩ : MethodName)) hown (mvT hZ (hw _ (List.mem_of_getElem? (i := 32) rfl))) (mvT hZ (hw _ (List.mem_of_getElem? (i := 33) rfl))) (mvT hZ (hw _ (List.mem_of_getElem? (i := 34) rfl))) (mvT hZ (hw _ (List.mem_of_getElem? (i := 35) rfl))) (by decide) (backOf (W := 0) (rmAT l Z a0 hw [] b1 vv (7 : Int32) nv kb1 nv ws1 kv (9 : Int32) [(.int y0), (.int y1), (.int y2), (.int y3), (.int y4), (.int y5), (.int y6), (.int y7), (.int y8)] T1.heap n0 Z1 Vq1 f7 (own_at xs ([y0, y1, y2, y3, y4, y5, y6, y7, y8] : List Int32) _ nv 7 (by decide) hnv h9 hxy hq1)) hZ (hw _ (List.mem_of_getElem? (i := 35) rfl)) (hw _ (List.mem_of_getElem? (i := 34) rfl)) (by decide) (by decide)) (g := (mkF m 333 #[.val (.int q0), .val (.int q1), .val (.int q2), .val (.int q3), .val (.int q4), .val (.int q5), .val (.int nv), .val (.ref vv), .val (.ref r), .val (.ref b1)] [(.int nv), (.int (7 : Int32)), (.ref vv), (.ref b1)])) rfl (by rw [hml]; rfl) (argsL := [(.ref b1), (.ref vv), (.int (7 : Int32)), (.int nv)]) (rest := []) (lenOf own_pd3 rfl) rfl (by show 2 * 0 + _ ≤ _; exact Nat.le_of_eq rfl) (hb hby at_333) (fun _ _ => ⟨rfl, e22, (by decide : 14 + 0 ≤ _), (by decide : 180 + 0 ≤ _)⟩)
  dsimp only [Pt.U, Pt.locs, Pt.cells, Pt.slots] at X24 l24 y24 z24 st24 hQ24
  subst l24 y24 z24
  obtain ⟨rfl, Nq24, e24⟩ := hQ24
  have N24 := Fr.app N22 Nq24
  have hc25_336 : ¬ ((1 : Int32) = (0 : Int32)) := (by decide)
  have go26 : own_go p e below (T0.setTop (mkF m 216 #[.val (.int q0), .val (.int q1), .val (.int q2), .val (.int q3), .val (.int q4), .val (.int q5), .val (.int nv), .val (.ref vv), .val (.ref r), .unset] [])) (T24.setTop (mkF m 347 #[.val (.int q0), .val (.int q1), .val (.int q2), .val (.int q3), .val (.int q4), .val (.int q5), .val (.int nv), .val (.ref vv), .val (.ref r), .val (.ref b1)] [(.int nv), (.int (8 : Int32)), (.ref vv), (.ref b1)])) := by
    intro ttx ktx
    refine go21 ttx ?_
    show Steps p.tables e below (T19.setTop (mkF m 313 #[.val (.int q0), .val (.int q1), .val (.int q2), .val (.int q3), .val (.int q4), .val (.int q5), .val (.int nv), .val (.ref vv), .val (.ref r), .val (.ref b1)] [(.ref b1)])) _
    refine XS.aload X19.here hx rfl (hb hby at_313) rfl rfl ?_
    show Steps p.tables e below (T19.setTop (mkF m 315 #[.val (.int q0), .val (.int q1), .val (.int q2), .val (.int q3), .val (.int q4), .val (.int q5), .val (.int nv), .val (.ref vv), .val (.ref r), .val (.ref b1)] [(.ref vv), (.ref b1)])) _
    refine XS.bipush X19.here hx rfl (hb hby at_315) ?_
    show Steps p.tables e below (T19.setTop (mkF m 317 #[.val (.int q0), .val (.int q1), .val (.int q2), .val (.int q3), .val (.int q4), .val (.int q5), .val (.int nv), .val (.ref vv), .val (.ref r), .val (.ref b1)] [(.int (6 : Int32)), (.ref vv), (.ref b1)])) _
    refine XS.iload X19.here hx rfl (hb hby at_317) rfl ?_
    show Steps p.tables e below (T19.setTop (mkF m 319 #[.val (.int q0), .val (.int q1), .val (.int q2), .val (.int q3), .val (.int q4), .val (.int q5), .val (.int nv), .val (.ref vv), .val (.ref r), .val (.ref b1)] [(.int nv), (.int (6 : Int32)), (.ref vv), (.ref b1)])) _
    refine st22 _ ?_
    show Steps p.tables e below (T22.setTop (mkF m 322 #[.val (.int q0), .val (.int q1), .val (.int q2), .val (.int q3), .val (.int q4), .val (.int q5), .val (.int nv), .val (.ref vv), .val (.ref r), .val (.ref b1)] [(.int (1 : Int32))])) _
    refine XS.ifNo X22.here hx rfl (hb hby at_322) rfl ((if0 _ _).trans (feq hc23_322).1) ?_
    show Steps p.tables e below (T22.setTop (mkF m 325 #[.val (.int q0), .val (.int q1), .val (.int q2), .val (.int q3), .val (.int q4), .val (.int q5), .val (.int nv), .val (.ref vv), .val (.ref r), .val (.ref b1)] [])) _
    refine XS.aload X22.here hx rfl (hb hby at_325) rfl rfl ?_
    show Steps p.tables e below (T22.setTop (mkF m 327 #[.val (.int q0), .val (.int q1), .val (.int q2), .val (.int q3), .val (.int q4), .val (.int q5), .val (.int nv), .val (.ref vv), .val (.ref r), .val (.ref b1)] [(.ref b1)])) _
    refine XS.aload X22.here hx rfl (hb hby at_327) rfl rfl ?_
    show Steps p.tables e below (T22.setTop (mkF m 329 #[.val (.int q0), .val (.int q1), .val (.int q2), .val (.int q3), .val (.int q4), .val (.int q5), .val (.int nv), .val (.ref vv), .val (.ref r), .val (.ref b1)] [(.ref vv), (.ref b1)])) _
    refine XS.bipush X22.here hx rfl (hb hby at_329) ?_
    show Steps p.tables e below (T22.setTop (mkF m 331 #[.val (.int q0), .val (.int q1), .val (.int q2), .val (.int q3), .val (.int q4), .val (.int q5), .val (.int nv), .val (.ref vv), .val (.ref r), .val (.ref b1)] [(.int (7 : Int32)), (.ref vv), (.ref b1)])) _
    refine XS.iload X22.here hx rfl (hb hby at_331) rfl ?_
    show Steps p.tables e below (T22.setTop (mkF m 333 #[.val (.int q0), .val (.int q1), .val (.int q2), .val (.int q3), .val (.int q4), .val (.int q5), .val (.int nv), .val (.ref vv), .val (.ref r), .val (.ref b1)] [(.int nv), (.int (7 : Int32)), (.ref vv), (.ref b1)])) _
    refine st24 _ ?_
    show Steps p.tables e below (T24.setTop (mkF m 336 #[.val (.int q0), .val (.int q1), .val (.int q2), .val (.int q3), .val (.int q4), .val (.int q5), .val (.int nv), .val (.ref vv), .val (.ref r), .val (.ref b1)] [(.int (1 : Int32))])) _
    refine XS.ifNo X24.here hx rfl (hb hby at_336) rfl ((if0 _ _).trans (feq hc25_336).1) ?_
    show Steps p.tables e below (T24.setTop (mkF m 339 #[.val (.int q0), .val (.int q1), .val (.int q2), .val (.int q3), .val (.int q4), .val (.int q5), .val (.int nv), .val (.ref vv), .val (.ref r), .val (.ref b1)] [])) _
    refine XS.aload X24.here hx rfl (hb hby at_339) rfl rfl ?_
    show Steps p.tables e below (T24.setTop (mkF m 341 #[.val (.int q0), .val (.int q1), .val (.int q2), .val (.int q3), .val (.int q4), .val (.int q5), .val (.int nv), .val (.ref vv), .val (.ref r), .val (.ref b1)] [(.ref b1)])) _
    refine XS.aload X24.here hx rfl (hb hby at_341) rfl rfl ?_
    show Steps p.tables e below (T24.setTop (mkF m 343 #[.val (.int q0), .val (.int q1), .val (.int q2), .val (.int q3), .val (.int q4), .val (.int q5), .val (.int nv), .val (.ref vv), .val (.ref r), .val (.ref b1)] [(.ref vv), (.ref b1)])) _
    refine XS.bipush X24.here hx rfl (hb hby at_343) ?_
    show Steps p.tables e below (T24.setTop (mkF m 345 #[.val (.int q0), .val (.int q1), .val (.int q2), .val (.int q3), .val (.int q4), .val (.int q5), .val (.int nv), .val (.ref vv), .val (.ref r), .val (.ref b1)] [(.int (8 : Int32)), (.ref vv), (.ref b1)])) _
    refine XS.iload X24.here hx rfl (hb hby at_345) rfl ?_
    exact ktx
  obtain ⟨_, _, ⟨T27, L27, k27, n27⟩, -, X27, ⟨Lc27, hQ27, l27, y27, z27⟩, st27⟩ := Jvm.LawKit.callS X24 hx (y := (⟨"com/example/viable/viable/IntListAddPinLaw", "at", "([I[III)Z"⟩ : MethodName)) hown (mvT hZ (hw _ (List.mem_of_getElem? (i := 32) rfl))) (mvT hZ (hw _ (List.mem_of_getElem? (i := 33) rfl))) (mvT hZ (hw _ (List.mem_of_getElem? (i := 34) rfl))) (mvT hZ (hw _ (List.mem_of_getElem? (i := 35) rfl))) (by decide) (backOf (W := 0) (rmAT l Z a0 hw [] b1 vv (8 : Int32) nv kb1 nv ws1 kv (9 : Int32) [(.int y0), (.int y1), (.int y2), (.int y3), (.int y4), (.int y5), (.int y6), (.int y7), (.int y8)] T1.heap n0 Z1 Vq1 f7 (own_at xs ([y0, y1, y2, y3, y4, y5, y6, y7, y8] : List Int32) _ nv 8 (by decide) hnv h9 hxy hq1)) hZ (hw _ (List.mem_of_getElem? (i := 35) rfl)) (hw _ (List.mem_of_getElem? (i := 34) rfl)) (by decide) (by decide)) (g := (mkF m 347 #[.val (.int q0), .val (.int q1), .val (.int q2), .val (.int q3), .val (.int q4), .val (.int q5), .val (.int nv), .val (.ref vv), .val (.ref r), .val (.ref b1)] [(.int nv), (.int (8 : Int32)), (.ref vv), (.ref b1)])) rfl (by rw [hml]; rfl) (argsL := [(.ref b1), (.ref vv), (.int (8 : Int32)), (.int nv)]) (rest := []) (lenOf own_pd3 rfl) rfl (by show 2 * 0 + _ ≤ _; exact Nat.le_of_eq rfl) (hb hby at_347) (fun _ _ => ⟨rfl, e24, (by decide : 14 + 0 ≤ _), (by decide : 180 + 0 ≤ _)⟩)
  dsimp only [Pt.U, Pt.locs, Pt.cells, Pt.slots] at X27 l27 y27 z27 st27 hQ27
  subst l27 y27 z27
  obtain ⟨rfl, Nq27, e27⟩ := hQ27
  have N27 := Fr.app N24 Nq27
  have hc28_350 : ¬ ((1 : Int32) = (0 : Int32)) := (by decide)
  have go29 : own_go p e below (T0.setTop (mkF m 216 #[.val (.int q0), .val (.int q1), .val (.int q2), .val (.int q3), .val (.int q4), .val (.int q5), .val (.int nv), .val (.ref vv), .val (.ref r), .unset] [])) (T27.setTop (mkF m 353 #[.val (.int q0), .val (.int q1), .val (.int q2), .val (.int q3), .val (.int q4), .val (.int q5), .val (.int nv), .val (.ref vv), .val (.ref r), .val (.ref b1)] [])) := by
    intro ttx ktx
    refine go26 ttx ?_
    show Steps p.tables e below (T24.setTop (mkF m 347 #[.val (.int q0), .val (.int q1), .val (.int q2), .val (.int q3), .val (.int q4), .val (.int q5), .val (.int nv), .val (.ref vv), .val (.ref r), .val (.ref b1)] [(.int nv), (.int (8 : Int32)), (.ref vv), (.ref b1)])) _
    refine st27 _ ?_
    show Steps p.tables e below (T27.setTop (mkF m 350 #[.val (.int q0), .val (.int q1), .val (.int q2), .val (.int q3), .val (.int q4), .val (.int q5), .val (.int nv), .val (.ref vv), .val (.ref r), .val (.ref b1)] [(.int (1 : Int32))])) _
    refine XS.ifNo X27.here hx rfl (hb hby at_350) rfl ((if0 _ _).trans (feq hc28_350).1) ?_
    exact ktx
  exact ⟨T27, T1.heap, _, b1, X27, e27, N27, go29⟩
theorem own_rng (x : Int32) : 0 ≤ ((x &&& 2147483647) % 10).toInt ∧ ((x &&& 2147483647) % 10).toInt < 10 := by
  have a := c_and x 2147483647 (by decide)
  have b := (c_iremV (x &&& 2147483647) 10).1 a.1 (by decide)
  have e : (10 : Int32).toInt = 10 := rfl
  omega
theorem own_tr {v a b : Int32} (h : ¬ a < v) (q : a.toInt ≤ b.toInt) : ¬ b < v := by rw [Int32.lt_iff_toInt_lt] at *; omega
theorem own_pre (xs zs : List Int32) : ∀ j, j < xs.length → xs.getD j 0 = (xs ++ zs).getD j 0 := fun j hj => by simp [List.getD, List.getElem?_append_left hj]
theorem own_pd4 : parseMethodDescriptor "()V" = some ⟨[], none⟩ := by decide +kernel
theorem own_pd5 : parseMethodDescriptor "(I)V" = some ⟨[.int], none⟩ := by decide +kernel
theorem ef_0 (m : MethodId) (x0 : Int32) (x1 : Int32) (x2 : Int32) (x3 : Int32) (x4 : Int32) (x5 : Int32) : entryFrame m #[(.int x0), (.int x1), (.int x2), (.int x3), (.int x4), (.int x5)] maxLocals = mkF m 0 #[.val (.int x0), .val (.int x1), .val (.int x2), .val (.int x3), .val (.int x4), .val (.int x5), .unset, .unset, .unset, .unset] [] := by first | (simp [entryFrame, mkF, argsToLocals, Value.category, maxLocals]; done) | rfl
def Q0 (Z : State) (p1 : Int32) (p2 : Int32) (p3 : Int32) (p4 : Int32) (p5 : Int32) (p6 : Int32) (h0 : Heap) (n0 : Nat) (v : Option Value) (h : Heap) (L : List Loc) : Prop := v = some (.int 1) ∧ Fr n0 L
set_option maxRecDepth 65536 in
set_option maxHeartbeats 40000000 in
theorem rm0 (l : Launch) (Z : State) (a0 : Array Value) (hw : ∀ d ∈ tables_1, d.before a0 Z = true) (ws : List Jvm.Cond) (p1 : Int32) (p2 : Int32) (p3 : Int32) (p4 : Int32) (p5 : Int32) (p6 : Int32) (h0 : Heap) (n0 : Nat) (Z0 : n0 ≤ h0.size) :
    MetFree l x (head1 (Jvm.Cond.code x code maxLocals ret :: ws) room_1) (fun aax UU => aax = #[(.int p1), (.int p2), (.int p3), (.int p4), (.int p5), (.int p6)] ∧ Z.Warmed39 UU.vm ∧ UU.heap = h0) (fun _ _ _ _ _ => True) (fun _ UU oux UU' => ∃ rvx Lrx, oux = .returned rvx ∧ Q0 Z p1 p2 p3 p4 p5 p6 h0 n0 rvx UU'.heap Lrx ∧ FrameEnd UU oux UU' Lrx 24 192) := by
  refine MetFree.of_bodySF (plainFor_of_name own_pn_com_example_viable_viable_IntListAddPinLaw) hisR ?_
  intro p e s m args below meth c s₁ Bd hml0 hP hK
  obtain ⟨rfl, hZ, hh⟩ := hP
  have hx := Bd.exec
  have hby := Bd.bytes
  have hml : c.maxLocals = 10 := hml0
  have hown : s.vm.findClass "com/example/viable/viable/IntListAddPinLaw" = some m.cls := findClass_of_methodNamed Bd.named
  have hnm := (name_of_methodNamed Bd.named Bd.method).1
  have X0 : Stand p l e room_1 s m #[(.int p1), (.int p2), (.int p3), (.int p4), (.int p5), (.int p6)] below meth c s₁ [] 0 0 := Stand.of_body Bd
  have e0 : s₁.heap = h0 := by rw [← hh, Bd.state]; rfl
  have N0 := Fr.nil n0
  have p0 : own_go p e below (s₁.setTop (entryFrame m #[(.int p1), (.int p2), (.int p3), (.int p4), (.int p5), (.int p6)] maxLocals)) (s₁.setTop (mkF m 0 #[.val (.int p1), .val (.int p2), .val (.int p3), .val (.int p4), .val (.int p5), .val (.int p6), .unset, .unset, .unset, .unset] [])) := fun ttx ktx => castTop (ef_0 m p1 p2 p3 p4 p5 p6) ktx
  obtain ⟨v1, hv_v1⟩ : ∃ z : Int32, z = ((p1 &&& (2147483647 : Int32)) % (10 : Int32)) := ⟨_, rfl⟩
  obtain ⟨T2, h2, k2, X2, e2, E2, A2, st2⟩ := newP X0 hx hZ (hw _ (List.mem_of_getElem? (i := 1) rfl)) e0 (g := (mkF m 11 #[.val (.int p1), .val (.int p2), .val (.int p3), .val (.int p4), .val (.int p5), .val (.int p6), .val (.int v1), .unset, .unset, .unset] [(.int (9 : Int32))])) rfl (hb hby at_11) rfl (by decide) (cap := 9) (by decide) (by decide) (by decide) (by decide)
  obtain ⟨b2, g2⟩ : ∃ z, z = h0.size := ⟨_, rfl⟩
  rw [← g2] at A2 st2
  have g_b2 : n0 ≤ b2 := Nat.le_trans Z0 (Nat.le_of_eq g2.symm)
  have Z2 : n0 ≤ h2.size := Nat.le_trans Z0 E2.1
  have V2 : Arv Z h2 b2 k2 .int (9 : Int32) [(.int (0 : Int32)), (.int (0 : Int32)), (.int (0 : Int32)), (.int (0 : Int32)), (.int (0 : Int32)), (.int (0 : Int32)), (.int (0 : Int32)), (.int (0 : Int32)), (.int (0 : Int32))] (.int (0 : Int32)) := (Arv.new A2 (by decide)).pad (pad_rep [] (.int (0 : Int32)) 9)
  obtain ⟨cl3, Ar3, q3, S3, M3, H3, G3⟩ := id V2
  have hin3 : ¬ ((0 : Int32) < 0 ∨ cl3.slots.size ≤ ((0 : Int32)).toNatClampNeg) := inb_of S3 ⟨by decide, by decide⟩
  obtain ⟨T4, h4, X4, e4, W4, st4⟩ := stI X2 hx hZ e2 Ar3 (j := (0 : Int32)) hin3 (g := (mkF m 16 #[.val (.int p1), .val (.int p2), .val (.int p3), .val (.int p4), .val (.int p5), .val (.int p6), .val (.int v1), .unset, .unset, .unset] [(.int p2), (.int (0 : Int32)), (.ref b2), (.ref b2)])) rfl rfl (hb hby at_16)
  have Z4 : n0 ≤ h4.size := Nat.le_trans Z2 (Nat.le_of_eq W4.size.symm)
  have N4 := Fr.snoc X4 N0 g_b2
  have V4 : Arv Z h4 b2 k2 .int (9 : Int32) [(.int p2), (.int (0 : Int32)), (.int (0 : Int32)), (.int (0 : Int32)), (.int (0 : Int32)), (.int (0 : Int32)), (.int (0 : Int32)), (.int (0 : Int32)), (.int (0 : Int32))] (.int (0 : Int32)) := Arv.set Ar3 q3 S3 M3 H3 G3 rfl W4 0 rfl (Nat.le_of_ble_eq_true rfl)
  have go5 : own_go p e below (s₁.setTop (entryFrame m #[(.int p1), (.int p2), (.int p3), (.int p4), (.int p5), (.int p6)] maxLocals)) (T4.setTop (mkF m 19 #[.val (.int p1), .val (.int p2), .val (.int p3), .val (.int p4), .val (.int p5), .val (.int p6), .val (.int v1), .unset, .unset, .unset] [(.int (1 : Int32)), (.ref b2), (.ref b2)])) := by
    intro ttx ktx
    refine p0 ttx ?_
    show Steps p.tables e below (s₁.setTop (mkF m 0 #[.val (.int p1), .val (.int p2), .val (.int p3), .val (.int p4), .val (.int p5), .val (.int p6), .unset, .unset, .unset, .unset] [])) _
    refine XS.iloadN X0.here hx rfl (hb hby at_0) rfl ?_
    show Steps p.tables e below (s₁.setTop (mkF m 1 #[.val (.int p1), .val (.int p2), .val (.int p3), .val (.int p4), .val (.int p5), .val (.int p6), .unset, .unset, .unset, .unset] [(.int p1)])) _
    refine X0.ldcInt hx hown (mvT hZ (hw _ (List.mem_of_getElem? (i := 0) rfl))) (g := (mkF m 1 #[.val (.int p1), .val (.int p2), .val (.int p3), .val (.int p4), .val (.int p5), .val (.int p6), .unset, .unset, .unset, .unset] [(.int p1)])) rfl (hb hby at_1) _ ?_
    show Steps p.tables e below (s₁.setTop (mkF m 3 #[.val (.int p1), .val (.int p2), .val (.int p3), .val (.int p4), .val (.int p5), .val (.int p6), .unset, .unset, .unset, .unset] [(.int (2147483647 : Int32)), (.int p1)])) _
    refine XS.iand X0.here hx rfl (hb hby at_3) rfl ?_
    show Steps p.tables e below (s₁.setTop (mkF m 4 #[.val (.int p1), .val (.int p2), .val (.int p3), .val (.int p4), .val (.int p5), .val (.int p6), .unset, .unset, .unset, .unset] [(.int (p1 &&& (2147483647 : Int32)))])) _
    refine XS.bipush X0.here hx rfl (hb hby at_4) ?_
    show Steps p.tables e below (s₁.setTop (mkF m 6 #[.val (.int p1), .val (.int p2), .val (.int p3), .val (.int p4), .val (.int p5), .val (.int p6), .unset, .unset, .unset, .unset] [(.int (10 : Int32)), (.int (p1 &&& (2147483647 : Int32)))])) _
    refine iremM X0 hx rfl (hb hby at_6) rfl (by decide) ?_
    show Steps p.tables e below (s₁.setTop (mkF m 7 #[.val (.int p1), .val (.int p2), .val (.int p3), .val (.int p4), .val (.int p5), .val (.int p6), .unset, .unset, .unset, .unset] [(.int ((p1 &&& (2147483647 : Int32)) % (10 : Int32)))])) _
    rw [← hv_v1]
    show Steps p.tables e below (s₁.setTop (mkF m 7 #[.val (.int p1), .val (.int p2), .val (.int p3), .val (.int p4), .val (.int p5), .val (.int p6), .unset, .unset, .unset, .unset] [(.int v1)])) _
    refine XS.istore X0.here hx rfl (hb hby at_7) rfl (l' := #[.val (.int p1), .val (.int p2), .val (.int p3), .val (.int p4), .val (.int p5), .val (.int p6), .val (.int v1), .unset, .unset, .unset]) rfl ?_
    show Steps p.tables e below (s₁.setTop (mkF m 9 #[.val (.int p1), .val (.int p2), .val (.int p3), .val (.int p4), .val (.int p5), .val (.int p6), .val (.int v1), .unset, .unset, .unset] [])) _
    refine XS.bipush X0.here hx rfl (hb hby at_9) ?_
    show Steps p.tables e below (s₁.setTop (mkF m 11 #[.val (.int p1), .val (.int p2), .val (.int p3), .val (.int p4), .val (.int p5), .val (.int p6), .val (.int v1), .unset, .unset, .unset] [(.int (9 : Int32))])) _
    refine st2 _ ?_
    show Steps p.tables e below (T2.setTop (mkF m 13 #[.val (.int p1), .val (.int p2), .val (.int p3), .val (.int p4), .val (.int p5), .val (.int p6), .val (.int v1), .unset, .unset, .unset] [(.ref b2)])) _
    refine XS.dup X2.here hx rfl (hb hby at_13) rfl rfl ?_
    show Steps p.tables e below (T2.setTop (mkF m 14 #[.val (.int p1), .val (.int p2), .val (.int p3), .val (.int p4), .val (.int p5), .val (.int p6), .val (.int v1), .unset, .unset, .unset] [(.ref b2), (.ref b2)])) _
    refine XS.iconst X2.here hx rfl (hb hby at_14) ?_
    show Steps p.tables e below (T2.setTop (mkF m 15 #[.val (.int p1), .val (.int p2), .val (.int p3), .val (.int p4), .val (.int p5), .val (.int p6), .val (.int v1), .unset, .unset, .unset] [(.int (0 : Int32)), (.ref b2), (.ref b2)])) _
    refine XS.iloadN X2.here hx rfl (hb hby at_15) rfl ?_
    show Steps p.tables e below (T2.setTop (mkF m 16 #[.val (.int p1), .val (.int p2), .val (.int p3), .val (.int p4), .val (.int p5), .val (.int p6), .val (.int v1), .unset, .unset, .unset] [(.int p2), (.int (0 : Int32)), (.ref b2), (.ref b2)])) _
    refine st4 _ ?_
    show Steps p.tables e below (T4.setTop (mkF m 17 #[.val (.int p1), .val (.int p2), .val (.int p3), .val (.int p4), .val (.int p5), .val (.int p6), .val (.int v1), .unset, .unset, .unset] [(.ref b2)])) _
    refine XS.dup X4.here hx rfl (hb hby at_17) rfl rfl ?_
    show Steps p.tables e below (T4.setTop (mkF m 18 #[.val (.int p1), .val (.int p2), .val (.int p3), .val (.int p4), .val (.int p5), .val (.int p6), .val (.int v1), .unset, .unset, .unset] [(.ref b2), (.ref b2)])) _
    refine XS.iconst X4.here hx rfl (hb hby at_18) ?_
    exact ktx
  obtain ⟨cl6, Ar6, q6, S6, M6, H6, G6⟩ := id V4
  have hin6 : ¬ ((1 : Int32) < 0 ∨ cl6.slots.size ≤ ((1 : Int32)).toNatClampNeg) := inb_of S6 ⟨by decide, by decide⟩
  obtain ⟨T7, h7, X7, e7, W7, st7⟩ := stI X4 hx hZ e4 Ar6 (j := (1 : Int32)) hin6 (g := (mkF m 20 #[.val (.int p1), .val (.int p2), .val (.int p3), .val (.int p4), .val (.int p5), .val (.int p6), .val (.int v1), .unset, .unset, .unset] [(.int p3), (.int (1 : Int32)), (.ref b2), (.ref b2)])) rfl rfl (hb hby at_20)
  have Z7 : n0 ≤ h7.size := Nat.le_trans Z4 (Nat.le_of_eq W7.size.symm)
  have N7 := Fr.snoc X7 N4 g_b2
  have V7 : Arv Z h7 b2 k2 .int (9 : Int32) [(.int p2), (.int p3), (.int (0 : Int32)), (.int (0 : Int32)), (.int (0 : Int32)), (.int (0 : Int32)), (.int (0 : Int32)), (.int (0 : Int32)), (.int (0 : Int32))] (.int (0 : Int32)) := Arv.set Ar6 q6 S6 M6 H6 G6 rfl W7 1 rfl (Nat.le_of_ble_eq_true rfl)
  obtain ⟨cl8, Ar8, q8, S8, M8, H8, G8⟩ := id V7
  have hin8 : ¬ ((2 : Int32) < 0 ∨ cl8.slots.size ≤ ((2 : Int32)).toNatClampNeg) := inb_of S8 ⟨by decide, by decide⟩
  obtain ⟨T9, h9, X9, e9, W9, st9⟩ := stI X7 hx hZ e7 Ar8 (j := (2 : Int32)) hin8 (g := (mkF m 24 #[.val (.int p1), .val (.int p2), .val (.int p3), .val (.int p4), .val (.int p5), .val (.int p6), .val (.int v1), .unset, .unset, .unset] [(.int p4), (.int (2 : Int32)), (.ref b2), (.ref b2)])) rfl rfl (hb hby at_24)
  have Z9 : n0 ≤ h9.size := Nat.le_trans Z7 (Nat.le_of_eq W9.size.symm)
  have N9 := Fr.snoc X9 N7 g_b2
  have V9 : Arv Z h9 b2 k2 .int (9 : Int32) [(.int p2), (.int p3), (.int p4), (.int (0 : Int32)), (.int (0 : Int32)), (.int (0 : Int32)), (.int (0 : Int32)), (.int (0 : Int32)), (.int (0 : Int32))] (.int (0 : Int32)) := Arv.set Ar8 q8 S8 M8 H8 G8 rfl W9 2 rfl (Nat.le_of_ble_eq_true rfl)
  obtain ⟨cl10, Ar10, q10, S10, M10, H10, G10⟩ := id V9
  have hin10 : ¬ ((3 : Int32) < 0 ∨ cl10.slots.size ≤ ((3 : Int32)).toNatClampNeg) := inb_of S10 ⟨by decide, by decide⟩
  obtain ⟨T11, h11, X11, e11, W11, st11⟩ := stI X9 hx hZ e9 Ar10 (j := (3 : Int32)) hin10 (g := (mkF m 29 #[.val (.int p1), .val (.int p2), .val (.int p3), .val (.int p4), .val (.int p5), .val (.int p6), .val (.int v1), .unset, .unset, .unset] [(.int p5), (.int (3 : Int32)), (.ref b2), (.ref b2)])) rfl rfl (hb hby at_29)
  have Z11 : n0 ≤ h11.size := Nat.le_trans Z9 (Nat.le_of_eq W11.size.symm)
  have N11 := Fr.snoc X11 N9 g_b2
  have V11 : Arv Z h11 b2 k2 .int (9 : Int32) [(.int p2), (.int p3), (.int p4), (.int p5), (.int (0 : Int32)), (.int (0 : Int32)), (.int (0 : Int32)), (.int (0 : Int32)), (.int (0 : Int32))] (.int (0 : Int32)) := Arv.set Ar10 q10 S10 M10 H10 G10 rfl W11 3 rfl (Nat.le_of_ble_eq_true rfl)
  obtain ⟨cl12, Ar12, q12, S12, M12, H12, G12⟩ := id V11
  have hin12 : ¬ ((4 : Int32) < 0 ∨ cl12.slots.size ≤ ((4 : Int32)).toNatClampNeg) := inb_of S12 ⟨by decide, by decide⟩
  obtain ⟨T13, h13, X13, e13, W13, st13⟩ := stI X11 hx hZ e11 Ar12 (j := (4 : Int32)) hin12 (g := (mkF m 34 #[.val (.int p1), .val (.int p2), .val (.int p3), .val (.int p4), .val (.int p5), .val (.int p6), .val (.int v1), .unset, .unset, .unset] [(.int p6), (.int (4 : Int32)), (.ref b2), (.ref b2)])) rfl rfl (hb hby at_34)
  have Z13 : n0 ≤ h13.size := Nat.le_trans Z11 (Nat.le_of_eq W13.size.symm)
  have N13 := Fr.snoc X13 N11 g_b2
  have V13 : Arv Z h13 b2 k2 .int (9 : Int32) [(.int p2), (.int p3), (.int p4), (.int p5), (.int p6), (.int (0 : Int32)), (.int (0 : Int32)), (.int (0 : Int32)), (.int (0 : Int32))] (.int (0 : Int32)) := Arv.set Ar12 q12 S12 M12 H12 G12 rfl W13 4 rfl (Nat.le_of_ble_eq_true rfl)
  have go14 : own_go p e below (s₁.setTop (entryFrame m #[(.int p1), (.int p2), (.int p3), (.int p4), (.int p5), (.int p6)] maxLocals)) (T13.setTop (mkF m 36 #[.val (.int p1), .val (.int p2), .val (.int p3), .val (.int p4), .val (.int p5), .val (.int p6), .val (.int v1), .unset, .unset, .unset] [(.ref b2), (.ref b2)])) := by
    intro ttx ktx
    refine go5 ttx ?_
    show Steps p.tables e below (T4.setTop (mkF m 19 #[.val (.int p1), .val (.int p2), .val (.int p3), .val (.int p4), .val (.int p5), .val (.int p6), .val (.int v1), .unset, .unset, .unset] [(.int (1 : Int32)), (.ref b2), (.ref b2)])) _
    refine XS.iloadN X4.here hx rfl (hb hby at_19) rfl ?_
    show Steps p.tables e below (T4.setTop (mkF m 20 #[.val (.int p1), .val (.int p2), .val (.int p3), .val (.int p4), .val (.int p5), .val (.int p6), .val (.int v1), .unset, .unset, .unset] [(.int p3), (.int (1 : Int32)), (.ref b2), (.ref b2)])) _
    refine st7 _ ?_
    show Steps p.tables e below (T7.setTop (mkF m 21 #[.val (.int p1), .val (.int p2), .val (.int p3), .val (.int p4), .val (.int p5), .val (.int p6), .val (.int v1), .unset, .unset, .unset] [(.ref b2)])) _
    refine XS.dup X7.here hx rfl (hb hby at_21) rfl rfl ?_
    show Steps p.tables e below (T7.setTop (mkF m 22 #[.val (.int p1), .val (.int p2), .val (.int p3), .val (.int p4), .val (.int p5), .val (.int p6), .val (.int v1), .unset, .unset, .unset] [(.ref b2), (.ref b2)])) _
    refine XS.iconst X7.here hx rfl (hb hby at_22) ?_
    show Steps p.tables e below (T7.setTop (mkF m 23 #[.val (.int p1), .val (.int p2), .val (.int p3), .val (.int p4), .val (.int p5), .val (.int p6), .val (.int v1), .unset, .unset, .unset] [(.int (2 : Int32)), (.ref b2), (.ref b2)])) _
    refine XS.iloadN X7.here hx rfl (hb hby at_23) rfl ?_
    show Steps p.tables e below (T7.setTop (mkF m 24 #[.val (.int p1), .val (.int p2), .val (.int p3), .val (.int p4), .val (.int p5), .val (.int p6), .val (.int v1), .unset, .unset, .unset] [(.int p4), (.int (2 : Int32)), (.ref b2), (.ref b2)])) _
    refine st9 _ ?_
    show Steps p.tables e below (T9.setTop (mkF m 25 #[.val (.int p1), .val (.int p2), .val (.int p3), .val (.int p4), .val (.int p5), .val (.int p6), .val (.int v1), .unset, .unset, .unset] [(.ref b2)])) _
    refine XS.dup X9.here hx rfl (hb hby at_25) rfl rfl ?_
    show Steps p.tables e below (T9.setTop (mkF m 26 #[.val (.int p1), .val (.int p2), .val (.int p3), .val (.int p4), .val (.int p5), .val (.int p6), .val (.int v1), .unset, .unset, .unset] [(.ref b2), (.ref b2)])) _
    refine XS.iconst X9.here hx rfl (hb hby at_26) ?_
    show Steps p.tables e below (T9.setTop (mkF m 27 #[.val (.int p1), .val (.int p2), .val (.int p3), .val (.int p4), .val (.int p5), .val (.int p6), .val (.int v1), .unset, .unset, .unset] [(.int (3 : Int32)), (.ref b2), (.ref b2)])) _
    refine XS.iload X9.here hx rfl (hb hby at_27) rfl ?_
    show Steps p.tables e below (T9.setTop (mkF m 29 #[.val (.int p1), .val (.int p2), .val (.int p3), .val (.int p4), .val (.int p5), .val (.int p6), .val (.int v1), .unset, .unset, .unset] [(.int p5), (.int (3 : Int32)), (.ref b2), (.ref b2)])) _
    refine st11 _ ?_
    show Steps p.tables e below (T11.setTop (mkF m 30 #[.val (.int p1), .val (.int p2), .val (.int p3), .val (.int p4), .val (.int p5), .val (.int p6), .val (.int v1), .unset, .unset, .unset] [(.ref b2)])) _
    refine XS.dup X11.here hx rfl (hb hby at_30) rfl rfl ?_
    show Steps p.tables e below (T11.setTop (mkF m 31 #[.val (.int p1), .val (.int p2), .val (.int p3), .val (.int p4), .val (.int p5), .val (.int p6), .val (.int v1), .unset, .unset, .unset] [(.ref b2), (.ref b2)])) _
    refine XS.iconst X11.here hx rfl (hb hby at_31) ?_
    show Steps p.tables e below (T11.setTop (mkF m 32 #[.val (.int p1), .val (.int p2), .val (.int p3), .val (.int p4), .val (.int p5), .val (.int p6), .val (.int v1), .unset, .unset, .unset] [(.int (4 : Int32)), (.ref b2), (.ref b2)])) _
    refine XS.iload X11.here hx rfl (hb hby at_32) rfl ?_
    show Steps p.tables e below (T11.setTop (mkF m 34 #[.val (.int p1), .val (.int p2), .val (.int p3), .val (.int p4), .val (.int p5), .val (.int p6), .val (.int v1), .unset, .unset, .unset] [(.int p6), (.int (4 : Int32)), (.ref b2), (.ref b2)])) _
    refine st13 _ ?_
    show Steps p.tables e below (T13.setTop (mkF m 35 #[.val (.int p1), .val (.int p2), .val (.int p3), .val (.int p4), .val (.int p5), .val (.int p6), .val (.int v1), .unset, .unset, .unset] [(.ref b2)])) _
    refine XS.dup X13.here hx rfl (hb hby at_35) rfl rfl ?_
    exact ktx
  obtain ⟨cl15, Ar15, q15, S15, M15, H15, G15⟩ := id V13
  have hin15 : ¬ ((5 : Int32) < 0 ∨ cl15.slots.size ≤ ((5 : Int32)).toNatClampNeg) := inb_of S15 ⟨by decide, by decide⟩
  obtain ⟨T16, h16, X16, e16, W16, st16⟩ := stI X13 hx hZ e13 Ar15 (j := (5 : Int32)) hin15 (g := (mkF m 40 #[.val (.int p1), .val (.int p2), .val (.int p3), .val (.int p4), .val (.int p5), .val (.int p6), .val (.int v1), .unset, .unset, .unset] [(.int (p2 ^^^ p3)), (.int (5 : Int32)), (.ref b2), (.ref b2)])) rfl rfl (hb hby at_40)
  have Z16 : n0 ≤ h16.size := Nat.le_trans Z13 (Nat.le_of_eq W16.size.symm)
  have N16 := Fr.snoc X16 N13 g_b2
  have V16 : Arv Z h16 b2 k2 .int (9 : Int32) [(.int p2), (.int p3), (.int p4), (.int p5), (.int p6), (.int (p2 ^^^ p3)), (.int (0 : Int32)), (.int (0 : Int32)), (.int (0 : Int32))] (.int (0 : Int32)) := Arv.set Ar15 q15 S15 M15 H15 G15 rfl W16 5 rfl (Nat.le_of_ble_eq_true rfl)
  obtain ⟨cl17, Ar17, q17, S17, M17, H17, G17⟩ := id V16
  have hin17 : ¬ ((6 : Int32) < 0 ∨ cl17.slots.size ≤ ((6 : Int32)).toNatClampNeg) := inb_of S17 ⟨by decide, by decide⟩
  obtain ⟨T18, h18, X18, e18, W18, st18⟩ := stI X16 hx hZ e16 Ar17 (j := (6 : Int32)) hin17 (g := (mkF m 48 #[.val (.int p1), .val (.int p2), .val (.int p3), .val (.int p4), .val (.int p5), .val (.int p6), .val (.int v1), .unset, .unset, .unset] [(.int (p4 - p5)), (.int (6 : Int32)), (.ref b2), (.ref b2)])) rfl rfl (hb hby at_48)
  have Z18 : n0 ≤ h18.size := Nat.le_trans Z16 (Nat.le_of_eq W18.size.symm)
  have N18 := Fr.snoc X18 N16 g_b2
  have V18 : Arv Z h18 b2 k2 .int (9 : Int32) [(.int p2), (.int p3), (.int p4), (.int p5), (.int p6), (.int (p2 ^^^ p3)), (.int (p4 - p5)), (.int (0 : Int32)), (.int (0 : Int32))] (.int (0 : Int32)) := Arv.set Ar17 q17 S17 M17 H17 G17 rfl W18 6 rfl (Nat.le_of_ble_eq_true rfl)
  have go19 : own_go p e below (s₁.setTop (entryFrame m #[(.int p1), (.int p2), (.int p3), (.int p4), (.int p5), (.int p6)] maxLocals)) (T18.setTop (mkF m 55 #[.val (.int p1), .val (.int p2), .val (.int p3), .val (.int p4), .val (.int p5), .val (.int p6), .val (.int v1), .unset, .unset, .unset] [(.int (-1 : Int32)), (.int p6), (.int (7 : Int32)), (.ref b2), (.ref b2)])) := by
    intro ttx ktx
    refine go14 ttx ?_
    show Steps p.tables e below (T13.setTop (mkF m 36 #[.val (.int p1), .val (.int p2), .val (.int p3), .val (.int p4), .val (.int p5), .val (.int p6), .val (.int v1), .unset, .unset, .unset] [(.ref b2), (.ref b2)])) _
    refine XS.iconst X13.here hx rfl (hb hby at_36) ?_
    show Steps p.tables e below (T13.setTop (mkF m 37 #[.val (.int p1), .val (.int p2), .val (.int p3), .val (.int p4), .val (.int p5), .val (.int p6), .val (.int v1), .unset, .unset, .unset] [(.int (5 : Int32)), (.ref b2), (.ref b2)])) _
    refine XS.iloadN X13.here hx rfl (hb hby at_37) rfl ?_
    show Steps p.tables e below (T13.setTop (mkF m 38 #[.val (.int p1), .val (.int p2), .val (.int p3), .val (.int p4), .val (.int p5), .val (.int p6), .val (.int v1), .unset, .unset, .unset] [(.int p2), (.int (5 : Int32)), (.ref b2), (.ref b2)])) _
    refine XS.iloadN X13.here hx rfl (hb hby at_38) rfl ?_
    show Steps p.tables e below (T13.setTop (mkF m 39 #[.val (.int p1), .val (.int p2), .val (.int p3), .val (.int p4), .val (.int p5), .val (.int p6), .val (.int v1), .unset, .unset, .unset] [(.int p3), (.int p2), (.int (5 : Int32)), (.ref b2), (.ref b2)])) _
    refine XS.ixor X13.here hx rfl (hb hby at_39) rfl ?_
    show Steps p.tables e below (T13.setTop (mkF m 40 #[.val (.int p1), .val (.int p2), .val (.int p3), .val (.int p4), .val (.int p5), .val (.int p6), .val (.int v1), .unset, .unset, .unset] [(.int (p2 ^^^ p3)), (.int (5 : Int32)), (.ref b2), (.ref b2)])) _
    refine st16 _ ?_
    show Steps p.tables e below (T16.setTop (mkF m 41 #[.val (.int p1), .val (.int p2), .val (.int p3), .val (.int p4), .val (.int p5), .val (.int p6), .val (.int v1), .unset, .unset, .unset] [(.ref b2)])) _
    refine XS.dup X16.here hx rfl (hb hby at_41) rfl rfl ?_
    show Steps p.tables e below (T16.setTop (mkF m 42 #[.val (.int p1), .val (.int p2), .val (.int p3), .val (.int p4), .val (.int p5), .val (.int p6), .val (.int v1), .unset, .unset, .unset] [(.ref b2), (.ref b2)])) _
    refine XS.bipush X16.here hx rfl (hb hby at_42) ?_
    show Steps p.tables e below (T16.setTop (mkF m 44 #[.val (.int p1), .val (.int p2), .val (.int p3), .val (.int p4), .val (.int p5), .val (.int p6), .val (.int v1), .unset, .unset, .unset] [(.int (6 : Int32)), (.ref b2), (.ref b2)])) _
    refine XS.iloadN X16.here hx rfl (hb hby at_44) rfl ?_
    show Steps p.tables e below (T16.setTop (mkF m 45 #[.val (.int p1), .val (.int p2), .val (.int p3), .val (.int p4), .val (.int p5), .val (.int p6), .val (.int v1), .unset, .unset, .unset] [(.int p4), (.int (6 : Int32)), (.ref b2), (.ref b2)])) _
    refine XS.iload X16.here hx rfl (hb hby at_45) rfl ?_
    show Steps p.tables e below (T16.setTop (mkF m 47 #[.val (.int p1), .val (.int p2), .val (.int p3), .val (.int p4), .val (.int p5), .val (.int p6), .val (.int v1), .unset, .unset, .unset] [(.int p5), (.int p4), (.int (6 : Int32)), (.ref b2), (.ref b2)])) _
    refine XS.isub X16.here hx rfl (hb hby at_47) rfl ?_
    show Steps p.tables e below (T16.setTop (mkF m 48 #[.val (.int p1), .val (.int p2), .val (.int p3), .val (.int p4), .val (.int p5), .val (.int p6), .val (.int v1), .unset, .unset, .unset] [(.int (p4 - p5)), (.int (6 : Int32)), (.ref b2), (.ref b2)])) _
    refine st18 _ ?_
    show Steps p.tables e below (T18.setTop (mkF m 49 #[.val (.int p1), .val (.int p2), .val (.int p3), .val (.int p4), .val (.int p5), .val (.int p6), .val (.int v1), .unset, .unset, .unset] [(.ref b2)])) _
    refine XS.dup X18.here hx rfl (hb hby at_49) rfl rfl ?_
    show Steps p.tables e below (T18.setTop (mkF m 50 #[.val (.int p1), .val (.int p2), .val (.int p3), .val (.int p4), .val (.int p5), .val (.int p6), .val (.int v1), .unset, .unset, .unset] [(.ref b2), (.ref b2)])) _
    refine XS.bipush X18.here hx rfl (hb hby at_50) ?_
    show Steps p.tables e below (T18.setTop (mkF m 52 #[.val (.int p1), .val (.int p2), .val (.int p3), .val (.int p4), .val (.int p5), .val (.int p6), .val (.int v1), .unset, .unset, .unset] [(.int (7 : Int32)), (.ref b2), (.ref b2)])) _
    refine XS.iload X18.here hx rfl (hb hby at_52) rfl ?_
    show Steps p.tables e below (T18.setTop (mkF m 54 #[.val (.int p1), .val (.int p2), .val (.int p3), .val (.int p4), .val (.int p5), .val (.int p6), .val (.int v1), .unset, .unset, .unset] [(.int p6), (.int (7 : Int32)), (.ref b2), (.ref b2)])) _
    refine XS.iconst X18.here hx rfl (hb hby at_54) ?_
    exact ktx
  obtain ⟨cl20, Ar20, q20, S20, M20, H20, G20⟩ := id V18
  have hin20 : ¬ ((7 : Int32) < 0 ∨ cl20.slots.size ≤ ((7 : Int32)).toNatClampNeg) := inb_of S20 ⟨by decide, by decide⟩
  obtain ⟨T21, h21, X21, e21, W21, st21⟩ := stI X18 hx hZ e18 Ar20 (j := (7 : Int32)) hin20 (g := (mkF m 56 #[.val (.int p1), .val (.int p2), .val (.int p3), .val (.int p4), .val (.int p5), .val (.int p6), .val (.int v1), .unset, .unset, .unset] [(.int (p6 ^^^ (-1 : Int32))), (.int (7 : Int32)), (.ref b2), (.ref b2)])) rfl rfl (hb hby at_56)
  have Z21 : n0 ≤ h21.size := Nat.le_trans Z18 (Nat.le_of_eq W21.size.symm)
  have N21 := Fr.snoc X21 N18 g_b2
  have V21 : Arv Z h21 b2 k2 .int (9 : Int32) [(.int p2), (.int p3), (.int p4), (.int p5), (.int p6), (.int (p2 ^^^ p3)), (.int (p4 - p5)), (.int (p6 ^^^ (-1 : Int32))), (.int (0 : Int32))] (.int (0 : Int32)) := Arv.set Ar20 q20 S20 M20 H20 G20 rfl W21 7 rfl (Nat.le_of_ble_eq_true rfl)
  obtain ⟨cl22, Ar22, q22, S22, M22, H22, G22⟩ := id V21
  have hin22 : ¬ ((8 : Int32) < 0 ∨ cl22.slots.size ≤ ((8 : Int32)).toNatClampNeg) := inb_of S22 ⟨by decide, by decide⟩
  obtain ⟨T23, h23, X23, e23, W23, st23⟩ := stI X21 hx hZ e21 Ar22 (j := (8 : Int32)) hin22 (g := (mkF m 64 #[.val (.int p1), .val (.int p2), .val (.int p3), .val (.int p4), .val (.int p5), .val (.int p6), .val (.int v1), .unset, .unset, .unset] [(.int (p2 + p6)), (.int (8 : Int32)), (.ref b2), (.ref b2)])) rfl rfl (hb hby at_64)
  have Z23 : n0 ≤ h23.size := Nat.le_trans Z21 (Nat.le_of_eq W23.size.symm)
  have N23 := Fr.snoc X23 N21 g_b2
  have V23 : Arv Z h23 b2 k2 .int (9 : Int32) [(.int p2), (.int p3), (.int p4), (.int p5), (.int p6), (.int (p2 ^^^ p3)), (.int (p4 - p5)), (.int (p6 ^^^ (-1 : Int32))), (.int (p2 + p6))] (.int (0 : Int32)) := Arv.set Ar22 q22 S22 M22 H22 G22 rfl W23 8 rfl (Nat.le_of_ble_eq_true rfl)
  obtain ⟨T24, h24, X24, e24, E24, A24, D24, -, st24⟩ := newO X23 hx hZ hown (hw _ (List.mem_of_getElem? (i := 2) rfl)) (hw _ (List.mem_of_getElem? (i := 3) rfl)) (hw _ (List.mem_of_getElem? (i := 4) rfl)) e23 (g := (mkF m 67 #[.val (.int p1), .val (.int p2), .val (.int p3), .val (.int p4), .val (.int p5), .val (.int p6), .val (.int v1), .val (.ref b2), .unset, .unset] [])) rfl (hb hby at_67) (by decide) (by decide)
  obtain ⟨b24, g24⟩ : ∃ z, z = h23.size := ⟨_, rfl⟩
  rw [← g24] at A24 D24 st24
  have ne25 : b2 ≠ b24 := Nat.ne_of_lt (Nat.lt_of_lt_of_le V23.lt (Nat.le_of_eq g24.symm))
  have g_b24 : n0 ≤ b24 := Nat.le_trans Z23 (Nat.le_of_eq g24.symm)
  have Z24 : n0 ≤ h24.size := Nat.le_trans Z23 E24.1
  have F24_values : Fld Z h24 b24 "com/example/viable/viable/IntList" "values" "[I" .null := D24 (Or.inl (hw _ (List.mem_of_getElem? (i := 12) rfl))) (ty := (.array .int)) (by decide)
  have F24_size : Fld Z h24 b24 "com/example/viable/viable/IntList" "size" "I" (.int (0 : Int32)) := D24 (Or.inl (hw _ (List.mem_of_getElem? (i := 19) rfl))) (ty := .int) (by decide)
  obtain ⟨_, _, ⟨T26, L26, k26, n26⟩, -, X26, ⟨Lc26, hQ26, l26, y26, z26⟩, st26⟩ := X24.specialBack hx (y := (⟨"com/example/viable/viable/IntList", "<init>", "()V"⟩ : MethodName)) rfl hown (mvT hZ (hw _ (List.mem_of_getElem? (i := 5) rfl))) (mvT hZ (hw _ (List.mem_of_getElem? (i := 6) rfl))) (mvT hZ (hw _ (List.mem_of_getElem? (i := 7) rfl))) (by decide) (backOf (W := 1) (rm1 l Z a0 hw [] b24  h24 n0 Z24 A24 g_b24 F24_values F24_size) hZ (hw _ (List.mem_of_getElem? (i := 7) rfl)) (hw _ (List.mem_of_getElem? (i := 4) rfl)) (by decide) (by decide)) (g := (mkF m 71 #[.val (.int p1), .val (.int p2), .val (.int p3), .val (.int p4), .val (.int p5), .val (.int p6), .val (.int v1), .val (.ref b2), .unset, .unset] [(.ref b24), (.ref b24)])) rfl (by rw [hml]; rfl) (Steps.refl _) (a := b24) (argsL := []) (rest := [(.ref b24)]) (lenOf own_pd4 rfl) rfl (by show 2 * 0 + _ ≤ _; exact Nat.le_of_eq rfl) (hb hby at_71) (fun _ _ => ⟨rfl, e24, (by decide : 2 + 1 ≤ _), (by decide : 11 + 8 ≤ _)⟩)
  dsimp only [Pt.U, Pt.locs, Pt.cells, Pt.slots] at X26 l26 y26 z26 st26 hQ26
  subst l26 y26 z26
  obtain ⟨rfl, Nq26, Kq26, t26, gq26, sq26, ls26⟩ := hQ26
  have N26 := Fr.app N23 Nq26
  have f28 := (V23.ext E24)
  have ne27 : b2 ≠ t26 := Nat.ne_of_lt (Nat.lt_of_lt_of_le f28.lt sq26)
  have ne29 : b24 ≠ t26 := Nat.ne_of_lt (Nat.lt_of_lt_of_le A24.lt sq26)
  have g_t26 := gq26
  have Z26 : n0 ≤ T26.heap.size := Nat.le_trans Z24 Kq26.1
  have Eq26 := ls26.1
  have go30 : own_go p e below (s₁.setTop (entryFrame m #[(.int p1), (.int p2), (.int p3), (.int p4), (.int p5), (.int p6)] maxLocals)) (T26.setTop (mkF m 78 #[.val (.int p1), .val (.int p2), .val (.int p3), .val (.int p4), .val (.int p5), .val (.int p6), .val (.int v1), .val (.ref b2), .val (.ref b24), .unset] [(.int v1)])) := by
    intro ttx ktx
    refine go19 ttx ?_
    show Steps p.tables e below (T18.setTop (mkF m 55 #[.val (.int p1), .val (.int p2), .val (.int p3), .val (.int p4), .val (.int p5), .val (.int p6), .val (.int v1), .unset, .unset, .unset] [(.int (-1 : Int32)), (.int p6), (.int (7 : Int32)), (.ref b2), (.ref b2)])) _
    refine XS.ixor X18.here hx rfl (hb hby at_55) rfl ?_
    show Steps p.tables e below (T18.setTop (mkF m 56 #[.val (.int p1), .val (.int p2), .val (.int p3), .val (.int p4), .val (.int p5), .val (.int p6), .val (.int v1), .unset, .unset, .unset] [(.int (p6 ^^^ (-1 : Int32))), (.int (7 : Int32)), (.ref b2), (.ref b2)])) _
    refine st21 _ ?_
    show Steps p.tables e below (T21.setTop (mkF m 57 #[.val (.int p1), .val (.int p2), .val (.int p3), .val (.int p4), .val (.int p5), .val (.int p6), .val (.int v1), .unset, .unset, .unset] [(.ref b2)])) _
    refine XS.dup X21.here hx rfl (hb hby at_57) rfl rfl ?_
    show Steps p.tables e below (T21.setTop (mkF m 58 #[.val (.int p1), .val (.int p2), .val (.int p3), .val (.int p4), .val (.int p5), .val (.int p6), .val (.int v1), .unset, .unset, .unset] [(.ref b2), (.ref b2)])) _
    refine XS.bipush X21.here hx rfl (hb hby at_58) ?_
    show Steps p.tables e below (T21.setTop (mkF m 60 #[.val (.int p1), .val (.int p2), .val (.int p3), .val (.int p4), .val (.int p5), .val (.int p6), .val (.int v1), .unset, .unset, .unset] [(.int (8 : Int32)), (.ref b2), (.ref b2)])) _
    refine XS.iloadN X21.here hx rfl (hb hby at_60) rfl ?_
    show Steps p.tables e below (T21.setTop (mkF m 61 #[.val (.int p1), .val (.int p2), .val (.int p3), .val (.int p4), .val (.int p5), .val (.int p6), .val (.int v1), .unset, .unset, .unset] [(.int p2), (.int (8 : Int32)), (.ref b2), (.ref b2)])) _
    refine XS.iload X21.here hx rfl (hb hby at_61) rfl ?_
    show Steps p.tables e below (T21.setTop (mkF m 63 #[.val (.int p1), .val (.int p2), .val (.int p3), .val (.int p4), .val (.int p5), .val (.int p6), .val (.int v1), .unset, .unset, .unset] [(.int p6), (.int p2), (.int (8 : Int32)), (.ref b2), (.ref b2)])) _
    refine XS.iadd X21.here hx rfl (hb hby at_63) rfl ?_
    show Steps p.tables e below (T21.setTop (mkF m 64 #[.val (.int p1), .val (.int p2), .val (.int p3), .val (.int p4), .val (.int p5), .val (.int p6), .val (.int v1), .unset, .unset, .unset] [(.int (p2 + p6)), (.int (8 : Int32)), (.ref b2), (.ref b2)])) _
    refine st23 _ ?_
    show Steps p.tables e below (T23.setTop (mkF m 65 #[.val (.int p1), .val (.int p2), .val (.int p3), .val (.int p4), .val (.int p5), .val (.int p6), .val (.int v1), .unset, .unset, .unset] [(.ref b2)])) _
    refine XS.astore X23.here hx rfl (hb hby at_65) rfl rfl (l' := #[.val (.int p1), .val (.int p2), .val (.int p3), .val (.int p4), .val (.int p5), .val (.int p6), .val (.int v1), .val (.ref b2), .unset, .unset]) rfl ?_
    show Steps p.tables e below (T23.setTop (mkF m 67 #[.val (.int p1), .val (.int p2), .val (.int p3), .val (.int p4), .val (.int p5), .val (.int p6), .val (.int v1), .val (.ref b2), .unset, .unset] [])) _
    refine st24 _ ?_
    show Steps p.tables e below (T24.setTop (mkF m 70 #[.val (.int p1), .val (.int p2), .val (.int p3), .val (.int p4), .val (.int p5), .val (.int p6), .val (.int v1), .val (.ref b2), .unset, .unset] [(.ref b24)])) _
    refine XS.dup X24.here hx rfl (hb hby at_70) rfl rfl ?_
    show Steps p.tables e below (T24.setTop (mkF m 71 #[.val (.int p1), .val (.int p2), .val (.int p3), .val (.int p4), .val (.int p5), .val (.int p6), .val (.int v1), .val (.ref b2), .unset, .unset] [(.ref b24), (.ref b24)])) _
    refine st26.trans ?_
    show Steps p.tables e below (T26.setTop (mkF m 74 #[.val (.int p1), .val (.int p2), .val (.int p3), .val (.int p4), .val (.int p5), .val (.int p6), .val (.int v1), .val (.ref b2), .unset, .unset] [(.ref b24)])) _
    refine XS.astore X26.here hx rfl (hb hby at_74) rfl rfl (l' := #[.val (.int p1), .val (.int p2), .val (.int p3), .val (.int p4), .val (.int p5), .val (.int p6), .val (.int v1), .val (.ref b2), .val (.ref b24), .unset]) rfl ?_
    show Steps p.tables e below (T26.setTop (mkF m 76 #[.val (.int p1), .val (.int p2), .val (.int p3), .val (.int p4), .val (.int p5), .val (.int p6), .val (.int v1), .val (.ref b2), .val (.ref b24), .unset] [])) _
    refine XS.iload X26.here hx rfl (hb hby at_76) rfl ?_
    exact ktx
  by_cases hc31_78 : (0 : Int32) < v1
  · have f32 := (f28.keep Kq26 (ninS ne25 nin0))
    obtain ⟨cl33, Ar33, q33, S33, M33, H33, G33⟩ := id f32
    have hin33 : ¬ ((0 : Int32) < 0 ∨ cl33.slots.size ≤ ((0 : Int32)).toNatClampNeg) := inb_of S33 ⟨by decide, by decide⟩
    have hat33 : cl33.slots[((0 : Int32)).toNatClampNeg]? = some (.int p2) := Has.at H33 hin33 rfl
    obtain ⟨cq34, kq34, q34a, q34b, q34c⟩ := isOf hZ rfl Eq26
    obtain ⟨_, _, ⟨T34, L34, k34, n34⟩, -, X34, ⟨Lc34, hQ34, l34, y34, z34⟩, st34⟩ := X26.virtualBack hx (y := (⟨"com/example/viable/viable/IntList", "add", "(I)V"⟩ : MethodName)) (z := (⟨"com/example/viable/viable/IntList", "add", "(I)V"⟩ : MethodName)) hown (mvT hZ (hw _ (List.mem_of_getElem? (i := 36) rfl))) (mvT hZ (hw _ (List.mem_of_getElem? (i := 37) rfl))) (notFace_of_selects (args := #[]) (mvT hZ (hw _ (List.mem_of_getElem? (i := 39) rfl)))) (mvT hZ (hw _ (List.mem_of_getElem? (i := 39) rfl))) (mvT hZ (hw _ (List.mem_of_getElem? (i := 38) rfl))) (by decide) (backOf (W := 0) (rm7 l Z a0 hw [] b24 p2 t26 ([] : List Int32) T26.heap n0 Z26 g_b24 g_t26 ne29 ls26 (Nat.le_of_ble_eq_true rfl)) hZ (hw _ (List.mem_of_getElem? (i := 40) rfl)) (hw _ (List.mem_of_getElem? (i := 4) rfl)) (by decide) (by decide)) q34a q34c (g := (mkF m 87 #[.val (.int p1), .val (.int p2), .val (.int p3), .val (.int p4), .val (.int p5), .val (.int p6), .val (.int v1), .val (.ref b2), .val (.ref b24), .unset] [(.int p2), (.ref b24)])) rfl (by rw [hml]; rfl) (Steps.refl _) (argsL := [(.int p2)]) (rest := []) (lenOf own_pd5 rfl) rfl (by show 2 * 0 + _ ≤ _; exact Nat.le_of_eq rfl) (hb hby at_87) (fun _ _ => ⟨rfl, rfl, (by decide : 3 + 1 ≤ _), (by decide : 19 + 16 ≤ _)⟩)
    dsimp only [Pt.U, Pt.locs, Pt.cells, Pt.slots] at X34 l34 y34 z34 st34 hQ34
    subst l34 y34 z34
    obtain ⟨rfl, Nq34, Kq34, t34, gq34, dq34, ls34⟩ := hQ34
    have N34 := Fr.app N26 Nq34
    have ne36 : b2 ≠ t34 := by rcases dq34 with q | q; rw [q]; exact ne27; exact Nat.ne_of_lt (Nat.lt_of_lt_of_le f32.lt q)
    have ne37 : b24 ≠ t34 := by rcases dq34 with q | q; rw [q]; exact ne29; exact Nat.ne_of_lt (Nat.lt_of_lt_of_le Eq26.lt q)
    have g_t34 := gq34
    have Z34 : n0 ≤ T34.heap.size := Nat.le_trans Z26 Kq34.1
    have Eq34 := ls34.1
    have go38 : own_go p e below (s₁.setTop (entryFrame m #[(.int p1), (.int p2), (.int p3), (.int p4), (.int p5), (.int p6)] maxLocals)) (T34.setTop (mkF m 93 #[.val (.int p1), .val (.int p2), .val (.int p3), .val (.int p4), .val (.int p5), .val (.int p6), .val (.int v1), .val (.ref b2), .val (.ref b24), .unset] [(.int (1 : Int32)), (.int v1)])) := by
      intro ttx ktx
      refine go30 ttx ?_
      show Steps p.tables e below (T26.setTop (mkF m 78 #[.val (.int p1), .val (.int p2), .val (.int p3), .val (.int p4), .val (.int p5), .val (.int p6), .val (.int v1), .val (.ref b2), .val (.ref b24), .unset] [(.int v1)])) _
      refine XS.ifNo X26.here hx rfl (hb hby at_78) rfl ((if0 _ _).trans (tlt hc31_78).2.2.2) ?_
      show Steps p.tables e below (T26.setTop (mkF m 81 #[.val (.int p1), .val (.int p2), .val (.int p3), .val (.int p4), .val (.int p5), .val (.int p6), .val (.int v1), .val (.ref b2), .val (.ref b24), .unset] [])) _
      refine XS.aload X26.here hx rfl (hb hby at_81) rfl rfl ?_
      show Steps p.tables e below (T26.setTop (mkF m 83 #[.val (.int p1), .val (.int p2), .val (.int p3), .val (.int p4), .val (.int p5), .val (.int p6), .val (.int v1), .val (.ref b2), .val (.ref b24), .unset] [(.ref b24)])) _
      refine XS.aload X26.here hx rfl (hb hby at_83) rfl rfl ?_
      show Steps p.tables e below (T26.setTop (mkF m 85 #[.val (.int p1), .val (.int p2), .val (.int p3), .val (.int p4), .val (.int p5), .val (.int p6), .val (.int v1), .val (.ref b2), .val (.ref b24), .unset] [(.ref b2), (.ref b24)])) _
      refine XS.iconst X26.here hx rfl (hb hby at_85) ?_
      show Steps p.tables e below (T26.setTop (mkF m 86 #[.val (.int p1), .val (.int p2), .val (.int p3), .val (.int p4), .val (.int p5), .val (.int p6), .val (.int v1), .val (.ref b2), .val (.ref b24), .unset] [(.int (0 : Int32)), (.ref b2), (.ref b24)])) _
      refine X26.iaload hx (j := (0 : Int32)) (v := (.int p2)) (own_hp rfl Ar33.1) (State.isArrayOf_alike hZ.alike Ar33.2.1) Ar33.2.2 hin33 hat33 (g := (mkF m 86 #[.val (.int p1), .val (.int p2), .val (.int p3), .val (.int p4), .val (.int p5), .val (.int p6), .val (.int v1), .val (.ref b2), .val (.ref b24), .unset] [(.int (0 : Int32)), (.ref b2), (.ref b24)])) rfl rfl (hb hby at_86) _ ?_
      show Steps p.tables e below (T26.setTop (mkF m 87 #[.val (.int p1), .val (.int p2), .val (.int p3), .val (.int p4), .val (.int p5), .val (.int p6), .val (.int v1), .val (.ref b2), .val (.ref b24), .unset] [(.int p2), (.ref b24)])) _
      refine st34.trans ?_
      show Steps p.tables e below (T34.setTop (mkF m 90 #[.val (.int p1), .val (.int p2), .val (.int p3), .val (.int p4), .val (.int p5), .val (.int p6), .val (.int v1), .val (.ref b2), .val (.ref b24), .unset] [])) _
      refine XS.iload X34.here hx rfl (hb hby at_90) rfl ?_
      show Steps p.tables e below (T34.setTop (mkF m 92 #[.val (.int p1), .val (.int p2), .val (.int p3), .val (.int p4), .val (.int p5), .val (.int p6), .val (.int v1), .val (.ref b2), .val (.ref b24), .unset] [(.int v1)])) _
      refine XS.iconst X34.here hx rfl (hb hby at_92) ?_
      exact ktx
    by_cases hc39_93 : (1 : Int32) < v1
    · have f40 := (f32.keep Kq34 (ninS ne25 (ninS ne27 nin0)))
      obtain ⟨cl41, Ar41, q41, S41, M41, H41, G41⟩ := id f40
      have hin41 : ¬ ((1 : Int32) < 0 ∨ cl41.slots.size ≤ ((1 : Int32)).toNatClampNeg) := inb_of S41 ⟨by decide, by decide⟩
      have hat41 : cl41.slots[((1 : Int32)).toNatClampNeg]? = some (.int p3) := Has.at H41 hin41 rfl
      obtain ⟨cq42, kq42, q42a, q42b, q42c⟩ := isOf hZ rfl Eq34
      obtain ⟨_, _, ⟨T42, L42, k42, n42⟩, -, X42, ⟨Lc42, hQ42, l42, y42, z42⟩, st42⟩ := X34.virtualBack hx (y := (⟨"com/example/viable/viable/IntList", "add", "(I)V"⟩ : MethodName)) (z := (⟨"com/example/viable/viable/IntList", "add", "(I)V"⟩ : MethodName)) hown (mvT hZ (hw _ (List.mem_of_getElem? (i := 36) rfl))) (mvT hZ (hw _ (List.mem_of_getElem? (i := 37) rfl))) (notFace_of_selects (args := #[]) (mvT hZ (hw _ (List.mem_of_getElem? (i := 39) rfl)))) (mvT hZ (hw _ (List.mem_of_getElem? (i := 39) rfl))) (mvT hZ (hw _ (List.mem_of_getElem? (i := 38) rfl))) (by decide) (backOf (W := 0) (rm7 l Z a0 hw [] b24 p3 t34 ([p2] : List Int32) T34.heap n0 Z34 g_b24 g_t34 ne37 ls34 (Nat.le_of_ble_eq_true rfl)) hZ (hw _ (List.mem_of_getElem? (i := 40) rfl)) (hw _ (List.mem_of_getElem? (i := 4) rfl)) (by decide) (by decide)) q42a q42c (g := (mkF m 102 #[.val (.int p1), .val (.int p2), .val (.int p3), .val (.int p4), .val (.int p5), .val (.int p6), .val (.int v1), .val (.ref b2), .val (.ref b24), .unset] [(.int p3), (.ref b24)])) rfl (by rw [hml]; rfl) (Steps.refl _) (argsL := [(.int p3)]) (rest := []) (lenOf own_pd5 rfl) rfl (by show 2 * 0 + _ ≤ _; exact Nat.le_of_eq rfl) (hb hby at_102) (fun _ _ => ⟨rfl, rfl, (by decide : 4 + 1 ≤ _), (by decide : 35 + 16 ≤ _)⟩)
      dsimp only [Pt.U, Pt.locs, Pt.cells, Pt.slots] at X42 l42 y42 z42 st42 hQ42
      subst l42 y42 z42
      obtain ⟨rfl, Nq42, Kq42, t42, gq42, dq42, ls42⟩ := hQ42
      have N42 := Fr.app N34 Nq42
      have ne44 : b2 ≠ t42 := by rcases dq42 with q | q; rw [q]; exact ne36; exact Nat.ne_of_lt (Nat.lt_of_lt_of_le f40.lt q)
      have ne45 : b24 ≠ t42 := by rcases dq42 with q | q; rw [q]; exact ne37; exact Nat.ne_of_lt (Nat.lt_of_lt_of_le Eq34.lt q)
      have g_t42 := gq42
      have Z42 : n0 ≤ T42.heap.size := Nat.le_trans Z34 Kq42.1
      have Eq42 := ls42.1
      have go46 : own_go p e below (s₁.setTop (entryFrame m #[(.int p1), (.int p2), (.int p3), (.int p4), (.int p5), (.int p6)] maxLocals)) (T42.setTop (mkF m 108 #[.val (.int p1), .val (.int p2), .val (.int p3), .val (.int p4), .val (.int p5), .val (.int p6), .val (.int v1), .val (.ref b2), .val (.ref b24), .unset] [(.int (2 : Int32)), (.int v1)])) := by
        intro ttx ktx
        refine go38 ttx ?_
        show Steps p.tables e below (T34.setTop (mkF m 93 #[.val (.int p1), .val (.int p2), .val (.int p3), .val (.int p4), .val (.int p5), .val (.int p6), .val (.int v1), .val (.ref b2), .val (.ref b24), .unset] [(.int (1 : Int32)), (.int v1)])) _
        refine XS.icmpNo X34.here hx rfl (hb hby at_93) rfl (tlt hc39_93).2.2.2 ?_
        show Steps p.tables e below (T34.setTop (mkF m 96 #[.val (.int p1), .val (.int p2), .val (.int p3), .val (.int p4), .val (.int p5), .val (.int p6), .val (.int v1), .val (.ref b2), .val (.ref b24), .unset] [])) _
        refine XS.aload X34.here hx rfl (hb hby at_96) rfl rfl ?_
        show Steps p.tables e below (T34.setTop (mkF m 98 #[.val (.int p1), .val (.int p2), .val (.int p3), .val (.int p4), .val (.int p5), .val (.int p6), .val (.int v1), .val (.ref b2), .val (.ref b24), .unset] [(.ref b24)])) _
        refine XS.aload X34.here hx rfl (hb hby at_98) rfl rfl ?_
        show Steps p.tables e below (T34.setTop (mkF m 100 #[.val (.int p1), .val (.int p2), .val (.int p3), .val (.int p4), .val (.int p5), .val (.int p6), .val (.int v1), .val (.ref b2), .val (.ref b24), .unset] [(.ref b2), (.ref b24)])) _
        refine XS.iconst X34.here hx rfl (hb hby at_100) ?_
        show Steps p.tables e below (T34.setTop (mkF m 101 #[.val (.int p1), .val (.int p2), .val (.int p3), .val (.int p4), .val (.int p5), .val (.int p6), .val (.int v1), .val (.ref b2), .val (.ref b24), .unset] [(.int (1 : Int32)), (.ref b2), (.ref b24)])) _
        refine X34.iaload hx (j := (1 : Int32)) (v := (.int p3)) (own_hp rfl Ar41.1) (State.isArrayOf_alike hZ.alike Ar41.2.1) Ar41.2.2 hin41 hat41 (g := (mkF m 101 #[.val (.int p1), .val (.int p2), .val (.int p3), .val (.int p4), .val (.int p5), .val (.int p6), .val (.int v1), .val (.ref b2), .val (.ref b24), .unset] [(.int (1 : Int32)), (.ref b2), (.ref b24)])) rfl rfl (hb hby at_101) _ ?_
        show Steps p.tables e below (T34.setTop (mkF m 102 #[.val (.int p1), .val (.int p2), .val (.int p3), .val (.int p4), .val (.int p5), .val (.int p6), .val (.int v1), .val (.ref b2), .val (.ref b24), .unset] [(.int p3), (.ref b24)])) _
        refine st42.trans ?_
        show Steps p.tables e below (T42.setTop (mkF m 105 #[.val (.int p1), .val (.int p2), .val (.int p3), .val (.int p4), .val (.int p5), .val (.int p6), .val (.int v1), .val (.ref b2), .val (.ref b24), .unset] [])) _
        refine XS.iload X42.here hx rfl (hb hby at_105) rfl ?_
        show Steps p.tables e below (T42.setTop (mkF m 107 #[.val (.int p1), .val (.int p2), .val (.int p3), .val (.int p4), .val (.int p5), .val (.int p6), .val (.int v1), .val (.ref b2), .val (.ref b24), .unset] [(.int v1)])) _
        refine XS.iconst X42.here hx rfl (hb hby at_107) ?_
        exact ktx
      by_cases hc47_108 : (2 : Int32) < v1
      · have f48 := (f40.keep Kq42 (ninS ne25 (ninS ne36 nin0)))
        obtain ⟨cl49, Ar49, q49, S49, M49, H49, G49⟩ := id f48
        have hin49 : ¬ ((2 : Int32) < 0 ∨ cl49.slots.size ≤ ((2 : Int32)).toNatClampNeg) := inb_of S49 ⟨by decide, by decide⟩
        have hat49 : cl49.slots[((2 : Int32)).toNatClampNeg]? = some (.int p4) := Has.at H49 hin49 rfl
        obtain ⟨cq50, kq50, q50a, q50b, q50c⟩ := isOf hZ rfl Eq42
        obtain ⟨_, _, ⟨T50, L50, k50, n50⟩, -, X50, ⟨Lc50, hQ50, l50, y50, z50⟩, st50⟩ := X42.virtualBack hx (y := (⟨"com/example/viable/viable/IntList", "add", "(I)V"⟩ : MethodName)) (z := (⟨"com/example/viable/viable/IntList", "add", "(I)V"⟩ : MethodName)) hown (mvT hZ (hw _ (List.mem_of_getElem? (i := 36) rfl))) (mvT hZ (hw _ (List.mem_of_getElem? (i := 37) rfl))) (notFace_of_selects (args := #[]) (mvT hZ (hw _ (List.mem_of_getElem? (i := 39) rfl)))) (mvT hZ (hw _ (List.mem_of_getElem? (i := 39) rfl))) (mvT hZ (hw _ (List.mem_of_getElem? (i := 38) rfl))) (by decide) (backOf (W := 0) (rm7 l Z a0 hw [] b24 p4 t42 ([p2, p3] : List Int32) T42.heap n0 Z42 g_b24 g_t42 ne45 ls42 (Nat.le_of_ble_eq_true rfl)) hZ (hw _ (List.mem_of_getElem? (i := 40) rfl)) (hw _ (List.mem_of_getElem? (i := 4) rfl)) (by decide) (by decide)) q50a q50c (g := (mkF m 117 #[.val (.int p1), .val (.int p2), .val (.int p3), .val (.int p4), .val (.int p5), .val (.int p6), .val (.int v1), .val (.ref b2), .val (.ref b24), .unset] [(.int p4), (.ref b24)])) rfl (by rw [hml]; rfl) (Steps.refl _) (argsL := [(.int p4)]) (rest := []) (lenOf own_pd5 rfl) rfl (by show 2 * 0 + _ ≤ _; exact Nat.le_of_eq rfl) (hb hby at_117) (fun _ _ => ⟨rfl, rfl, (by decide : 5 + 1 ≤ _), (by decide : 51 + 16 ≤ _)⟩)
        dsimp only [Pt.U, Pt.locs, Pt.cells, Pt.slots] at X50 l50 y50 z50 st50 hQ50
        subst l50 y50 z50
        obtain ⟨rfl, Nq50, Kq50, t50, gq50, dq50, ls50⟩ := hQ50
        have N50 := Fr.app N42 Nq50
        have ne52 : b2 ≠ t50 := by rcases dq50 with q | q; rw [q]; exact ne44; exact Nat.ne_of_lt (Nat.lt_of_lt_of_le f48.lt q)
        have ne53 : b24 ≠ t50 := by rcases dq50 with q | q; rw [q]; exact ne45; exact Nat.ne_of_lt (Nat.lt_of_lt_of_le Eq42.lt q)
        have g_t50 := gq50
        have Z50 : n0 ≤ T50.heap.size := Nat.le_trans Z42 Kq50.1
        have Eq50 := ls50.1
        have go54 : own_go p e below (s₁.setTop (entryFrame m #[(.int p1), (.int p2), (.int p3), (.int p4), (.int p5), (.int p6)] maxLocals)) (T50.setTop (mkF m 123 #[.val (.int p1), .val (.int p2), .val (.int p3), .val (.int p4), .val (.int p5), .val (.int p6), .val (.int v1), .val (.ref b2), .val (.ref b24), .unset] [(.int (3 : Int32)), (.int v1)])) := by
          intro ttx ktx
          refine go46 ttx ?_
          show Steps p.tables e below (T42.setTop (mkF m 108 #[.val (.int p1), .val (.int p2), .val (.int p3), .val (.int p4), .val (.int p5), .val (.int p6), .val (.int v1), .val (.ref b2), .val (.ref b24), .unset] [(.int (2 : Int32)), (.int v1)])) _
          refine XS.icmpNo X42.here hx rfl (hb hby at_108) rfl (tlt hc47_108).2.2.2 ?_
          show Steps p.tables e below (T42.setTop (mkF m 111 #[.val (.int p1), .val (.int p2), .val (.int p3), .val (.int p4), .val (.int p5), .val (.int p6), .val (.int v1), .val (.ref b2), .val (.ref b24), .unset] [])) _
          refine XS.aload X42.here hx rfl (hb hby at_111) rfl rfl ?_
          show Steps p.tables e below (T42.setTop (mkF m 113 #[.val (.int p1), .val (.int p2), .val (.int p3), .val (.int p4), .val (.int p5), .val (.int p6), .val (.int v1), .val (.ref b2), .val (.ref b24), .unset] [(.ref b24)])) _
          refine XS.aload X42.here hx rfl (hb hby at_113) rfl rfl ?_
          show Steps p.tables e below (T42.setTop (mkF m 115 #[.val (.int p1), .val (.int p2), .val (.int p3), .val (.int p4), .val (.int p5), .val (.int p6), .val (.int v1), .val (.ref b2), .val (.ref b24), .unset] [(.ref b2), (.ref b24)])) _
          refine XS.iconst X42.here hx rfl (hb hby at_115) ?_
          show Steps p.tables e below (T42.setTop (mkF m 116 #[.val (.int p1), .val (.int p2), .val (.int p3), .val (.int p4), .val (.int p5), .val (.int p6), .val (.int v1), .val (.ref b2), .val (.ref b24), .unset] [(.int (2 : Int32)), (.ref b2), (.ref b24)])) _
          refine X42.iaload hx (j := (2 : Int32)) (v := (.int p4)) (own_hp rfl Ar49.1) (State.isArrayOf_alike hZ.alike Ar49.2.1) Ar49.2.2 hin49 hat49 (g := (mkF m 116 #[.val (.int p1), .val (.int p2), .val (.int p3), .val (.int p4), .val (.int p5), .val (.int p6), .val (.int v1), .val (.ref b2), .val (.ref b24), .unset] [(.int (2 : Int32)), (.ref b2), (.ref b24)])) rfl rfl (hb hby at_116) _ ?_
          show Steps p.tables e below (T42.setTop (mkF m 117 #[.val (.int p1), .val (.int p2), .val (.int p3), .val (.int p4), .val (.int p5), .val (.int p6), .val (.int v1), .val (.ref b2), .val (.ref b24), .unset] [(.int p4), (.ref b24)])) _
          refine st50.trans ?_
          show Steps p.tables e below (T50.setTop (mkF m 120 #[.val (.int p1), .val (.int p2), .val (.int p3), .val (.int p4), .val (.int p5), .val (.int p6), .val (.int v1), .val (.ref b2), .val (.ref b24), .unset] [])) _
          refine XS.iload X50.here hx rfl (hb hby at_120) rfl ?_
          show Steps p.tables e below (T50.setTop (mkF m 122 #[.val (.int p1), .val (.int p2), .val (.int p3), .val (.int p4), .val (.int p5), .val (.int p6), .val (.int v1), .val (.ref b2), .val (.ref b24), .unset] [(.int v1)])) _
          refine XS.iconst X50.here hx rfl (hb hby at_122) ?_
          exact ktx
        by_cases hc55_123 : (3 : Int32) < v1
        · have f56 := (f48.keep Kq50 (ninS ne25 (ninS ne44 nin0)))
          obtain ⟨cl57, Ar57, q57, S57, M57, H57, G57⟩ := id f56
          have hin57 : ¬ ((3 : Int32) < 0 ∨ cl57.slots.size ≤ ((3 : Int32)).toNatClampNeg) := inb_of S57 ⟨by decide, by decide⟩
          have hat57 : cl57.slots[((3 : Int32)).toNatClampNeg]? = some (.int p5) := Has.at H57 hin57 rfl
          obtain ⟨cq58, kq58, q58a, q58b, q58c⟩ := isOf hZ rfl Eq50
          obtain ⟨_, _, ⟨T58, L58, k58, n58⟩, -, X58, ⟨Lc58, hQ58, l58, y58, z58⟩, st58⟩ := X50.virtualBack hx (y := (⟨"com/example/viable/viable/IntList", "add", "(I)V"⟩ : MethodName)) (z := (⟨"com/example/viable/viable/IntList", "add", "(I)V"⟩ : MethodName)) hown (mvT hZ (hw _ (List.mem_of_getElem? (i := 36) rfl))) (mvT hZ (hw _ (List.mem_of_getElem? (i := 37) rfl))) (notFace_of_selects (args := #[]) (mvT hZ (hw _ (List.mem_of_getElem? (i := 39) rfl)))) (mvT hZ (hw _ (List.mem_of_getElem? (i := 39) rfl))) (mvT hZ (hw _ (List.mem_of_getElem? (i := 38) rfl))) (by decide) (backOf (W := 0) (rm7 l Z a0 hw [] b24 p5 t50 ([p2, p3, p4] : List Int32) T50.heap n0 Z50 g_b24 g_t50 ne53 ls50 (Nat.le_of_ble_eq_true rfl)) hZ (hw _ (List.mem_of_getElem? (i := 40) rfl)) (hw _ (List.mem_of_getElem? (i := 4) rfl)) (by decide) (by decide)) q58a q58c (g := (mkF m 132 #[.val (.int p1), .val (.int p2), .val (.int p3), .val (.int p4), .val (.int p5), .val (.int p6), .val (.int v1), .val (.ref b2), .val (.ref b24), .unset] [(.int p5), (.ref b24)])) rfl (by rw [hml]; rfl) (Steps.refl _) (argsL := [(.int p5)]) (rest := []) (lenOf own_pd5 rfl) rfl (by show 2 * 0 + _ ≤ _; exact Nat.le_of_eq rfl) (hb hby at_132) (fun _ _ => ⟨rfl, rfl, (by decide : 6 + 1 ≤ _), (by decide : 67 + 16 ≤ _)⟩)
          dsimp only [Pt.U, Pt.locs, Pt.cells, Pt.slots] at X58 l58 y58 z58 st58 hQ58
          subst l58 y58 z58
          obtain ⟨rfl, Nq58, Kq58, t58, gq58, dq58, ls58⟩ := hQ58
          have N58 := Fr.app N50 Nq58
          have ne60 : b2 ≠ t58 := by rcases dq58 with q | q; rw [q]; exact ne52; exact Nat.ne_of_lt (Nat.lt_of_lt_of_le f56.lt q)
          have ne61 : b24 ≠ t58 := by rcases dq58 with q | q; rw [q]; exact ne53; exact Nat.ne_of_lt (Nat.lt_of_lt_of_le Eq50.lt q)
          have g_t58 := gq58
          have Z58 : n0 ≤ T58.heap.size := Nat.le_trans Z50 Kq58.1
          have Eq58 := ls58.1
          have go62 : own_go p e below (s₁.setTop (entryFrame m #[(.int p1), (.int p2), (.int p3), (.int p4), (.int p5), (.int p6)] maxLocals)) (T58.setTop (mkF m 138 #[.val (.int p1), .val (.int p2), .val (.int p3), .val (.int p4), .val (.int p5), .val (.int p6), .val (.int v1), .val (.ref b2), .val (.ref b24), .unset] [(.int (4 : Int32)), (.int v1)])) := by
            intro ttx ktx
            refine go54 ttx ?_
            show Steps p.tables e below (T50.setTop (mkF m 123 #[.val (.int p1), .val (.int p2), .val (.int p3), .val (.int p4), .val (.int p5), .val (.int p6), .val (.int v1), .val (.ref b2), .val (.ref b24), .unset] [(.int (3 : Int32)), (.int v1)])) _
            refine XS.icmpNo X50.here hx rfl (hb hby at_123) rfl (tlt hc55_123).2.2.2 ?_
            show Steps p.tables e below (T50.setTop (mkF m 126 #[.val (.int p1), .val (.int p2), .val (.int p3), .val (.int p4), .val (.int p5), .val (.int p6), .val (.int v1), .val (.ref b2), .val (.ref b24), .unset] [])) _
            refine XS.aload X50.here hx rfl (hb hby at_126) rfl rfl ?_
            show Steps p.tables e below (T50.setTop (mkF m 128 #[.val (.int p1), .val (.int p2), .val (.int p3), .val (.int p4), .val (.int p5), .val (.int p6), .val (.int v1), .val (.ref b2), .val (.ref b24), .unset] [(.ref b24)])) _
            refine XS.aload X50.here hx rfl (hb hby at_128) rfl rfl ?_
            show Steps p.tables e below (T50.setTop (mkF m 130 #[.val (.int p1), .val (.int p2), .val (.int p3), .val (.int p4), .val (.int p5), .val (.int p6), .val (.int v1), .val (.ref b2), .val (.ref b24), .unset] [(.ref b2), (.ref b24)])) _
            refine XS.iconst X50.here hx rfl (hb hby at_130) ?_
            show Steps p.tables e below (T50.setTop (mkF m 131 #[.val (.int p1), .val (.int p2), .val (.int p3), .val (.int p4), .val (.int p5), .val (.int p6), .val (.int v1), .val (.ref b2), .val (.ref b24), .unset] [(.int (3 : Int32)), (.ref b2), (.ref b24)])) _
            refine X50.iaload hx (j := (3 : Int32)) (v := (.int p5)) (own_hp rfl Ar57.1) (State.isArrayOf_alike hZ.alike Ar57.2.1) Ar57.2.2 hin57 hat57 (g := (mkF m 131 #[.val (.int p1), .val (.int p2), .val (.int p3), .val (.int p4), .val (.int p5), .val (.int p6), .val (.int v1), .val (.ref b2), .val (.ref b24), .unset] [(.int (3 : Int32)), (.ref b2), (.ref b24)])) rfl rfl (hb hby at_131) _ ?_
            show Steps p.tables e below (T50.setTop (mkF m 132 #[.val (.int p1), .val (.int p2), .val (.int p3), .val (.int p4), .val (.int p5), .val (.int p6), .val (.int v1), .val (.ref b2), .val (.ref b24), .unset] [(.int p5), (.ref b24)])) _
            refine st58.trans ?_
            show Steps p.tables e below (T58.setTop (mkF m 135 #[.val (.int p1), .val (.int p2), .val (.int p3), .val (.int p4), .val (.int p5), .val (.int p6), .val (.int v1), .val (.ref b2), .val (.ref b24), .unset] [])) _
            refine XS.iload X58.here hx rfl (hb hby at_135) rfl ?_
            show Steps p.tables e below (T58.setTop (mkF m 137 #[.val (.int p1), .val (.int p2), .val (.int p3), .val (.int p4), .val (.int p5), .val (.int p6), .val (.int v1), .val (.ref b2), .val (.ref b24), .unset] [(.int v1)])) _
            refine XS.iconst X58.here hx rfl (hb hby at_137) ?_
            exact ktx
          by_cases hc63_138 : (4 : Int32) < v1
          · have f64 := (f56.keep Kq58 (ninS ne25 (ninS ne52 nin0)))
            obtain ⟨cl65, Ar65, q65, S65, M65, H65, G65⟩ := id f64
            have hin65 : ¬ ((4 : Int32) < 0 ∨ cl65.slots.size ≤ ((4 : Int32)).toNatClampNeg) := inb_of S65 ⟨by decide, by decide⟩
            have hat65 : cl65.slots[((4 : Int32)).toNatClampNeg]? = some (.int p6) := Has.at H65 hin65 rfl
            obtain ⟨cq66, kq66, q66a, q66b, q66c⟩ := isOf hZ rfl Eq58
            obtain ⟨_, _, ⟨T66, L66, k66, n66⟩, -, X66, ⟨Lc66, hQ66, l66, y66, z66⟩, st66⟩ := X58.virtualBack hx (y := (⟨"com/example/viable/viable/IntList", "add", "(I)V"⟩ : MethodName)) (z := (⟨"com/example/viable/viable/IntList", "add", "(I)V"⟩ : MethodName)) hown (mvT hZ (hw _ (List.mem_of_getElem? (i := 36) rfl))) (mvT hZ (hw _ (List.mem_of_getElem? (i := 37) rfl))) (notFace_of_selects (args := #[]) (mvT hZ (hw _ (List.mem_of_getElem? (i := 39) rfl)))) (mvT hZ (hw _ (List.mem_of_getElem? (i := 39) rfl))) (mvT hZ (hw _ (List.mem_of_getElem? (i := 38) rfl))) (by decide) (backOf (W := 0) (rm7 l Z a0 hw [] b24 p6 t58 ([p2, p3, p4, p5] : List Int32) T58.heap n0 Z58 g_b24 g_t58 ne61 ls58 (Nat.le_of_ble_eq_true rfl)) hZ (hw _ (List.mem_of_getElem? (i := 40) rfl)) (hw _ (List.mem_of_getElem? (i := 4) rfl)) (by decide) (by decide)) q66a q66c (g := (mkF m 147 #[.val (.int p1), .val (.int p2), .val (.int p3), .val (.int p4), .val (.int p5), .val (.int p6), .val (.int v1), .val (.ref b2), .val (.ref b24), .unset] [(.int p6), (.ref b24)])) rfl (by rw [hml]; rfl) (Steps.refl _) (argsL := [(.int p6)]) (rest := []) (lenOf own_pd5 rfl) rfl (by show 2 * 0 + _ ≤ _; exact Nat.le_of_eq rfl) (hb hby at_147) (fun _ _ => ⟨rfl, rfl, (by decide : 7 + 1 ≤ _), (by decide : 83 + 16 ≤ _)⟩)
            dsimp only [Pt.U, Pt.locs, Pt.cells, Pt.slots] at X66 l66 y66 z66 st66 hQ66
            subst l66 y66 z66
            obtain ⟨rfl, Nq66, Kq66, t66, gq66, dq66, ls66⟩ := hQ66
            have N66 := Fr.app N58 Nq66
            have ne68 : b2 ≠ t66 := by rcases dq66 with q | q; rw [q]; exact ne60; exact Nat.ne_of_lt (Nat.lt_of_lt_of_le f64.lt q)
            have ne69 : b24 ≠ t66 := by rcases dq66 with q | q; rw [q]; exact ne61; exact Nat.ne_of_lt (Nat.lt_of_lt_of_le Eq58.lt q)
            have g_t66 := gq66
            have Z66 : n0 ≤ T66.heap.size := Nat.le_trans Z58 Kq66.1
            have Eq66 := ls66.1
            have go70 : own_go p e below (s₁.setTop (entryFrame m #[(.int p1), (.int p2), (.int p3), (.int p4), (.int p5), (.int p6)] maxLocals)) (T66.setTop (mkF m 153 #[.val (.int p1), .val (.int p2), .val (.int p3), .val (.int p4), .val (.int p5), .val (.int p6), .val (.int v1), .val (.ref b2), .val (.ref b24), .unset] [(.int (5 : Int32)), (.int v1)])) := by
              intro ttx ktx
              refine go62 ttx ?_
              show Steps p.tables e below (T58.setTop (mkF m 138 #[.val (.int p1), .val (.int p2), .val (.int p3), .val (.int p4), .val (.int p5), .val (.int p6), .val (.int v1), .val (.ref b2), .val (.ref b24), .unset] [(.int (4 : Int32)), (.int v1)])) _
              refine XS.icmpNo X58.here hx rfl (hb hby at_138) rfl (tlt hc63_138).2.2.2 ?_
              show Steps p.tables e below (T58.setTop (mkF m 141 #[.val (.int p1), .val (.int p2), .val (.int p3), .val (.int p4), .val (.int p5), .val (.int p6), .val (.int v1), .val (.ref b2), .val (.ref b24), .unset] [])) _
              refine XS.aload X58.here hx rfl (hb hby at_141) rfl rfl ?_
              show Steps p.tables e below (T58.setTop (mkF m 143 #[.val (.int p1), .val (.int p2), .val (.int p3), .val (.int p4), .val (.int p5), .val (.int p6), .val (.int v1), .val (.ref b2), .val (.ref b24), .unset] [(.ref b24)])) _
              refine XS.aload X58.here hx rfl (hb hby at_143) rfl rfl ?_
              show Steps p.tables e below (T58.setTop (mkF m 145 #[.val (.int p1), .val (.int p2), .val (.int p3), .val (.int p4), .val (.int p5), .val (.int p6), .val (.int v1), .val (.ref b2), .val (.ref b24), .unset] [(.ref b2), (.ref b24)])) _
              refine XS.iconst X58.here hx rfl (hb hby at_145) ?_
              show Steps p.tables e below (T58.setTop (mkF m 146 #[.val (.int p1), .val (.int p2), .val (.int p3), .val (.int p4), .val (.int p5), .val (.int p6), .val (.int v1), .val (.ref b2), .val (.ref b24), .unset] [(.int (4 : Int32)), (.ref b2), (.ref b24)])) _
              refine X58.iaload hx (j := (4 : Int32)) (v := (.int p6)) (own_hp rfl Ar65.1) (State.isArrayOf_alike hZ.alike Ar65.2.1) Ar65.2.2 hin65 hat65 (g := (mkF m 146 #[.val (.int p1), .val (.int p2), .val (.int p3), .val (.int p4), .val (.int p5), .val (.int p6), .val (.int v1), .val (.ref b2), .val (.ref b24), .unset] [(.int (4 : Int32)), (.ref b2), (.ref b24)])) rfl rfl (hb hby at_146) _ ?_
              show Steps p.tables e below (T58.setTop (mkF m 147 #[.val (.int p1), .val (.int p2), .val (.int p3), .val (.int p4), .val (.int p5), .val (.int p6), .val (.int v1), .val (.ref b2), .val (.ref b24), .unset] [(.int p6), (.ref b24)])) _
              refine st66.trans ?_
              show Steps p.tables e below (T66.setTop (mkF m 150 #[.val (.int p1), .val (.int p2), .val (.int p3), .val (.int p4), .val (.int p5), .val (.int p6), .val (.int v1), .val (.ref b2), .val (.ref b24), .unset] [])) _
              refine XS.iload X66.here hx rfl (hb hby at_150) rfl ?_
              show Steps p.tables e below (T66.setTop (mkF m 152 #[.val (.int p1), .val (.int p2), .val (.int p3), .val (.int p4), .val (.int p5), .val (.int p6), .val (.int v1), .val (.ref b2), .val (.ref b24), .unset] [(.int v1)])) _
              refine XS.iconst X66.here hx rfl (hb hby at_152) ?_
              exact ktx
            by_cases hc71_153 : (5 : Int32) < v1
            · have f72 := (f64.keep Kq66 (ninS ne25 (ninS ne60 nin0)))
              obtain ⟨cl73, Ar73, q73, S73, M73, H73, G73⟩ := id f72
              have hin73 : ¬ ((5 : Int32) < 0 ∨ cl73.slots.size ≤ ((5 : Int32)).toNatClampNeg) := inb_of S73 ⟨by decide, by decide⟩
              have hat73 : cl73.slots[((5 : Int32)).toNatClampNeg]? = some (.int (p2 ^^^ p3)) := Has.at H73 hin73 rfl
              obtain ⟨cq74, kq74, q74a, q74b, q74c⟩ := isOf hZ rfl Eq66
              obtain ⟨_, _, ⟨T74, L74, k74, n74⟩, -, X74, ⟨Lc74, hQ74, l74, y74, z74⟩, st74⟩ := X66.virtualBack hx (y := (⟨"com/example/viable/viable/IntList", "add", "(I)V"⟩ : MethodName)) (z := (⟨"com/example/viable/viable/IntList", "add", "(I)V"⟩ : MethodName)) hown (mvT hZ (hw _ (List.mem_of_getElem? (i := 36) rfl))) (mvT hZ (hw _ (List.mem_of_getElem? (i := 37) rfl))) (notFace_of_selects (args := #[]) (mvT hZ (hw _ (List.mem_of_getElem? (i := 39) rfl)))) (mvT hZ (hw _ (List.mem_of_getElem? (i := 39) rfl))) (mvT hZ (hw _ (List.mem_of_getElem? (i := 38) rfl))) (by decide) (backOf (W := 0) (rm7 l Z a0 hw [] b24 (p2 ^^^ p3) t66 ([p2, p3, p4, p5, p6] : List Int32) T66.heap n0 Z66 g_b24 g_t66 ne69 ls66 (Nat.le_of_ble_eq_true rfl)) hZ (hw _ (List.mem_of_getElem? (i := 40) rfl)) (hw _ (List.mem_of_getElem? (i := 4) rfl)) (by decide) (by decide)) q74a q74c (g := (mkF m 162 #[.val (.int p1), .val (.int p2), .val (.int p3), .val (.int p4), .val (.int p5), .val (.int p6), .val (.int v1), .val (.ref b2), .val (.ref b24), .unset] [(.int (p2 ^^^ p3)), (.ref b24)])) rfl (by rw [hml]; rfl) (Steps.refl _) (argsL := [(.int (p2 ^^^ p3))]) (rest := []) (lenOf own_pd5 rfl) rfl (by show 2 * 0 + _ ≤ _; exact Nat.le_of_eq rfl) (hb hby at_162) (fun _ _ => ⟨rfl, rfl, (by decide : 8 + 1 ≤ _), (by decide : 99 + 16 ≤ _)⟩)
              dsimp only [Pt.U, Pt.locs, Pt.cells, Pt.slots] at X74 l74 y74 z74 st74 hQ74
              subst l74 y74 z74
              obtain ⟨rfl, Nq74, Kq74, t74, gq74, dq74, ls74⟩ := hQ74
              have N74 := Fr.app N66 Nq74
              have ne76 : b2 ≠ t74 := by rcases dq74 with q | q; rw [q]; exact ne68; exact Nat.ne_of_lt (Nat.lt_of_lt_of_le f72.lt q)
              have ne77 : b24 ≠ t74 := by rcases dq74 with q | q; rw [q]; exact ne69; exact Nat.ne_of_lt (Nat.lt_of_lt_of_le Eq66.lt q)
              have g_t74 := gq74
              have Z74 : n0 ≤ T74.heap.size := Nat.le_trans Z66 Kq74.1
              have Eq74 := ls74.1
              have go78 : own_go p e below (s₁.setTop (entryFrame m #[(.int p1), (.int p2), (.int p3), (.int p4), (.int p5), (.int p6)] maxLocals)) (T74.setTop (mkF m 169 #[.val (.int p1), .val (.int p2), .val (.int p3), .val (.int p4), .val (.int p5), .val (.int p6), .val (.int v1), .val (.ref b2), .val (.ref b24), .unset] [(.int (6 : Int32)), (.int v1)])) := by
                intro ttx ktx
                refine go70 ttx ?_
                show Steps p.tables e below (T66.setTop (mkF m 153 #[.val (.int p1), .val (.int p2), .val (.int p3), .val (.int p4), .val (.int p5), .val (.int p6), .val (.int v1), .val (.ref b2), .val (.ref b24), .unset] [(.int (5 : Int32)), (.int v1)])) _
                refine XS.icmpNo X66.here hx rfl (hb hby at_153) rfl (tlt hc71_153).2.2.2 ?_
                show Steps p.tables e below (T66.setTop (mkF m 156 #[.val (.int p1), .val (.int p2), .val (.int p3), .val (.int p4), .val (.int p5), .val (.int p6), .val (.int v1), .val (.ref b2), .val (.ref b24), .unset] [])) _
                refine XS.aload X66.here hx rfl (hb hby at_156) rfl rfl ?_
                show Steps p.tables e below (T66.setTop (mkF m 158 #[.val (.int p1), .val (.int p2), .val (.int p3), .val (.int p4), .val (.int p5), .val (.int p6), .val (.int v1), .val (.ref b2), .val (.ref b24), .unset] [(.ref b24)])) _
                refine XS.aload X66.here hx rfl (hb hby at_158) rfl rfl ?_
                show Steps p.tables e below (T66.setTop (mkF m 160 #[.val (.int p1), .val (.int p2), .val (.int p3), .val (.int p4), .val (.int p5), .val (.int p6), .val (.int v1), .val (.ref b2), .val (.ref b24), .unset] [(.ref b2), (.ref b24)])) _
                refine XS.iconst X66.here hx rfl (hb hby at_160) ?_
                show Steps p.tables e below (T66.setTop (mkF m 161 #[.val (.int p1), .val (.int p2), .val (.int p3), .val (.int p4), .val (.int p5), .val (.int p6), .val (.int v1), .val (.ref b2), .val (.ref b24), .unset] [(.int (5 : Int32)), (.ref b2), (.ref b24)])) _
                refine X66.iaload hx (j := (5 : Int32)) (v := (.int (p2 ^^^ p3))) (own_hp rfl Ar73.1) (State.isArrayOf_alike hZ.alike Ar73.2.1) Ar73.2.2 hin73 hat73 (g := (mkF m 161 #[.val (.int p1), .val (.int p2), .val (.int p3), .val (.int p4), .val (.int p5), .val (.int p6), .val (.int v1), .val (.ref b2), .val (.ref b24), .unset] [(.int (5 : Int32)), (.ref b2), (.ref b24)])) rfl rfl (hb hby at_161) _ ?_
                show Steps p.tables e below (T66.setTop (mkF m 162 #[.val (.int p1), .val (.int p2), .val (.int p3), .val (.int p4), .val (.int p5), .val (.int p6), .val (.int v1), .val (.ref b2), .val (.ref b24), .unset] [(.int (p2 ^^^ p3)), (.ref b24)])) _
                refine st74.trans ?_
                show Steps p.tables e below (T74.setTop (mkF m 165 #[.val (.int p1), .val (.int p2), .val (.int p3), .val (.int p4), .val (.int p5), .val (.int p6), .val (.int v1), .val (.ref b2), .val (.ref b24), .unset] [])) _
                refine XS.iload X74.here hx rfl (hb hby at_165) rfl ?_
                show Steps p.tables e below (T74.setTop (mkF m 167 #[.val (.int p1), .val (.int p2), .val (.int p3), .val (.int p4), .val (.int p5), .val (.int p6), .val (.int v1), .val (.ref b2), .val (.ref b24), .unset] [(.int v1)])) _
                refine XS.bipush X74.here hx rfl (hb hby at_167) ?_
                exact ktx
              by_cases hc79_169 : (6 : Int32) < v1
              · have f80 := (f72.keep Kq74 (ninS ne25 (ninS ne68 nin0)))
                obtain ⟨cl81, Ar81, q81, S81, M81, H81, G81⟩ := id f80
                have hin81 : ¬ ((6 : Int32) < 0 ∨ cl81.slots.size ≤ ((6 : Int32)).toNatClampNeg) := inb_of S81 ⟨by decide, by decide⟩
                have hat81 : cl81.slots[((6 : Int32)).toNatClampNeg]? = some (.int (p4 - p5)) := Has.at H81 hin81 rfl
                obtain ⟨cq82, kq82, q82a, q82b, q82c⟩ := isOf hZ rfl Eq74
                obtain ⟨_, _, ⟨T82, L82, k82, n82⟩, -, X82, ⟨Lc82, hQ82, l82, y82, z82⟩, st82⟩ := X74.virtualBack hx (y := (⟨"com/example/viable/viable/IntList", "add", "(I)V"⟩ : MethodName)) (z := (⟨"com/example/viable/viable/IntList", "add", "(I)V"⟩ : MethodName)) hown (mvT hZ (hw _ (List.mem_of_getElem? (i := 36) rfl))) (mvT hZ (hw _ (List.mem_of_getElem? (i := 37) rfl))) (notFace_of_selects (args := #[]) (mvT hZ (hw _ (List.mem_of_getElem? (i := 39) rfl)))) (mvT hZ (hw _ (List.mem_of_getElem? (i := 39) rfl))) (mvT hZ (hw _ (List.mem_of_getElem? (i := 38) rfl))) (by decide) (backOf (W := 0) (rm7 l Z a0 hw [] b24 (p4 - p5) t74 ([p2, p3, p4, p5, p6, (p2 ^^^ p3)] : List Int32) T74.heap n0 Z74 g_b24 g_t74 ne77 ls74 (Nat.le_of_ble_eq_true rfl)) hZ (hw _ (List.mem_of_getElem? (i := 40) rfl)) (hw _ (List.mem_of_getElem? (i := 4) rfl)) (by decide) (by decide)) q82a q82c (g := (mkF m 179 #[.val (.int p1), .val (.int p2), .val (.int p3), .val (.int p4), .val (.int p5), .val (.int p6), .val (.int v1), .val (.ref b2), .val (.ref b24), .unset] [(.int (p4 - p5)), (.ref b24)])) rfl (by rw [hml]; rfl) (Steps.refl _) (argsL := [(.int (p4 - p5))]) (rest := []) (lenOf own_pd5 rfl) rfl (by show 2 * 0 + _ ≤ _; exact Nat.le_of_eq rfl) (hb hby at_179) (fun _ _ => ⟨rfl, rfl, (by decide : 9 + 1 ≤ _), (by decide : 115 + 16 ≤ _)⟩)
                dsimp only [Pt.U, Pt.locs, Pt.cells, Pt.slots] at X82 l82 y82 z82 st82 hQ82
                subst l82 y82 z82
                obtain ⟨rfl, Nq82, Kq82, t82, gq82, dq82, ls82⟩ := hQ82
                have N82 := Fr.app N74 Nq82
                have ne84 : b2 ≠ t82 := by rcases dq82 with q | q; rw [q]; exact ne76; exact Nat.ne_of_lt (Nat.lt_of_lt_of_le f80.lt q)
                have ne85 : b24 ≠ t82 := by rcases dq82 with q | q; rw [q]; exact ne77; exact Nat.ne_of_lt (Nat.lt_of_lt_of_le Eq74.lt q)
                have g_t82 := gq82
                have Z82 : n0 ≤ T82.heap.size := Nat.le_trans Z74 Kq82.1
                have Eq82 := ls82.1
                have go86 : own_go p e below (s₁.setTop (entryFrame m #[(.int p1), (.int p2), (.int p3), (.int p4), (.int p5), (.int p6)] maxLocals)) (T82.setTop (mkF m 186 #[.val (.int p1), .val (.int p2), .val (.int p3), .val (.int p4), .val (.int p5), .val (.int p6), .val (.int v1), .val (.ref b2), .val (.ref b24), .unset] [(.int (7 : Int32)), (.int v1)])) := by
                  intro ttx ktx
                  refine go78 ttx ?_
                  show Steps p.tables e below (T74.setTop (mkF m 169 #[.val (.int p1), .val (.int p2), .val (.int p3), .val (.int p4), .val (.int p5), .val (.int p6), .val (.int v1), .val (.ref b2), .val (.ref b24), .unset] [(.int (6 : Int32)), (.int v1)])) _
                  refine XS.icmpNo X74.here hx rfl (hb hby at_169) rfl (tlt hc79_169).2.2.2 ?_
                  show Steps p.tables e below (T74.setTop (mkF m 172 #[.val (.int p1), .val (.int p2), .val (.int p3), .val (.int p4), .val (.int p5), .val (.int p6), .val (.int v1), .val (.ref b2), .val (.ref b24), .unset] [])) _
                  refine XS.aload X74.here hx rfl (hb hby at_172) rfl rfl ?_
                  show Steps p.tables e below (T74.setTop (mkF m 174 #[.val (.int p1), .val (.int p2), .val (.int p3), .val (.int p4), .val (.int p5), .val (.int p6), .val (.int v1), .val (.ref b2), .val (.ref b24), .unset] [(.ref b24)])) _
                  refine XS.aload X74.here hx rfl (hb hby at_174) rfl rfl ?_
                  show Steps p.tables e below (T74.setTop (mkF m 176 #[.val (.int p1), .val (.int p2), .val (.int p3), .val (.int p4), .val (.int p5), .val (.int p6), .val (.int v1), .val (.ref b2), .val (.ref b24), .unset] [(.ref b2), (.ref b24)])) _
                  refine XS.bipush X74.here hx rfl (hb hby at_176) ?_
                  show Steps p.tables e below (T74.setTop (mkF m 178 #[.val (.int p1), .val (.int p2), .val (.int p3), .val (.int p4), .val (.int p5), .val (.int p6), .val (.int v1), .val (.ref b2), .val (.ref b24), .unset] [(.int (6 : Int32)), (.ref b2), (.ref b24)])) _
                  refine X74.iaload hx (j := (6 : Int32)) (v := (.int (p4 - p5))) (own_hp rfl Ar81.1) (State.isArrayOf_alike hZ.alike Ar81.2.1) Ar81.2.2 hin81 hat81 (g := (mkF m 178 #[.val (.int p1), .val (.int p2), .val (.int p3), .val (.int p4), .val (.int p5), .val (.int p6), .val (.int v1), .val (.ref b2), .val (.ref b24), .unset] [(.int (6 : Int32)), (.ref b2), (.ref b24)])) rfl rfl (hb hby at_178) _ ?_
                  show Steps p.tables e below (T74.setTop (mkF m 179 #[.val (.int p1), .val (.int p2), .val (.int p3), .val (.int p4), .val (.int p5), .val (.int p6), .val (.int v1), .val (.ref b2), .val (.ref b24), .unset] [(.int (p4 - p5)), (.ref b24)])) _
                  refine st82.trans ?_
                  show Steps p.tables e below (T82.setTop (mkF m 182 #[.val (.int p1), .val (.int p2), .val (.int p3), .val (.int p4), .val (.int p5), .val (.int p6), .val (.int v1), .val (.ref b2), .val (.ref b24), .unset] [])) _
                  refine XS.iload X82.here hx rfl (hb hby at_182) rfl ?_
                  show Steps p.tables e below (T82.setTop (mkF m 184 #[.val (.int p1), .val (.int p2), .val (.int p3), .val (.int p4), .val (.int p5), .val (.int p6), .val (.int v1), .val (.ref b2), .val (.ref b24), .unset] [(.int v1)])) _
                  refine XS.bipush X82.here hx rfl (hb hby at_184) ?_
                  exact ktx
                by_cases hc87_186 : (7 : Int32) < v1
                · have f88 := (f80.keep Kq82 (ninS ne25 (ninS ne76 nin0)))
                  obtain ⟨cl89, Ar89, q89, S89, M89, H89, G89⟩ := id f88
                  have hin89 : ¬ ((7 : Int32) < 0 ∨ cl89.slots.size ≤ ((7 : Int32)).toNatClampNeg) := inb_of S89 ⟨by decide, by decide⟩
                  have hat89 : cl89.slots[((7 : Int32)).toNatClampNeg]? = some (.int (p6 ^^^ (-1 : Int32))) := Has.at H89 hin89 rfl
                  obtain ⟨cq90, kq90, q90a, q90b, q90c⟩ := isOf hZ rfl Eq82
                  obtain ⟨_, _, ⟨T90, L90, k90, n90⟩, -, X90, ⟨Lc90, hQ90, l90, y90, z90⟩, st90⟩ := X82.virtualBack hx (y := (⟨"com/example/viable/viable/IntList", "add", "(I)V"⟩ : MethodName)) (z := (⟨"com/example/viable/viable/IntList", "add", "(I)V"⟩ : MethodName)) hown (mvT hZ (hw _ (List.mem_of_getElem? (i := 36) rfl))) (mvT hZ (hw _ (List.mem_of_getElem? (i := 37) rfl))) (notFace_of_selects (args := #[]) (mvT hZ (hw _ (List.mem_of_getElem? (i := 39) rfl)))) (mvT hZ (hw _ (List.mem_of_getElem? (i := 39) rfl))) (mvT hZ (hw _ (List.mem_of_getElem? (i := 38) rfl))) (by decide) (backOf (W := 0) (rm7 l Z a0 hw [] b24 (p6 ^^^ (-1 : Int32)) t82 ([p2, p3, p4, p5, p6, (p2 ^^^ p3), (p4 - p5)] : List Int32) T82.heap n0 Z82 g_b24 g_t82 ne85 ls82 (Nat.le_of_ble_eq_true rfl)) hZ (hw _ (List.mem_of_getElem? (i := 40) rfl)) (hw _ (List.mem_of_getElem? (i := 4) rfl)) (by decide) (by decide)) q90a q90c (g := (mkF m 196 #[.val (.int p1), .val (.int p2), .val (.int p3), .val (.int p4), .val (.int p5), .val (.int p6), .val (.int v1), .val (.ref b2), .val (.ref b24), .unset] [(.int (p6 ^^^ (-1 : Int32))), (.ref b24)])) rfl (by rw [hml]; rfl) (Steps.refl _) (argsL := [(.int (p6 ^^^ (-1 : Int32)))]) (rest := []) (lenOf own_pd5 rfl) rfl (by show 2 * 0 + _ ≤ _; exact Nat.le_of_eq rfl) (hb hby at_196) (fun _ _ => ⟨rfl, rfl, (by decide : 10 + 1 ≤ _), (by decide : 131 + 16 ≤ _)⟩)
                  dsimp only [Pt.U, Pt.locs, Pt.cells, Pt.slots] at X90 l90 y90 z90 st90 hQ90
                  subst l90 y90 z90
                  obtain ⟨rfl, Nq90, Kq90, t90, gq90, dq90, ls90⟩ := hQ90
                  have N90 := Fr.app N82 Nq90
                  have ne92 : b2 ≠ t90 := by rcases dq90 with q | q; rw [q]; exact ne84; exact Nat.ne_of_lt (Nat.lt_of_lt_of_le f88.lt q)
                  have ne93 : b24 ≠ t90 := by rcases dq90 with q | q; rw [q]; exact ne85; exact Nat.ne_of_lt (Nat.lt_of_lt_of_le Eq82.lt q)
                  have g_t90 := gq90
                  have Z90 : n0 ≤ T90.heap.size := Nat.le_trans Z82 Kq90.1
                  have Eq90 := ls90.1
                  have go94 : own_go p e below (s₁.setTop (entryFrame m #[(.int p1), (.int p2), (.int p3), (.int p4), (.int p5), (.int p6)] maxLocals)) (T90.setTop (mkF m 203 #[.val (.int p1), .val (.int p2), .val (.int p3), .val (.int p4), .val (.int p5), .val (.int p6), .val (.int v1), .val (.ref b2), .val (.ref b24), .unset] [(.int (8 : Int32)), (.int v1)])) := by
                    intro ttx ktx
                    refine go86 ttx ?_
                    show Steps p.tables e below (T82.setTop (mkF m 186 #[.val (.int p1), .val (.int p2), .val (.int p3), .val (.int p4), .val (.int p5), .val (.int p6), .val (.int v1), .val (.ref b2), .val (.ref b24), .unset] [(.int (7 : Int32)), (.int v1)])) _
                    refine XS.icmpNo X82.here hx rfl (hb hby at_186) rfl (tlt hc87_186).2.2.2 ?_
                    show Steps p.tables e below (T82.setTop (mkF m 189 #[.val (.int p1), .val (.int p2), .val (.int p3), .val (.int p4), .val (.int p5), .val (.int p6), .val (.int v1), .val (.ref b2), .val (.ref b24), .unset] [])) _
                    refine XS.aload X82.here hx rfl (hb hby at_189) rfl rfl ?_
                    show Steps p.tables e below (T82.setTop (mkF m 191 #[.val (.int p1), .val (.int p2), .val (.int p3), .val (.int p4), .val (.int p5), .val (.int p6), .val (.int v1), .val (.ref b2), .val (.ref b24), .unset] [(.ref b24)])) _
                    refine XS.aload X82.here hx rfl (hb hby at_191) rfl rfl ?_
                    show Steps p.tables e below (T82.setTop (mkF m 193 #[.val (.int p1), .val (.int p2), .val (.int p3), .val (.int p4), .val (.int p5), .val (.int p6), .val (.int v1), .val (.ref b2), .val (.ref b24), .unset] [(.ref b2), (.ref b24)])) _
                    refine XS.bipush X82.here hx rfl (hb hby at_193) ?_
                    show Steps p.tables e below (T82.setTop (mkF m 195 #[.val (.int p1), .val (.int p2), .val (.int p3), .val (.int p4), .val (.int p5), .val (.int p6), .val (.int v1), .val (.ref b2), .val (.ref b24), .unset] [(.int (7 : Int32)), (.ref b2), (.ref b24)])) _
                    refine X82.iaload hx (j := (7 : Int32)) (v := (.int (p6 ^^^ (-1 : Int32)))) (own_hp rfl Ar89.1) (State.isArrayOf_alike hZ.alike Ar89.2.1) Ar89.2.2 hin89 hat89 (g := (mkF m 195 #[.val (.int p1), .val (.int p2), .val (.int p3), .val (.int p4), .val (.int p5), .val (.int p6), .val (.int v1), .val (.ref b2), .val (.ref b24), .unset] [(.int (7 : Int32)), (.ref b2), (.ref b24)])) rfl rfl (hb hby at_195) _ ?_
                    show Steps p.tables e below (T82.setTop (mkF m 196 #[.val (.int p1), .val (.int p2), .val (.int p3), .val (.int p4), .val (.int p5), .val (.int p6), .val (.int v1), .val (.ref b2), .val (.ref b24), .unset] [(.int (p6 ^^^ (-1 : Int32))), (.ref b24)])) _
                    refine st90.trans ?_
                    show Steps p.tables e below (T90.setTop (mkF m 199 #[.val (.int p1), .val (.int p2), .val (.int p3), .val (.int p4), .val (.int p5), .val (.int p6), .val (.int v1), .val (.ref b2), .val (.ref b24), .unset] [])) _
                    refine XS.iload X90.here hx rfl (hb hby at_199) rfl ?_
                    show Steps p.tables e below (T90.setTop (mkF m 201 #[.val (.int p1), .val (.int p2), .val (.int p3), .val (.int p4), .val (.int p5), .val (.int p6), .val (.int v1), .val (.ref b2), .val (.ref b24), .unset] [(.int v1)])) _
                    refine XS.bipush X90.here hx rfl (hb hby at_201) ?_
                    exact ktx
                  by_cases hc95_203 : (8 : Int32) < v1
                  · have f96 := (f88.keep Kq90 (ninS ne25 (ninS ne84 nin0)))
                    obtain ⟨cl97, Ar97, q97, S97, M97, H97, G97⟩ := id f96
                    have hin97 : ¬ ((8 : Int32) < 0 ∨ cl97.slots.size ≤ ((8 : Int32)).toNatClampNeg) := inb_of S97 ⟨by decide, by decide⟩
                    have hat97 : cl97.slots[((8 : Int32)).toNatClampNeg]? = some (.int (p2 + p6)) := Has.at H97 hin97 rfl
                    obtain ⟨cq98, kq98, q98a, q98b, q98c⟩ := isOf hZ rfl Eq90
                    obtain ⟨_, _, ⟨T98, L98, k98, n98⟩, -, X98, ⟨Lc98, hQ98, l98, y98, z98⟩, st98⟩ := X90.virtualBack hx (y := (⟨"com/example/viable/viable/IntList", "add", "(I)V"⟩ : MethodName)) (z := (⟨"com/example/viable/viable/IntList", "add", "(I)V"⟩ : MethodName)) hown (mvT hZ (hw _ (List.mem_of_getElem? (i := 36) rfl))) (mvT hZ (hw _ (List.mem_of_getElem? (i := 37) rfl))) (notFace_of_selects (args := #[]) (mvT hZ (hw _ (List.mem_of_getElem? (i := 39) rfl)))) (mvT hZ (hw _ (List.mem_of_getElem? (i := 39) rfl))) (mvT hZ (hw _ (List.mem_of_getElem? (i := 38) rfl))) (by decide) (backOf (W := 0) (rm7 l Z a0 hw [] b24 (p2 + p6) t90 ([p2, p3, p4, p5, p6, (p2 ^^^ p3), (p4 - p5), (p6 ^^^ (-1 : Int32))] : List Int32) T90.heap n0 Z90 g_b24 g_t90 ne93 ls90 (Nat.le_of_ble_eq_true rfl)) hZ (hw _ (List.mem_of_getElem? (i := 40) rfl)) (hw _ (List.mem_of_getElem? (i := 4) rfl)) (by decide) (by decide)) q98a q98c (g := (mkF m 213 #[.val (.int p1), .val (.int p2), .val (.int p3), .val (.int p4), .val (.int p5), .val (.int p6), .val (.int v1), .val (.ref b2), .val (.ref b24), .unset] [(.int (p2 + p6)), (.ref b24)])) rfl (by rw [hml]; rfl) (Steps.refl _) (argsL := [(.int (p2 + p6))]) (rest := []) (lenOf own_pd5 rfl) rfl (by show 2 * 0 + _ ≤ _; exact Nat.le_of_eq rfl) (hb hby at_213) (fun _ _ => ⟨rfl, rfl, (by decide : 11 + 1 ≤ _), (by decide : 147 + 16 ≤ _)⟩)
                    dsimp only [Pt.U, Pt.locs, Pt.cells, Pt.slots] at X98 l98 y98 z98 st98 hQ98
                    subst l98 y98 z98
                    obtain ⟨rfl, Nq98, Kq98, t98, gq98, dq98, ls98⟩ := hQ98
                    have N98 := Fr.app N90 Nq98
                    have ne100 : b2 ≠ t98 := by rcases dq98 with q | q; rw [q]; exact ne92; exact Nat.ne_of_lt (Nat.lt_of_lt_of_le f96.lt q)
                    have ne101 : b24 ≠ t98 := by rcases dq98 with q | q; rw [q]; exact ne93; exact Nat.ne_of_lt (Nat.lt_of_lt_of_le Eq90.lt q)
                    have g_t98 := gq98
                    have Z98 : n0 ≤ T98.heap.size := Nat.le_trans Z90 Kq98.1
                    have Eq98 := ls98.1
                    have go102 : own_go p e below (s₁.setTop (entryFrame m #[(.int p1), (.int p2), (.int p3), (.int p4), (.int p5), (.int p6)] maxLocals)) (T98.setTop (mkF m 216 #[.val (.int p1), .val (.int p2), .val (.int p3), .val (.int p4), .val (.int p5), .val (.int p6), .val (.int v1), .val (.ref b2), .val (.ref b24), .unset] [])) := by
                      intro ttx ktx
                      refine go94 ttx ?_
                      show Steps p.tables e below (T90.setTop (mkF m 203 #[.val (.int p1), .val (.int p2), .val (.int p3), .val (.int p4), .val (.int p5), .val (.int p6), .val (.int v1), .val (.ref b2), .val (.ref b24), .unset] [(.int (8 : Int32)), (.int v1)])) _
                      refine XS.icmpNo X90.here hx rfl (hb hby at_203) rfl (tlt hc95_203).2.2.2 ?_
                      show Steps p.tables e below (T90.setTop (mkF m 206 #[.val (.int p1), .val (.int p2), .val (.int p3), .val (.int p4), .val (.int p5), .val (.int p6), .val (.int v1), .val (.ref b2), .val (.ref b24), .unset] [])) _
                      refine XS.aload X90.here hx rfl (hb hby at_206) rfl rfl ?_
                      show Steps p.tables e below (T90.setTop (mkF m 208 #[.val (.int p1), .val (.int p2), .val (.int p3), .val (.int p4), .val (.int p5), .val (.int p6), .val (.int v1), .val (.ref b2), .val (.ref b24), .unset] [(.ref b24)])) _
                      refine XS.aload X90.here hx rfl (hb hby at_208) rfl rfl ?_
                      show Steps p.tables e below (T90.setTop (mkF m 210 #[.val (.int p1), .val (.int p2), .val (.int p3), .val (.int p4), .val (.int p5), .val (.int p6), .val (.int v1), .val (.ref b2), .val (.ref b24), .unset] [(.ref b2), (.ref b24)])) _
                      refine XS.bipush X90.here hx rfl (hb hby at_210) ?_
                      show Steps p.tables e below (T90.setTop (mkF m 212 #[.val (.int p1), .val (.int p2), .val (.int p3), .val (.int p4), .val (.int p5), .val (.int p6), .val (.int v1), .val (.ref b2), .val (.ref b24), .unset] [(.int (8 : Int32)), (.ref b2), (.ref b24)])) _
                      refine X90.iaload hx (j := (8 : Int32)) (v := (.int (p2 + p6))) (own_hp rfl Ar97.1) (State.isArrayOf_alike hZ.alike Ar97.2.1) Ar97.2.2 hin97 hat97 (g := (mkF m 212 #[.val (.int p1), .val (.int p2), .val (.int p3), .val (.int p4), .val (.int p5), .val (.int p6), .val (.int v1), .val (.ref b2), .val (.ref b24), .unset] [(.int (8 : Int32)), (.ref b2), (.ref b24)])) rfl rfl (hb hby at_212) _ ?_
                      show Steps p.tables e below (T90.setTop (mkF m 213 #[.val (.int p1), .val (.int p2), .val (.int p3), .val (.int p4), .val (.int p5), .val (.int p6), .val (.int v1), .val (.ref b2), .val (.ref b24), .unset] [(.int (p2 + p6)), (.ref b24)])) _
                      refine st98.trans ?_
                      exact ktx
                    have hnk : v1 = (9 : Int32) := by
                      have hr : 0 ≤ v1.toInt ∧ v1.toInt < 10 := by rw [hv_v1]; exact own_rng _
                      have q_hc95_203 := hc95_203
                      rw [Int32.lt_iff_toInt_lt] at q_hc95_203
                      refine Int32.toInt_inj.mp ?_
                      have e8 : (8 : Int32).toInt = 8 := rfl
                      have e9 : (9 : Int32).toInt = 9 := rfl
                      omega
                    have f104 := (f96.keep Kq98 (ninS ne25 (ninS ne92 nin0)))
                    obtain ⟨T103, h103, L103, bb103, X103, e103, N103, goL103⟩ := own_tail p1 p2 p3 p4 p5 p6 v1 b2 b24 t98 k2 p2 p3 p4 p5 p6 (p2 ^^^ p3) (p4 - p5) (p6 ^^^ (-1 : Int32)) (p2 + p6) ([p2, p3, p4, p5, p6, (p2 ^^^ p3), (p4 - p5), (p6 ^^^ (-1 : Int32)), (p2 + p6)] : List Int32) (own_wide X98 (by decide) (by decide)) hx hZ hw hby hml hown rfl Z98 N98 f104 ls98 (hnk.trans rfl) (Nat.le_of_ble_eq_true rfl) (own_pre _ [])
                    have go103 : own_go p e below (s₁.setTop (entryFrame m #[(.int p1), (.int p2), (.int p3), (.int p4), (.int p5), (.int p6)] maxLocals)) (T103.setTop (mkF m 353 #[.val (.int p1), .val (.int p2), .val (.int p3), .val (.int p4), .val (.int p5), .val (.int p6), .val (.int v1), .val (.ref b2), .val (.ref b24), .val (.ref bb103)] [])) := fun t k => go102 t (goL103 t k)
                    have go105 : own_go p e below (s₁.setTop (entryFrame m #[(.int p1), (.int p2), (.int p3), (.int p4), (.int p5), (.int p6)] maxLocals)) (T103.setTop (mkF m 358 #[.val (.int p1), .val (.int p2), .val (.int p3), .val (.int p4), .val (.int p5), .val (.int p6), .val (.int v1), .val (.ref b2), .val (.ref b24), .val (.ref bb103)] [(.int (1 : Int32))])) := by
                      intro ttx ktx
                      refine go103 ttx ?_
                      show Steps p.tables e below (T103.setTop (mkF m 353 #[.val (.int p1), .val (.int p2), .val (.int p3), .val (.int p4), .val (.int p5), .val (.int p6), .val (.int v1), .val (.ref b2), .val (.ref b24), .val (.ref bb103)] [])) _
                      refine XS.iconst X103.here hx rfl (hb hby at_353) ?_
                      show Steps p.tables e below (T103.setTop (mkF m 354 #[.val (.int p1), .val (.int p2), .val (.int p3), .val (.int p4), .val (.int p5), .val (.int p6), .val (.int v1), .val (.ref b2), .val (.ref b24), .val (.ref bb103)] [(.int (1 : Int32))])) _
                      refine XS.goto X103.here hx rfl (pc0 := 354) (pc' := 358) rfl (hb hby at_354) (by decide) (by decide) ?_
                      exact ktx
                    obtain ⟨fs, hr, hrun, hended, hW, hsame⟩ := X103.leave (v := some (.int (1 : Int32))) (fun h => by rw [Bd.returns] at h; cases h)
                    refine ⟨_, _, go105 _ ?_, hrun, hended, _, _, rfl, ?_, ⟨_, rfl⟩, hW, hsame.mono (by decide) (by decide)⟩
                    · exact retN X103 hx (t := .boolean) Bd.returns (by simp) (hb hby at_358) hr
                    · show Q0 Z p1 p2 p3 p4 p5 p6 h0 n0 _ T103.heap _
                      rw [e103]
                      exact ⟨rfl, N103⟩
                  · have go106 : own_go p e below (s₁.setTop (entryFrame m #[(.int p1), (.int p2), (.int p3), (.int p4), (.int p5), (.int p6)] maxLocals)) (T90.setTop (mkF m 216 #[.val (.int p1), .val (.int p2), .val (.int p3), .val (.int p4), .val (.int p5), .val (.int p6), .val (.int v1), .val (.ref b2), .val (.ref b24), .unset] [])) := by
                      intro ttx ktx
                      refine go94 ttx ?_
                      show Steps p.tables e below (T90.setTop (mkF m 203 #[.val (.int p1), .val (.int p2), .val (.int p3), .val (.int p4), .val (.int p5), .val (.int p6), .val (.int v1), .val (.ref b2), .val (.ref b24), .unset] [(.int (8 : Int32)), (.int v1)])) _
                      refine XS.icmpYes X90.here hx rfl (pc0 := 203) (pc' := 216) rfl (hb hby at_203) rfl (flt hc95_203).2.2.2 (by decide) (by decide) ?_
                      exact ktx
                    have hnk : v1 = (8 : Int32) := by
                      have hr : 0 ≤ v1.toInt ∧ v1.toInt < 10 := by rw [hv_v1]; exact own_rng _
                      have q_hc87_186 := hc87_186
                      rw [Int32.lt_iff_toInt_lt] at q_hc87_186
                      have q_hc95_203 := hc95_203
                      rw [Int32.lt_iff_toInt_lt] at q_hc95_203
                      refine Int32.toInt_inj.mp ?_
                      have e7 : (7 : Int32).toInt = 7 := rfl
                      have e8 : (8 : Int32).toInt = 8 := rfl
                      omega
                    have f108 := (f88.keep Kq90 (ninS ne25 (ninS ne84 nin0)))
                    obtain ⟨T107, h107, L107, bb107, X107, e107, N107, goL107⟩ := own_tail p1 p2 p3 p4 p5 p6 v1 b2 b24 t90 k2 p2 p3 p4 p5 p6 (p2 ^^^ p3) (p4 - p5) (p6 ^^^ (-1 : Int32)) (p2 + p6) ([p2, p3, p4, p5, p6, (p2 ^^^ p3), (p4 - p5), (p6 ^^^ (-1 : Int32))] : List Int32) (own_wide X90 (by decide) (by decide)) hx hZ hw hby hml hown rfl Z90 N90 f108 ls90 (hnk.trans rfl) (Nat.le_of_ble_eq_true rfl) (own_pre _ [(p2 + p6)])
                    have go107 : own_go p e below (s₁.setTop (entryFrame m #[(.int p1), (.int p2), (.int p3), (.int p4), (.int p5), (.int p6)] maxLocals)) (T107.setTop (mkF m 353 #[.val (.int p1), .val (.int p2), .val (.int p3), .val (.int p4), .val (.int p5), .val (.int p6), .val (.int v1), .val (.ref b2), .val (.ref b24), .val (.ref bb107)] [])) := fun t k => go106 t (goL107 t k)
                    have go109 : own_go p e below (s₁.setTop (entryFrame m #[(.int p1), (.int p2), (.int p3), (.int p4), (.int p5), (.int p6)] maxLocals)) (T107.setTop (mkF m 358 #[.val (.int p1), .val (.int p2), .val (.int p3), .val (.int p4), .val (.int p5), .val (.int p6), .val (.int v1), .val (.ref b2), .val (.ref b24), .val (.ref bb107)] [(.int (1 : Int32))])) := by
                      intro ttx ktx
                      refine go107 ttx ?_
                      show Steps p.tables e below (T107.setTop (mkF m 353 #[.val (.int p1), .val (.int p2), .val (.int p3), .val (.int p4), .val (.int p5), .val (.int p6), .val (.int v1), .val (.ref b2), .val (.ref b24), .val (.ref bb107)] [])) _
                      refine XS.iconst X107.here hx rfl (hb hby at_353) ?_
                      show Steps p.tables e below (T107.setTop (mkF m 354 #[.val (.int p1), .val (.int p2), .val (.int p3), .val (.int p4), .val (.int p5), .val (.int p6), .val (.int v1), .val (.ref b2), .val (.ref b24), .val (.ref bb107)] [(.int (1 : Int32))])) _
                      refine XS.goto X107.here hx rfl (pc0 := 354) (pc' := 358) rfl (hb hby at_354) (by decide) (by decide) ?_
                      exact ktx
                    obtain ⟨fs, hr, hrun, hended, hW, hsame⟩ := X107.leave (v := some (.int (1 : Int32))) (fun h => by rw [Bd.returns] at h; cases h)
                    refine ⟨_, _, go109 _ ?_, hrun, hended, _, _, rfl, ?_, ⟨_, rfl⟩, hW, hsame.mono (by decide) (by decide)⟩
                    · exact retN X107 hx (t := .boolean) Bd.returns (by simp) (hb hby at_358) hr
                    · show Q0 Z p1 p2 p3 p4 p5 p6 h0 n0 _ T107.heap _
                      rw [e107]
                      exact ⟨rfl, N107⟩
                · have hc110_203 : ¬ ((8 : Int32) < v1) := own_tr hc87_186 (by decide)
                  have go111 : own_go p e below (s₁.setTop (entryFrame m #[(.int p1), (.int p2), (.int p3), (.int p4), (.int p5), (.int p6)] maxLocals)) (T82.setTop (mkF m 216 #[.val (.int p1), .val (.int p2), .val (.int p3), .val (.int p4), .val (.int p5), .val (.int p6), .val (.int v1), .val (.ref b2), .val (.ref b24), .unset] [])) := by
                    intro ttx ktx
                    refine go86 ttx ?_
                    show Steps p.tables e below (T82.setTop (mkF m 186 #[.val (.int p1), .val (.int p2), .val (.int p3), .val (.int p4), .val (.int p5), .val (.int p6), .val (.int v1), .val (.ref b2), .val (.ref b24), .unset] [(.int (7 : Int32)), (.int v1)])) _
                    refine XS.icmpYes X82.here hx rfl (pc0 := 186) (pc' := 199) rfl (hb hby at_186) rfl (flt hc87_186).2.2.2 (by decide) (by decide) ?_
                    show Steps p.tables e below (T82.setTop (mkF m 199 #[.val (.int p1), .val (.int p2), .val (.int p3), .val (.int p4), .val (.int p5), .val (.int p6), .val (.int v1), .val (.ref b2), .val (.ref b24), .unset] [])) _
                    refine XS.iload X82.here hx rfl (hb hby at_199) rfl ?_
                    show Steps p.tables e below (T82.setTop (mkF m 201 #[.val (.int p1), .val (.int p2), .val (.int p3), .val (.int p4), .val (.int p5), .val (.int p6), .val (.int v1), .val (.ref b2), .val (.ref b24), .unset] [(.int v1)])) _
                    refine XS.bipush X82.here hx rfl (hb hby at_201) ?_
                    show Steps p.tables e below (T82.setTop (mkF m 203 #[.val (.int p1), .val (.int p2), .val (.int p3), .val (.int p4), .val (.int p5), .val (.int p6), .val (.int v1), .val (.ref b2), .val (.ref b24), .unset] [(.int (8 : Int32)), (.int v1)])) _
                    refine XS.icmpYes X82.here hx rfl (pc0 := 203) (pc' := 216) rfl (hb hby at_203) rfl (flt hc110_203).2.2.2 (by decide) (by decide) ?_
                    exact ktx
                  have hnk : v1 = (7 : Int32) := by
                    have hr : 0 ≤ v1.toInt ∧ v1.toInt < 10 := by rw [hv_v1]; exact own_rng _
                    have q_hc79_169 := hc79_169
                    rw [Int32.lt_iff_toInt_lt] at q_hc79_169
                    have q_hc87_186 := hc87_186
                    rw [Int32.lt_iff_toInt_lt] at q_hc87_186
                    have q_hc110_203 := hc110_203
                    rw [Int32.lt_iff_toInt_lt] at q_hc110_203
                    refine Int32.toInt_inj.mp ?_
                    have e6 : (6 : Int32).toInt = 6 := rfl
                    have e7 : (7 : Int32).toInt = 7 := rfl
                    omega
                  have f113 := (f80.keep Kq82 (ninS ne25 (ninS ne76 nin0)))
                  obtain ⟨T112, h112, L112, bb112, X112, e112, N112, goL112⟩ := own_tail p1 p2 p3 p4 p5 p6 v1 b2 b24 t82 k2 p2 p3 p4 p5 p6 (p2 ^^^ p3) (p4 - p5) (p6 ^^^ (-1 : Int32)) (p2 + p6) ([p2, p3, p4, p5, p6, (p2 ^^^ p3), (p4 - p5)] : List Int32) (own_wide X82 (by decide) (by decide)) hx hZ hw hby hml hown rfl Z82 N82 f113 ls82 (hnk.trans rfl) (Nat.le_of_ble_eq_true rfl) (own_pre _ [(p6 ^^^ (-1 : Int32)), (p2 + p6)])
                  have go112 : own_go p e below (s₁.setTop (entryFrame m #[(.int p1), (.int p2), (.int p3), (.int p4), (.int p5), (.int p6)] maxLocals)) (T112.setTop (mkF m 353 #[.val (.int p1), .val (.int p2), .val (.int p3), .val (.int p4), .val (.int p5), .val (.int p6), .val (.int v1), .val (.ref b2), .val (.ref b24), .val (.ref bb112)] [])) := fun t k => go111 t (goL112 t k)
                  have go114 : own_go p e below (s₁.setTop (entryFrame m #[(.int p1), (.int p2), (.int p3), (.int p4), (.int p5), (.int p6)] maxLocals)) (T112.setTop (mkF m 358 #[.val (.int p1), .val (.int p2), .val (.int p3), .val (.int p4), .val (.int p5), .val (.int p6), .val (.int v1), .val (.ref b2), .val (.ref b24), .val (.ref bb112)] [(.int (1 : Int32))])) := by
                    intro ttx ktx
                    refine go112 ttx ?_
                    show Steps p.tables e below (T112.setTop (mkF m 353 #[.val (.int p1), .val (.int p2), .val (.int p3), .val (.int p4), .val (.int p5), .val (.int p6), .val (.int v1), .val (.ref b2), .val (.ref b24), .val (.ref bb112)] [])) _
                    refine XS.iconst X112.here hx rfl (hb hby at_353) ?_
                    show Steps p.tables e below (T112.setTop (mkF m 354 #[.val (.int p1), .val (.int p2), .val (.int p3), .val (.int p4), .val (.int p5), .val (.int p6), .val (.int v1), .val (.ref b2), .val (.ref b24), .val (.ref bb112)] [(.int (1 : Int32))])) _
                    refine XS.goto X112.here hx rfl (pc0 := 354) (pc' := 358) rfl (hb hby at_354) (by decide) (by decide) ?_
                    exact ktx
                  obtain ⟨fs, hr, hrun, hended, hW, hsame⟩ := X112.leave (v := some (.int (1 : Int32))) (fun h => by rw [Bd.returns] at h; cases h)
                  refine ⟨_, _, go114 _ ?_, hrun, hended, _, _, rfl, ?_, ⟨_, rfl⟩, hW, hsame.mono (by decide) (by decide)⟩
                  · exact retN X112 hx (t := .boolean) Bd.returns (by simp) (hb hby at_358) hr
                  · show Q0 Z p1 p2 p3 p4 p5 p6 h0 n0 _ T112.heap _
                    rw [e112]
                    exact ⟨rfl, N112⟩
              · have hc115_186 : ¬ ((7 : Int32) < v1) := own_tr hc79_169 (by decide)
                have hc116_203 : ¬ ((8 : Int32) < v1) := own_tr hc79_169 (by decide)
                have go117 : own_go p e below (s₁.setTop (entryFrame m #[(.int p1), (.int p2), (.int p3), (.int p4), (.int p5), (.int p6)] maxLocals)) (T74.setTop (mkF m 216 #[.val (.int p1), .val (.int p2), .val (.int p3), .val (.int p4), .val (.int p5), .val (.int p6), .val (.int v1), .val (.ref b2), .val (.ref b24), .unset] [])) := by
                  intro ttx ktx
                  refine go78 ttx ?_
                  show Steps p.tables e below (T74.setTop (mkF m 169 #[.val (.int p1), .val (.int p2), .val (.int p3), .val (.int p4), .val (.int p5), .val (.int p6), .val (.int v1), .val (.ref b2), .val (.ref b24), .unset] [(.int (6 : Int32)), (.int v1)])) _
                  refine XS.icmpYes X74.here hx rfl (pc0 := 169) (pc' := 182) rfl (hb hby at_169) rfl (flt hc79_169).2.2.2 (by decide) (by decide) ?_
                  show Steps p.tables e below (T74.setTop (mkF m 182 #[.val (.int p1), .val (.int p2), .val (.int p3), .val (.int p4), .val (.int p5), .val (.int p6), .val (.int v1), .val (.ref b2), .val (.ref b24), .unset] [])) _
                  refine XS.iload X74.here hx rfl (hb hby at_182) rfl ?_
                  show Steps p.tables e below (T74.setTop (mkF m 184 #[.val (.int p1), .val (.int p2), .val (.int p3), .val (.int p4), .val (.int p5), .val (.int p6), .val (.int v1), .val (.ref b2), .val (.ref b24), .unset] [(.int v1)])) _
                  refine XS.bipush X74.here hx rfl (hb hby at_184) ?_
                  show Steps p.tables e below (T74.setTop (mkF m 186 #[.val (.int p1), .val (.int p2), .val (.int p3), .val (.int p4), .val (.int p5), .val (.int p6), .val (.int v1), .val (.ref b2), .val (.ref b24), .unset] [(.int (7 : Int32)), (.int v1)])) _
                  refine XS.icmpYes X74.here hx rfl (pc0 := 186) (pc' := 199) rfl (hb hby at_186) rfl (flt hc115_186).2.2.2 (by decide) (by decide) ?_
                  show Steps p.tables e below (T74.setTop (mkF m 199 #[.val (.int p1), .val (.int p2), .val (.int p3), .val (.int p4), .val (.int p5), .val (.int p6), .val (.int v1), .val (.ref b2), .val (.ref b24), .unset] [])) _
                  refine XS.iload X74.here hx rfl (hb hby at_199) rfl ?_
                  show Steps p.tables e below (T74.setTop (mkF m 201 #[.val (.int p1), .val (.int p2), .val (.int p3), .val (.int p4), .val (.int p5), .val (.int p6), .val (.int v1), .val (.ref b2), .val (.ref b24), .unset] [(.int v1)])) _
                  refine XS.bipush X74.here hx rfl (hb hby at_201) ?_
                  show Steps p.tables e below (T74.setTop (mkF m 203 #[.val (.int p1), .val (.int p2), .val (.int p3), .val (.int p4), .val (.int p5), .val (.int p6), .val (.int v1), .val (.ref b2), .val (.ref b24), .unset] [(.int (8 : Int32)), (.int v1)])) _
                  refine XS.icmpYes X74.here hx rfl (pc0 := 203) (pc' := 216) rfl (hb hby at_203) rfl (flt hc116_203).2.2.2 (by decide) (by decide) ?_
                  exact ktx
                have hnk : v1 = (6 : Int32) := by
                  have hr : 0 ≤ v1.toInt ∧ v1.toInt < 10 := by rw [hv_v1]; exact own_rng _
                  have q_hc71_153 := hc71_153
                  rw [Int32.lt_iff_toInt_lt] at q_hc71_153
                  have q_hc79_169 := hc79_169
                  rw [Int32.lt_iff_toInt_lt] at q_hc79_169
                  have q_hc115_186 := hc115_186
                  rw [Int32.lt_iff_toInt_lt] at q_hc115_186
                  have q_hc116_203 := hc116_203
                  rw [Int32.lt_iff_toInt_lt] at q_hc116_203
                  refine Int32.toInt_inj.mp ?_
                  have e5 : (5 : Int32).toInt = 5 := rfl
                  have e6 : (6 : Int32).toInt = 6 := rfl
                  omega
                have f119 := (f72.keep Kq74 (ninS ne25 (ninS ne68 nin0)))
                obtain ⟨T118, h118, L118, bb118, X118, e118, N118, goL118⟩ := own_tail p1 p2 p3 p4 p5 p6 v1 b2 b24 t74 k2 p2 p3 p4 p5 p6 (p2 ^^^ p3) (p4 - p5) (p6 ^^^ (-1 : Int32)) (p2 + p6) ([p2, p3, p4, p5, p6, (p2 ^^^ p3)] : List Int32) (own_wide X74 (by decide) (by decide)) hx hZ hw hby hml hown rfl Z74 N74 f119 ls74 (hnk.trans rfl) (Nat.le_of_ble_eq_true rfl) (own_pre _ [(p4 - p5), (p6 ^^^ (-1 : Int32)), (p2 + p6)])
                have go118 : own_go p e below (s₁.setTop (entryFrame m #[(.int p1), (.int p2), (.int p3), (.int p4), (.int p5), (.int p6)] maxLocals)) (T118.setTop (mkF m 353 #[.val (.int p1), .val (.int p2), .val (.int p3), .val (.int p4), .val (.int p5), .val (.int p6), .val (.int v1), .val (.ref b2), .val (.ref b24), .val (.ref bb118)] [])) := fun t k => go117 t (goL118 t k)
                have go120 : own_go p e below (s₁.setTop (entryFrame m #[(.int p1), (.int p2), (.int p3), (.int p4), (.int p5), (.int p6)] maxLocals)) (T118.setTop (mkF m 358 #[.val (.int p1), .val (.int p2), .val (.int p3), .val (.int p4), .val (.int p5), .val (.int p6), .val (.int v1), .val (.ref b2), .val (.ref b24), .val (.ref bb118)] [(.int (1 : Int32))])) := by
                  intro ttx ktx
                  refine go118 ttx ?_
                  show Steps p.tables e below (T118.setTop (mkF m 353 #[.val (.int p1), .val (.int p2), .val (.int p3), .val (.int p4), .val (.int p5), .val (.int p6), .val (.int v1), .val (.ref b2), .val (.ref b24), .val (.ref bb118)] [])) _
                  refine XS.iconst X118.here hx rfl (hb hby at_353) ?_
                  show Steps p.tables e below (T118.setTop (mkF m 354 #[.val (.int p1), .val (.int p2), .val (.int p3), .val (.int p4), .val (.int p5), .val (.int p6), .val (.int v1), .val (.ref b2), .val (.ref b24), .val (.ref bb118)] [(.int (1 : Int32))])) _
                  refine XS.goto X118.here hx rfl (pc0 := 354) (pc' := 358) rfl (hb hby at_354) (by decide) (by decide) ?_
                  exact ktx
                obtain ⟨fs, hr, hrun, hended, hW, hsame⟩ := X118.leave (v := some (.int (1 : Int32))) (fun h => by rw [Bd.returns] at h; cases h)
                refine ⟨_, _, go120 _ ?_, hrun, hended, _, _, rfl, ?_, ⟨_, rfl⟩, hW, hsame.mono (by decide) (by decide)⟩
                · exact retN X118 hx (t := .boolean) Bd.returns (by simp) (hb hby at_358) hr
                · show Q0 Z p1 p2 p3 p4 p5 p6 h0 n0 _ T118.heap _
                  rw [e118]
                  exact ⟨rfl, N118⟩
            · have hc121_169 : ¬ ((6 : Int32) < v1) := own_tr hc71_153 (by decide)
              have hc122_186 : ¬ ((7 : Int32) < v1) := own_tr hc71_153 (by decide)
              have hc123_203 : ¬ ((8 : Int32) < v1) := own_tr hc71_153 (by decide)
              have go124 : own_go p e below (s₁.setTop (entryFrame m #[(.int p1), (.int p2), (.int p3), (.int p4), (.int p5), (.int p6)] maxLocals)) (T66.setTop (mkF m 216 #[.val (.int p1), .val (.int p2), .val (.int p3), .val (.int p4), .val (.int p5), .val (.int p6), .val (.int v1), .val (.ref b2), .val (.ref b24), .unset] [])) := by
                intro ttx ktx
                refine go70 ttx ?_
                show Steps p.tables e below (T66.setTop (mkF m 153 #[.val (.int p1), .val (.int p2), .val (.int p3), .val (.int p4), .val (.int p5), .val (.int p6), .val (.int v1), .val (.ref b2), .val (.ref b24), .unset] [(.int (5 : Int32)), (.int v1)])) _
                refine XS.icmpYes X66.here hx rfl (pc0 := 153) (pc' := 165) rfl (hb hby at_153) rfl (flt hc71_153).2.2.2 (by decide) (by decide) ?_
                show Steps p.tables e below (T66.setTop (mkF m 165 #[.val (.int p1), .val (.int p2), .val (.int p3), .val (.int p4), .val (.int p5), .val (.int p6), .val (.int v1), .val (.ref b2), .val (.ref b24), .unset] [])) _
                refine XS.iload X66.here hx rfl (hb hby at_165) rfl ?_
                show Steps p.tables e below (T66.setTop (mkF m 167 #[.val (.int p1), .val (.int p2), .val (.int p3), .val (.int p4), .val (.int p5), .val (.int p6), .val (.int v1), .val (.ref b2), .val (.ref b24), .unset] [(.int v1)])) _
                refine XS.bipush X66.here hx rfl (hb hby at_167) ?_
                show Steps p.tables e below (T66.setTop (mkF m 169 #[.val (.int p1), .val (.int p2), .val (.int p3), .val (.int p4), .val (.int p5), .val (.int p6), .val (.int v1), .val (.ref b2), .val (.ref b24), .unset] [(.int (6 : Int32)), (.int v1)])) _
                refine XS.icmpYes X66.here hx rfl (pc0 := 169) (pc' := 182) rfl (hb hby at_169) rfl (flt hc121_169).2.2.2 (by decide) (by decide) ?_
                show Steps p.tables e below (T66.setTop (mkF m 182 #[.val (.int p1), .val (.int p2), .val (.int p3), .val (.int p4), .val (.int p5), .val (.int p6), .val (.int v1), .val (.ref b2), .val (.ref b24), .unset] [])) _
                refine XS.iload X66.here hx rfl (hb hby at_182) rfl ?_
                show Steps p.tables e below (T66.setTop (mkF m 184 #[.val (.int p1), .val (.int p2), .val (.int p3), .val (.int p4), .val (.int p5), .val (.int p6), .val (.int v1), .val (.ref b2), .val (.ref b24), .unset] [(.int v1)])) _
                refine XS.bipush X66.here hx rfl (hb hby at_184) ?_
                show Steps p.tables e below (T66.setTop (mkF m 186 #[.val (.int p1), .val (.int p2), .val (.int p3), .val (.int p4), .val (.int p5), .val (.int p6), .val (.int v1), .val (.ref b2), .val (.ref b24), .unset] [(.int (7 : Int32)), (.int v1)])) _
                refine XS.icmpYes X66.here hx rfl (pc0 := 186) (pc' := 199) rfl (hb hby at_186) rfl (flt hc122_186).2.2.2 (by decide) (by decide) ?_
                show Steps p.tables e below (T66.setTop (mkF m 199 #[.val (.int p1), .val (.int p2), .val (.int p3), .val (.int p4), .val (.int p5), .val (.int p6), .val (.int v1), .val (.ref b2), .val (.ref b24), .unset] [])) _
                refine XS.iload X66.here hx rfl (hb hby at_199) rfl ?_
                show Steps p.tables e below (T66.setTop (mkF m 201 #[.val (.int p1), .val (.int p2), .val (.int p3), .val (.int p4), .val (.int p5), .val (.int p6), .val (.int v1), .val (.ref b2), .val (.ref b24), .unset] [(.int v1)])) _
                refine XS.bipush X66.here hx rfl (hb hby at_201) ?_
                show Steps p.tables e below (T66.setTop (mkF m 203 #[.val (.int p1), .val (.int p2), .val (.int p3), .val (.int p4), .val (.int p5), .val (.int p6), .val (.int v1), .val (.ref b2), .val (.ref b24), .unset] [(.int (8 : Int32)), (.int v1)])) _
                refine XS.icmpYes X66.here hx rfl (pc0 := 203) (pc' := 216) rfl (hb hby at_203) rfl (flt hc123_203).2.2.2 (by decide) (by decide) ?_
                exact ktx
              have hnk : v1 = (5 : Int32) := by
                have hr : 0 ≤ v1.toInt ∧ v1.toInt < 10 := by rw [hv_v1]; exact own_rng _
                have q_hc63_138 := hc63_138
                rw [Int32.lt_iff_toInt_lt] at q_hc63_138
                have q_hc71_153 := hc71_153
                rw [Int32.lt_iff_toInt_lt] at q_hc71_153
                have q_hc121_169 := hc121_169
                rw [Int32.lt_iff_toInt_lt] at q_hc121_169
                have q_hc122_186 := hc122_186
                rw [Int32.lt_iff_toInt_lt] at q_hc122_186
                have q_hc123_203 := hc123_203
                rw [Int32.lt_iff_toInt_lt] at q_hc123_203
                refine Int32.toInt_inj.mp ?_
                have e4 : (4 : Int32).toInt = 4 := rfl
                have e5 : (5 : Int32).toInt = 5 := rfl
                omega
              have f126 := (f64.keep Kq66 (ninS ne25 (ninS ne60 nin0)))
              obtain ⟨T125, h125, L125, bb125, X125, e125, N125, goL125⟩ := own_tail p1 p2 p3 p4 p5 p6 v1 b2 b24 t66 k2 p2 p3 p4 p5 p6 (p2 ^^^ p3) (p4 - p5) (p6 ^^^ (-1 : Int32)) (p2 + p6) ([p2, p3, p4, p5, p6] : List Int32) (own_wide X66 (by decide) (by decide)) hx hZ hw hby hml hown rfl Z66 N66 f126 ls66 (hnk.trans rfl) (Nat.le_of_ble_eq_true rfl) (own_pre _ [(p2 ^^^ p3), (p4 - p5), (p6 ^^^ (-1 : Int32)), (p2 + p6)])
              have go125 : own_go p e below (s₁.setTop (entryFrame m #[(.int p1), (.int p2), (.int p3), (.int p4), (.int p5), (.int p6)] maxLocals)) (T125.setTop (mkF m 353 #[.val (.int p1), .val (.int p2), .val (.int p3), .val (.int p4), .val (.int p5), .val (.int p6), .val (.int v1), .val (.ref b2), .val (.ref b24), .val (.ref bb125)] [])) := fun t k => go124 t (goL125 t k)
              have go127 : own_go p e below (s₁.setTop (entryFrame m #[(.int p1), (.int p2), (.int p3), (.int p4), (.int p5), (.int p6)] maxLocals)) (T125.setTop (mkF m 358 #[.val (.int p1), .val (.int p2), .val (.int p3), .val (.int p4), .val (.int p5), .val (.int p6), .val (.int v1), .val (.ref b2), .val (.ref b24), .val (.ref bb125)] [(.int (1 : Int32))])) := by
                intro ttx ktx
                refine go125 ttx ?_
                show Steps p.tables e below (T125.setTop (mkF m 353 #[.val (.int p1), .val (.int p2), .val (.int p3), .val (.int p4), .val (.int p5), .val (.int p6), .val (.int v1), .val (.ref b2), .val (.ref b24), .val (.ref bb125)] [])) _
                refine XS.iconst X125.here hx rfl (hb hby at_353) ?_
                show Steps p.tables e below (T125.setTop (mkF m 354 #[.val (.int p1), .val (.int p2), .val (.int p3), .val (.int p4), .val (.int p5), .val (.int p6), .val (.int v1), .val (.ref b2), .val (.ref b24), .val (.ref bb125)] [(.int (1 : Int32))])) _
                refine XS.goto X125.here hx rfl (pc0 := 354) (pc' := 358) rfl (hb hby at_354) (by decide) (by decide) ?_
                exact ktx
              obtain ⟨fs, hr, hrun, hended, hW, hsame⟩ := X125.leave (v := some (.int (1 : Int32))) (fun h => by rw [Bd.returns] at h; cases h)
              refine ⟨_, _, go127 _ ?_, hrun, hended, _, _, rfl, ?_, ⟨_, rfl⟩, hW, hsame.mono (by decide) (by decide)⟩
              · exact retN X125 hx (t := .boolean) Bd.returns (by simp) (hb hby at_358) hr
              · show Q0 Z p1 p2 p3 p4 p5 p6 h0 n0 _ T125.heap _
                rw [e125]
                exact ⟨rfl, N125⟩
          · have hc128_153 : ¬ ((5 : Int32) < v1) := own_tr hc63_138 (by decide)
            have hc129_169 : ¬ ((6 : Int32) < v1) := own_tr hc63_138 (by decide)
            have hc130_186 : ¬ ((7 : Int32) < v1) := own_tr hc63_138 (by decide)
            have hc131_203 : ¬ ((8 : Int32) < v1) := own_tr hc63_138 (by decide)
            have go132 : own_go p e below (s₁.setTop (entryFrame m #[(.int p1), (.int p2), (.int p3), (.int p4), (.int p5), (.int p6)] maxLocals)) (T58.setTop (mkF m 216 #[.val (.int p1), .val (.int p2), .val (.int p3), .val (.int p4), .val (.int p5), .val (.int p6), .val (.int v1), .val (.ref b2), .val (.ref b24), .unset] [])) := by
              intro ttx ktx
              refine go62 ttx ?_
              show Steps p.tables e below (T58.setTop (mkF m 138 #[.val (.int p1), .val (.int p2), .val (.int p3), .val (.int p4), .val (.int p5), .val (.int p6), .val (.int v1), .val (.ref b2), .val (.ref b24), .unset] [(.int (4 : Int32)), (.int v1)])) _
              refine XS.icmpYes X58.here hx rfl (pc0 := 138) (pc' := 150) rfl (hb hby at_138) rfl (flt hc63_138).2.2.2 (by decide) (by decide) ?_
              show Steps p.tables e below (T58.setTop (mkF m 150 #[.val (.int p1), .val (.int p2), .val (.int p3), .val (.int p4), .val (.int p5), .val (.int p6), .val (.int v1), .val (.ref b2), .val (.ref b24), .unset] [])) _
              refine XS.iload X58.here hx rfl (hb hby at_150) rfl ?_
              show Steps p.tables e below (T58.setTop (mkF m 152 #[.val (.int p1), .val (.int p2), .val (.int p3), .val (.int p4), .val (.int p5), .val (.int p6), .val (.int v1), .val (.ref b2), .val (.ref b24), .unset] [(.int v1)])) _
              refine XS.iconst X58.here hx rfl (hb hby at_152) ?_
              show Steps p.tables e below (T58.setTop (mkF m 153 #[.val (.int p1), .val (.int p2), .val (.int p3), .val (.int p4), .val (.int p5), .val (.int p6), .val (.int v1), .val (.ref b2), .val (.ref b24), .unset] [(.int (5 : Int32)), (.int v1)])) _
              refine XS.icmpYes X58.here hx rfl (pc0 := 153) (pc' := 165) rfl (hb hby at_153) rfl (flt hc128_153).2.2.2 (by decide) (by decide) ?_
              show Steps p.tables e below (T58.setTop (mkF m 165 #[.val (.int p1), .val (.int p2), .val (.int p3), .val (.int p4), .val (.int p5), .val (.int p6), .val (.int v1), .val (.ref b2), .val (.ref b24), .unset] [])) _
              refine XS.iload X58.here hx rfl (hb hby at_165) rfl ?_
              show Steps p.tables e below (T58.setTop (mkF m 167 #[.val (.int p1), .val (.int p2), .val (.int p3), .val (.int p4), .val (.int p5), .val (.int p6), .val (.int v1), .val (.ref b2), .val (.ref b24), .unset] [(.int v1)])) _
              refine XS.bipush X58.here hx rfl (hb hby at_167) ?_
              show Steps p.tables e below (T58.setTop (mkF m 169 #[.val (.int p1), .val (.int p2), .val (.int p3), .val (.int p4), .val (.int p5), .val (.int p6), .val (.int v1), .val (.ref b2), .val (.ref b24), .unset] [(.int (6 : Int32)), (.int v1)])) _
              refine XS.icmpYes X58.here hx rfl (pc0 := 169) (pc' := 182) rfl (hb hby at_169) rfl (flt hc129_169).2.2.2 (by decide) (by decide) ?_
              show Steps p.tables e below (T58.setTop (mkF m 182 #[.val (.int p1), .val (.int p2), .val (.int p3), .val (.int p4), .val (.int p5), .val (.int p6), .val (.int v1), .val (.ref b2), .val (.ref b24), .unset] [])) _
              refine XS.iload X58.here hx rfl (hb hby at_182) rfl ?_
              show Steps p.tables e below (T58.setTop (mkF m 184 #[.val (.int p1), .val (.int p2), .val (.int p3), .val (.int p4), .val (.int p5), .val (.int p6), .val (.int v1), .val (.ref b2), .val (.ref b24), .unset] [(.int v1)])) _
              refine XS.bipush X58.here hx rfl (hb hby at_184) ?_
              show Steps p.tables e below (T58.setTop (mkF m 186 #[.val (.int p1), .val (.int p2), .val (.int p3), .val (.int p4), .val (.int p5), .val (.int p6), .val (.int v1), .val (.ref b2), .val (.ref b24), .unset] [(.int (7 : Int32)), (.int v1)])) _
              refine XS.icmpYes X58.here hx rfl (pc0 := 186) (pc' := 199) rfl (hb hby at_186) rfl (flt hc130_186).2.2.2 (by decide) (by decide) ?_
              show Steps p.tables e below (T58.setTop (mkF m 199 #[.val (.int p1), .val (.int p2), .val (.int p3), .val (.int p4), .val (.int p5), .val (.int p6), .val (.int v1), .val (.ref b2), .val (.ref b24), .unset] [])) _
              refine XS.iload X58.here hx rfl (hb hby at_199) rfl ?_
              show Steps p.tables e below (T58.setTop (mkF m 201 #[.val (.int p1), .val (.int p2), .val (.int p3), .val (.int p4), .val (.int p5), .val (.int p6), .val (.int v1), .val (.ref b2), .val (.ref b24), .unset] [(.int v1)])) _
              refine XS.bipush X58.here hx rfl (hb hby at_201) ?_
              show Steps p.tables e below (T58.setTop (mkF m 203 #[.val (.int p1), .val (.int p2), .val (.int p3), .val (.int p4), .val (.int p5), .val (.int p6), .val (.int v1), .val (.ref b2), .val (.ref b24), .unset] [(.int (8 : Int32)), (.int v1)])) _
              refine XS.icmpYes X58.here hx rfl (pc0 := 203) (pc' := 216) rfl (hb hby at_203) rfl (flt hc131_203).2.2.2 (by decide) (by decide) ?_
              exact ktx
            have hnk : v1 = (4 : Int32) := by
              have hr : 0 ≤ v1.toInt ∧ v1.toInt < 10 := by rw [hv_v1]; exact own_rng _
              have q_hc55_123 := hc55_123
              rw [Int32.lt_iff_toInt_lt] at q_hc55_123
              have q_hc63_138 := hc63_138
              rw [Int32.lt_iff_toInt_lt] at q_hc63_138
              have q_hc128_153 := hc128_153
              rw [Int32.lt_iff_toInt_lt] at q_hc128_153
              have q_hc129_169 := hc129_169
              rw [Int32.lt_iff_toInt_lt] at q_hc129_169
              have q_hc130_186 := hc130_186
              rw [Int32.lt_iff_toInt_lt] at q_hc130_186
              have q_hc131_203 := hc131_203
              rw [Int32.lt_iff_toInt_lt] at q_hc131_203
              refine Int32.toInt_inj.mp ?_
              have e3 : (3 : Int32).toInt = 3 := rfl
              have e4 : (4 : Int32).toInt = 4 := rfl
              omega
            have f134 := (f56.keep Kq58 (ninS ne25 (ninS ne52 nin0)))
            obtain ⟨T133, h133, L133, bb133, X133, e133, N133, goL133⟩ := own_tail p1 p2 p3 p4 p5 p6 v1 b2 b24 t58 k2 p2 p3 p4 p5 p6 (p2 ^^^ p3) (p4 - p5) (p6 ^^^ (-1 : Int32)) (p2 + p6) ([p2, p3, p4, p5] : List Int32) (own_wide X58 (by decide) (by decide)) hx hZ hw hby hml hown rfl Z58 N58 f134 ls58 (hnk.trans rfl) (Nat.le_of_ble_eq_true rfl) (own_pre _ [p6, (p2 ^^^ p3), (p4 - p5), (p6 ^^^ (-1 : Int32)), (p2 + p6)])
            have go133 : own_go p e below (s₁.setTop (entryFrame m #[(.int p1), (.int p2), (.int p3), (.int p4), (.int p5), (.int p6)] maxLocals)) (T133.setTop (mkF m 353 #[.val (.int p1), .val (.int p2), .val (.int p3), .val (.int p4), .val (.int p5), .val (.int p6), .val (.int v1), .val (.ref b2), .val (.ref b24), .val (.ref bb133)] [])) := fun t k => go132 t (goL133 t k)
            have go135 : own_go p e below (s₁.setTop (entryFrame m #[(.int p1), (.int p2), (.int p3), (.int p4), (.int p5), (.int p6)] maxLocals)) (T133.setTop (mkF m 358 #[.val (.int p1), .val (.int p2), .val (.int p3), .val (.int p4), .val (.int p5), .val (.int p6), .val (.int v1), .val (.ref b2), .val (.ref b24), .val (.ref bb133)] [(.int (1 : Int32))])) := by
              intro ttx ktx
              refine go133 ttx ?_
              show Steps p.tables e below (T133.setTop (mkF m 353 #[.val (.int p1), .val (.int p2), .val (.int p3), .val (.int p4), .val (.int p5), .val (.int p6), .val (.int v1), .val (.ref b2), .val (.ref b24), .val (.ref bb133)] [])) _
              refine XS.iconst X133.here hx rfl (hb hby at_353) ?_
              show Steps p.tables e below (T133.setTop (mkF m 354 #[.val (.int p1), .val (.int p2), .val (.int p3), .val (.int p4), .val (.int p5), .val (.int p6), .val (.int v1), .val (.ref b2), .val (.ref b24), .val (.ref bb133)] [(.int (1 : Int32))])) _
              refine XS.goto X133.here hx rfl (pc0 := 354) (pc' := 358) rfl (hb hby at_354) (by decide) (by decide) ?_
              exact ktx
            obtain ⟨fs, hr, hrun, hended, hW, hsame⟩ := X133.leave (v := some (.int (1 : Int32))) (fun h => by rw [Bd.returns] at h; cases h)
            refine ⟨_, _, go135 _ ?_, hrun, hended, _, _, rfl, ?_, ⟨_, rfl⟩, hW, hsame.mono (by decide) (by decide)⟩
            · exact retN X133 hx (t := .boolean) Bd.returns (by simp) (hb hby at_358) hr
            · show Q0 Z p1 p2 p3 p4 p5 p6 h0 n0 _ T133.heap _
              rw [e133]
              exact ⟨rfl, N133⟩
        · have hc136_138 : ¬ ((4 : Int32) < v1) := own_tr hc55_123 (by decide)
          have hc137_153 : ¬ ((5 : Int32) < v1) := own_tr hc55_123 (by decide)
          have hc138_169 : ¬ ((6 : Int32) < v1) := own_tr hc55_123 (by decide)
          have hc139_186 : ¬ ((7 : Int32) < v1) := own_tr hc55_123 (by decide)
          have go140 : own_go p e below (s₁.setTop (entryFrame m #[(.int p1), (.int p2), (.int p3), (.int p4), (.int p5), (.int p6)] maxLocals)) (T50.setTop (mkF m 203 #[.val (.int p1), .val (.int p2), .val (.int p3), .val (.int p4), .val (.int p5), .val (.int p6), .val (.int v1), .val (.ref b2), .val (.ref b24), .unset] [(.int (8 : Int32)), (.int v1)])) := by
            intro ttx ktx
            refine go54 ttx ?_
            show Steps p.tables e below (T50.setTop (mkF m 123 #[.val (.int p1), .val (.int p2), .val (.int p3), .val (.int p4), .val (.int p5), .val (.int p6), .val (.int v1), .val (.ref b2), .val (.ref b24), .unset] [(.int (3 : Int32)), (.int v1)])) _
            refine XS.icmpYes X50.here hx rfl (pc0 := 123) (pc' := 135) rfl (hb hby at_123) rfl (flt hc55_123).2.2.2 (by decide) (by decide) ?_
            show Steps p.tables e below (T50.setTop (mkF m 135 #[.val (.int p1), .val (.int p2), .val (.int p3), .val (.int p4), .val (.int p5), .val (.int p6), .val (.int v1), .val (.ref b2), .val (.ref b24), .unset] [])) _
            refine XS.iload X50.here hx rfl (hb hby at_135) rfl ?_
            show Steps p.tables e below (T50.setTop (mkF m 137 #[.val (.int p1), .val (.int p2), .val (.int p3), .val (.int p4), .val (.int p5), .val (.int p6), .val (.int v1), .val (.ref b2), .val (.ref b24), .unset] [(.int v1)])) _
            refine XS.iconst X50.here hx rfl (hb hby at_137) ?_
            show Steps p.tables e below (T50.setTop (mkF m 138 #[.val (.int p1), .val (.int p2), .val (.int p3), .val (.int p4), .val (.int p5), .val (.int p6), .val (.int v1), .val (.ref b2), .val (.ref b24), .unset] [(.int (4 : Int32)), (.int v1)])) _
            refine XS.icmpYes X50.here hx rfl (pc0 := 138) (pc' := 150) rfl (hb hby at_138) rfl (flt hc136_138).2.2.2 (by decide) (by decide) ?_
            show Steps p.tables e below (T50.setTop (mkF m 150 #[.val (.int p1), .val (.int p2), .val (.int p3), .val (.int p4), .val (.int p5), .val (.int p6), .val (.int v1), .val (.ref b2), .val (.ref b24), .unset] [])) _
            refine XS.iload X50.here hx rfl (hb hby at_150) rfl ?_
            show Steps p.tables e below (T50.setTop (mkF m 152 #[.val (.int p1), .val (.int p2), .val (.int p3), .val (.int p4), .val (.int p5), .val (.int p6), .val (.int v1), .val (.ref b2), .val (.ref b24), .unset] [(.int v1)])) _
            refine XS.iconst X50.here hx rfl (hb hby at_152) ?_
            show Steps p.tables e below (T50.setTop (mkF m 153 #[.val (.int p1), .val (.int p2), .val (.int p3), .val (.int p4), .val (.int p5), .val (.int p6), .val (.int v1), .val (.ref b2), .val (.ref b24), .unset] [(.int (5 : Int32)), (.int v1)])) _
            refine XS.icmpYes X50.here hx rfl (pc0 := 153) (pc' := 165) rfl (hb hby at_153) rfl (flt hc137_153).2.2.2 (by decide) (by decide) ?_
            show Steps p.tables e below (T50.setTop (mkF m 165 #[.val (.int p1), .val (.int p2), .val (.int p3), .val (.int p4), .val (.int p5), .val (.int p6), .val (.int v1), .val (.ref b2), .val (.ref b24), .unset] [])) _
            refine XS.iload X50.here hx rfl (hb hby at_165) rfl ?_
            show Steps p.tables e below (T50.setTop (mkF m 167 #[.val (.int p1), .val (.int p2), .val (.int p3), .val (.int p4), .val (.int p5), .val (.int p6), .val (.int v1), .val (.ref b2), .val (.ref b24), .unset] [(.int v1)])) _
            refine XS.bipush X50.here hx rfl (hb hby at_167) ?_
            show Steps p.tables e below (T50.setTop (mkF m 169 #[.val (.int p1), .val (.int p2), .val (.int p3), .val (.int p4), .val (.int p5), .val (.int p6), .val (.int v1), .val (.ref b2), .val (.ref b24), .unset] [(.int (6 : Int32)), (.int v1)])) _
            refine XS.icmpYes X50.here hx rfl (pc0 := 169) (pc' := 182) rfl (hb hby at_169) rfl (flt hc138_169).2.2.2 (by decide) (by decide) ?_
            show Steps p.tables e below (T50.setTop (mkF m 182 #[.val (.int p1), .val (.int p2), .val (.int p3), .val (.int p4), .val (.int p5), .val (.int p6), .val (.int v1), .val (.ref b2), .val (.ref b24), .unset] [])) _
            refine XS.iload X50.here hx rfl (hb hby at_182) rfl ?_
            show Steps p.tables e below (T50.setTop (mkF m 184 #[.val (.int p1), .val (.int p2), .val (.int p3), .val (.int p4), .val (.int p5), .val (.int p6), .val (.int v1), .val (.ref b2), .val (.ref b24), .unset] [(.int v1)])) _
            refine XS.bipush X50.here hx rfl (hb hby at_184) ?_
            show Steps p.tables e below (T50.setTop (mkF m 186 #[.val (.int p1), .val (.int p2), .val (.int p3), .val (.int p4), .val (.int p5), .val (.int p6), .val (.int v1), .val (.ref b2), .val (.ref b24), .unset] [(.int (7 : Int32)), (.int v1)])) _
            refine XS.icmpYes X50.here hx rfl (pc0 := 186) (pc' := 199) rfl (hb hby at_186) rfl (flt hc139_186).2.2.2 (by decide) (by decide) ?_
            show Steps p.tables e below (T50.setTop (mkF m 199 #[.val (.int p1), .val (.int p2), .val (.int p3), .val (.int p4), .val (.int p5), .val (.int p6), .val (.int v1), .val (.ref b2), .val (.ref b24), .unset] [])) _
            refine XS.iload X50.here hx rfl (hb hby at_199) rfl ?_
            show Steps p.tables e below (T50.setTop (mkF m 201 #[.val (.int p1), .val (.int p2), .val (.int p3), .val (.int p4), .val (.int p5), .val (.int p6), .val (.int v1), .val (.ref b2), .val (.ref b24), .unset] [(.int v1)])) _
            refine XS.bipush X50.here hx rfl (hb hby at_201) ?_
            exact ktx
          have hc141_203 : ¬ ((8 : Int32) < v1) := own_tr hc55_123 (by decide)
          have go142 : own_go p e below (s₁.setTop (entryFrame m #[(.int p1), (.int p2), (.int p3), (.int p4), (.int p5), (.int p6)] maxLocals)) (T50.setTop (mkF m 216 #[.val (.int p1), .val (.int p2), .val (.int p3), .val (.int p4), .val (.int p5), .val (.int p6), .val (.int v1), .val (.ref b2), .val (.ref b24), .unset] [])) := by
            intro ttx ktx
            refine go140 ttx ?_
            show Steps p.tables e below (T50.setTop (mkF m 203 #[.val (.int p1), .val (.int p2), .val (.int p3), .val (.int p4), .val (.int p5), .val (.int p6), .val (.int v1), .val (.ref b2), .val (.ref b24), .unset] [(.int (8 : Int32)), (.int v1)])) _
            refine XS.icmpYes X50.here hx rfl (pc0 := 203) (pc' := 216) rfl (hb hby at_203) rfl (flt hc141_203).2.2.2 (by decide) (by decide) ?_
            exact ktx
          have hnk : v1 = (3 : Int32) := by
            have hr : 0 ≤ v1.toInt ∧ v1.toInt < 10 := by rw [hv_v1]; exact own_rng _
            have q_hc47_108 := hc47_108
            rw [Int32.lt_iff_toInt_lt] at q_hc47_108
            have q_hc55_123 := hc55_123
            rw [Int32.lt_iff_toInt_lt] at q_hc55_123
            have q_hc136_138 := hc136_138
            rw [Int32.lt_iff_toInt_lt] at q_hc136_138
            have q_hc137_153 := hc137_153
            rw [Int32.lt_iff_toInt_lt] at q_hc137_153
            have q_hc138_169 := hc138_169
            rw [Int32.lt_iff_toInt_lt] at q_hc138_169
            have q_hc139_186 := hc139_186
            rw [Int32.lt_iff_toInt_lt] at q_hc139_186
            have q_hc141_203 := hc141_203
            rw [Int32.lt_iff_toInt_lt] at q_hc141_203
            refine Int32.toInt_inj.mp ?_
            have e2 : (2 : Int32).toInt = 2 := rfl
            have e3 : (3 : Int32).toInt = 3 := rfl
            omega
          have f144 := (f48.keep Kq50 (ninS ne25 (ninS ne44 nin0)))
          obtain ⟨T143, h143, L143, bb143, X143, e143, N143, goL143⟩ := own_tail p1 p2 p3 p4 p5 p6 v1 b2 b24 t50 k2 p2 p3 p4 p5 p6 (p2 ^^^ p3) (p4 - p5) (p6 ^^^ (-1 : Int32)) (p2 + p6) ([p2, p3, p4] : List Int32) (own_wide X50 (by decide) (by decide)) hx hZ hw hby hml hown rfl Z50 N50 f144 ls50 (hnk.trans rfl) (Nat.le_of_ble_eq_true rfl) (own_pre _ [p5, p6, (p2 ^^^ p3), (p4 - p5), (p6 ^^^ (-1 : Int32)), (p2 + p6)])
          have go143 : own_go p e below (s₁.setTop (entryFrame m #[(.int p1), (.int p2), (.int p3), (.int p4), (.int p5), (.int p6)] maxLocals)) (T143.setTop (mkF m 353 #[.val (.int p1), .val (.int p2), .val (.int p3), .val (.int p4), .val (.int p5), .val (.int p6), .val (.int v1), .val (.ref b2), .val (.ref b24), .val (.ref bb143)] [])) := fun t k => go142 t (goL143 t k)
          have go145 : own_go p e below (s₁.setTop (entryFrame m #[(.int p1), (.int p2), (.int p3), (.int p4), (.int p5), (.int p6)] maxLocals)) (T143.setTop (mkF m 358 #[.val (.int p1), .val (.int p2), .val (.int p3), .val (.int p4), .val (.int p5), .val (.int p6), .val (.int v1), .val (.ref b2), .val (.ref b24), .val (.ref bb143)] [(.int (1 : Int32))])) := by
            intro ttx ktx
            refine go143 ttx ?_
            show Steps p.tables e below (T143.setTop (mkF m 353 #[.val (.int p1), .val (.int p2), .val (.int p3), .val (.int p4), .val (.int p5), .val (.int p6), .val (.int v1), .val (.ref b2), .val (.ref b24), .val (.ref bb143)] [])) _
            refine XS.iconst X143.here hx rfl (hb hby at_353) ?_
            show Steps p.tables e below (T143.setTop (mkF m 354 #[.val (.int p1), .val (.int p2), .val (.int p3), .val (.int p4), .val (.int p5), .val (.int p6), .val (.int v1), .val (.ref b2), .val (.ref b24), .val (.ref bb143)] [(.int (1 : Int32))])) _
            refine XS.goto X143.here hx rfl (pc0 := 354) (pc' := 358) rfl (hb hby at_354) (by decide) (by decide) ?_
            exact ktx
          obtain ⟨fs, hr, hrun, hended, hW, hsame⟩ := X143.leave (v := some (.int (1 : Int32))) (fun h => by rw [Bd.returns] at h; cases h)
          refine ⟨_, _, go145 _ ?_, hrun, hended, _, _, rfl, ?_, ⟨_, rfl⟩, hW, hsame.mono (by decide) (by decide)⟩
          · exact retN X143 hx (t := .boolean) Bd.returns (by simp) (hb hby at_358) hr
          · show Q0 Z p1 p2 p3 p4 p5 p6 h0 n0 _ T143.heap _
            rw [e143]
            exact ⟨rfl, N143⟩
      · have hc146_123 : ¬ ((3 : Int32) < v1) := own_tr hc47_108 (by decide)
        have hc147_138 : ¬ ((4 : Int32) < v1) := own_tr hc47_108 (by decide)
        have hc148_153 : ¬ ((5 : Int32) < v1) := own_tr hc47_108 (by decide)
        have hc149_169 : ¬ ((6 : Int32) < v1) := own_tr hc47_108 (by decide)
        have go150 : own_go p e below (s₁.setTop (entryFrame m #[(.int p1), (.int p2), (.int p3), (.int p4), (.int p5), (.int p6)] maxLocals)) (T42.setTop (mkF m 186 #[.val (.int p1), .val (.int p2), .val (.int p3), .val (.int p4), .val (.int p5), .val (.int p6), .val (.int v1), .val (.ref b2), .val (.ref b24), .unset] [(.int (7 : Int32)), (.int v1)])) := by
          intro ttx ktx
          refine go46 ttx ?_
          show Steps p.tables e below (T42.setTop (mkF m 108 #[.val (.int p1), .val (.int p2), .val (.int p3), .val (.int p4), .val (.int p5), .val (.int p6), .val (.int v1), .val (.ref b2), .val (.ref b24), .unset] [(.int (2 : Int32)), (.int v1)])) _
          refine XS.icmpYes X42.here hx rfl (pc0 := 108) (pc' := 120) rfl (hb hby at_108) rfl (flt hc47_108).2.2.2 (by decide) (by decide) ?_
          show Steps p.tables e below (T42.setTop (mkF m 120 #[.val (.int p1), .val (.int p2), .val (.int p3), .val (.int p4), .val (.int p5), .val (.int p6), .val (.int v1), .val (.ref b2), .val (.ref b24), .unset] [])) _
          refine XS.iload X42.here hx rfl (hb hby at_120) rfl ?_
          show Steps p.tables e below (T42.setTop (mkF m 122 #[.val (.int p1), .val (.int p2), .val (.int p3), .val (.int p4), .val (.int p5), .val (.int p6), .val (.int v1), .val (.ref b2), .val (.ref b24), .unset] [(.int v1)])) _
          refine XS.iconst X42.here hx rfl (hb hby at_122) ?_
          show Steps p.tables e below (T42.setTop (mkF m 123 #[.val (.int p1), .val (.int p2), .val (.int p3), .val (.int p4), .val (.int p5), .val (.int p6), .val (.int v1), .val (.ref b2), .val (.ref b24), .unset] [(.int (3 : Int32)), (.int v1)])) _
          refine XS.icmpYes X42.here hx rfl (pc0 := 123) (pc' := 135) rfl (hb hby at_123) rfl (flt hc146_123).2.2.2 (by decide) (by decide) ?_
          show Steps p.tables e below (T42.setTop (mkF m 135 #[.val (.int p1), .val (.int p2), .val (.int p3), .val (.int p4), .val (.int p5), .val (.int p6), .val (.int v1), .val (.ref b2), .val (.ref b24), .unset] [])) _
          refine XS.iload X42.here hx rfl (hb hby at_135) rfl ?_
          show Steps p.tables e below (T42.setTop (mkF m 137 #[.val (.int p1), .val (.int p2), .val (.int p3), .val (.int p4), .val (.int p5), .val (.int p6), .val (.int v1), .val (.ref b2), .val (.ref b24), .unset] [(.int v1)])) _
          refine XS.iconst X42.here hx rfl (hb hby at_137) ?_
          show Steps p.tables e below (T42.setTop (mkF m 138 #[.val (.int p1), .val (.int p2), .val (.int p3), .val (.int p4), .val (.int p5), .val (.int p6), .val (.int v1), .val (.ref b2), .val (.ref b24), .unset] [(.int (4 : Int32)), (.int v1)])) _
          refine XS.icmpYes X42.here hx rfl (pc0 := 138) (pc' := 150) rfl (hb hby at_138) rfl (flt hc147_138).2.2.2 (by decide) (by decide) ?_
          show Steps p.tables e below (T42.setTop (mkF m 150 #[.val (.int p1), .val (.int p2), .val (.int p3), .val (.int p4), .val (.int p5), .val (.int p6), .val (.int v1), .val (.ref b2), .val (.ref b24), .unset] [])) _
          refine XS.iload X42.here hx rfl (hb hby at_150) rfl ?_
          show Steps p.tables e below (T42.setTop (mkF m 152 #[.val (.int p1), .val (.int p2), .val (.int p3), .val (.int p4), .val (.int p5), .val (.int p6), .val (.int v1), .val (.ref b2), .val (.ref b24), .unset] [(.int v1)])) _
          refine XS.iconst X42.here hx rfl (hb hby at_152) ?_
          show Steps p.tables e below (T42.setTop (mkF m 153 #[.val (.int p1), .val (.int p2), .val (.int p3), .val (.int p4), .val (.int p5), .val (.int p6), .val (.int v1), .val (.ref b2), .val (.ref b24), .unset] [(.int (5 : Int32)), (.int v1)])) _
          refine XS.icmpYes X42.here hx rfl (pc0 := 153) (pc' := 165) rfl (hb hby at_153) rfl (flt hc148_153).2.2.2 (by decide) (by decide) ?_
          show Steps p.tables e below (T42.setTop (mkF m 165 #[.val (.int p1), .val (.int p2), .val (.int p3), .val (.int p4), .val (.int p5), .val (.int p6), .val (.int v1), .val (.ref b2), .val (.ref b24), .unset] [])) _
          refine XS.iload X42.here hx rfl (hb hby at_165) rfl ?_
          show Steps p.tables e below (T42.setTop (mkF m 167 #[.val (.int p1), .val (.int p2), .val (.int p3), .val (.int p4), .val (.int p5), .val (.int p6), .val (.int v1), .val (.ref b2), .val (.ref b24), .unset] [(.int v1)])) _
          refine XS.bipush X42.here hx rfl (hb hby at_167) ?_
          show Steps p.tables e below (T42.setTop (mkF m 169 #[.val (.int p1), .val (.int p2), .val (.int p3), .val (.int p4), .val (.int p5), .val (.int p6), .val (.int v1), .val (.ref b2), .val (.ref b24), .unset] [(.int (6 : Int32)), (.int v1)])) _
          refine XS.icmpYes X42.here hx rfl (pc0 := 169) (pc' := 182) rfl (hb hby at_169) rfl (flt hc149_169).2.2.2 (by decide) (by decide) ?_
          show Steps p.tables e below (T42.setTop (mkF m 182 #[.val (.int p1), .val (.int p2), .val (.int p3), .val (.int p4), .val (.int p5), .val (.int p6), .val (.int v1), .val (.ref b2), .val (.ref b24), .unset] [])) _
          refine XS.iload X42.here hx rfl (hb hby at_182) rfl ?_
          show Steps p.tables e below (T42.setTop (mkF m 184 #[.val (.int p1), .val (.int p2), .val (.int p3), .val (.int p4), .val (.int p5), .val (.int p6), .val (.int v1), .val (.ref b2), .val (.ref b24), .unset] [(.int v1)])) _
          refine XS.bipush X42.here hx rfl (hb hby at_184) ?_
          exact ktx
        have hc151_186 : ¬ ((7 : Int32) < v1) := own_tr hc47_108 (by decide)
        have hc152_203 : ¬ ((8 : Int32) < v1) := own_tr hc47_108 (by decide)
        have go153 : own_go p e below (s₁.setTop (entryFrame m #[(.int p1), (.int p2), (.int p3), (.int p4), (.int p5), (.int p6)] maxLocals)) (T42.setTop (mkF m 216 #[.val (.int p1), .val (.int p2), .val (.int p3), .val (.int p4), .val (.int p5), .val (.int p6), .val (.int v1), .val (.ref b2), .val (.ref b24), .unset] [])) := by
          intro ttx ktx
          refine go150 ttx ?_
          show Steps p.tables e below (T42.setTop (mkF m 186 #[.val (.int p1), .val (.int p2), .val (.int p3), .val (.int p4), .val (.int p5), .val (.int p6), .val (.int v1), .val (.ref b2), .val (.ref b24), .unset] [(.int (7 : Int32)), (.int v1)])) _
          refine XS.icmpYes X42.here hx rfl (pc0 := 186) (pc' := 199) rfl (hb hby at_186) rfl (flt hc151_186).2.2.2 (by decide) (by decide) ?_
          show Steps p.tables e below (T42.setTop (mkF m 199 #[.val (.int p1), .val (.int p2), .val (.int p3), .val (.int p4), .val (.int p5), .val (.int p6), .val (.int v1), .val (.ref b2), .val (.ref b24), .unset] [])) _
          refine XS.iload X42.here hx rfl (hb hby at_199) rfl ?_
          show Steps p.tables e below (T42.setTop (mkF m 201 #[.val (.int p1), .val (.int p2), .val (.int p3), .val (.int p4), .val (.int p5), .val (.int p6), .val (.int v1), .val (.ref b2), .val (.ref b24), .unset] [(.int v1)])) _
          refine XS.bipush X42.here hx rfl (hb hby at_201) ?_
          show Steps p.tables e below (T42.setTop (mkF m 203 #[.val (.int p1), .val (.int p2), .val (.int p3), .val (.int p4), .val (.int p5), .val (.int p6), .val (.int v1), .val (.ref b2), .val (.ref b24), .unset] [(.int (8 : Int32)), (.int v1)])) _
          refine XS.icmpYes X42.here hx rfl (pc0 := 203) (pc' := 216) rfl (hb hby at_203) rfl (flt hc152_203).2.2.2 (by decide) (by decide) ?_
          exact ktx
        have hnk : v1 = (2 : Int32) := by
          have hr : 0 ≤ v1.toInt ∧ v1.toInt < 10 := by rw [hv_v1]; exact own_rng _
          have q_hc39_93 := hc39_93
          rw [Int32.lt_iff_toInt_lt] at q_hc39_93
          have q_hc47_108 := hc47_108
          rw [Int32.lt_iff_toInt_lt] at q_hc47_108
          have q_hc146_123 := hc146_123
          rw [Int32.lt_iff_toInt_lt] at q_hc146_123
          have q_hc147_138 := hc147_138
          rw [Int32.lt_iff_toInt_lt] at q_hc147_138
          have q_hc148_153 := hc148_153
          rw [Int32.lt_iff_toInt_lt] at q_hc148_153
          have q_hc149_169 := hc149_169
          rw [Int32.lt_iff_toInt_lt] at q_hc149_169
          have q_hc151_186 := hc151_186
          rw [Int32.lt_iff_toInt_lt] at q_hc151_186
          have q_hc152_203 := hc152_203
          rw [Int32.lt_iff_toInt_lt] at q_hc152_203
          refine Int32.toInt_inj.mp ?_
          have e1 : (1 : Int32).toInt = 1 := rfl
          have e2 : (2 : Int32).toInt = 2 := rfl
          omega
        have f155 := (f40.keep Kq42 (ninS ne25 (ninS ne36 nin0)))
        obtain ⟨T154, h154, L154, bb154, X154, e154, N154, goL154⟩ := own_tail p1 p2 p3 p4 p5 p6 v1 b2 b24 t42 k2 p2 p3 p4 p5 p6 (p2 ^^^ p3) (p4 - p5) (p6 ^^^ (-1 : Int32)) (p2 + p6) ([p2, p3] : List Int32) (own_wide X42 (by decide) (by decide)) hx hZ hw hby hml hown rfl Z42 N42 f155 ls42 (hnk.trans rfl) (Nat.le_of_ble_eq_true rfl) (own_pre _ [p4, p5, p6, (p2 ^^^ p3), (p4 - p5), (p6 ^^^ (-1 : Int32)), (p2 + p6)])
        have go154 : own_go p e below (s₁.setTop (entryFrame m #[(.int p1), (.int p2), (.int p3), (.int p4), (.int p5), (.int p6)] maxLocals)) (T154.setTop (mkF m 353 #[.val (.int p1), .val (.int p2), .val (.int p3), .val (.int p4), .val (.int p5), .val (.int p6), .val (.int v1), .val (.ref b2), .val (.ref b24), .val (.ref bb154)] [])) := fun t k => go153 t (goL154 t k)
        have go156 : own_go p e below (s₁.setTop (entryFrame m #[(.int p1), (.int p2), (.int p3), (.int p4), (.int p5), (.int p6)] maxLocals)) (T154.setTop (mkF m 358 #[.val (.int p1), .val (.int p2), .val (.int p3), .val (.int p4), .val (.int p5), .val (.int p6), .val (.int v1), .val (.ref b2), .val (.ref b24), .val (.ref bb154)] [(.int (1 : Int32))])) := by
          intro ttx ktx
          refine go154 ttx ?_
          show Steps p.tables e below (T154.setTop (mkF m 353 #[.val (.int p1), .val (.int p2), .val (.int p3), .val (.int p4), .val (.int p5), .val (.int p6), .val (.int v1), .val (.ref b2), .val (.ref b24), .val (.ref bb154)] [])) _
          refine XS.iconst X154.here hx rfl (hb hby at_353) ?_
          show Steps p.tables e below (T154.setTop (mkF m 354 #[.val (.int p1), .val (.int p2), .val (.int p3), .val (.int p4), .val (.int p5), .val (.int p6), .val (.int v1), .val (.ref b2), .val (.ref b24), .val (.ref bb154)] [(.int (1 : Int32))])) _
          refine XS.goto X154.here hx rfl (pc0 := 354) (pc' := 358) rfl (hb hby at_354) (by decide) (by decide) ?_
          exact ktx
        obtain ⟨fs, hr, hrun, hended, hW, hsame⟩ := X154.leave (v := some (.int (1 : Int32))) (fun h => by rw [Bd.returns] at h; cases h)
        refine ⟨_, _, go156 _ ?_, hrun, hended, _, _, rfl, ?_, ⟨_, rfl⟩, hW, hsame.mono (by decide) (by decide)⟩
        · exact retN X154 hx (t := .boolean) Bd.returns (by simp) (hb hby at_358) hr
        · show Q0 Z p1 p2 p3 p4 p5 p6 h0 n0 _ T154.heap _
          rw [e154]
          exact ⟨rfl, N154⟩
    · have hc157_108 : ¬ ((2 : Int32) < v1) := own_tr hc39_93 (by decide)
      have hc158_123 : ¬ ((3 : Int32) < v1) := own_tr hc39_93 (by decide)
      have hc159_138 : ¬ ((4 : Int32) < v1) := own_tr hc39_93 (by decide)
      have hc160_153 : ¬ ((5 : Int32) < v1) := own_tr hc39_93 (by decide)
      have go161 : own_go p e below (s₁.setTop (entryFrame m #[(.int p1), (.int p2), (.int p3), (.int p4), (.int p5), (.int p6)] maxLocals)) (T34.setTop (mkF m 169 #[.val (.int p1), .val (.int p2), .val (.int p3), .val (.int p4), .val (.int p5), .val (.int p6), .val (.int v1), .val (.ref b2), .val (.ref b24), .unset] [(.int (6 : Int32)), (.int v1)])) := by
        intro ttx ktx
        refine go38 ttx ?_
        show Steps p.tables e below (T34.setTop (mkF m 93 #[.val (.int p1), .val (.int p2), .val (.int p3), .val (.int p4), .val (.int p5), .val (.int p6), .val (.int v1), .val (.ref b2), .val (.ref b24), .unset] [(.int (1 : Int32)), (.int v1)])) _
        refine XS.icmpYes X34.here hx rfl (pc0 := 93) (pc' := 105) rfl (hb hby at_93) rfl (flt hc39_93).2.2.2 (by decide) (by decide) ?_
        show Steps p.tables e below (T34.setTop (mkF m 105 #[.val (.int p1), .val (.int p2), .val (.int p3), .val (.int p4), .val (.int p5), .val (.int p6), .val (.int v1), .val (.ref b2), .val (.ref b24), .unset] [])) _
        refine XS.iload X34.here hx rfl (hb hby at_105) rfl ?_
        show Steps p.tables e below (T34.setTop (mkF m 107 #[.val (.int p1), .val (.int p2), .val (.int p3), .val (.int p4), .val (.int p5), .val (.int p6), .val (.int v1), .val (.ref b2), .val (.ref b24), .unset] [(.int v1)])) _
        refine XS.iconst X34.here hx rfl (hb hby at_107) ?_
        show Steps p.tables e below (T34.setTop (mkF m 108 #[.val (.int p1), .val (.int p2), .val (.int p3), .val (.int p4), .val (.int p5), .val (.int p6), .val (.int v1), .val (.ref b2), .val (.ref b24), .unset] [(.int (2 : Int32)), (.int v1)])) _
        refine XS.icmpYes X34.here hx rfl (pc0 := 108) (pc' := 120) rfl (hb hby at_108) rfl (flt hc157_108).2.2.2 (by decide) (by decide) ?_
        show Steps p.tables e below (T34.setTop (mkF m 120 #[.val (.int p1), .val (.int p2), .val (.int p3), .val (.int p4), .val (.int p5), .val (.int p6), .val (.int v1), .val (.ref b2), .val (.ref b24), .unset] [])) _
        refine XS.iload X34.here hx rfl (hb hby at_120) rfl ?_
        show Steps p.tables e below (T34.setTop (mkF m 122 #[.val (.int p1), .val (.int p2), .val (.int p3), .val (.int p4), .val (.int p5), .val (.int p6), .val (.int v1), .val (.ref b2), .val (.ref b24), .unset] [(.int v1)])) _
        refine XS.iconst X34.here hx rfl (hb hby at_122) ?_
        show Steps p.tables e below (T34.setTop (mkF m 123 #[.val (.int p1), .val (.int p2), .val (.int p3), .val (.int p4), .val (.int p5), .val (.int p6), .val (.int v1), .val (.ref b2), .val (.ref b24), .unset] [(.int (3 : Int32)), (.int v1)])) _
        refine XS.icmpYes X34.here hx rfl (pc0 := 123) (pc' := 135) rfl (hb hby at_123) rfl (flt hc158_123).2.2.2 (by decide) (by decide) ?_
        show Steps p.tables e below (T34.setTop (mkF m 135 #[.val (.int p1), .val (.int p2), .val (.int p3), .val (.int p4), .val (.int p5), .val (.int p6), .val (.int v1), .val (.ref b2), .val (.ref b24), .unset] [])) _
        refine XS.iload X34.here hx rfl (hb hby at_135) rfl ?_
        show Steps p.tables e below (T34.setTop (mkF m 137 #[.val (.int p1), .val (.int p2), .val (.int p3), .val (.int p4), .val (.int p5), .val (.int p6), .val (.int v1), .val (.ref b2), .val (.ref b24), .unset] [(.int v1)])) _
        refine XS.iconst X34.here hx rfl (hb hby at_137) ?_
        show Steps p.tables e below (T34.setTop (mkF m 138 #[.val (.int p1), .val (.int p2), .val (.int p3), .val (.int p4), .val (.int p5), .val (.int p6), .val (.int v1), .val (.ref b2), .val (.ref b24), .unset] [(.int (4 : Int32)), (.int v1)])) _
        refine XS.icmpYes X34.here hx rfl (pc0 := 138) (pc' := 150) rfl (hb hby at_138) rfl (flt hc159_138).2.2.2 (by decide) (by decide) ?_
        show Steps p.tables e below (T34.setTop (mkF m 150 #[.val (.int p1), .val (.int p2), .val (.int p3), .val (.int p4), .val (.int p5), .val (.int p6), .val (.int v1), .val (.ref b2), .val (.ref b24), .unset] [])) _
        refine XS.iload X34.here hx rfl (hb hby at_150) rfl ?_
        show Steps p.tables e below (T34.setTop (mkF m 152 #[.val (.int p1), .val (.int p2), .val (.int p3), .val (.int p4), .val (.int p5), .val (.int p6), .val (.int v1), .val (.ref b2), .val (.ref b24), .unset] [(.int v1)])) _
        refine XS.iconst X34.here hx rfl (hb hby at_152) ?_
        show Steps p.tables e below (T34.setTop (mkF m 153 #[.val (.int p1), .val (.int p2), .val (.int p3), .val (.int p4), .val (.int p5), .val (.int p6), .val (.int v1), .val (.ref b2), .val (.ref b24), .unset] [(.int (5 : Int32)), (.int v1)])) _
        refine XS.icmpYes X34.here hx rfl (pc0 := 153) (pc' := 165) rfl (hb hby at_153) rfl (flt hc160_153).2.2.2 (by decide) (by decide) ?_
        show Steps p.tables e below (T34.setTop (mkF m 165 #[.val (.int p1), .val (.int p2), .val (.int p3), .val (.int p4), .val (.int p5), .val (.int p6), .val (.int v1), .val (.ref b2), .val (.ref b24), .unset] [])) _
        refine XS.iload X34.here hx rfl (hb hby at_165) rfl ?_
        show Steps p.tables e below (T34.setTop (mkF m 167 #[.val (.int p1), .val (.int p2), .val (.int p3), .val (.int p4), .val (.int p5), .val (.int p6), .val (.int v1), .val (.ref b2), .val (.ref b24), .unset] [(.int v1)])) _
        refine XS.bipush X34.here hx rfl (hb hby at_167) ?_
        exact ktx
      have hc162_169 : ¬ ((6 : Int32) < v1) := own_tr hc39_93 (by decide)
      have hc163_186 : ¬ ((7 : Int32) < v1) := own_tr hc39_93 (by decide)
      have hc164_203 : ¬ ((8 : Int32) < v1) := own_tr hc39_93 (by decide)
      have go165 : own_go p e below (s₁.setTop (entryFrame m #[(.int p1), (.int p2), (.int p3), (.int p4), (.int p5), (.int p6)] maxLocals)) (T34.setTop (mkF m 216 #[.val (.int p1), .val (.int p2), .val (.int p3), .val (.int p4), .val (.int p5), .val (.int p6), .val (.int v1), .val (.ref b2), .val (.ref b24), .unset] [])) := by
        intro ttx ktx
        refine go161 ttx ?_
        show Steps p.tables e below (T34.setTop (mkF m 169 #[.val (.int p1), .val (.int p2), .val (.int p3), .val (.int p4), .val (.int p5), .val (.int p6), .val (.int v1), .val (.ref b2), .val (.ref b24), .unset] [(.int (6 : Int32)), (.int v1)])) _
        refine XS.icmpYes X34.here hx rfl (pc0 := 169) (pc' := 182) rfl (hb hby at_169) rfl (flt hc162_169).2.2.2 (by decide) (by decide) ?_
        show Steps p.tables e below (T34.setTop (mkF m 182 #[.val (.int p1), .val (.int p2), .val (.int p3), .val (.int p4), .val (.int p5), .val (.int p6), .val (.int v1), .val (.ref b2), .val (.ref b24), .unset] [])) _
        refine XS.iload X34.here hx rfl (hb hby at_182) rfl ?_
        show Steps p.tables e below (T34.setTop (mkF m 184 #[.val (.int p1), .val (.int p2), .val (.int p3), .val (.int p4), .val (.int p5), .val (.int p6), .val (.int v1), .val (.ref b2), .val (.ref b24), .unset] [(.int v1)])) _
        refine XS.bipush X34.here hx rfl (hb hby at_184) ?_
        show Steps p.tables e below (T34.setTop (mkF m 186 #[.val (.int p1), .val (.int p2), .val (.int p3), .val (.int p4), .val (.int p5), .val (.int p6), .val (.int v1), .val (.ref b2), .val (.ref b24), .unset] [(.int (7 : Int32)), (.int v1)])) _
        refine XS.icmpYes X34.here hx rfl (pc0 := 186) (pc' := 199) rfl (hb hby at_186) rfl (flt hc163_186).2.2.2 (by decide) (by decide) ?_
        show Steps p.tables e below (T34.setTop (mkF m 199 #[.val (.int p1), .val (.int p2), .val (.int p3), .val (.int p4), .val (.int p5), .val (.int p6), .val (.int v1), .val (.ref b2), .val (.ref b24), .unset] [])) _
        refine XS.iload X34.here hx rfl (hb hby at_199) rfl ?_
        show Steps p.tables e below (T34.setTop (mkF m 201 #[.val (.int p1), .val (.int p2), .val (.int p3), .val (.int p4), .val (.int p5), .val (.int p6), .val (.int v1), .val (.ref b2), .val (.ref b24), .unset] [(.int v1)])) _
        refine XS.bipush X34.here hx rfl (hb hby at_201) ?_
        show Steps p.tables e below (T34.setTop (mkF m 203 #[.val (.int p1), .val (.int p2), .val (.int p3), .val (.int p4), .val (.int p5), .val (.int p6), .val (.int v1), .val (.ref b2), .val (.ref b24), .unset] [(.int (8 : Int32)), (.int v1)])) _
        refine XS.icmpYes X34.here hx rfl (pc0 := 203) (pc' := 216) rfl (hb hby at_203) rfl (flt hc164_203).2.2.2 (by decide) (by decide) ?_
        exact ktx
      have hnk : v1 = (1 : Int32) := by
        have hr : 0 ≤ v1.toInt ∧ v1.toInt < 10 := by rw [hv_v1]; exact own_rng _
        have q_hc31_78 := hc31_78
        rw [Int32.lt_iff_toInt_lt] at q_hc31_78
        have q_hc39_93 := hc39_93
        rw [Int32.lt_iff_toInt_lt] at q_hc39_93
        have q_hc157_108 := hc157_108
        rw [Int32.lt_iff_toInt_lt] at q_hc157_108
        have q_hc158_123 := hc158_123
        rw [Int32.lt_iff_toInt_lt] at q_hc158_123
        have q_hc159_138 := hc159_138
        rw [Int32.lt_iff_toInt_lt] at q_hc159_138
        have q_hc160_153 := hc160_153
        rw [Int32.lt_iff_toInt_lt] at q_hc160_153
        have q_hc162_169 := hc162_169
        rw [Int32.lt_iff_toInt_lt] at q_hc162_169
        have q_hc163_186 := hc163_186
        rw [Int32.lt_iff_toInt_lt] at q_hc163_186
        have q_hc164_203 := hc164_203
        rw [Int32.lt_iff_toInt_lt] at q_hc164_203
        refine Int32.toInt_inj.mp ?_
        have e0 : (0 : Int32).toInt = 0 := rfl
        have e1 : (1 : Int32).toInt = 1 := rfl
        omega
      have f167 := (f32.keep Kq34 (ninS ne25 (ninS ne27 nin0)))
      obtain ⟨T166, h166, L166, bb166, X166, e166, N166, goL166⟩ := own_tail p1 p2 p3 p4 p5 p6 v1 b2 b24 t34 k2 p2 p3 p4 p5 p6 (p2 ^^^ p3) (p4 - p5) (p6 ^^^ (-1 : Int32)) (p2 + p6) ([p2] : List Int32) (own_wide X34 (by decide) (by decide)) hx hZ hw hby hml hown rfl Z34 N34 f167 ls34 (hnk.trans rfl) (Nat.le_of_ble_eq_true rfl) (own_pre _ [p3, p4, p5, p6, (p2 ^^^ p3), (p4 - p5), (p6 ^^^ (-1 : Int32)), (p2 + p6)])
      have go166 : own_go p e below (s₁.setTop (entryFrame m #[(.int p1), (.int p2), (.int p3), (.int p4), (.int p5), (.int p6)] maxLocals)) (T166.setTop (mkF m 353 #[.val (.int p1), .val (.int p2), .val (.int p3), .val (.int p4), .val (.int p5), .val (.int p6), .val (.int v1), .val (.ref b2), .val (.ref b24), .val (.ref bb166)] [])) := fun t k => go165 t (goL166 t k)
      have go168 : own_go p e below (s₁.setTop (entryFrame m #[(.int p1), (.int p2), (.int p3), (.int p4), (.int p5), (.int p6)] maxLocals)) (T166.setTop (mkF m 358 #[.val (.int p1), .val (.int p2), .val (.int p3), .val (.int p4), .val (.int p5), .val (.int p6), .val (.int v1), .val (.ref b2), .val (.ref b24), .val (.ref bb166)] [(.int (1 : Int32))])) := by
        intro ttx ktx
        refine go166 ttx ?_
        show Steps p.tables e below (T166.setTop (mkF m 353 #[.val (.int p1), .val (.int p2), .val (.int p3), .val (.int p4), .val (.int p5), .val (.int p6), .val (.int v1), .val (.ref b2), .val (.ref b24), .val (.ref bb166)] [])) _
        refine XS.iconst X166.here hx rfl (hb hby at_353) ?_
        show Steps p.tables e below (T166.setTop (mkF m 354 #[.val (.int p1), .val (.int p2), .val (.int p3), .val (.int p4), .val (.int p5), .val (.int p6), .val (.int v1), .val (.ref b2), .val (.ref b24), .val (.ref bb166)] [(.int (1 : Int32))])) _
        refine XS.goto X166.here hx rfl (pc0 := 354) (pc' := 358) rfl (hb hby at_354) (by decide) (by decide) ?_
        exact ktx
      obtain ⟨fs, hr, hrun, hended, hW, hsame⟩ := X166.leave (v := some (.int (1 : Int32))) (fun h => by rw [Bd.returns] at h; cases h)
      refine ⟨_, _, go168 _ ?_, hrun, hended, _, _, rfl, ?_, ⟨_, rfl⟩, hW, hsame.mono (by decide) (by decide)⟩
      · exact retN X166 hx (t := .boolean) Bd.returns (by simp) (hb hby at_358) hr
      · show Q0 Z p1 p2 p3 p4 p5 p6 h0 n0 _ T166.heap _
        rw [e166]
        exact ⟨rfl, N166⟩
  · have hc169_93 : ¬ ((1 : Int32) < v1) := own_tr hc31_78 (by decide)
    have hc170_108 : ¬ ((2 : Int32) < v1) := own_tr hc31_78 (by decide)
    have hc171_123 : ¬ ((3 : Int32) < v1) := own_tr hc31_78 (by decide)
    have hc172_138 : ¬ ((4 : Int32) < v1) := own_tr hc31_78 (by decide)
    have go173 : own_go p e below (s₁.setTop (entryFrame m #[(.int p1), (.int p2), (.int p3), (.int p4), (.int p5), (.int p6)] maxLocals)) (T26.setTop (mkF m 153 #[.val (.int p1), .val (.int p2), .val (.int p3), .val (.int p4), .val (.int p5), .val (.int p6), .val (.int v1), .val (.ref b2), .val (.ref b24), .unset] [(.int (5 : Int32)), (.int v1)])) := by
      intro ttx ktx
      refine go30 ttx ?_
      show Steps p.tables e below (T26.setTop (mkF m 78 #[.val (.int p1), .val (.int p2), .val (.int p3), .val (.int p4), .val (.int p5), .val (.int p6), .val (.int v1), .val (.ref b2), .val (.ref b24), .unset] [(.int v1)])) _
      refine XS.ifYes X26.here hx rfl (pc0 := 78) (pc' := 90) rfl (hb hby at_78) rfl ((if0 _ _).trans (flt hc31_78).2.2.2) (by decide) (by decide) ?_
      show Steps p.tables e below (T26.setTop (mkF m 90 #[.val (.int p1), .val (.int p2), .val (.int p3), .val (.int p4), .val (.int p5), .val (.int p6), .val (.int v1), .val (.ref b2), .val (.ref b24), .unset] [])) _
      refine XS.iload X26.here hx rfl (hb hby at_90) rfl ?_
      show Steps p.tables e below (T26.setTop (mkF m 92 #[.val (.int p1), .val (.int p2), .val (.int p3), .val (.int p4), .val (.int p5), .val (.int p6), .val (.int v1), .val (.ref b2), .val (.ref b24), .unset] [(.int v1)])) _
      refine XS.iconst X26.here hx rfl (hb hby at_92) ?_
      show Steps p.tables e below (T26.setTop (mkF m 93 #[.val (.int p1), .val (.int p2), .val (.int p3), .val (.int p4), .val (.int p5), .val (.int p6), .val (.int v1), .val (.ref b2), .val (.ref b24), .unset] [(.int (1 : Int32)), (.int v1)])) _
      refine XS.icmpYes X26.here hx rfl (pc0 := 93) (pc' := 105) rfl (hb hby at_93) rfl (flt hc169_93).2.2.2 (by decide) (by decide) ?_
      show Steps p.tables e below (T26.setTop (mkF m 105 #[.val (.int p1), .val (.int p2), .val (.int p3), .val (.int p4), .val (.int p5), .val (.int p6), .val (.int v1), .val (.ref b2), .val (.ref b24), .unset] [])) _
      refine XS.iload X26.here hx rfl (hb hby at_105) rfl ?_
      show Steps p.tables e below (T26.setTop (mkF m 107 #[.val (.int p1), .val (.int p2), .val (.int p3), .val (.int p4), .val (.int p5), .val (.int p6), .val (.int v1), .val (.ref b2), .val (.ref b24), .unset] [(.int v1)])) _
      refine XS.iconst X26.here hx rfl (hb hby at_107) ?_
      show Steps p.tables e below (T26.setTop (mkF m 108 #[.val (.int p1), .val (.int p2), .val (.int p3), .val (.int p4), .val (.int p5), .val (.int p6), .val (.int v1), .val (.ref b2), .val (.ref b24), .unset] [(.int (2 : Int32)), (.int v1)])) _
      refine XS.icmpYes X26.here hx rfl (pc0 := 108) (pc' := 120) rfl (hb hby at_108) rfl (flt hc170_108).2.2.2 (by decide) (by decide) ?_
      show Steps p.tables e below (T26.setTop (mkF m 120 #[.val (.int p1), .val (.int p2), .val (.int p3), .val (.int p4), .val (.int p5), .val (.int p6), .val (.int v1), .val (.ref b2), .val (.ref b24), .unset] [])) _
      refine XS.iload X26.here hx rfl (hb hby at_120) rfl ?_
      show Steps p.tables e below (T26.setTop (mkF m 122 #[.val (.int p1), .val (.int p2), .val (.int p3), .val (.int p4), .val (.int p5), .val (.int p6), .val (.int v1), .val (.ref b2), .val (.ref b24), .unset] [(.int v1)])) _
      refine XS.iconst X26.here hx rfl (hb hby at_122) ?_
      show Steps p.tables e below (T26.setTop (mkF m 123 #[.val (.int p1), .val (.int p2), .val (.int p3), .val (.int p4), .val (.int p5), .val (.int p6), .val (.int v1), .val (.ref b2), .val (.ref b24), .unset] [(.int (3 : Int32)), (.int v1)])) _
      refine XS.icmpYes X26.here hx rfl (pc0 := 123) (pc' := 135) rfl (hb hby at_123) rfl (flt hc171_123).2.2.2 (by decide) (by decide) ?_
      show Steps p.tables e below (T26.setTop (mkF m 135 #[.val (.int p1), .val (.int p2), .val (.int p3), .val (.int p4), .val (.int p5), .val (.int p6), .val (.int v1), .val (.ref b2), .val (.ref b24), .unset] [])) _
      refine XS.iload X26.here hx rfl (hb hby at_135) rfl ?_
      show Steps p.tables e below (T26.setTop (mkF m 137 #[.val (.int p1), .val (.int p2), .val (.int p3), .val (.int p4), .val (.int p5), .val (.int p6), .val (.int v1), .val (.ref b2), .val (.ref b24), .unset] [(.int v1)])) _
      refine XS.iconst X26.here hx rfl (hb hby at_137) ?_
      show Steps p.tables e below (T26.setTop (mkF m 138 #[.val (.int p1), .val (.int p2), .val (.int p3), .val (.int p4), .val (.int p5), .val (.int p6), .val (.int v1), .val (.ref b2), .val (.ref b24), .unset] [(.int (4 : Int32)), (.int v1)])) _
      refine XS.icmpYes X26.here hx rfl (pc0 := 138) (pc' := 150) rfl (hb hby at_138) rfl (flt hc172_138).2.2.2 (by decide) (by decide) ?_
      show Steps p.tables e below (T26.setTop (mkF m 150 #[.val (.int p1), .val (.int p2), .val (.int p3), .val (.int p4), .val (.int p5), .val (.int p6), .val (.int v1), .val (.ref b2), .val (.ref b24), .unset] [])) _
      refine XS.iload X26.here hx rfl (hb hby at_150) rfl ?_
      show Steps p.tables e below (T26.setTop (mkF m 152 #[.val (.int p1), .val (.int p2), .val (.int p3), .val (.int p4), .val (.int p5), .val (.int p6), .val (.int v1), .val (.ref b2), .val (.ref b24), .unset] [(.int v1)])) _
      refine XS.iconst X26.here hx rfl (hb hby at_152) ?_
      exact ktx
    have hc174_153 : ¬ ((5 : Int32) < v1) := own_tr hc31_78 (by decide)
    have hc175_169 : ¬ ((6 : Int32) < v1) := own_tr hc31_78 (by decide)
    have hc176_186 : ¬ ((7 : Int32) < v1) := own_tr hc31_78 (by decide)
    have hc177_203 : ¬ ((8 : Int32) < v1) := own_tr hc31_78 (by decide)
    have go178 : own_go p e below (s₁.setTop (entryFrame m #[(.int p1), (.int p2), (.int p3), (.int p4), (.int p5), (.int p6)] maxLocals)) (T26.setTop (mkF m 216 #[.val (.int p1), .val (.int p2), .val (.int p3), .val (.int p4), .val (.int p5), .val (.int p6), .val (.int v1), .val (.ref b2), .val (.ref b24), .unset] [])) := by
      intro ttx ktx
      refine go173 ttx ?_
      show Steps p.tables e below (T26.setTop (mkF m 153 #[.val (.int p1), .val (.int p2), .val (.int p3), .val (.int p4), .val (.int p5), .val (.int p6), .val (.int v1), .val (.ref b2), .val (.ref b24), .unset] [(.int (5 : Int32)), (.int v1)])) _
      refine XS.icmpYes X26.here hx rfl (pc0 := 153) (pc' := 165) rfl (hb hby at_153) rfl (flt hc174_153).2.2.2 (by decide) (by decide) ?_
      show Steps p.tables e below (T26.setTop (mkF m 165 #[.val (.int p1), .val (.int p2), .val (.int p3), .val (.int p4), .val (.int p5), .val (.int p6), .val (.int v1), .val (.ref b2), .val (.ref b24), .unset] [])) _
      refine XS.iload X26.here hx rfl (hb hby at_165) rfl ?_
      show Steps p.tables e below (T26.setTop (mkF m 167 #[.val (.int p1), .val (.int p2), .val (.int p3), .val (.int p4), .val (.int p5), .val (.int p6), .val (.int v1), .val (.ref b2), .val (.ref b24), .unset] [(.int v1)])) _
      refine XS.bipush X26.here hx rfl (hb hby at_167) ?_
      show Steps p.tables e below (T26.setTop (mkF m 169 #[.val (.int p1), .val (.int p2), .val (.int p3), .val (.int p4), .val (.int p5), .val (.int p6), .val (.int v1), .val (.ref b2), .val (.ref b24), .unset] [(.int (6 : Int32)), (.int v1)])) _
      refine XS.icmpYes X26.here hx rfl (pc0 := 169) (pc' := 182) rfl (hb hby at_169) rfl (flt hc175_169).2.2.2 (by decide) (by decide) ?_
      show Steps p.tables e below (T26.setTop (mkF m 182 #[.val (.int p1), .val (.int p2), .val (.int p3), .val (.int p4), .val (.int p5), .val (.int p6), .val (.int v1), .val (.ref b2), .val (.ref b24), .unset] [])) _
      refine XS.iload X26.here hx rfl (hb hby at_182) rfl ?_
      show Steps p.tables e below (T26.setTop (mkF m 184 #[.val (.int p1), .val (.int p2), .val (.int p3), .val (.int p4), .val (.int p5), .val (.int p6), .val (.int v1), .val (.ref b2), .val (.ref b24), .unset] [(.int v1)])) _
      refine XS.bipush X26.here hx rfl (hb hby at_184) ?_
      show Steps p.tables e below (T26.setTop (mkF m 186 #[.val (.int p1), .val (.int p2), .val (.int p3), .val (.int p4), .val (.int p5), .val (.int p6), .val (.int v1), .val (.ref b2), .val (.ref b24), .unset] [(.int (7 : Int32)), (.int v1)])) _
      refine XS.icmpYes X26.here hx rfl (pc0 := 186) (pc' := 199) rfl (hb hby at_186) rfl (flt hc176_186).2.2.2 (by decide) (by decide) ?_
      show Steps p.tables e below (T26.setTop (mkF m 199 #[.val (.int p1), .val (.int p2), .val (.int p3), .val (.int p4), .val (.int p5), .val (.int p6), .val (.int v1), .val (.ref b2), .val (.ref b24), .unset] [])) _
      refine XS.iload X26.here hx rfl (hb hby at_199) rfl ?_
      show Steps p.tables e below (T26.setTop (mkF m 201 #[.val (.int p1), .val (.int p2), .val (.int p3), .val (.int p4), .val (.int p5), .val (.int p6), .val (.int v1), .val (.ref b2), .val (.ref b24), .unset] [(.int v1)])) _
      refine XS.bipush X26.here hx rfl (hb hby at_201) ?_
      show Steps p.tables e below (T26.setTop (mkF m 203 #[.val (.int p1), .val (.int p2), .val (.int p3), .val (.int p4), .val (.int p5), .val (.int p6), .val (.int v1), .val (.ref b2), .val (.ref b24), .unset] [(.int (8 : Int32)), (.int v1)])) _
      refine XS.icmpYes X26.here hx rfl (pc0 := 203) (pc' := 216) rfl (hb hby at_203) rfl (flt hc177_203).2.2.2 (by decide) (by decide) ?_
      exact ktx
    have hnk : v1 = (0 : Int32) := by
      have hr : 0 ≤ v1.toInt ∧ v1.toInt < 10 := by rw [hv_v1]; exact own_rng _
      have q_hc31_78 := hc31_78
      rw [Int32.lt_iff_toInt_lt] at q_hc31_78
      have q_hc169_93 := hc169_93
      rw [Int32.lt_iff_toInt_lt] at q_hc169_93
      have q_hc170_108 := hc170_108
      rw [Int32.lt_iff_toInt_lt] at q_hc170_108
      have q_hc171_123 := hc171_123
      rw [Int32.lt_iff_toInt_lt] at q_hc171_123
      have q_hc172_138 := hc172_138
      rw [Int32.lt_iff_toInt_lt] at q_hc172_138
      have q_hc174_153 := hc174_153
      rw [Int32.lt_iff_toInt_lt] at q_hc174_153
      have q_hc175_169 := hc175_169
      rw [Int32.lt_iff_toInt_lt] at q_hc175_169
      have q_hc176_186 := hc176_186
      rw [Int32.lt_iff_toInt_lt] at q_hc176_186
      have q_hc177_203 := hc177_203
      rw [Int32.lt_iff_toInt_lt] at q_hc177_203
      refine Int32.toInt_inj.mp ?_
      have e0 : (0 : Int32).toInt = 0 := rfl
      omega
    have f180 := (f28.keep Kq26 (ninS ne25 nin0))
    obtain ⟨T179, h179, L179, bb179, X179, e179, N179, goL179⟩ := own_tail p1 p2 p3 p4 p5 p6 v1 b2 b24 t26 k2 p2 p3 p4 p5 p6 (p2 ^^^ p3) (p4 - p5) (p6 ^^^ (-1 : Int32)) (p2 + p6) ([] : List Int32) (own_wide X26 (by decide) (by decide)) hx hZ hw hby hml hown rfl Z26 N26 f180 ls26 (hnk.trans rfl) (Nat.le_of_ble_eq_true rfl) (own_pre _ [p2, p3, p4, p5, p6, (p2 ^^^ p3), (p4 - p5), (p6 ^^^ (-1 : Int32)), (p2 + p6)])
    have go179 : own_go p e below (s₁.setTop (entryFrame m #[(.int p1), (.int p2), (.int p3), (.int p4), (.int p5), (.int p6)] maxLocals)) (T179.setTop (mkF m 353 #[.val (.int p1), .val (.int p2), .val (.int p3), .val (.int p4), .val (.int p5), .val (.int p6), .val (.int v1), .val (.ref b2), .val (.ref b24), .val (.ref bb179)] [])) := fun t k => go178 t (goL179 t k)
    have go181 : own_go p e below (s₁.setTop (entryFrame m #[(.int p1), (.int p2), (.int p3), (.int p4), (.int p5), (.int p6)] maxLocals)) (T179.setTop (mkF m 358 #[.val (.int p1), .val (.int p2), .val (.int p3), .val (.int p4), .val (.int p5), .val (.int p6), .val (.int v1), .val (.ref b2), .val (.ref b24), .val (.ref bb179)] [(.int (1 : Int32))])) := by
      intro ttx ktx
      refine go179 ttx ?_
      show Steps p.tables e below (T179.setTop (mkF m 353 #[.val (.int p1), .val (.int p2), .val (.int p3), .val (.int p4), .val (.int p5), .val (.int p6), .val (.int v1), .val (.ref b2), .val (.ref b24), .val (.ref bb179)] [])) _
      refine XS.iconst X179.here hx rfl (hb hby at_353) ?_
      show Steps p.tables e below (T179.setTop (mkF m 354 #[.val (.int p1), .val (.int p2), .val (.int p3), .val (.int p4), .val (.int p5), .val (.int p6), .val (.int v1), .val (.ref b2), .val (.ref b24), .val (.ref bb179)] [(.int (1 : Int32))])) _
      refine XS.goto X179.here hx rfl (pc0 := 354) (pc' := 358) rfl (hb hby at_354) (by decide) (by decide) ?_
      exact ktx
    obtain ⟨fs, hr, hrun, hended, hW, hsame⟩ := X179.leave (v := some (.int (1 : Int32))) (fun h => by rw [Bd.returns] at h; cases h)
    refine ⟨_, _, go181 _ ?_, hrun, hended, _, _, rfl, ?_, ⟨_, rfl⟩, hW, hsame.mono (by decide) (by decide)⟩
    · exact retN X179 hx (t := .boolean) Bd.returns (by simp) (hb hby at_358) hr
    · show Q0 Z p1 p2 p3 p4 p5 p6 h0 n0 _ T179.heap _
      rw [e179]
      exact ⟨rfl, N179⟩
set_option maxRecDepth 65536 in
set_option maxHeartbeats 40000000 in
theorem comes_1 {Post : Tables → Env → Array Value → State → Outcome → State → Prop} (hpost : ∀ tb e args s v u, (limb_1_1.after args s (.returned v) u = true ∧ limb_1_2.after args s (.returned v) u = true ∧ True) → FrameEnd s (.returned v) u (Jvm.fieldLocs frame_1_writes args s ++ Jvm.arrayLocs frame_1_arrays args s ++ Jvm.staticLocs frame_1_statics s) 24 192 → Post tb e args s (.returned v) u) :
    ArmFor flags0 classFile x code maxLocals ret World_1 tables_1 room_1 Calls_1 rest_1 Pre_1 Post := by
  intro l hfl _ _ p e ha hc hk s m args below hf hA hF happ hP
  obtain ⟨hcalls, hrest, hpre⟩ := hP
  obtain ⟨-, -, -, hnamed, -, -, -, hat⟩ := (Spec.applies_iff hf).mp happ
  obtain ⟨hg, hn⟩ := and_e (Cond.before_iff.mp (show (Jvm.Cond.and given_1 narrow_1).before args s = true from hpre))
  obtain ⟨ga0, gb0⟩ := and_e hg
  obtain ⟨ga1, gb1⟩ := and_e gb0
  obtain ⟨ga2, gb2⟩ := and_e gb1
  obtain ⟨ga3, gb3⟩ := and_e gb2
  obtain ⟨ga4, gb4⟩ := and_e gb3
  obtain ⟨ga5, gb5⟩ := and_e gb4
  obtain ⟨w0, w1, w2, w3, w4, w5, rfl⟩ : ∃ w0 w1 w2 w3 w4 w5 : Value, args = #[w0, w1, w2, w3, w4, w5] := by
    have hs : args.size = 6 := by simpa [Cond.value, given_1] using ga0
    obtain ⟨L⟩ := args
    match L, hs with
    | [w0, w1, w2, w3, w4, w5], _ => exact ⟨w0, w1, w2, w3, w4, w5, rfl⟩
  have hw := fun d (hd : d ∈ tables_1) => atoms_spec (ws := Jvm.Cond.code x code maxLocals ret :: tables_1) hat d (List.mem_cons_of_mem _ hd)
  have hfit : Fit s := fun {y c} hc i hi => by
    obtain ⟨ha, rfl⟩ := Array.getElem?_eq_some_iff.mp hc
    have q := List.all_eq_true.mp ((Array.all_eq_true_iff_forall_mem.mp hF) _ (Array.getElem_mem ha)) i (List.mem_range.mpr hi)
    simpa [Array.getElem?_eq_getElem hi] using q
  obtain ⟨i0, ei0⟩ := is_v ga1
  obtain rfl : w0 = (.int i0) := Option.some.inj ei0
  obtain ⟨i1, ei1⟩ := is_v ga2
  obtain rfl : w1 = (.int i1) := Option.some.inj ei1
  obtain ⟨i2, ei2⟩ := is_v ga3
  obtain rfl : w2 = (.int i2) := Option.some.inj ei2
  obtain ⟨i3, ei3⟩ := is_v ga4
  obtain rfl : w3 = (.int i3) := Option.some.inj ei3
  obtain ⟨i4, ei4⟩ := is_v ga5
  obtain rfl : w4 = (.int i4) := Option.some.inj ei4
  obtain ⟨i5, ei5⟩ := is_v gb5
  obtain rfl : w5 = (.int i5) := Option.some.inj ei5
  obtain ⟨n, o, h1, h2, h3, _, L, rfl, ⟨rfl, N⟩, hq⟩ := rm0 l s _ hw tables_1 i0 i1 i2 i3 i4 i5  s.heap s.heap.size (Nat.le_refl _)  p e ha hc hk s m _ below hf ((Spec.applies_iff_loose hf).mp happ).1 ⟨rfl, State.Warmed39.refl s, rfl⟩ trivial
  refine ⟨n, _, h1, h2, h3, hpost _ _ _ _ _ _ ⟨Cond.after_iff.mpr rfl, Cond.after_iff.mpr (eq_i res_at (Term.int_eval (1)) rfl), trivial⟩ ⟨hq.1, hq.2.1, (hq.2.2.sift fun y hy => Or.inr (N y hy)).mono (by decide) (by decide)⟩⟩
theorem main_1_1 : Claimed_1_1 := comes_1 fun _ _ _ _ _ _ h hF => ⟨h.1, hF⟩
theorem main_1_2 : Claimed_1_2 := comes_1 fun _ _ _ _ _ _ h hF => ⟨h.2.1, hF⟩
end Jvm.Pilot.@@N@@
namespace Jvm.Pilot.@@N@@
open Jvm Jvm.ClassFile Sem Op Lib Jvm.Free Jvm.Stand Jvm.Pilot.@@N@@.Jvm.D
/-! MADE BY PROGRAM (witnessworld.py) out of the Statement's table words and the real class files: 12 classes; the members and pool entries that the words name. The judged class is class 1, her method 1. -/
namespace start1
open Jvm.ClassFile
def u (s : String) : CpInfo := .utf8 (stringToUtf16 s)
/-- a pool by its gaps: so many unusable entries, then the entry; so many at the end -/
def gap : Nat → List CpInfo → List CpInfo
  | 0, r => r
  | n + 1, r => .unusable :: gap n r
def poolList (es : List (Nat × CpInfo)) (last : Nat) : List CpInfo := es.foldr (fun e r => gap e.1 (e.2 :: r)) (gap last [])
def pool (es : List (Nat × CpInfo)) (last : Nat) : Array CpInfo := ⟨poolList es last⟩
def fileOf (pool : Array CpInfo) (this : Nat) (attrs : Array Attribute := #[]) (ms : Array MethodInfo := #[]) (fl : Nat := 33) (sup : Nat := 0) (ifs : Array Nat := #[]) (fds : Array FieldInfo := #[]) : ClassFile where
  minorVersion := 0
  majorVersion := 65
  constantPool := pool
  accessFlags := fl
  thisClass := this
  superClass := sup
  interfaces := ifs
  fields := fds
  methods := ms
  attributes := attrs
def plain (name : String) (sup : Option ClassId) : Class where
  name := name
  kind := .ordinary
  loader := none
  accessFlags := 33
  super := sup
  interfaces := #[]
  cf := none
  fields := #[]
  methods := #[]
  instanceTypes := #[]
  staticTypes := #[]
  resolved := #[]
  callSites := []
  init := .initialized
  statics := none
  mirror := none

def pool0 : Array CpInfo := pool [(5, u "<init>"), (0, u "()V"), (1, .class_ 10), (1, u "java/lang/Object"), (85, u "clone"), (0, u "()Ljava/lang/Object;")] 26

def k0c0 : Code := { maxStack := 0, maxLocals := 1, code := object_method_1_code, exceptionTable := #[], attributes := #[] }
def k0m0 : Method := { name := "<init>", desc := "()V", sig := { parameters := [], returnType := none }, accessFlags := 1, code := some k0c0 }
def k0m1 : Method := { name := "clone", desc := "()Ljava/lang/Object;", sig := { parameters := [], returnType := some (.object "java/lang/Object") }, accessFlags := 260, code := none }
/-- java/lang/Object -/
def k0 : Class := { plain "java/lang/Object" none with
  accessFlags := 33
  interfaces := #[]
  cf := some (fileOf pool0 8 #[] #[{ accessFlags := 1, nameIndex := 5, descriptorIndex := 6, attributes := #[] }, { accessFlags := 260, nameIndex := 96, descriptorIndex := 97, attributes := #[] }] 33 0 #[] #[])
  fields := #[]
  methods := #[k0m0, k0m1]
  instanceTypes := #[]
  staticTypes := #[]
  resolved := Array.replicate 124 none
  statics := none }

def pool1 : Array CpInfo := pool [(2, .class_ 4), (0, .nameAndType 5 6), (0, u "java/lang/Object"), (0, u "<init>"), (0, u "()V"), (0, .integer 2147483647), (0, .class_ 9), (0, u "com/example/viable/viable/IntList"), (0, .methodref 8 3), (0, .methodref 8 12), (0, .nameAndType 13 14), (0, u "add"), (0, u "(I)V"), (0, .methodref 8 16), (0, .nameAndType 17 18), (0, u "toArray"), (0, u "()[I"), (0, .methodref 20 21), (0, .class_ 22), (0, .nameAndType 23 24), (0, u "com/example/viable/viable/IntListAddPinLaw"), (0, u "at"), (0, u "([I[III)Z"), (2, u "law"), (0, u "(IIIIII)Z")] 5

def k1m0 : Method := { name := "<init>", desc := "()V", sig := { parameters := [], returnType := none }, accessFlags := 1, code := none }
def k1c1 : Code := { maxStack := 5, maxLocals := 10, code := code, exceptionTable := #[], attributes := #[] }
def k1m1 : Method := { name := "law", desc := "(IIIIII)Z", sig := { parameters := [.int, .int, .int, .int, .int, .int], returnType := some .boolean }, accessFlags := 9, code := some k1c1 }
def k1c2 : Code := { maxStack := 3, maxLocals := 4, code := method_3_code, exceptionTable := #[], attributes := #[] }
def k1m2 : Method := { name := "at", desc := "([I[III)Z", sig := { parameters := [(.array .int), (.array .int), .int, .int], returnType := some .boolean }, accessFlags := 10, code := some k1c2 }
/-- com/example/viable/viable/IntListAddPinLaw -/
def k1 : Class := { plain "com/example/viable/viable/IntListAddPinLaw" (some 0) with
  accessFlags := 49
  interfaces := #[]
  cf := some (fileOf pool1 20 #[] #[{ accessFlags := 1, nameIndex := 5, descriptorIndex := 6, attributes := #[] }, { accessFlags := 9, nameIndex := 27, descriptorIndex := 28, attributes := #[] }, { accessFlags := 10, nameIndex := 23, descriptorIndex := 24, attributes := #[] }] 49 2 #[] #[])
  fields := #[]
  methods := #[k1m0, k1m1, k1m2]
  instanceTypes := #[]
  staticTypes := #[]
  resolved := Array.replicate 34 none
  statics := none }

def pool2 : Array CpInfo := pool [(1, .methodref 2 3), (0, .class_ 4), (0, .nameAndType 5 6), (0, u "java/lang/Object"), (0, u "<init>"), (0, u "()V"), (0, .fieldref 8 9), (0, .class_ 10), (0, .nameAndType 11 12), (0, u "com/example/viable/viable/IntList"), (0, u "values"), (0, u "[I"), (0, .fieldref 8 14), (0, .nameAndType 15 16), (0, u "size"), (0, u "I"), (4, u "(I)V"), (0, .methodref 23 24), (0, .class_ 25), (0, .nameAndType 26 27), (0, u "java/util/Arrays"), (0, u "copyOf"), (0, u "([II)[I"), (2, u "toArray"), (0, u "()[I"), (10, u "add")] 4

def k2c0 : Code := { maxStack := 2, maxLocals := 1, code := prog_18_method_1_code, exceptionTable := #[], attributes := #[] }
def k2m0 : Method := { name := "<init>", desc := "()V", sig := { parameters := [], returnType := none }, accessFlags := 0, code := some k2c0 }
def k2c1 : Code := { maxStack := 5, maxLocals := 2, code := prog_18_method_4_code, exceptionTable := #[], attributes := #[] }
def k2m1 : Method := { name := "add", desc := "(I)V", sig := { parameters := [.int], returnType := none }, accessFlags := 0, code := some k2c1 }
def k2c2 : Code := { maxStack := 2, maxLocals := 1, code := prog_18_method_6_code, exceptionTable := #[], attributes := #[] }
def k2m2 : Method := { name := "toArray", desc := "()[I", sig := { parameters := [], returnType := some (.array .int) }, accessFlags := 0, code := some k2c2 }
/-- com/example/viable/viable/IntList -/
def k2 : Class := { plain "com/example/viable/viable/IntList" (some 0) with
  accessFlags := 48
  interfaces := #[]
  cf := some (fileOf pool2 8 #[] #[{ accessFlags := 0, nameIndex := 5, descriptorIndex := 6, attributes := #[] }, { accessFlags := 0, nameIndex := 42, descriptorIndex := 21, attributes := #[] }, { accessFlags := 0, nameIndex := 30, descriptorIndex := 31, attributes := #[] }] 48 2 #[] #[{ accessFlags := 2, nameIndex := 11, descriptorIndex := 12, attributes := #[] }, { accessFlags := 2, nameIndex := 15, descriptorIndex := 16, attributes := #[] }])
  fields := #[{ name := "values", type := (.array .int), accessFlags := 2, slot := 0, constantValue := 0 }, { name := "size", type := .int, accessFlags := 2, slot := 1, constantValue := 0 }]
  methods := #[k2m0, k2m1, k2m2]
  instanceTypes := #[(.array .int), .int]
  staticTypes := #[]
  resolved := Array.replicate 47 none
  statics := none }

def pool3 : Array CpInfo := pool [(2, .class_ 4), (1, u "java/lang/Object"), (0, u "<init>"), (0, u "()V"), (7, .class_ 16), (1, u "java/util/Arrays"), (57, .class_ 76), (1, u "java/util/Arrays$NaturalOrder"), (32, u "()Ljava/lang/Object;"), (3, .class_ 115), (1, u "java/util/Arrays$LegacyMergeSort"), (1, u "Z"), (10, .nameAndType 129 109), (0, u "clone"), (20, .methodref 151 152), (0, .class_ 153), (0, .nameAndType 154 155), (0, u "java/lang/System"), (0, u "arraycopy"), (0, u "(Ljava/lang/Object;ILjava/lang/Object;II)V"), (146, u "copyOf"), (1, .methodref 305 306), (0, .class_ 307), (0, .nameAndType 308 309), (0, u "java/lang/Math"), (0, u "min"), (0, u "(II)I"), (6, .methodref 317 128), (0, .class_ 318), (0, u "[I"), (56, .class_ 376), (0, u "java/util/Arrays$ArrayList"), (68, u "$assertionsDisabled"), (269, u "MIN_ARRAY_SORT_GRAN"), (0, u "I"), (2, u "INSERTIONSORT_THRESHOLD"), (151, u "([II)[I"), (103, .class_ 976), (0, u "java/util/Arrays$ArrayItr")] 52

def k3m0 : Method := { name := "<init>", desc := "()V", sig := { parameters := [], returnType := none }, accessFlags := 2, code := none }
def k3c1 : Code := { maxStack := 6, maxLocals := 3, code := jdk_65_method_123_code, exceptionTable := #[], attributes := #[] }
def k3m1 : Method := { name := "copyOf", desc := "([II)[I", sig := { parameters := [(.array .int), .int], returnType := some (.array .int) }, accessFlags := 9, code := some k3c1 }
/-- java/util/Arrays -/
def k3 : Class := { plain "java/util/Arrays" (some 0) with
  accessFlags := 49
  interfaces := #[]
  cf := some (fileOf pool3 14 #[.nestMembers #[975, 375, 113, 74]] #[{ accessFlags := 2, nameIndex := 5, descriptorIndex := 6, attributes := #[] }, { accessFlags := 9, nameIndex := 302, descriptorIndex := 871, attributes := #[] }] 49 2 #[] #[{ accessFlags := 26, nameIndex := 715, descriptorIndex := 716, attributes := #[] }, { accessFlags := 26, nameIndex := 719, descriptorIndex := 716, attributes := #[] }, { accessFlags := 4120, nameIndex := 445, descriptorIndex := 117, attributes := #[] }])
  fields := #[{ name := "MIN_ARRAY_SORT_GRAN", type := .int, accessFlags := 26, slot := 0, constantValue := 0 }, { name := "INSERTIONSORT_THRESHOLD", type := .int, accessFlags := 26, slot := 1, constantValue := 0 }, { name := "$assertionsDisabled", type := .boolean, accessFlags := 4120, slot := 2, constantValue := 0 }]
  methods := #[k3m0, k3m1]
  instanceTypes := #[]
  staticTypes := #[.int, .int, .boolean]
  resolved := Array.replicate 1029 none
  statics := none }

def pool4 : Array CpInfo := pool [(1, .class_ 2), (0, u "java/lang/Math"), (1, .class_ 6), (1, u "java/lang/Object"), (0, u "<init>"), (0, u "()V"), (89, .class_ 100), (1, u "java/lang/Math$RandomNumberGeneratorHolder"), (71, u "negativeZeroFloatBits"), (0, u "J"), (2, u "negativeZeroDoubleBits"), (24, u "min"), (43, u "$assertionsDisabled"), (0, u "Z"), (88, u "(II)I"), (2, u "twoToTheDoubleScaleDown"), (0, u "D"), (4, u "twoToTheDoubleScaleUp"), (9, u "E"), (3, u "PI"), (2, u "TAU"), (2, u "DEGREES_TO_RADIANS"), (0, u "RADIANS_TO_DEGREES")] 94

def k4m0 : Method := { name := "<init>", desc := "()V", sig := { parameters := [], returnType := none }, accessFlags := 2, code := none }
def k4c1 : Code := { maxStack := 2, maxLocals := 2, code := jdk_29_method_69_code, exceptionTable := #[], attributes := #[] }
def k4m1 : Method := { name := "min", desc := "(II)I", sig := { parameters := [.int, .int], returnType := some .int }, accessFlags := 9, code := some k4c1 }
/-- java/lang/Math -/
def k4 : Class := { plain "java/lang/Math" (some 0) with
  accessFlags := 49
  interfaces := #[]
  cf := some (fileOf pool4 1 #[.nestMembers #[98]] #[{ accessFlags := 2, nameIndex := 7, descriptorIndex := 8, attributes := #[] }, { accessFlags := 9, nameIndex := 201, descriptorIndex := 335, attributes := #[] }] 49 4 #[] #[{ accessFlags := 25, nameIndex := 354, descriptorIndex := 339, attributes := #[] }, { accessFlags := 25, nameIndex := 358, descriptorIndex := 339, attributes := #[] }, { accessFlags := 25, nameIndex := 361, descriptorIndex := 339, attributes := #[] }, { accessFlags := 26, nameIndex := 364, descriptorIndex := 339, attributes := #[] }, { accessFlags := 26, nameIndex := 365, descriptorIndex := 339, attributes := #[] }, { accessFlags := 26, nameIndex := 172, descriptorIndex := 173, attributes := #[] }, { accessFlags := 26, nameIndex := 176, descriptorIndex := 173, attributes := #[] }, { accessFlags := 8, nameIndex := 344, descriptorIndex := 339, attributes := #[] }, { accessFlags := 8, nameIndex := 338, descriptorIndex := 339, attributes := #[] }, { accessFlags := 4120, nameIndex := 245, descriptorIndex := 246, attributes := #[] }])
  fields := #[{ name := "E", type := .double, accessFlags := 25, slot := 0, constantValue := 0 }, { name := "PI", type := .double, accessFlags := 25, slot := 1, constantValue := 0 }, { name := "TAU", type := .double, accessFlags := 25, slot := 2, constantValue := 0 }, { name := "DEGREES_TO_RADIANS", type := .double, accessFlags := 26, slot := 3, constantValue := 0 }, { name := "RADIANS_TO_DEGREES", type := .double, accessFlags := 26, slot := 4, constantValue := 0 }, { name := "negativeZeroFloatBits", type := .long, accessFlags := 26, slot := 5, constantValue := 0 }, { name := "negativeZeroDoubleBits", type := .long, accessFlags := 26, slot := 6, constantValue := 0 }, { name := "twoToTheDoubleScaleUp", type := .double, accessFlags := 8, slot := 7, constantValue := 0 }, { name := "twoToTheDoubleScaleDown", type := .double, accessFlags := 8, slot := 8, constantValue := 0 }, { name := "$assertionsDisabled", type := .boolean, accessFlags := 4120, slot := 9, constantValue := 0 }]
  methods := #[k4m0, k4m1]
  instanceTypes := #[]
  staticTypes := #[.double, .double, .double, .double, .double, .long, .long, .double, .double, .boolean]
  resolved := Array.replicate 460 none
  statics := none }

def pool5 : Array CpInfo := pool [(2, .class_ 4), (1, u "java/lang/Object"), (0, u "<init>"), (0, u "()V"), (1, .class_ 10), (1, u "java/lang/System"), (0, u "allowSecurityManager"), (0, u "I"), (16, u "cons"), (0, u "Ljava/io/Console;"), (77, .class_ 110), (1, u "java/lang/System$CallersHolder"), (43, u "initialErrStream"), (0, u "Ljava/io/PrintStream;"), (19, u "security"), (0, u "Ljava/lang/SecurityManager;"), (31, .class_ 209), (0, u "java/lang/System$1"), (7, u "props"), (0, u "Ljava/util/Properties;"), (2, u "lineSeparator"), (0, u "Ljava/lang/String;"), (96, .class_ 321), (1, u "java/lang/System$LoggerFinder"), (5, .class_ 328), (0, u "java/lang/System$Logger"), (67, u "err"), (2, u "out"), (91, u "notSupportedJnuEncoding"), (15, u "in"), (17, u "initialIn"), (0, u "Ljava/io/InputStream;"), (35, u "bootLayer"), (0, u "Ljava/lang/ModuleLayer;"), (99, .class_ 664), (0, u "java/lang/System$2"), (9, u "NEVER"), (2, u "MAYBE"), (49, u "arraycopy"), (0, u "(Ljava/lang/Object;ILjava/lang/Object;II)V"), (72, .class_ 802), (0, u "java/lang/System$Logger$Level")] 31

def k5m0 : Method := { name := "<init>", desc := "()V", sig := { parameters := [], returnType := none }, accessFlags := 2, code := none }
def k5m1 : Method := { name := "arraycopy", desc := "(Ljava/lang/Object;ILjava/lang/Object;II)V", sig := { parameters := [(.object "java/lang/Object"), .int, (.object "java/lang/Object"), .int, .int], returnType := none }, accessFlags := 265, code := none }
/-- java/lang/System -/
def k5 : Class := { plain "java/lang/System" (some 0) with
  accessFlags := 49
  interfaces := #[]
  cf := some (fileOf pool5 8 #[.nestMembers #[319, 327, 801, 108, 663, 208]] #[{ accessFlags := 2, nameIndex := 5, descriptorIndex := 6, attributes := #[] }, { accessFlags := 265, nameIndex := 727, descriptorIndex := 728, attributes := #[] }] 49 2 #[] #[{ accessFlags := 25, nameIndex := 507, descriptorIndex := 526, attributes := #[] }, { accessFlags := 25, nameIndex := 399, descriptorIndex := 155, attributes := #[] }, { accessFlags := 25, nameIndex := 396, descriptorIndex := 155, attributes := #[] }, { accessFlags := 10, nameIndex := 525, descriptorIndex := 526, attributes := #[] }, { accessFlags := 26, nameIndex := 674, descriptorIndex := 12, attributes := #[] }, { accessFlags := 26, nameIndex := 677, descriptorIndex := 12, attributes := #[] }, { accessFlags := 10, nameIndex := 11, descriptorIndex := 12, attributes := #[] }, { accessFlags := 74, nameIndex := 175, descriptorIndex := 176, attributes := #[] }, { accessFlags := 10, nameIndex := 491, descriptorIndex := 222, attributes := #[] }, { accessFlags := 74, nameIndex := 29, descriptorIndex := 30, attributes := #[] }, { accessFlags := 74, nameIndex := 154, descriptorIndex := 155, attributes := #[] }, { accessFlags := 10, nameIndex := 217, descriptorIndex := 218, attributes := #[] }, { accessFlags := 10, nameIndex := 221, descriptorIndex := 222, attributes := #[] }, { accessFlags := 8, nameIndex := 562, descriptorIndex := 563, attributes := #[] }])
  fields := #[{ name := "in", type := (.object "java/io/InputStream"), accessFlags := 25, slot := 0, constantValue := 0 }, { name := "out", type := (.object "java/io/PrintStream"), accessFlags := 25, slot := 1, constantValue := 0 }, { name := "err", type := (.object "java/io/PrintStream"), accessFlags := 25, slot := 2, constantValue := 0 }, { name := "initialIn", type := (.object "java/io/InputStream"), accessFlags := 10, slot := 3, constantValue := 0 }, { name := "NEVER", type := .int, accessFlags := 26, slot := 4, constantValue := 0 }, { name := "MAYBE", type := .int, accessFlags := 26, slot := 5, constantValue := 0 }, { name := "allowSecurityManager", type := .int, accessFlags := 10, slot := 6, constantValue := 0 }, { name := "security", type := (.object "java/lang/SecurityManager"), accessFlags := 74, slot := 7, constantValue := 0 }, { name := "notSupportedJnuEncoding", type := (.object "java/lang/String"), accessFlags := 10, slot := 8, constantValue := 0 }, { name := "cons", type := (.object "java/io/Console"), accessFlags := 74, slot := 9, constantValue := 0 }, { name := "initialErrStream", type := (.object "java/io/PrintStream"), accessFlags := 74, slot := 10, constantValue := 0 }, { name := "props", type := (.object "java/util/Properties"), accessFlags := 10, slot := 11, constantValue := 0 }, { name := "lineSeparator", type := (.object "java/lang/String"), accessFlags := 10, slot := 12, constantValue := 0 }, { name := "bootLayer", type := (.object "java/lang/ModuleLayer"), accessFlags := 8, slot := 13, constantValue := 0 }]
  methods := #[k5m0, k5m1]
  instanceTypes := #[]
  staticTypes := #[(.object "java/io/InputStream"), (.object "java/io/PrintStream"), (.object "java/io/PrintStream"), (.object "java/io/InputStream"), .int, .int, .int, (.object "java/lang/SecurityManager"), (.object "java/lang/String"), (.object "java/io/Console"), (.object "java/io/PrintStream"), (.object "java/util/Properties"), (.object "java/lang/String"), (.object "java/lang/ModuleLayer")]
  resolved := Array.replicate 834 none
  statics := none }

def pool6 : Array CpInfo := pool [(1, .class_ 2), (0, u "java/lang/Cloneable"), (0, .class_ 4), (0, u "java/lang/Object")] 2

/-- java/lang/Cloneable -/
def k6 : Class := { plain "java/lang/Cloneable" (some 0) with
  accessFlags := 1537
  interfaces := #[]
  cf := some (fileOf pool6 1 #[] #[] 1537 3 #[] #[])
  fields := #[]
  methods := #[]
  instanceTypes := #[]
  staticTypes := #[]
  resolved := Array.replicate 7 none
  statics := none }

def pool7 : Array CpInfo := pool [(1, u "java/io/Serializable"), (0, .class_ 1), (0, u "java/lang/Object"), (0, .class_ 3)] 3

/-- java/io/Serializable -/
def k7 : Class := { plain "java/io/Serializable" (some 0) with
  accessFlags := 1537
  interfaces := #[]
  cf := some (fileOf pool7 2 #[] #[] 1537 4 #[] #[])
  fields := #[]
  methods := #[]
  instanceTypes := #[]
  staticTypes := #[]
  resolved := Array.replicate 8 none
  statics := none }

/-- the primitive byte -/
def k8 : Class := { plain "byte" none with kind := .primitive 'B', accessFlags := 0x411 }
/-- [B -/
def k9 : Class := { plain "[B" (some 0) with kind := .array 8 .byte, interfaces := #[6, 7], accessFlags := 1041 }

/-- the primitive int -/
def k10 : Class := { plain "int" none with kind := .primitive 'I', accessFlags := 0x411 }
/-- [I -/
def k11 : Class := { plain "[I" (some 0) with kind := .array 10 .int, interfaces := #[6, 7], accessFlags := 1041 }

def heap : Heap := #[]
def classes : Array Class := #[k0, k1, k2, k3, k4, k5, k6, k7, k8, k9, k10, k11]
def interned : List (Array UInt16 × Addr) := []
def slotsUsed : Nat := 0
def theMethod : MethodId := ⟨1, 1⟩
def args0 : Array Value := #[.int 3, .int 5, .int 7, .int 9, .int 2, .int 4]
def aboutOver (below : List Frame) : State where
  vm := { classes := classes, interned := interned.toArray }
  heap := heap
  slotsUsed := slotsUsed
  threads := #[{ frames := .invoking theMethod args0 :: below }]
def below0 : List Frame := [.native { method := ⟨0, 0⟩, args := #[] }]
def about1 : State := aboutOver below0
def p0 : Program := .bare "" "" ""
def e0 : Env := launch0.env 0 0 0
theorem w_frames : about1.frames = Frame.invoking theMethod args0 :: below0 := rfl
set_option maxRecDepth 65536 in
theorem w_args : argsFit about1.vm theMethod args0 = true := by decide +kernel
set_option maxRecDepth 65536 in
theorem w_heap : heapFits about1 = true := by decide +kernel
set_option maxRecDepth 65536 in
theorem w_runnable : about1.curStatus? = some .runnable := by decide +kernel
set_option maxRecDepth 65536 in
theorem w_alone : about1.alone = true := by decide +kernel
set_option maxRecDepth 65536 in
theorem w_named : about1.methodNamed? x = some theMethod := by decide +kernel
set_option maxRecDepth 65536 in
theorem w_hears : about1.hears theMethod below0 = true := by decide +kernel
set_option maxRecDepth 65536 in
theorem w_ripe : about1.ripe theMethod args0 below0 = true := by decide +kernel
theorem w_running : about1.status = .running := rfl
set_option maxRecDepth 65536 in
theorem w_room : about1.hasRoom e0.platform room_1 = true :=
  launch0.hasRoom_least _ room_1 (by decide +kernel) (by decide +kernel) (by decide +kernel) (by decide +kernel) (by decide +kernel) (by decide +kernel)
theorem allAtoms_all (ts : List Jvm.Cond) (a : Array Jvm.Value) (st : Jvm.State) : (allAtoms ts).before a st = ts.all (fun c => c.before a st) := by
  induction ts with
  | nil => rfl
  | cons c t ih =>
    show (Jvm.Cond.and c (allAtoms t)).before a st = _
    rw [Jvm.Cond.before_and, ih, List.all_cons]
def words1 : List Jvm.Cond := Jvm.Cond.code x code maxLocals ret :: tables_1
/-- a 'code' word, met by the world's own term for the bytes: nothing is compared byte by byte -/
theorem code_word {y : MethodName} {bytes : ByteArray} {mx : Nat} {rt : Option FieldType} {a : Array Value} {s : State} {m : MethodId} {meth : Method} {c : Code} (h1 : s.methodNamed? y = some m) (h2 : s.vm.method? m = some meth) (h3 : meth.code = some c) (h4 : c.code = bytes)
    (h5 : (c.maxLocals == mx && c.exceptionTable.isEmpty && decide (c.maxStack ≤ mostOperands) && decide (meth.sig.returnType = rt) && !meth.locks && decide (parseMethodDescriptor y.desc = some meth.sig)) = true) : (Jvm.Cond.code y bytes mx rt).before a s = true := by
  simp only [Bool.and_eq_true, beq_iff_eq, Bool.not_eq_true', decide_eq_true_eq] at h5
  obtain ⟨⟨⟨⟨⟨g1, g2⟩, g3⟩, g4⟩, g5⟩, g6⟩ := h5
  simp [Cond.before, Cond.holds, Cond.value, h1, h2, h3, h4, g1, g2, g3, g4, g5, g6]
def isCode : Jvm.Cond → Bool
  | .code _ _ _ _ => true
  | _ => false
theorem all_split {L : List Jvm.Cond} {P : Jvm.Cond → Bool} (h1 : L.all (fun c => isCode c || P c) = true) (h2 : ∀ c ∈ L.filter isCode, P c = true) : L.all P = true := by
  refine List.all_eq_true.mpr fun c hc => ?_
  have h := List.all_eq_true.mp h1 c hc
  rcases Bool.eq_false_or_eq_true (isCode c) with hi | hi
  · exact h2 c (List.mem_filter.mpr ⟨hc, hi⟩)
  · simpa [hi] using h
set_option maxRecDepth 65536 in
theorem w_c0 : (Jvm.Cond.code x code maxLocals ret).before args0 about1 = true := code_word (m := ⟨1, 1⟩) (meth := k1m1) (c := k1c1) (by decide +kernel) rfl rfl rfl (by decide +kernel)
set_option maxRecDepth 65536 in
theorem w_c1 : (Jvm.Cond.code ({ cls := "com/example/viable/viable/IntList", name := "<init>", desc := "()V" } : Jvm.MethodName) prog_18_method_1_code (1 : Nat) (Option.none : Option Jvm.ClassFile.FieldType)).before args0 about1 = true := code_word (m := ⟨2, 0⟩) (meth := k2m0) (c := k2c0) (by decide +kernel) rfl rfl rfl (by decide +kernel)
set_option maxRecDepth 65536 in
theorem w_c2 : (Jvm.Cond.code ({ cls := "java/lang/Object", name := "<init>", desc := "()V" } : Jvm.MethodName) object_method_1_code (1 : Nat) (Option.none : Option Jvm.ClassFile.FieldType)).before args0 about1 = true := code_word (m := ⟨0, 0⟩) (meth := k0m0) (c := k0c0) (by decide +kernel) rfl rfl rfl (by decide +kernel)
set_option maxRecDepth 65536 in
theorem w_c3 : (Jvm.Cond.code ({ cls := "com/example/viable/viable/IntList", name := "toArray", desc := "()[I" } : Jvm.MethodName) prog_18_method_6_code (1 : Nat) (Option.some (Jvm.ClassFile.FieldType.array Jvm.ClassFile.FieldType.int))).before args0 about1 = true := code_word (m := ⟨2, 2⟩) (meth := k2m2) (c := k2c2) (by decide +kernel) rfl rfl rfl (by decide +kernel)
set_option maxRecDepth 65536 in
theorem w_c4 : (Jvm.Cond.code ({ cls := "java/util/Arrays", name := "copyOf", desc := "([II)[I" } : Jvm.MethodName) jdk_65_method_123_code (3 : Nat) (Option.some (Jvm.ClassFile.FieldType.array Jvm.ClassFile.FieldType.int))).before args0 about1 = true := code_word (m := ⟨3, 1⟩) (meth := k3m1) (c := k3c1) (by decide +kernel) rfl rfl rfl (by decide +kernel)
set_option maxRecDepth 65536 in
theorem w_c5 : (Jvm.Cond.code ({ cls := "java/lang/Math", name := "min", desc := "(II)I" } : Jvm.MethodName) jdk_29_method_69_code (2 : Nat) (Option.some Jvm.ClassFile.FieldType.int)).before args0 about1 = true := code_word (m := ⟨4, 1⟩) (meth := k4m1) (c := k4c1) (by decide +kernel) rfl rfl rfl (by decide +kernel)
set_option maxRecDepth 65536 in
theorem w_c6 : (Jvm.Cond.code ({ cls := "com/example/viable/viable/IntListAddPinLaw", name := "at", desc := "([I[III)Z" } : Jvm.MethodName) method_3_code (4 : Nat) (Option.some Jvm.ClassFile.FieldType.boolean)).before args0 about1 = true := code_word (m := ⟨1, 2⟩) (meth := k1m2) (c := k1c2) (by decide +kernel) rfl rfl rfl (by decide +kernel)
set_option maxRecDepth 65536 in
theorem w_c7 : (Jvm.Cond.code ({ cls := "com/example/viable/viable/IntList", name := "add", desc := "(I)V" } : Jvm.MethodName) prog_18_method_4_code (2 : Nat) (Option.none : Option Jvm.ClassFile.FieldType)).before args0 about1 = true := code_word (m := ⟨2, 1⟩) (meth := k2m1) (c := k2c1) (by decide +kernel) rfl rfl rfl (by decide +kernel)
def codes1 : List Jvm.Cond := [Jvm.Cond.code x code maxLocals ret, Jvm.Cond.code ({ cls := "com/example/viable/viable/IntList", name := "<init>", desc := "()V" } : Jvm.MethodName) prog_18_method_1_code (1 : Nat) (Option.none : Option Jvm.ClassFile.FieldType), Jvm.Cond.code ({ cls := "java/lang/Object", name := "<init>", desc := "()V" } : Jvm.MethodName) object_method_1_code (1 : Nat) (Option.none : Option Jvm.ClassFile.FieldType), Jvm.Cond.code ({ cls := "com/example/viable/viable/IntList", name := "toArray", desc := "()[I" } : Jvm.MethodName) prog_18_method_6_code (1 : Nat) (Option.some (Jvm.ClassFile.FieldType.array Jvm.ClassFile.FieldType.int)), Jvm.Cond.code ({ cls := "java/util/Arrays", name := "copyOf", desc := "([II)[I" } : Jvm.MethodName) jdk_65_method_123_code (3 : Nat) (Option.some (Jvm.ClassFile.FieldType.array Jvm.ClassFile.FieldType.int)), Jvm.Cond.code ({ cls := "java/lang/Math", name := "min", desc := "(II)I" } : Jvm.MethodName) jdk_29_method_69_code (2 : Nat) (Option.some Jvm.ClassFile.FieldType.int), Jvm.Cond.code ({ cls := "com/example/viable/viable/IntListAddPinLaw", name := "at", desc := "([I[III)Z" } : Jvm.MethodName) method_3_code (4 : Nat) (Option.some Jvm.ClassFile.FieldType.boolean), Jvm.Cond.code ({ cls := "com/example/viable/viable/IntList", name := "add", desc := "(I)V" } : Jvm.MethodName) prog_18_method_4_code (2 : Nat) (Option.none : Option Jvm.ClassFile.FieldType)]
set_option maxRecDepth 65536 in
theorem codes_eq : words1.filter isCode = codes1 := rfl
theorem w_codes : ∀ c ∈ words1.filter isCode, c.before args0 about1 = true := by
  rw [codes_eq]
  intro c hc
  simp only [codes1, List.mem_cons, List.not_mem_nil, or_false] at hc
  rcases hc with rfl | rfl | rfl | rfl | rfl | rfl | rfl | rfl
  · exact w_c0
  · exact w_c1
  · exact w_c2
  · exact w_c3
  · exact w_c4
  · exact w_c5
  · exact w_c6
  · exact w_c7
set_option maxRecDepth 65536 in
theorem w_t1 : (words1.take 24).all (fun c => isCode c || c.before args0 about1) = true := by decide +kernel
set_option maxRecDepth 65536 in
theorem w_t2 : ((words1.drop 24).take 24).all (fun c => isCode c || c.before args0 about1) = true := by decide +kernel
set_option maxRecDepth 65536 in
theorem w_t3 : ((words1.drop 24).drop 24).all (fun c => isCode c || c.before args0 about1) = true := by decide +kernel
theorem w_tables : (allAtoms (Jvm.Cond.code x code maxLocals ret :: tables_1)).before args0 about1 = true := by
  rw [allAtoms_all]
  show words1.all (fun c => c.before args0 about1) = true
  refine all_split ?_ w_codes
  rw [← List.take_append_drop 24 words1, List.all_append, w_t1, ← List.take_append_drop 24 (words1.drop 24), List.all_append, w_t2, w_t3]
  rfl
set_option maxRecDepth 65536 in
theorem w_case : (Jvm.Cond.and given_1 narrow_1).before args0 about1 = true := by decide +kernel
theorem w_applies : (headSpec (Jvm.Cond.code x code maxLocals ret :: tables_1) room_1).applies x e0.platform about1 = true :=
  (Spec.applies_iff w_frames).mpr ⟨w_running, w_runnable, w_alone, w_named, w_hears, w_ripe, w_room, w_tables⟩
theorem atStart : AtStart classFile x code maxLocals ret World_1 tables_1 room_1 Calls_1 rest_1 Pre_1 launch0 p0 e0 about1 theMethod args0 below0 :=
  ⟨lists_1, trivial, launch0.admits_env _ _ _, launch0.least_env, fairChoices_fair.cas, fairChoices_fair.clock, w_frames, w_args, w_heap, w_applies, trivial, trivial, w_case⟩
end start1
theorem witness_1 : WitnessClaimed_1 := ⟨start1.p0, start1.e0, start1.about1, start1.theMethod, start1.args0, start1.below0, start1.atStart⟩
end Jvm.Pilot.@@N@@
