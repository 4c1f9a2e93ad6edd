import JvmDerived
import JvmDerived.Pilot.@@N@@Statement
import JvmDerived.Pilot.@@N@@Code
set_option linter.unusedVariables false
set_option linter.unusedSimpArgs false
namespace Jvm.RoadKit
open Sem ClassFile Op Lib Jvm.Stand Jvm.Free Jvm.LawKit
section New
variable {p : Program} {l : Launch} {e : Env} {R : Room} {s : State} {m : MethodId} {args : Array Value} {below : List Frame} {meth : Method} {c : Code} {T : State} {locs : List Loc} {cells slots : Nat}
theorem retI (X : Stand p l e R s m args below meth c T locs cells slots) (hx : p.tables.exec = Jvm.exec) {pc : Nat} {Ls : Array Slot} {z : Int32} {rest : List Value} (hret : meth.sig.returnType = some .int) (hd : decode c.code pc = .ok (.ireturn, 1)) {fs : List Frame}
    (hl : ∀ (f : JFrame) (acts : List Action), f.method = m → f.locked = none → f.entered = [] → (doReturn e (T.setTop f) acts (some (.int z))).1 = T.setFrames fs) : Steps p.tables e below (T.setTop (mkF m pc Ls (.int z :: rest))) (T.setFrames fs) := by
  have hm' : T.vm.method? m = some meth := X.method'
  have hn : narrow .int (.int z) = .int z := rfl
  show Steps p.tables e below (T.setTop { method := m, pc := pc, locals := Ls, stack := _ :: rest, locked := none }) _
  jvm_step X.here [X.here.top, hx, hd, hm', hret, hn]
  first | (intro acts; rw [hl _ acts rfl rfl rfl]) | rw [hl _ _ rfl rfl rfl]
  exact Steps.refl _
end New
end Jvm.RoadKit
namespace Jvm.Pilot.@@N@@
open Jvm Jvm.ClassFile Sem Op Lib Jvm.Free Jvm.Stand Jvm.LawKit Jvm.RoadKit Bundle Jvm.Pilot.@@N@@.Jvm.D
/-- from the state A the run comes to the state B -/
def own_go (p : Program) (e : Env) (below : List Frame) (A B : State) : Prop := ∀ t, Steps p.tables e below B t → Steps p.tables e below A t
theorem own_wide {p : Program} {l : Launch} {e : Env} {R : Room} {s : State} {m : MethodId} {args : Array Value} {below : List Frame} {meth : Method} {c : Code} {T : State} {locs : List Loc} {cells slots k n : Nat} (X : Stand p l e R s m args below meth c T locs cells slots) (h1 : cells ≤ k) (h2 : slots ≤ n) : Stand p l e R s m args below meth c T locs k n :=
  { X with same := X.same.weaken (fun _ h _ => h) h1 h2 }
theorem own_hp {T : State} {h : Heap} {a : Addr} {c : Cell} (e : T.heap = h) (q : h[a]? = some c) : T.heap[a]? = some c := by rw [e]; exact q
theorem own_getD {α : Type} (f : α → Value) : ∀ (l : List α) (d : α) (k : Nat), (l.map f).getD k (f d) = f (l.getD k d)
  | [], _, _ => rfl
  | _ :: _, _, 0 => rfl
  | _ :: t, d, k + 1 => own_getD f t d k
theorem d11_0 : decode jdk_29_method_69_code 0 = .ok (.iload_n 0, 1) := by decide +kernel
theorem d11_1 : decode jdk_29_method_69_code 1 = .ok (.iload_n 1, 1) := by decide +kernel
theorem d11_2 : decode jdk_29_method_69_code 2 = .ok (.if_icmp .gt 7, 3) := by decide +kernel
theorem d11_9 : decode jdk_29_method_69_code 9 = .ok (.iload_n 1, 1) := by decide +kernel
theorem d11_5 : decode jdk_29_method_69_code 5 = .ok (.iload_n 0, 1) := by decide +kernel
theorem d11_6 : decode jdk_29_method_69_code 6 = .ok (.goto 4, 3) := by decide +kernel
theorem d11_10 : decode jdk_29_method_69_code 10 = .ok (.ireturn, 1) := by decide +kernel
theorem ef_11 (m : MethodId) (x0 : Int32) (x1 : Int32) : entryFrame m #[(.int x0), (.int x1)] 2 = mkF m 0 #[.val (.int x0), .val (.int x1)] [] := by first | (simp [entryFrame, mkF, argsToLocals, Value.category]; done) | rfl
def Q11 (Z : State) (p1 : Int32) (p2 : Int32) (h0 : Heap) (n0 : Nat) (v : Option Value) (h : Heap) (L : List Loc) : Prop := v = some (.int (if p2 < p1 then p2 else p1)) ∧ Fr n0 L ∧ h = h0
set_option maxRecDepth 65536 in
set_option maxHeartbeats 40000000 in
theorem rm11 (l : Launch) (Z : State) (a0 : Array Value) (hw : ∀ d ∈ tables_1, d.before a0 Z = true) (ws : List Jvm.Cond) (p1 : Int32) (p2 : Int32) (h0 : Heap) (n0 : Nat) (Z0 : n0 ≤ h0.size) :
    MetFree l (⟨"java/lang/Math", "min", "(II)I"⟩ : MethodName) (head1 (Jvm.Cond.code (⟨"java/lang/Math", "min", "(II)I"⟩ : MethodName) jdk_29_method_69_code 2 (some .int) :: ws) ({ frames := 0, cells := 0, slots := 0, locals := 0 } : Room)) (fun aax UU => aax = #[(.int p1), (.int p2)] ∧ Z.Warmed39 UU.vm ∧ UU.heap = h0) (fun _ _ _ _ _ => True) (fun _ UU oux UU' => ∃ rvx Lrx, oux = .returned rvx ∧ Q11 Z p1 p2 h0 n0 rvx UU'.heap Lrx ∧ FrameEnd UU oux UU' Lrx ({ frames := 0, cells := 0, slots := 0, locals := 0 } : Room).cells ({ frames := 0, cells := 0, slots := 0, locals := 0 } : Room).slots) := by
  refine MetFree.of_bodySF (Jvm.Free.JP.mathPlain rfl (by decide +kernel)) hisR ?_
  intro p e s m args below meth c s₁ Bd hml0 hP hK
  obtain ⟨rfl, hZ, hh⟩ := hP
  have hx := Bd.exec
  have hby := Bd.bytes
  have hml : c.maxLocals = 2 := hml0
  have hown : s.vm.findClass "java/lang/Math" = some m.cls := findClass_of_methodNamed Bd.named
  have hnm := (name_of_methodNamed Bd.named Bd.method).1
  have X0 : Stand p l e ({ frames := 0, cells := 0, slots := 0, locals := 0 } : Room) s m #[(.int p1), (.int p2)] below meth c s₁ [] 0 0 := Stand.of_body Bd
  have e0 : s₁.heap = h0 := by rw [← hh, Bd.state]; rfl
  have N0 := Fr.nil n0
  have p0 : own_go p e below (s₁.setTop (entryFrame m #[(.int p1), (.int p2)] 2)) (s₁.setTop (mkF m 0 #[.val (.int p1), .val (.int p2)] [])) := fun ttx ktx => castTop (ef_11 m p1 p2) ktx
  have go1 : own_go p e below (s₁.setTop (entryFrame m #[(.int p1), (.int p2)] 2)) (s₁.setTop (mkF m 2 #[.val (.int p1), .val (.int p2)] [(.int p2), (.int p1)])) := by
    intro ttx ktx
    refine p0 ttx ?_
    show Steps p.tables e below (s₁.setTop (mkF m 0 #[.val (.int p1), .val (.int p2)] [])) _
    refine XS.iloadN X0.here hx rfl (hb hby d11_0) rfl ?_
    show Steps p.tables e below (s₁.setTop (mkF m 1 #[.val (.int p1), .val (.int p2)] [(.int p1)])) _
    refine XS.iloadN X0.here hx rfl (hb hby d11_1) rfl ?_
    exact ktx
  obtain ⟨v5, hv_v5, go6⟩ : ∃ (v5 : Int32), v5 = (if p2 < p1 then p2 else p1) ∧ own_go p e below (s₁.setTop (entryFrame m #[(.int p1), (.int p2)] 2)) (s₁.setTop (mkF m 10 #[.val (.int p1), .val (.int p2)] [(.int v5)])) := by
    by_cases hc2_2 : p2 < p1
    · have go3 : own_go p e below (s₁.setTop (entryFrame m #[(.int p1), (.int p2)] 2)) (s₁.setTop (mkF m 10 #[.val (.int p1), .val (.int p2)] [(.int p2)])) := by
        intro ttx ktx
        refine go1 ttx ?_
        show Steps p.tables e below (s₁.setTop (mkF m 2 #[.val (.int p1), .val (.int p2)] [(.int p2), (.int p1)])) _
        refine XS.icmpYes X0.here hx rfl (pc0 := 2) (pc' := 9) rfl (hb hby d11_2) rfl (tlt hc2_2).2.2.1 (by decide) (by decide) ?_
        show Steps p.tables e below (s₁.setTop (mkF m 9 #[.val (.int p1), .val (.int p2)] [])) _
        refine XS.iloadN X0.here hx rfl (hb hby d11_9) rfl ?_
        exact ktx
      exact ⟨_, (if_pos hc2_2).symm, go3⟩
    · have go4 : own_go p e below (s₁.setTop (entryFrame m #[(.int p1), (.int p2)] 2)) (s₁.setTop (mkF m 10 #[.val (.int p1), .val (.int p2)] [(.int p1)])) := by
        intro ttx ktx
        refine go1 ttx ?_
        show Steps p.tables e below (s₁.setTop (mkF m 2 #[.val (.int p1), .val (.int p2)] [(.int p2), (.int p1)])) _
        refine XS.icmpNo X0.here hx rfl (hb hby d11_2) rfl (flt hc2_2).2.2.1 ?_
        show Steps p.tables e below (s₁.setTop (mkF m 5 #[.val (.int p1), .val (.int p2)] [])) _
        refine XS.iloadN X0.here hx rfl (hb hby d11_5) rfl ?_
        show Steps p.tables e below (s₁.setTop (mkF m 6 #[.val (.int p1), .val (.int p2)] [(.int p1)])) _
        refine XS.goto X0.here hx rfl (pc0 := 6) (pc' := 10) rfl (hb hby d11_6) (by decide) (by decide) ?_
        exact ktx
      exact ⟨_, (if_neg hc2_2).symm, go4⟩
  obtain ⟨fs, hr, hrun, hended, hW, hsame⟩ := X0.leave (v := some (.int v5)) (fun h => by rw [Bd.returns] at h; cases h)
  refine ⟨_, _, go6 _ ?_, hrun, hended, _, _, rfl, ?_, ⟨_, rfl⟩, hW, hsame.mono (by decide) (by decide)⟩
  · exact retI X0 hx Bd.returns (hb hby d11_10) hr
  · show Q11 Z p1 p2 h0 n0 _ s₁.heap _
    rw [e0]
    exact ⟨by rw [hv_v5], N0, rfl⟩
theorem own_nn {x : Int32} (h : 0 ≤ x.toInt) : ¬ x < 0 := by rw [Int32.lt_iff_toInt_lt]; have e0 : (0 : Int32).toInt = 0 := rfl; omega
theorem own_tn (x : Int32) : x.toNatClampNeg = x.toInt.toNat := rfl
theorem own_min (a b : Int32) (ha : 0 ≤ a.toInt) (hb : 0 ≤ b.toInt) : 0 ≤ (if b < a then b else a).toInt ∧ (if b < a then b else a).toInt ≤ a.toInt ∧ (if b < a then b else a).toInt ≤ b.toInt ∧ ((if b < a then b else a).toInt = a.toInt ∨ (if b < a then b else a).toInt = b.toInt) := by
  split
  · rename_i h; rw [Int32.lt_iff_toInt_lt] at h; omega
  · rename_i h; rw [Int32.lt_iff_toInt_lt] at h; omega
theorem own_cpd (vd vs : List Value) (dv : Value) (m i : Nat) (h : i < m) : (vd.take 0 ++ (List.range m).map (fun k => vs.getD (0 + k) dv) ++ vd.drop (0 + m)).getD i dv = vs.getD i dv := by
  simp [List.getD, List.getElem?_append, h]
theorem d6_0 : decode jdk_65_method_123_code 0 = .ok (.iload_n 1, 1) := by decide +kernel
theorem d6_1 : decode jdk_65_method_123_code 1 = .ok (.aload_n 0, 1) := by decide +kernel
theorem d6_2 : decode jdk_65_method_123_code 2 = .ok (.arraylength, 1) := by decide +kernel
theorem d6_3 : decode jdk_65_method_123_code 3 = .ok (.if_icmp .ne 11, 3) := by decide +kernel
theorem d6_6 : decode jdk_65_method_123_code 6 = .ok (.aload_n 0, 1) := by decide +kernel
theorem d6_7 : decode jdk_65_method_123_code 7 = .ok (.invokevirtual 316, 3) := by decide +kernel
theorem d6_10 : decode jdk_65_method_123_code 10 = .ok (.checkcast 317, 3) := by decide +kernel
theorem d6_13 : decode jdk_65_method_123_code 13 = .ok (.areturn, 1) := by decide +kernel
theorem d6_14 : decode jdk_65_method_123_code 14 = .ok (.iload_n 1, 1) := by decide +kernel
theorem d6_15 : decode jdk_65_method_123_code 15 = .ok (.newarray .int, 2) := by decide +kernel
theorem d6_17 : decode jdk_65_method_123_code 17 = .ok (.astore_n 2, 1) := by decide +kernel
theorem d6_18 : decode jdk_65_method_123_code 18 = .ok (.aload_n 0, 1) := by decide +kernel
theorem d6_19 : decode jdk_65_method_123_code 19 = .ok (.iconst 0, 1) := by decide +kernel
theorem d6_20 : decode jdk_65_method_123_code 20 = .ok (.aload_n 2, 1) := by decide +kernel
theorem d6_21 : decode jdk_65_method_123_code 21 = .ok (.iconst 0, 1) := by decide +kernel
theorem d6_22 : decode jdk_65_method_123_code 22 = .ok (.aload_n 0, 1) := by decide +kernel
theorem d6_23 : decode jdk_65_method_123_code 23 = .ok (.arraylength, 1) := by decide +kernel
theorem d6_24 : decode jdk_65_method_123_code 24 = .ok (.iload_n 1, 1) := by decide +kernel
theorem own_pd0 : parseMethodDescriptor "(II)I" = some ⟨[.int, .int], some .int⟩ := by decide +kernel
theorem d6_25 : decode jdk_65_method_123_code 25 = .ok (.invokestatic 304, 3) := by decide +kernel
theorem d6_28 : decode jdk_65_method_123_code 28 = .ok (.invokestatic 150, 3) := by decide +kernel
theorem d6_31 : decode jdk_65_method_123_code 31 = .ok (.aload_n 2, 1) := by decide +kernel
theorem d6_32 : decode jdk_65_method_123_code 32 = .ok (.areturn, 1) := by decide +kernel
theorem own_pn_java_util_Arrays : plainName "java/util/Arrays" = true := by first | (simp [plainName, overriddenIn]; done) | decide +kernel
theorem ef_CPY (m : MethodId) (x0 : Addr) (x1 : Int32) : entryFrame m #[(.ref x0), (.int x1)] 3 = mkF m 0 #[.val (.ref x0), .val (.int x1), .unset] [] := by first | (simp [entryFrame, mkF, argsToLocals, Value.category]; done) | rfl
def QCPY (Z : State) (a1 : Addr) (p2 : Int32) (kc : ClassId) (z : Int32) (vs : List Value) (h0 : Heap) (n0 : Nat) (v : Option Value) (h : Heap) (L : List Loc) : Prop := ∃ (b : Addr) (kb : ClassId) (ws : List Value), v = some (.ref b) ∧ Fr n0 L ∧ Keep h0 h [] ∧ h0.size ≤ b ∧ Exa Z h b "[I" ∧ Arv Z h b kb .int p2 ws (.int (0 : Int32)) ∧ ∀ i, i < p2.toNatClampNeg → i < z.toNatClampNeg → ws.getD i (.int (0 : Int32)) = vs.getD i (.int (0 : Int32))
set_option maxRecDepth 65536 in
set_option maxHeartbeats 40000000 in
theorem rmCPY (l : Launch) (Z : State) (a0 : Array Value) (hw : ∀ d ∈ tables_1, d.before a0 Z = true) (ws : List Jvm.Cond) (a1 : Addr) (p2 : Int32) (kc : ClassId) (z : Int32) (vs : List Value) (h0 : Heap) (n0 : Nat) (Z0 : n0 ≤ h0.size) (V_a : Arv Z h0 a1 kc .int z vs (.int (0 : Int32))) (E_a : Exa Z h0 a1 "[I") (hp : 0 ≤ p2.toInt ∧ p2.toInt ≤ 16) (hz : 0 ≤ z.toInt ∧ z.toInt ≤ 16) :
    MetFree l (⟨"java/util/Arrays", "copyOf", "([II)[I"⟩ : MethodName) (head1 (Jvm.Cond.code (⟨"java/util/Arrays", "copyOf", "([II)[I"⟩ : MethodName) jdk_65_method_123_code 3 (some (.array .int)) :: ws) ({ frames := 1, cells := 1, slots := 16, locals := 40 } : Room)) (fun aax UU => aax = #[(.ref a1), (.int p2)] ∧ Z.Warmed39 UU.vm ∧ UU.heap = h0) (fun _ _ _ _ _ => True) (fun _ UU oux UU' => ∃ rvx Lrx, oux = .returned rvx ∧ QCPY Z a1 p2 kc z vs h0 n0 rvx UU'.heap Lrx ∧ FrameEnd UU oux UU' Lrx ({ frames := 1, cells := 1, slots := 16, locals := 40 } : Room).cells ({ frames := 1, cells := 1, slots := 16, locals := 40 } : Room).slots) := by
  refine MetFree.of_bodySF (plainFor_of_name own_pn_java_util_Arrays) hisR ?_
  intro p e s m args below meth c s₁ Bd hml0 hP hK
  obtain ⟨rfl, hZ, hh⟩ := hP
  have hx := Bd.exec
  have hby := Bd.bytes
  have hml : c.maxLocals = 3 := hml0
  have hown : s.vm.findClass "java/util/Arrays" = some m.cls := findClass_of_methodNamed Bd.named
  have hnm := (name_of_methodNamed Bd.named Bd.method).1
  have X0 : Stand p l e ({ frames := 1, cells := 1, slots := 16, locals := 40 } : Room) s m #[(.ref a1), (.int p2)] below meth c s₁ [] 0 0 := Stand.of_body Bd
  have e0 : s₁.heap = h0 := by rw [← hh, Bd.state]; rfl
  have N0 := Fr.nil n0
  have p0 : own_go p e below (s₁.setTop (entryFrame m #[(.ref a1), (.int p2)] 3)) (s₁.setTop (mkF m 0 #[.val (.ref a1), .val (.int p2), .unset] [])) := fun ttx ktx => castTop (ef_CPY m a1 p2) ktx
  obtain ⟨cl1, Ar1, -, S1, M1, -, -⟩ := id V_a
  have go2 : own_go p e below (s₁.setTop (entryFrame m #[(.ref a1), (.int p2)] 3)) (s₁.setTop (mkF m 3 #[.val (.ref a1), .val (.int p2), .unset] [(.int z), (.int p2)])) := by
    intro ttx ktx
    refine p0 ttx ?_
    show Steps p.tables e below (s₁.setTop (mkF m 0 #[.val (.ref a1), .val (.int p2), .unset] [])) _
    refine XS.iloadN X0.here hx rfl (hb hby d6_0) rfl ?_
    show Steps p.tables e below (s₁.setTop (mkF m 1 #[.val (.ref a1), .val (.int p2), .unset] [(.int p2)])) _
    refine XS.aloadN X0.here hx rfl (hb hby d6_1) rfl rfl ?_
    show Steps p.tables e below (s₁.setTop (mkF m 2 #[.val (.ref a1), .val (.int p2), .unset] [(.ref a1), (.int p2)])) _
    refine X0.arraylength hx (own_hp e0 Ar1.1) (State.isArrayOf_alike hZ.alike Ar1.2.1) (g := (mkF m 2 #[.val (.ref a1), .val (.int p2), .unset] [(.ref a1), (.int p2)])) rfl rfl (hb hby d6_2) _ ?_
    rw [len_of S1 M1]
    exact ktx
  by_cases hc3_3 : p2 = z
  · have hcl : z.toNatClampNeg ≤ 16 := by rw [own_tn]; omega
    obtain ⟨T4, h4, X4, e4, E4, V4, B4, st4⟩ := cloneH X0 hx hZ hown (hw _ (List.mem_of_getElem? (i := 38) rfl)) (hw _ (List.mem_of_getElem? (i := 39) rfl)) (hw _ (List.mem_of_getElem? (i := 43) rfl)) (hw _ (List.mem_of_getElem? (i := 41) rfl)) (hw _ (List.mem_of_getElem? (i := 42) rfl)) (hw _ (List.mem_of_getElem? (i := 44) rfl)) e0 (Arv.arh V_a) E_a (g := (mkF m 7 #[.val (.ref a1), .val (.int p2), .unset] [(.ref a1)])) rfl (by rw [hml]; rfl) rfl (hb hby d6_7) (by decide) (W := 0) (cap := 16) (by show 2 * 0 + _ ≤ _; exact Nat.le_of_eq rfl) (by decide) hcl (by decide) (by decide)
    obtain ⟨b4, g4⟩ : ∃ z, z = h0.size := ⟨_, rfl⟩
    rw [← g4] at V4 B4 st4
    have ne5 : a1 ≠ b4 := Nat.ne_of_lt (Nat.lt_of_lt_of_le V_a.lt (Nat.le_of_eq g4.symm))
    have g_b4 : n0 ≤ b4 := Nat.le_trans Z0 (Nat.le_of_eq g4.symm)
    have sz_b4 : h0.size ≤ b4 := Nat.le_trans (Keep.refl h0 []).1 (Nat.le_of_eq g4.symm)
    have Z4 : n0 ≤ h4.size := Nat.le_trans Z0 E4.1
    have K4 : Keep h0 h4 [] := (Keep.refl h0 []).ext E4
    obtain ⟨T6, X6, e6, st6⟩ := castY X4 hx hZ hown (hw _ (List.mem_of_getElem? (i := 45) rfl)) e4 (Ins.self B4) (g := (mkF m 10 #[.val (.ref a1), .val (.int p2), .unset] [(.ref b4)])) rfl rfl (hb hby d6_10)
    have go7 : own_go p e below (s₁.setTop (entryFrame m #[(.ref a1), (.int p2)] 3)) (T6.setTop (mkF m 13 #[.val (.ref a1), .val (.int p2), .unset] [(.ref b4)])) := by
      intro ttx ktx
      refine go2 ttx ?_
      show Steps p.tables e below (s₁.setTop (mkF m 3 #[.val (.ref a1), .val (.int p2), .unset] [(.int z), (.int p2)])) _
      refine XS.icmpNo X0.here hx rfl (hb hby d6_3) rfl (teq hc3_3).2 ?_
      show Steps p.tables e below (s₁.setTop (mkF m 6 #[.val (.ref a1), .val (.int p2), .unset] [])) _
      refine XS.aloadN X0.here hx rfl (hb hby d6_6) rfl rfl ?_
      show Steps p.tables e below (s₁.setTop (mkF m 7 #[.val (.ref a1), .val (.int p2), .unset] [(.ref a1)])) _
      refine st4 _ ?_
      show Steps p.tables e below (T4.setTop (mkF m 10 #[.val (.ref a1), .val (.int p2), .unset] [(.ref b4)])) _
      refine st6 _ ?_
      exact ktx
    obtain ⟨fs, hr, hrun, hended, hW, hsame⟩ := X6.leave (v := some (.ref b4)) (fun h => by rw [Bd.returns] at h; cases h)
    refine ⟨_, _, go7 _ ?_, hrun, hended, _, _, rfl, ?_, ⟨_, rfl⟩, hW, hsame.mono (by decide) (by decide)⟩
    · exact retOut X6 hx Bd.returns rfl (Or.inr (Or.inr (Or.inr (Or.inr ⟨rfl, rfl, rfl⟩)))) (hb hby d6_13) hr
    · show QCPY Z a1 p2 kc z vs h0 n0 _ T6.heap _
      rw [e6]
      subst hc3_3
      exact ⟨b4, _, _, rfl, N0, K4, sz_b4, B4, V4, fun i h1 h2 => rfl⟩
  · have hcp : p2.toNatClampNeg ≤ 16 := by rw [own_tn]; omega
    obtain ⟨T8, h8, k8, X8, e8, E8, A8, B8, st8⟩ := newPE X0 hx hZ (hw _ (List.mem_of_getElem? (i := 10) rfl)) e0 (g := (mkF m 15 #[.val (.ref a1), .val (.int p2), .unset] [(.int p2)])) rfl (hb hby d6_15) rfl (own_nn hp.1) (cap := 16) hcp (by decide) (by decide) (by decide) (ad := "[I") (by decide)
    obtain ⟨b8, g8⟩ : ∃ z, z = h0.size := ⟨_, rfl⟩
    rw [← g8] at A8 B8 st8
    have ne9 : a1 ≠ b8 := Nat.ne_of_lt (Nat.lt_of_lt_of_le V_a.lt (Nat.le_of_eq g8.symm))
    have g_b8 : n0 ≤ b8 := Nat.le_trans Z0 (Nat.le_of_eq g8.symm)
    have sz_b8 : h0.size ≤ b8 := Nat.le_trans (Keep.refl h0 []).1 (Nat.le_of_eq g8.symm)
    have Z8 : n0 ≤ h8.size := Nat.le_trans Z0 E8.1
    have K8 : Keep h0 h8 [] := (Keep.refl h0 []).ext E8
    have V8 : Arv Z h8 b8 k8 .int p2 [] (.int (0 : Int32)) := Arv.new A8 (own_nn hp.1)
    have f10 := (V_a.ext E8)
    obtain ⟨cl11, Ar11, -, S11, M11, -, -⟩ := id f10
    obtain ⟨_, _, ⟨T12, L12, k12, n12⟩, -, X12, ⟨Lc12, hQ12, l12, y12, z12⟩, st12⟩ := Jvm.LawKit.callS X8 hx (y := (⟨"java/lang/Math", "min", "(II)I"⟩ : MethodName)) hown (mvT hZ (hw _ (List.mem_of_getElem? (i := 60) rfl))) (mvT hZ (hw _ (List.mem_of_getElem? (i := 61) rfl))) (mvT hZ (hw _ (List.mem_of_getElem? (i := 62) rfl))) (mvT hZ (hw _ (List.mem_of_getElem? (i := 63) rfl))) (by decide) (backOf (W := 4) (rm11 l Z a0 hw [] z p2  h8 n0 Z8 ) hZ (hw _ (List.mem_of_getElem? (i := 63) rfl)) (hw _ (List.mem_of_getElem? (i := 62) rfl)) (by decide) (by decide)) (g := (mkF m 25 #[.val (.ref a1), .val (.int p2), .val (.ref b8)] [(.int p2), (.int z), (.int (0 : Int32)), (.ref b8), (.int (0 : Int32)), (.ref a1)])) rfl (by rw [hml]; rfl) (argsL := [(.int z), (.int p2)]) (rest := [(.int (0 : Int32)), (.ref b8), (.int (0 : Int32)), (.ref a1)]) (lenOf own_pd0 rfl) rfl (by show 2 * 0 + _ ≤ _; exact Nat.le_of_eq rfl) (hb hby d6_25) (fun _ _ => ⟨rfl, e8, (by decide : 1 + 0 ≤ _), (by decide : 16 + 0 ≤ _)⟩)
    dsimp only [Pt.U, Pt.locs, Pt.cells, Pt.slots] at X12 l12 y12 z12 st12 hQ12
    subst l12 y12 z12
    obtain ⟨rfl, Nq12, e12⟩ := hQ12
    have N12 := Fr.app N0 Nq12
    have hmn := own_min z p2 hz.1 hp.1
    have hb1 := hmn.1
    have hb2 := hmn.2.1
    have hb3 := hmn.2.2.1
    have e00 : (0 : Int32).toNatClampNeg = 0 := rfl
    obtain ⟨T13, h13, L13, X13, e13, N13, Kc13, V13, st13⟩ := cpA X12 hx hZ hown (hw _ (List.mem_of_getElem? (i := 64) rfl)) (hw _ (List.mem_of_getElem? (i := 67) rfl)) (hw _ (List.mem_of_getElem? (i := 65) rfl)) (hw _ (List.mem_of_getElem? (i := 66) rfl)) e12 f10 (V8.pad (pad_rep [] (.int (0 : Int32)) 16)) (Or.inl ⟨rfl, rfl⟩) (by decide) (by decide) (own_nn hb1) (by rw [e00, own_tn, own_tn]; omega) (by rw [e00, own_tn, own_tn]; omega) rfl (by rw [e00, own_tn, List.nil_append, List.length_replicate]; omega) N12 g_b8 (g := (mkF m 28 #[.val (.ref a1), .val (.int p2), .val (.ref b8)] [(.int (if p2 < z then p2 else z)), (.int (0 : Int32)), (.ref b8), (.int (0 : Int32)), (.ref a1)])) rfl (by rw [hml]; rfl) rfl (hb hby d6_28) (by decide) (W := 0) (by show 2 * 0 + _ ≤ _; exact Nat.le_of_eq rfl) (by decide)
    have Z13 : n0 ≤ h13.size := Nat.le_trans Z8 Kc13.1
    have K13 : Keep h0 h13 [] := K8.trans Kc13 (allS (Or.inr sz_b8) all0)
    have go14 : own_go p e below (s₁.setTop (entryFrame m #[(.ref a1), (.int p2)] 3)) (T13.setTop (mkF m 32 #[.val (.ref a1), .val (.int p2), .val (.ref b8)] [(.ref b8)])) := by
      intro ttx ktx
      refine go2 ttx ?_
      show Steps p.tables e below (s₁.setTop (mkF m 3 #[.val (.ref a1), .val (.int p2), .unset] [(.int z), (.int p2)])) _
      refine XS.icmpYes X0.here hx rfl (pc0 := 3) (pc' := 14) rfl (hb hby d6_3) rfl (feq hc3_3).2 (by decide) (by decide) ?_
      show Steps p.tables e below (s₁.setTop (mkF m 14 #[.val (.ref a1), .val (.int p2), .unset] [])) _
      refine XS.iloadN X0.here hx rfl (hb hby d6_14) rfl ?_
      show Steps p.tables e below (s₁.setTop (mkF m 15 #[.val (.ref a1), .val (.int p2), .unset] [(.int p2)])) _
      refine st8 _ ?_
      show Steps p.tables e below (T8.setTop (mkF m 17 #[.val (.ref a1), .val (.int p2), .unset] [(.ref b8)])) _
      refine XS.astoreN X8.here hx rfl (hb hby d6_17) rfl rfl (l' := #[.val (.ref a1), .val (.int p2), .val (.ref b8)]) rfl ?_
      show Steps p.tables e below (T8.setTop (mkF m 18 #[.val (.ref a1), .val (.int p2), .val (.ref b8)] [])) _
      refine XS.aloadN X8.here hx rfl (hb hby d6_18) rfl rfl ?_
      show Steps p.tables e below (T8.setTop (mkF m 19 #[.val (.ref a1), .val (.int p2), .val (.ref b8)] [(.ref a1)])) _
      refine XS.iconst X8.here hx rfl (hb hby d6_19) ?_
      show Steps p.tables e below (T8.setTop (mkF m 20 #[.val (.ref a1), .val (.int p2), .val (.ref b8)] [(.int (0 : Int32)), (.ref a1)])) _
      refine XS.aloadN X8.here hx rfl (hb hby d6_20) rfl rfl ?_
      show Steps p.tables e below (T8.setTop (mkF m 21 #[.val (.ref a1), .val (.int p2), .val (.ref b8)] [(.ref b8), (.int (0 : Int32)), (.ref a1)])) _
      refine XS.iconst X8.here hx rfl (hb hby d6_21) ?_
      show Steps p.tables e below (T8.setTop (mkF m 22 #[.val (.ref a1), .val (.int p2), .val (.ref b8)] [(.int (0 : Int32)), (.ref b8), (.int (0 : Int32)), (.ref a1)])) _
      refine XS.aloadN X8.here hx rfl (hb hby d6_22) rfl rfl ?_
      show Steps p.tables e below (T8.setTop (mkF m 23 #[.val (.ref a1), .val (.int p2), .val (.ref b8)] [(.ref a1), (.int (0 : Int32)), (.ref b8), (.int (0 : Int32)), (.ref a1)])) _
      refine X8.arraylength hx (own_hp e8 Ar11.1) (State.isArrayOf_alike hZ.alike Ar11.2.1) (g := (mkF m 23 #[.val (.ref a1), .val (.int p2), .val (.ref b8)] [(.ref a1), (.int (0 : Int32)), (.ref b8), (.int (0 : Int32)), (.ref a1)])) rfl rfl (hb hby d6_23) _ ?_
      rw [len_of S11 M11]
      show Steps p.tables e below (T8.setTop (mkF m 24 #[.val (.ref a1), .val (.int p2), .val (.ref b8)] [(.int z), (.int (0 : Int32)), (.ref b8), (.int (0 : Int32)), (.ref a1)])) _
      refine XS.iloadN X8.here hx rfl (hb hby d6_24) rfl ?_
      show Steps p.tables e below (T8.setTop (mkF m 25 #[.val (.ref a1), .val (.int p2), .val (.ref b8)] [(.int p2), (.int z), (.int (0 : Int32)), (.ref b8), (.int (0 : Int32)), (.ref a1)])) _
      refine st12 _ ?_
      show Steps p.tables e below (T12.setTop (mkF m 28 #[.val (.ref a1), .val (.int p2), .val (.ref b8)] [(.int (if p2 < z then p2 else z)), (.int (0 : Int32)), (.ref b8), (.int (0 : Int32)), (.ref a1)])) _
      refine st13 _ ?_
      show Steps p.tables e below (T13.setTop (mkF m 31 #[.val (.ref a1), .val (.int p2), .val (.ref b8)] [])) _
      refine XS.aloadN X13.here hx rfl (hb hby d6_31) rfl rfl ?_
      exact ktx
    obtain ⟨fs, hr, hrun, hended, hW, hsame⟩ := X13.leave (v := some (.ref b8)) (fun h => by rw [Bd.returns] at h; cases h)
    refine ⟨_, _, go14 _ ?_, hrun, hended, _, _, rfl, ?_, ⟨_, rfl⟩, hW, hsame.mono (by decide) (by decide)⟩
    · exact retOut X13 hx Bd.returns rfl (Or.inr (Or.inr (Or.inr (Or.inr ⟨rfl, rfl, rfl⟩)))) (hb hby d6_32) hr
    · show QCPY Z a1 p2 kc z vs h0 n0 _ T13.heap _
      rw [e13]
      have f15 := (B8.keep Kc13)
      exact ⟨b8, _, _, rfl, N13, K13, sz_b8, f15, V13, fun i h1 h2 => own_cpd _ _ _ _ _ (by rw [own_tn] at *; have := hmn.2.2.2; omega)⟩
theorem own_pd1 : parseMethodDescriptor "([I)V" = some ⟨[(.array .int)], none⟩ := by decide +kernel
set_option maxRecDepth 65536 in
set_option maxHeartbeats 4000000 in
theorem own_sort {p : Program} {l : Launch} {e : Env} {R : Room} {s : State} {m : MethodId} {args : Array Value} {below : List Frame} {meth : Method} {c : Code} {T : State} {locs : List Loc} {cells slots : Nat} {Z : State} {a0 : Array Value} {h : Heap}
    (X : Stand p l e R s m args below meth c T locs cells slots) (hx : p.tables.exec = Jvm.exec) (hZ : Z.Warmed39 s.vm) (hw : ∀ d ∈ tables_1, d.before a0 Z = true) {own : String} {index : Nat} (hown : s.vm.findClass own = some m.cls)
    (w1 : (Jvm.Cond.methodLink own index (⟨"java/util/Arrays", "sort", "([I)V"⟩ : MethodName)).before a0 Z = true) (eT : T.heap = h) {b : Addr} {kb : ClassId} {z : Int32} {us : List Int32} (V : Arv Z h b kb .int z (us.map Value.int) (.int (0 : Int32))) (hz : z.toInt = us.length) (hu : us.length ≤ 40)
    {n0 : Nat} (N : Fr n0 locs) (gb : n0 ≤ b) {g : JFrame} (hg : g.method = m) (hsize : g.locals.size = c.maxLocals) {rest : List Value} (hs : g.stack = .ref b :: rest) (hd : decode c.code g.pc = .ok (.invokestatic index, 3)) {W : Nat} (hW : 2 * g.monitorRoom + (rest.map fun v => v.category).sum ≤ W) (hf : 5 ≤ R.frames) (hlo : W + 162 ≤ R.locals) (hc : cells ≤ R.cells) (hl : slots ≤ R.slots) :
    ∃ (T' : State) (h' : Heap) (L : List Loc) (us' : List Int32), Stand p l e R s m args below meth c T' L cells slots ∧ T'.heap = h' ∧ Fr n0 L ∧ Keep h h' [b] ∧ Arv Z h' b kb .int z (us'.map Value.int) (.int (0 : Int32)) ∧ us'.Perm us ∧ us'.Pairwise (· ≤ ·) ∧
      ∀ target, Steps p.tables e below (T'.setTop { g with pc := g.pc + 3, stack := rest }) target → Steps p.tables e below (T.setTop g) target := by
  obtain ⟨cl, Ar, q, S, M, H, G⟩ := V
  have hsz : cl.slots.size = us.length := by rw [S]; show z.toInt.toNat = _; omega
  have hat : ∀ i, i < cl.slots.size → cl.slots[i]? = some (.int (us.getD i 0)) := fun i hi => by rw [H i hi]; exact congrArg some (own_getD Value.int us 0 i)
  have hInts : Jvm.Free.Str.Ints cl := fun i hi => by
    have e := hat i hi
    rw [e]
    simp [Jvm.Lib.StringLatin1.equals.intAt, e]
  have hlist : cl.slots.toList = us.map Value.int := by
    refine List.ext_getElem? fun i => ?_
    rw [Array.getElem?_toList]
    by_cases hi : i < cl.slots.size
    · rw [hat i hi]
      have hi' : i < us.length := by omega
      simp [List.getD, hi']
    · have hi' : ¬ i < us.length := by omega
      rw [Array.getElem?_eq_none (by omega)]
      simp [Nat.not_lt.mp hi']
  have htab : Jvm.Free.Str.AS1.tab.before args s = true := by
    simp only [Jvm.Free.Str.AS1.tab, Jvm.Free.Str.AS1.words, Jvm.Free.Str.DS4.tab, Jvm.Free.Str.DS4.words, Jvm.Free.Str.DS5.tab, Jvm.Free.Str.DS5.words, Jvm.Free.Str.INS.tab, List.foldr, Cond.before_and, Bool.and_eq_true]
    refine ⟨mvT hZ (hw _ (List.mem_of_getElem? (i := 49) rfl)), mvT hZ (hw _ (List.mem_of_getElem? (i := 50) rfl)), mvT hZ (hw _ (List.mem_of_getElem? (i := 51) rfl)), ⟨mvT hZ (hw _ (List.mem_of_getElem? (i := 53) rfl)), mvT hZ (hw _ (List.mem_of_getElem? (i := 54) rfl)), mvT hZ (hw _ (List.mem_of_getElem? (i := 55) rfl)), ⟨mvT hZ (hw _ (List.mem_of_getElem? (i := 56) rfl)), mvT hZ (hw _ (List.mem_of_getElem? (i := 57) rfl)), mvT hZ (hw _ (List.mem_of_getElem? (i := 58) rfl)), ⟨mvT hZ (hw _ (List.mem_of_getElem? (i := 59) rfl)), mvT hZ (hw _ (List.mem_of_getElem? (i := 52) rfl))⟩, mvT hZ (hw _ (List.mem_of_getElem? (i := 52) rfl)), rfl⟩, mvT hZ (hw _ (List.mem_of_getElem? (i := 52) rfl)), rfl⟩, mvT hZ (hw _ (List.mem_of_getElem? (i := 36) rfl)), rfl⟩
  obtain ⟨v, vm₁, ⟨T1, L1, k1, n1⟩, hWm, X1, ⟨rfl, ⟨A', hA', hS⟩, hoth, hsz', L, hL, hlocs, hcells, hslots⟩, st⟩ := Jvm.LawKit.callS X hx (y := (⟨"java/util/Arrays", "sort", "([I)V"⟩ : MethodName)) hown (mvT hZ w1) (mvT hZ (hw _ (List.mem_of_getElem? (i := 48) rfl))) (mvT hZ (hw _ (List.mem_of_getElem? (i := 36) rfl))) (mvT hZ (hw _ (List.mem_of_getElem? (i := 49) rfl))) (by decide) (Jvm.Free.Str.AS1.pays (W := W) b cl htab hf (by omega)) hg hsize (argsL := [.ref b]) (rest := rest) (lenOf own_pd1 rfl) hs hW hd
    (fun vm₁ hW₁ => ⟨hc, hl, rfl, ⟨by show T.heap[b]? = _; rw [eT]; exact Ar.1, State.isArrayOf_alike (hZ.alike.trans hW₁.alike) Ar.2.1, Ar.2.2, by omega, hInts, Nat.zero_le _, Nat.le_refl _⟩, by omega⟩)
  dsimp only [Pt.U, Pt.locs, Pt.cells, Pt.slots] at X1 hlocs hcells hslots st hA' hoth hsz'
  subst hlocs hcells hslots
  obtain ⟨s1, s2, s3, s4, s5, s6, s7⟩ := hS
  have hh : ∀ y : Addr, y ≠ b → T1.heap[y]? = h[y]? := fun y hy => by rw [hoth y hy]; show T.heap[y]? = _; rw [eT]
  have hs1 : T1.heap.size = h.size := by rw [hsz']; show T.heap.size = _; rw [eT]
  let us' : List Int32 := (List.range A'.slots.size).map (fun i => Jvm.Lib.StringLatin1.equals.intAt A' i)
  have hlist' : A'.slots.toList = us'.map Value.int := by
    refine List.ext_getElem? fun i => ?_
    rw [Array.getElem?_toList]
    by_cases hi : i < A'.slots.size
    · rw [s7 i hi]; simp [us', hi]
    · rw [Array.getElem?_eq_none (by omega)]; simp [us', Nat.not_lt.mp hi]
  have hlen : us'.length = us.length := by simp [us', s6, hsz]
  refine ⟨T1, _, _, us', X1, rfl, Fr.app N (fun y hy => by rw [hL y hy]; exact gb), ⟨by rw [hs1]; exact Nat.le_refl _, fun x cx hx' hn => ?_, fun x cx hx' => ?_⟩, ⟨A', ⟨hA', ?_, by rw [s5]; exact Ar.2.2⟩, by rw [s4]; exact q, by rw [s6]; exact S, M, fun i hi => ?_, fun i hi => ?_⟩, ?_, ?_, st⟩
  · rw [hh x (fun e => hn (by rw [e]; exact List.mem_singleton.mpr rfl))]; exact hx'
  · by_cases e : x = b
    · subst e
      cases hx'.symm.trans Ar.1
      exact ⟨A', hA', s4, s5, s6⟩
    · exact ⟨cx, by rw [hh x e]; exact hx', rfl, rfl, rfl⟩
  · obtain ⟨o1, k, hk, comp, hkind⟩ := Ar.2.1
    exact ⟨by rw [s5]; exact o1, k, by rw [s4]; exact hk, comp, hkind⟩
  · rw [s7 i hi]
    have e := own_getD Value.int us' 0 i
    rw [e]
    simp [us', List.getD, hi]
  · have e := own_getD Value.int us' 0 i
    rw [e]; rfl
  · have hp := (hlist' ▸ hlist ▸ s2 : (us'.map Value.int).Perm (us.map Value.int))
    have hq := hp.map (fun v => match v with | .int x => x | _ => (0 : Int32))
    simpa [List.map_map, Function.comp_def] using hq
  · rw [List.pairwise_iff_getElem]
    intro i j hi hj hij
    have hj' : j < cl.slots.size := by rw [hsz, ← hlen]; exact hj
    have := s1 i j (Nat.zero_le _) (Nat.le_of_lt hij) hj'
    simpa [us'] using this
def own_fb (Z : State) (h : Heap) (r ts tf : Addr) (n q : Int32) : Prop := Exa Z h r "com/example/linkwright/linkwright/link/FoundTargets" ∧ Fld Z h r "com/example/linkwright/linkwright/link/FoundTargets" "seen" "[I" (.ref ts) ∧ Fld Z h r "com/example/linkwright/linkwright/link/FoundTargets" "found" "[I" (.ref tf) ∧ Fld Z h r "com/example/linkwright/linkwright/link/FoundTargets" "query" "I" (.int q) ∧ Exa Z h tf "[I" ∧ ∃ (k1 k2 : ClassId) (sv fv : List Value) (k : Int32), Arv Z h ts k1 .int n sv (.int (0 : Int32)) ∧ Arv Z h tf k2 .int n fv (.int (0 : Int32)) ∧ Fld Z h r "com/example/linkwright/linkwright/link/FoundTargets" "count" "I" (.int k) ∧ ∀ i : Nat, (i : Int) < n.toInt → ∃ x : Int32, sv.getD i (.int (0 : Int32)) = .int x ∧ x.toInt ≤ q.toInt
def own_ft (Z : State) (h : Heap) (r ts tf : Addr) (n q : Int32) (xs : List Int32) : Prop := Exa Z h r "com/example/linkwright/linkwright/link/FoundTargets" ∧ Fld Z h r "com/example/linkwright/linkwright/link/FoundTargets" "seen" "[I" (.ref ts) ∧ Fld Z h r "com/example/linkwright/linkwright/link/FoundTargets" "found" "[I" (.ref tf) ∧ Fld Z h r "com/example/linkwright/linkwright/link/FoundTargets" "query" "I" (.int q) ∧ Exa Z h tf "[I" ∧ ∃ (k1 k2 : ClassId) (sv fv : List Value), Arv Z h ts k1 .int n sv (.int (0 : Int32)) ∧ Arv Z h tf k2 .int n fv (.int (0 : Int32)) ∧ Fld Z h r "com/example/linkwright/linkwright/link/FoundTargets" "count" "I" (.int (Int32.ofNat xs.length)) ∧ (∀ i : Nat, (i : Int) < n.toInt → ∃ x : Int32, sv.getD i (.int (0 : Int32)) = .int x ∧ x.toInt ≤ q.toInt ∧ (x = q ↔ Int32.ofNat i ∈ xs)) ∧ (∀ i, i < xs.length → fv.getD i (.int (0 : Int32)) = .int (xs.getD i 0)) ∧ (xs.length : Int) ≤ n.toInt
theorem own_ft.fb {Z : State} {h : Heap} {r ts tf : Addr} {n q : Int32} {xs : List Int32} (F : own_ft Z h r ts tf n q xs) : own_fb Z h r ts tf n q := by
  obtain ⟨a1, a2, a3, a4, a5, k1, k2, sv, fv, b1, b2, b3, b4, -⟩ := F
  exact ⟨a1, a2, a3, a4, a5, k1, k2, sv, fv, _, b1, b2, b3, fun i hi => by obtain ⟨x, c1, c2, -⟩ := b4 i hi; exact ⟨x, c1, c2⟩⟩
def own_ins (xs : List Int32) (e : Int32) : List Int32 := if e ∈ xs then xs else xs ++ [e]
theorem own_of (n : Nat) (h : n ≤ 100) : (Int32.ofNat n).toInt = n := Int32.toInt_ofNat_of_lt (by omega)
theorem own_up (n : Nat) : Int32.ofNat n + 1 = Int32.ofNat (n + 1) := by
  rw [Int32.ofNat_add]; rfl
theorem own_back {x : Int32} (h : 0 ≤ x.toInt) (h2 : x.toInt ≤ 100) : Int32.ofNat x.toNatClampNeg = x := by
  refine Int32.toInt_inj.mp ?_
  rw [own_tn, own_of _ (by omega)]; omega
theorem own_snoc (ws : List Value) (xs : List Int32) (p : Int32) (i k : Nat) (hk : k = xs.length) (hl : k < ws.length) (H : ∀ i, i < xs.length → ws.getD i (.int (0 : Int32)) = .int (xs.getD i 0)) (hi : i < (xs ++ [p]).length) : (ws.set k (.int p)).getD i (.int (0 : Int32)) = .int ((xs ++ [p]).getD i 0) := by
  subst hk
  by_cases e : i = xs.length
  · subst e; simp [List.getD, hl]
  · have hi' : i < xs.length := by simp at hi; omega
    have := H i hi'
    simp only [List.getD] at *
    rw [List.getElem?_set_ne (Ne.symm e), this, List.getElem?_append_left hi']
theorem own_pad (ws : List Value) (xs : List Int32) (H : ∀ i, i < xs.length → ws.getD i (.int (0 : Int32)) = .int (xs.getD i 0)) : ∀ i, i < xs.length → (ws ++ List.replicate 20 (Value.int (0 : Int32))).getD i (.int (0 : Int32)) = .int (xs.getD i 0) := fun i hi => by rw [pad_rep]; exact H i hi
theorem own_see (sv : List Value) (xs : List Int32) (n q p : Int32) (hp : 0 ≤ p.toInt) (hpn : p.toInt < n.toInt) (hn : n.toInt ≤ 16) (H : ∀ i : Nat, (i : Int) < n.toInt → ∃ x : Int32, sv.getD i (.int (0 : Int32)) = .int x ∧ x.toInt ≤ q.toInt ∧ (x = q ↔ Int32.ofNat i ∈ xs)) : ∀ i : Nat, (i : Int) < n.toInt → ∃ x : Int32, ((sv ++ List.replicate 20 (Value.int (0 : Int32))).set p.toNatClampNeg (.int q)).getD i (.int (0 : Int32)) = .int x ∧ x.toInt ≤ q.toInt ∧ (x = q ↔ Int32.ofNat i ∈ xs ++ [p]) := fun i hi => by
  have ep := own_back hp (by omega)
  by_cases e : p.toNatClampNeg = i
  · subst e
    refine ⟨q, ?_, Int.le_refl _, ?_⟩
    · have hl : p.toNatClampNeg < (sv ++ List.replicate 20 (Value.int (0 : Int32))).length := by rw [own_tn, List.length_append, List.length_replicate]; omega
      simp only [List.getD]
      rw [List.getElem?_set_self hl]; rfl
    · rw [ep]; simp
  · obtain ⟨x, h1, h2, h3⟩ := H i hi
    refine ⟨x, ?_, h2, ?_⟩
    · rw [← h1, ← pad_rep sv (.int (0 : Int32)) 20 i]
      simp only [List.getD]
      rw [List.getElem?_set_ne e]
    · rw [h3]
      have ne : Int32.ofNat i ≠ p := fun q => e (by rw [← q, own_tn, own_of i (by omega)]; omega)
      simp [ne]
theorem d1_0 : decode prog_15_method_1_code 0 = .ok (.aload_n 0, 1) := by decide +kernel
theorem d1_1 : decode prog_15_method_1_code 1 = .ok (.invokespecial 1, 3) := by decide +kernel
theorem d1_4 : decode prog_15_method_1_code 4 = .ok (.aload_n 0, 1) := by decide +kernel
theorem d1_5 : decode prog_15_method_1_code 5 = .ok (.iload_n 1, 1) := by decide +kernel
theorem d1_6 : decode prog_15_method_1_code 6 = .ok (.newarray .int, 2) := by decide +kernel
theorem d1_8 : decode prog_15_method_1_code 8 = .ok (.putfield 7, 3) := by decide +kernel
theorem d1_11 : decode prog_15_method_1_code 11 = .ok (.aload_n 0, 1) := by decide +kernel
theorem d1_12 : decode prog_15_method_1_code 12 = .ok (.iload_n 1, 1) := by decide +kernel
theorem d1_13 : decode prog_15_method_1_code 13 = .ok (.newarray .int, 2) := by decide +kernel
theorem d1_15 : decode prog_15_method_1_code 15 = .ok (.putfield 13, 3) := by decide +kernel
theorem d1_18 : decode prog_15_method_1_code 18 = .ok (.return_, 1) := by decide +kernel
theorem own_pn_com_example_linkwright_linkwright_link_FoundTargets : plainName "com/example/linkwright/linkwright/link/FoundTargets" = true := by first | (simp [plainName, overriddenIn]; done) | decide +kernel
theorem ef_1 (m : MethodId) (x0 : Addr) (x1 : Int32) : entryFrame m #[(.ref x0), (.int x1)] 2 = mkF m 0 #[.val (.ref x0), .val (.int x1)] [] := by first | (simp [entryFrame, mkF, argsToLocals, Value.category]; done) | rfl
def Q1 (Z : State) (a1 : Addr) (p2 : Int32) (h0 : Heap) (n0 : Nat) (v : Option Value) (h : Heap) (L : List Loc) : Prop := v = none ∧ Fr n0 L ∧ Keep h0 h [a1] ∧ ∃ ts tf : Addr, n0 ≤ ts ∧ n0 ≤ tf ∧ h0.size ≤ ts ∧ h0.size ≤ tf ∧ ts ≠ tf ∧ own_fb Z h a1 ts tf p2 (0 : Int32)
set_option maxRecDepth 65536 in
set_option maxHeartbeats 40000000 in
theorem rm1 (l : Launch) (Z : State) (a0 : Array Value) (hw : ∀ d ∈ tables_1, d.before a0 Z = true) (ws : List Jvm.Cond) (a1 : Addr) (p2 : Int32) (h0 : Heap) (n0 : Nat) (Z0 : n0 ≤ h0.size) (E_a1 : Exa Z h0 a1 "com/example/linkwright/linkwright/link/FoundTargets") (g_a1 : n0 ≤ a1) (F_seen : Fld Z h0 a1 "com/example/linkwright/linkwright/link/FoundTargets" "seen" "[I" .null) (F_found : Fld Z h0 a1 "com/example/linkwright/linkwright/link/FoundTargets" "found" "[I" .null) (F_query : Fld Z h0 a1 "com/example/linkwright/linkwright/link/FoundTargets" "query" "I" (.int (0 : Int32))) (F_count : Fld Z h0 a1 "com/example/linkwright/linkwright/link/FoundTargets" "count" "I" (.int (0 : Int32))) (hp : ¬ p2 < 0 ∧ p2.toNatClampNeg ≤ 8) :
    MetFree l (⟨"com/example/linkwright/linkwright/link/FoundTargets", "<init>", "(I)V"⟩ : MethodName) (head1 (Jvm.Cond.code (⟨"com/example/linkwright/linkwright/link/FoundTargets", "<init>", "(I)V"⟩ : MethodName) prog_15_method_1_code 2 none :: ws) ({ frames := 1, cells := 2, slots := 16, locals := 12 } : Room)) (fun aax UU => aax = #[(.ref a1), (.int p2)] ∧ Z.Warmed39 UU.vm ∧ UU.heap = h0) (fun _ _ _ _ _ => True) (fun _ UU oux UU' => ∃ rvx Lrx, oux = .returned rvx ∧ Q1 Z a1 p2 h0 n0 rvx UU'.heap Lrx ∧ FrameEnd UU oux UU' Lrx ({ frames := 1, cells := 2, slots := 16, locals := 12 } : Room).cells ({ frames := 1, cells := 2, slots := 16, locals := 12 } : Room).slots) := by
  refine MetFree.of_bodySF (plainFor_of_name own_pn_com_example_linkwright_linkwright_link_FoundTargets) hisR ?_
  intro p e s m args below meth c s₁ Bd hml0 hP hK
  obtain ⟨rfl, hZ, hh⟩ := hP
  have hx := Bd.exec
  have hby := Bd.bytes
  have hml : c.maxLocals = 2 := hml0
  have hown : s.vm.findClass "com/example/linkwright/linkwright/link/FoundTargets" = some m.cls := findClass_of_methodNamed Bd.named
  have hnm := (name_of_methodNamed Bd.named Bd.method).1
  have X0 : Stand p l e ({ frames := 1, cells := 2, slots := 16, locals := 12 } : Room) s m #[(.ref a1), (.int p2)] below meth c s₁ [] 0 0 := Stand.of_body Bd
  have e0 : s₁.heap = h0 := by rw [← hh, Bd.state]; rfl
  have N0 := Fr.nil n0
  have p0 : own_go p e below (s₁.setTop (entryFrame m #[(.ref a1), (.int p2)] 2)) (s₁.setTop (mkF m 0 #[.val (.ref a1), .val (.int p2)] [])) := fun ttx ktx => castTop (ef_1 m a1 p2) ktx
  obtain ⟨T1, X1, e1, st1⟩ := initO X0 hx hZ hown (hw _ (List.mem_of_getElem? (i := 7) rfl)) (hw _ (List.mem_of_getElem? (i := 8) rfl)) (hw _ (List.mem_of_getElem? (i := 9) rfl)) e0 (g := (mkF m 1 #[.val (.ref a1), .val (.int p2)] [(.ref a1)])) rfl (by rw [hml]; rfl) rfl (hb hby d1_1) (by decide) (W := 0) (by show 2 * 0 + _ ≤ _; exact Nat.le_of_eq rfl) (by decide)
  obtain ⟨T2, h2, k2, X2, e2, E2, A2, B2, st2⟩ := newPE X1 hx hZ (hw _ (List.mem_of_getElem? (i := 10) rfl)) e1 (g := (mkF m 6 #[.val (.ref a1), .val (.int p2)] [(.int p2), (.ref a1)])) rfl (hb hby d1_6) rfl hp.1 (cap := 8) hp.2 (by decide) (by decide) (by decide) (ad := "[I") (by decide)
  obtain ⟨b2, g2⟩ : ∃ z, z = h0.size := ⟨_, rfl⟩
  rw [← g2] at A2 B2 st2
  have ne3 : a1 ≠ b2 := Nat.ne_of_lt (Nat.lt_of_lt_of_le E_a1.lt (Nat.le_of_eq g2.symm))
  have g_b2 : n0 ≤ b2 := Nat.le_trans Z0 (Nat.le_of_eq g2.symm)
  have sz_b2 : h0.size ≤ b2 := Nat.le_trans (Keep.refl h0 [a1]).1 (Nat.le_of_eq g2.symm)
  have Z2 : n0 ≤ h2.size := Nat.le_trans Z0 E2.1
  have K2 : Keep h0 h2 [a1] := (Keep.refl h0 [a1]).ext E2
  have V2 : Arv Z h2 b2 k2 .int p2 [] (.int (0 : Int32)) := Arv.new A2 hp.1
  have f4 := (F_seen.ext E2)
  have f5 := (E_a1.ext E2)
  obtain ⟨T6, h6, X6, e6, W6, st6⟩ := putF X2 hx hZ hown (host := "") (Or.inl (hw _ (List.mem_of_getElem? (i := 11) rfl))) Via.refl e2 f4 f5 (Or.inr ⟨(hw _ (List.mem_of_getElem? (i := 12) rfl)), rfl, hnm⟩) (hw _ (List.mem_of_getElem? (i := 2) rfl)) (ty := (.array .int)) (by decide) rfl rfl (g := (mkF m 8 #[.val (.ref a1), .val (.int p2)] [(.ref b2), (.ref a1)])) rfl rfl (hb hby d1_8)
  have Z6 : n0 ≤ h6.size := Nat.le_trans Z2 (Nat.le_of_eq W6.size.symm)
  have K6 : Keep h0 h6 [a1] := K2.wr W6 (Or.inl (List.mem_of_getElem? (i := 0) rfl))
  have N6 := Fr.snoc X6 N0 g_a1
  have Fw6 := f4.same W6
  obtain ⟨T7, h7, k7, X7, e7, E7, A7, B7, st7⟩ := newPE X6 hx hZ (hw _ (List.mem_of_getElem? (i := 10) rfl)) e6 (g := (mkF m 13 #[.val (.ref a1), .val (.int p2)] [(.int p2), (.ref a1)])) rfl (hb hby d1_13) rfl hp.1 (cap := 8) hp.2 (by decide) (by decide) (by decide) (ad := "[I") (by decide)
  obtain ⟨b7, g7⟩ : ∃ z, z = h6.size := ⟨_, rfl⟩
  rw [← g7] at A7 B7 st7
  have f9 := (f5.wr W6)
  have ne8 : a1 ≠ b7 := Nat.ne_of_lt (Nat.lt_of_lt_of_le f9.lt (Nat.le_of_eq g7.symm))
  have f11 := (B2.wr W6)
  have ne10 : b2 ≠ b7 := Nat.ne_of_lt (Nat.lt_of_lt_of_le f11.lt (Nat.le_of_eq g7.symm))
  have g_b7 : n0 ≤ b7 := Nat.le_trans Z6 (Nat.le_of_eq g7.symm)
  have sz_b7 : h0.size ≤ b7 := Nat.le_trans K6.1 (Nat.le_of_eq g7.symm)
  have Z7 : n0 ≤ h7.size := Nat.le_trans Z6 E7.1
  have K7 : Keep h0 h7 [a1] := K6.ext E7
  have V7 : Arv Z h7 b7 k7 .int p2 [] (.int (0 : Int32)) := Arv.new A7 hp.1
  have f12 := (((F_found.ext E2).other W6 (Or.inr (slot_ne (Or.inr (hw _ (List.mem_of_getElem? (i := 14) rfl))) (Or.inr (hw _ (List.mem_of_getElem? (i := 12) rfl))) (by decide) (t := (.array .int)) (t' := (.array .int)) (by decide) (by decide)))).ext E7)
  have f13 := (f9.ext E7)
  obtain ⟨T14, h14, X14, e14, W14, st14⟩ := putF X7 hx hZ hown (host := "") (Or.inl (hw _ (List.mem_of_getElem? (i := 13) rfl))) Via.refl e7 f12 f13 (Or.inr ⟨(hw _ (List.mem_of_getElem? (i := 14) rfl)), rfl, hnm⟩) (hw _ (List.mem_of_getElem? (i := 2) rfl)) (ty := (.array .int)) (by decide) rfl rfl (g := (mkF m 15 #[.val (.ref a1), .val (.int p2)] [(.ref b7), (.ref a1)])) rfl rfl (hb hby d1_15)
  have Z14 : n0 ≤ h14.size := Nat.le_trans Z7 (Nat.le_of_eq W14.size.symm)
  have K14 : Keep h0 h14 [a1] := K7.wr W14 (Or.inl (List.mem_of_getElem? (i := 0) rfl))
  have N14 := Fr.snoc X14 N6 g_a1
  have Fw14 := f12.same W14
  have go15 : own_go p e below (s₁.setTop (entryFrame m #[(.ref a1), (.int p2)] 2)) (T14.setTop (mkF m 18 #[.val (.ref a1), .val (.int p2)] [])) := by
    intro ttx ktx
    refine p0 ttx ?_
    show Steps p.tables e below (s₁.setTop (mkF m 0 #[.val (.ref a1), .val (.int p2)] [])) _
    refine XS.aloadN X0.here hx rfl (hb hby d1_0) rfl rfl ?_
    show Steps p.tables e below (s₁.setTop (mkF m 1 #[.val (.ref a1), .val (.int p2)] [(.ref a1)])) _
    refine st1 _ ?_
    show Steps p.tables e below (T1.setTop (mkF m 4 #[.val (.ref a1), .val (.int p2)] [])) _
    refine XS.aloadN X1.here hx rfl (hb hby d1_4) rfl rfl ?_
    show Steps p.tables e below (T1.setTop (mkF m 5 #[.val (.ref a1), .val (.int p2)] [(.ref a1)])) _
    refine XS.iloadN X1.here hx rfl (hb hby d1_5) rfl ?_
    show Steps p.tables e below (T1.setTop (mkF m 6 #[.val (.ref a1), .val (.int p2)] [(.int p2), (.ref a1)])) _
    refine st2 _ ?_
    show Steps p.tables e below (T2.setTop (mkF m 8 #[.val (.ref a1), .val (.int p2)] [(.ref b2), (.ref a1)])) _
    refine st6 _ ?_
    show Steps p.tables e below (T6.setTop (mkF m 11 #[.val (.ref a1), .val (.int p2)] [])) _
    refine XS.aloadN X6.here hx rfl (hb hby d1_11) rfl rfl ?_
    show Steps p.tables e below (T6.setTop (mkF m 12 #[.val (.ref a1), .val (.int p2)] [(.ref a1)])) _
    refine XS.iloadN X6.here hx rfl (hb hby d1_12) rfl ?_
    show Steps p.tables e below (T6.setTop (mkF m 13 #[.val (.ref a1), .val (.int p2)] [(.int p2), (.ref a1)])) _
    refine st7 _ ?_
    show Steps p.tables e below (T7.setTop (mkF m 15 #[.val (.ref a1), .val (.int p2)] [(.ref b7), (.ref a1)])) _
    refine st14 _ ?_
    exact ktx
  obtain ⟨fs, hr, hrun, hended, hW, hsame⟩ := X14.leave (v := none) (fun _ => rfl)
  refine ⟨_, _, go15 _ ?_, hrun, hended, _, _, rfl, ?_, ⟨_, rfl⟩, hW, hsame.mono (by decide) (by decide)⟩
  · exact X14.returnOut hx Bd.returns (hb hby d1_18) hr
  · show Q1 Z a1 p2 h0 n0 _ T14.heap _
    rw [e14]
    have f16 := (f13.wr W14)
    have f17 := ((Fw6.ext E7).other W14 (Or.inr (slot_ne (Or.inr (hw _ (List.mem_of_getElem? (i := 12) rfl))) (Or.inr (hw _ (List.mem_of_getElem? (i := 14) rfl))) (by decide) (t := (.array .int)) (t' := (.array .int)) (by decide) (by decide))))
    have f18 := ((((F_query.ext E2).other W6 (Or.inr (slot_ne (Or.inl (hw _ (List.mem_of_getElem? (i := 21) rfl))) (Or.inr (hw _ (List.mem_of_getElem? (i := 12) rfl))) (by decide) (t := .int) (t' := (.array .int)) (by decide) (by decide)))).ext E7).other W14 (Or.inr (slot_ne (Or.inl (hw _ (List.mem_of_getElem? (i := 21) rfl))) (Or.inr (hw _ (List.mem_of_getElem? (i := 14) rfl))) (by decide) (t := .int) (t' := (.array .int)) (by decide) (by decide))))
    have f19 := (B7.wr W14)
    have f20 := (((V2.other W6 (Ne.symm ne3)).ext E7).other W14 (Ne.symm ne3))
    have f21 := (V7.other W14 (Ne.symm ne8))
    have f22 := ((((F_count.ext E2).other W6 (Or.inr (slot_ne (Or.inl (hw _ (List.mem_of_getElem? (i := 23) rfl))) (Or.inr (hw _ (List.mem_of_getElem? (i := 12) rfl))) (by decide) (t := .int) (t' := (.array .int)) (by decide) (by decide)))).ext E7).other W14 (Or.inr (slot_ne (Or.inl (hw _ (List.mem_of_getElem? (i := 23) rfl))) (Or.inr (hw _ (List.mem_of_getElem? (i := 14) rfl))) (by decide) (t := .int) (t' := (.array .int)) (by decide) (by decide))))
    exact ⟨rfl, N14, K14, b2, b7, g_b2, g_b7, sz_b2, sz_b7, ne10, f16, f17, Fw14, f18, f19, _, _, _, _, _, f20, f21, f22, fun i _ => ⟨0, rfl, by decide⟩⟩
theorem d3_0 : decode prog_15_method_2_code 0 = .ok (.aload_n 0, 1) := by decide +kernel
theorem d3_1 : decode prog_15_method_2_code 1 = .ok (.dup, 1) := by decide +kernel
theorem d3_2 : decode prog_15_method_2_code 2 = .ok (.getfield 16, 3) := by decide +kernel
theorem d3_5 : decode prog_15_method_2_code 5 = .ok (.iconst 1, 1) := by decide +kernel
theorem d3_6 : decode prog_15_method_2_code 6 = .ok (.iadd, 1) := by decide +kernel
theorem d3_7 : decode prog_15_method_2_code 7 = .ok (.putfield 16, 3) := by decide +kernel
theorem d3_10 : decode prog_15_method_2_code 10 = .ok (.aload_n 0, 1) := by decide +kernel
theorem d3_11 : decode prog_15_method_2_code 11 = .ok (.iconst 0, 1) := by decide +kernel
theorem d3_12 : decode prog_15_method_2_code 12 = .ok (.putfield 20, 3) := by decide +kernel
theorem d3_15 : decode prog_15_method_2_code 15 = .ok (.return_, 1) := by decide +kernel
theorem ef_3 (m : MethodId) (x0 : Addr) : entryFrame m #[(.ref x0)] 1 = mkF m 0 #[.val (.ref x0)] [] := by first | (simp [entryFrame, mkF, argsToLocals, Value.category]; done) | rfl
def Q3 (Z : State) (a1 : Addr) (ts : Addr) (tf : Addr) (n : Int32) (q : Int32) (h0 : Heap) (n0 : Nat) (v : Option Value) (h : Heap) (L : List Loc) : Prop := v = none ∧ Fr n0 L ∧ Keep h0 h [a1] ∧ own_ft Z h a1 ts tf n (q + (1 : Int32)) []
set_option maxRecDepth 65536 in
set_option maxHeartbeats 40000000 in
theorem rm3 (l : Launch) (Z : State) (a0 : Array Value) (hw : ∀ d ∈ tables_1, d.before a0 Z = true) (ws : List Jvm.Cond) (a1 : Addr) (ts : Addr) (tf : Addr) (n : Int32) (q : Int32) (h0 : Heap) (n0 : Nat) (Z0 : n0 ≤ h0.size) (g_a1 : n0 ≤ a1) (ne1 : a1 ≠ ts) (ne2 : a1 ≠ tf) (ne3 : ts ≠ tf) (hfb : own_fb Z h0 a1 ts tf n q) (hq : 0 ≤ q.toInt ∧ q.toInt ≤ 50) (hn : 0 ≤ n.toInt) :
    MetFree l (⟨"com/example/linkwright/linkwright/link/FoundTargets", "start", "()V"⟩ : MethodName) (head1 (Jvm.Cond.code (⟨"com/example/linkwright/linkwright/link/FoundTargets", "start", "()V"⟩ : MethodName) prog_15_method_2_code 1 none :: ws) ({ frames := 0, cells := 0, slots := 0, locals := 0 } : Room)) (fun aax UU => aax = #[(.ref a1)] ∧ Z.Warmed39 UU.vm ∧ UU.heap = h0) (fun _ _ _ _ _ => True) (fun _ UU oux UU' => ∃ rvx Lrx, oux = .returned rvx ∧ Q3 Z a1 ts tf n q h0 n0 rvx UU'.heap Lrx ∧ FrameEnd UU oux UU' Lrx ({ frames := 0, cells := 0, slots := 0, locals := 0 } : Room).cells ({ frames := 0, cells := 0, slots := 0, locals := 0 } : Room).slots) := by
  refine MetFree.of_bodySF (plainFor_of_name own_pn_com_example_linkwright_linkwright_link_FoundTargets) hisR ?_
  intro p e s m args below meth c s₁ Bd hml0 hP hK
  obtain ⟨rfl, hZ, hh⟩ := hP
  have hx := Bd.exec
  have hby := Bd.bytes
  have hml : c.maxLocals = 1 := hml0
  have hown : s.vm.findClass "com/example/linkwright/linkwright/link/FoundTargets" = some m.cls := findClass_of_methodNamed Bd.named
  have hnm := (name_of_methodNamed Bd.named Bd.method).1
  have X0 : Stand p l e ({ frames := 0, cells := 0, slots := 0, locals := 0 } : Room) s m #[(.ref a1)] below meth c s₁ [] 0 0 := Stand.of_body Bd
  have e0 : s₁.heap = h0 := by rw [← hh, Bd.state]; rfl
  have N0 := Fr.nil n0
  have p0 : own_go p e below (s₁.setTop (entryFrame m #[(.ref a1)] 1)) (s₁.setTop (mkF m 0 #[.val (.ref a1)] [])) := fun ttx ktx => castTop (ef_3 m a1) ktx
  obtain ⟨E_a1, F_seen, F_found, F_query, E_tf, k1, k2, sv, fv, sz, V_ts, V_tf, F_count, hsv⟩ := hfb
  have hq1 := c_iadd q 1
  have hq2 := rng32 (q + 1)
  have hq3 : (1 : Int32).toInt = 1 := rfl
  have hq4 : (q + (1 : Int32)).toInt = q.toInt + 1 := by omega
  obtain ⟨T1, X1, e1, st1⟩ := getF X0 hx hZ hown (host := "") (Or.inl (hw _ (List.mem_of_getElem? (i := 20) rfl))) Via.refl e0 F_query (g := (mkF m 2 #[.val (.ref a1)] [(.ref a1), (.ref a1)])) rfl rfl (hb hby d3_2)
  obtain ⟨T2, h2, X2, e2, W2, st2⟩ := putF X1 hx hZ hown (host := "") (Or.inl (hw _ (List.mem_of_getElem? (i := 20) rfl))) Via.refl e1 F_query E_a1 (Or.inl (hw _ (List.mem_of_getElem? (i := 21) rfl))) (hw _ (List.mem_of_getElem? (i := 2) rfl)) (ty := .int) (by decide) rfl rfl (g := (mkF m 7 #[.val (.ref a1)] [(.int (q + (1 : Int32))), (.ref a1)])) rfl rfl (hb hby d3_7)
  have Z2 : n0 ≤ h2.size := Nat.le_trans Z0 (Nat.le_of_eq W2.size.symm)
  have K2 : Keep h0 h2 [a1] := (Keep.refl h0 [a1]).wr W2 (Or.inl (List.mem_of_getElem? (i := 0) rfl))
  have N2 := Fr.snoc X2 N0 g_a1
  have Fw2 := F_query.same W2
  have f3 := (F_count.other W2 (Or.inr (slot_ne (Or.inl (hw _ (List.mem_of_getElem? (i := 23) rfl))) (Or.inl (hw _ (List.mem_of_getElem? (i := 21) rfl))) (by decide) (t := .int) (t' := .int) (by decide) (by decide))))
  have f4 := (E_a1.wr W2)
  obtain ⟨T5, h5, X5, e5, W5, st5⟩ := putF X2 hx hZ hown (host := "") (Or.inl (hw _ (List.mem_of_getElem? (i := 22) rfl))) Via.refl e2 f3 f4 (Or.inl (hw _ (List.mem_of_getElem? (i := 23) rfl))) (hw _ (List.mem_of_getElem? (i := 2) rfl)) (ty := .int) (by decide) rfl rfl (g := (mkF m 12 #[.val (.ref a1)] [(.int (0 : Int32)), (.ref a1)])) rfl rfl (hb hby d3_12)
  have Z5 : n0 ≤ h5.size := Nat.le_trans Z2 (Nat.le_of_eq W5.size.symm)
  have K5 : Keep h0 h5 [a1] := K2.wr W5 (Or.inl (List.mem_of_getElem? (i := 0) rfl))
  have N5 := Fr.snoc X5 N2 g_a1
  have Fw5 := f3.same W5
  have go6 : own_go p e below (s₁.setTop (entryFrame m #[(.ref a1)] 1)) (T5.setTop (mkF m 15 #[.val (.ref a1)] [])) := by
    intro ttx ktx
    refine p0 ttx ?_
    show Steps p.tables e below (s₁.setTop (mkF m 0 #[.val (.ref a1)] [])) _
    refine XS.aloadN X0.here hx rfl (hb hby d3_0) rfl rfl ?_
    show Steps p.tables e below (s₁.setTop (mkF m 1 #[.val (.ref a1)] [(.ref a1)])) _
    refine XS.dup X0.here hx rfl (hb hby d3_1) rfl rfl ?_
    show Steps p.tables e below (s₁.setTop (mkF m 2 #[.val (.ref a1)] [(.ref a1), (.ref a1)])) _
    refine st1 _ ?_
    show Steps p.tables e below (T1.setTop (mkF m 5 #[.val (.ref a1)] [(.int q), (.ref a1)])) _
    refine XS.iconst X1.here hx rfl (hb hby d3_5) ?_
    show Steps p.tables e below (T1.setTop (mkF m 6 #[.val (.ref a1)] [(.int (1 : Int32)), (.int q), (.ref a1)])) _
    refine XS.iadd X1.here hx rfl (hb hby d3_6) rfl ?_
    show Steps p.tables e below (T1.setTop (mkF m 7 #[.val (.ref a1)] [(.int (q + (1 : Int32))), (.ref a1)])) _
    refine st2 _ ?_
    show Steps p.tables e below (T2.setTop (mkF m 10 #[.val (.ref a1)] [])) _
    refine XS.aloadN X2.here hx rfl (hb hby d3_10) rfl rfl ?_
    show Steps p.tables e below (T2.setTop (mkF m 11 #[.val (.ref a1)] [(.ref a1)])) _
    refine XS.iconst X2.here hx rfl (hb hby d3_11) ?_
    show Steps p.tables e below (T2.setTop (mkF m 12 #[.val (.ref a1)] [(.int (0 : Int32)), (.ref a1)])) _
    refine st5 _ ?_
    exact ktx
  obtain ⟨fs, hr, hrun, hended, hW, hsame⟩ := X5.leave (v := none) (fun _ => rfl)
  refine ⟨_, _, go6 _ ?_, hrun, hended, _, _, rfl, ?_, ⟨_, rfl⟩, hW, hsame.mono (by decide) (by decide)⟩
  · exact X5.returnOut hx Bd.returns (hb hby d3_15) hr
  · show Q3 Z a1 ts tf n q h0 n0 _ T5.heap _
    rw [e5]
    have f7 := (f4.wr W5)
    have f8 := ((F_seen.other W2 (Or.inr (slot_ne (Or.inr (hw _ (List.mem_of_getElem? (i := 12) rfl))) (Or.inl (hw _ (List.mem_of_getElem? (i := 21) rfl))) (by decide) (t := (.array .int)) (t' := .int) (by decide) (by decide)))).other W5 (Or.inr (slot_ne (Or.inr (hw _ (List.mem_of_getElem? (i := 12) rfl))) (Or.inl (hw _ (List.mem_of_getElem? (i := 23) rfl))) (by decide) (t := (.array .int)) (t' := .int) (by decide) (by decide))))
    have f9 := ((F_found.other W2 (Or.inr (slot_ne (Or.inr (hw _ (List.mem_of_getElem? (i := 14) rfl))) (Or.inl (hw _ (List.mem_of_getElem? (i := 21) rfl))) (by decide) (t := (.array .int)) (t' := .int) (by decide) (by decide)))).other W5 (Or.inr (slot_ne (Or.inr (hw _ (List.mem_of_getElem? (i := 14) rfl))) (Or.inl (hw _ (List.mem_of_getElem? (i := 23) rfl))) (by decide) (t := (.array .int)) (t' := .int) (by decide) (by decide))))
    have f10 := (Fw2.other W5 (Or.inr (slot_ne (Or.inl (hw _ (List.mem_of_getElem? (i := 21) rfl))) (Or.inl (hw _ (List.mem_of_getElem? (i := 23) rfl))) (by decide) (t := .int) (t' := .int) (by decide) (by decide))))
    have f11 := ((E_tf.wr W2).wr W5)
    have f12 := ((V_ts.other W2 (Ne.symm ne1)).other W5 (Ne.symm ne1))
    have f13 := ((V_tf.other W2 (Ne.symm ne2)).other W5 (Ne.symm ne2))
    exact ⟨rfl, N5, K5, f7, f8, f9, f10, f11, _, _, _, _, f12, f13, Fw5, fun i hi => by obtain ⟨x, h1, h2⟩ := hsv i hi; refine ⟨x, h1, by omega, ?_⟩; exact ⟨fun e => by rw [e] at h2; omega, fun e => by cases e⟩, fun i hi => absurd hi (Nat.not_lt_zero i), by simp; omega⟩
theorem d4_0 : decode prog_15_method_3_code 0 = .ok (.aload_n 0, 1) := by decide +kernel
theorem d4_1 : decode prog_15_method_3_code 1 = .ok (.getfield 7, 3) := by decide +kernel
theorem d4_4 : decode prog_15_method_3_code 4 = .ok (.iload_n 1, 1) := by decide +kernel
theorem d4_5 : decode prog_15_method_3_code 5 = .ok (.iaload, 1) := by decide +kernel
theorem d4_6 : decode prog_15_method_3_code 6 = .ok (.aload_n 0, 1) := by decide +kernel
theorem d4_7 : decode prog_15_method_3_code 7 = .ok (.getfield 16, 3) := by decide +kernel
theorem d4_10 : decode prog_15_method_3_code 10 = .ok (.if_icmp .eq 33, 3) := by decide +kernel
theorem d4_43 : decode prog_15_method_3_code 43 = .ok (.return_, 1) := by decide +kernel
theorem d4_13 : decode prog_15_method_3_code 13 = .ok (.aload_n 0, 1) := by decide +kernel
theorem d4_14 : decode prog_15_method_3_code 14 = .ok (.getfield 7, 3) := by decide +kernel
theorem d4_17 : decode prog_15_method_3_code 17 = .ok (.iload_n 1, 1) := by decide +kernel
theorem d4_18 : decode prog_15_method_3_code 18 = .ok (.aload_n 0, 1) := by decide +kernel
theorem d4_19 : decode prog_15_method_3_code 19 = .ok (.getfield 16, 3) := by decide +kernel
theorem d4_22 : decode prog_15_method_3_code 22 = .ok (.iastore, 1) := by decide +kernel
theorem d4_23 : decode prog_15_method_3_code 23 = .ok (.aload_n 0, 1) := by decide +kernel
theorem d4_24 : decode prog_15_method_3_code 24 = .ok (.getfield 13, 3) := by decide +kernel
theorem d4_27 : decode prog_15_method_3_code 27 = .ok (.aload_n 0, 1) := by decide +kernel
theorem d4_28 : decode prog_15_method_3_code 28 = .ok (.getfield 20, 3) := by decide +kernel
theorem d4_31 : decode prog_15_method_3_code 31 = .ok (.iload_n 1, 1) := by decide +kernel
theorem d4_32 : decode prog_15_method_3_code 32 = .ok (.iastore, 1) := by decide +kernel
theorem d4_33 : decode prog_15_method_3_code 33 = .ok (.aload_n 0, 1) := by decide +kernel
theorem d4_34 : decode prog_15_method_3_code 34 = .ok (.dup, 1) := by decide +kernel
theorem d4_35 : decode prog_15_method_3_code 35 = .ok (.getfield 20, 3) := by decide +kernel
theorem d4_38 : decode prog_15_method_3_code 38 = .ok (.iconst 1, 1) := by decide +kernel
theorem d4_39 : decode prog_15_method_3_code 39 = .ok (.iadd, 1) := by decide +kernel
theorem d4_40 : decode prog_15_method_3_code 40 = .ok (.putfield 20, 3) := by decide +kernel
theorem ef_4 (m : MethodId) (x0 : Addr) (x1 : Int32) : entryFrame m #[(.ref x0), (.int x1)] 2 = mkF m 0 #[.val (.ref x0), .val (.int x1)] [] := by first | (simp [entryFrame, mkF, argsToLocals, Value.category]; done) | rfl
def QADD (Z : State) (a1 : Addr) (p2 : Int32) (ts : Addr) (tf : Addr) (n : Int32) (q : Int32) (xs : List Int32) (h0 : Heap) (n0 : Nat) (v : Option Value) (h : Heap) (L : List Loc) : Prop := v = none ∧ Fr n0 L ∧ Keep h0 h [a1, ts, tf] ∧ own_ft Z h a1 ts tf n q (own_ins xs p2)
set_option maxRecDepth 65536 in
set_option maxHeartbeats 40000000 in
theorem rm4 (l : Launch) (Z : State) (a0 : Array Value) (hw : ∀ d ∈ tables_1, d.before a0 Z = true) (ws : List Jvm.Cond) (a1 : Addr) (p2 : Int32) (ts : Addr) (tf : Addr) (n : Int32) (q : Int32) (xs : List Int32) (h0 : Heap) (n0 : Nat) (Z0 : n0 ≤ h0.size) (g_a1 : n0 ≤ a1) (g_ts : n0 ≤ ts) (g_tf : n0 ≤ tf) (ne1 : a1 ≠ ts) (ne2 : a1 ≠ tf) (ne3 : ts ≠ tf) (hft : own_ft Z h0 a1 ts tf n q xs) (hn : n.toInt ≤ 8) (hp : 0 ≤ p2.toInt ∧ p2.toInt < n.toInt) (hlt : p2 ∉ xs → (xs.length : Int) < n.toInt) :
    MetFree l (⟨"com/example/linkwright/linkwright/link/FoundTargets", "add", "(I)V"⟩ : MethodName) (head1 (Jvm.Cond.code (⟨"com/example/linkwright/linkwright/link/FoundTargets", "add", "(I)V"⟩ : MethodName) prog_15_method_3_code 2 none :: ws) ({ frames := 0, cells := 0, slots := 0, locals := 0 } : Room)) (fun aax UU => aax = #[(.ref a1), (.int p2)] ∧ Z.Warmed39 UU.vm ∧ UU.heap = h0) (fun _ _ _ _ _ => True) (fun _ UU oux UU' => ∃ rvx Lrx, oux = .returned rvx ∧ QADD Z a1 p2 ts tf n q xs h0 n0 rvx UU'.heap Lrx ∧ FrameEnd UU oux UU' Lrx ({ frames := 0, cells := 0, slots := 0, locals := 0 } : Room).cells ({ frames := 0, cells := 0, slots := 0, locals := 0 } : Room).slots) := by
  refine MetFree.of_bodySF (plainFor_of_name own_pn_com_example_linkwright_linkwright_link_FoundTargets) hisR ?_
  intro p e s m args below meth c s₁ Bd hml0 hP hK
  obtain ⟨rfl, hZ, hh⟩ := hP
  have hx := Bd.exec
  have hby := Bd.bytes
  have hml : c.maxLocals = 2 := hml0
  have hown : s.vm.findClass "com/example/linkwright/linkwright/link/FoundTargets" = some m.cls := findClass_of_methodNamed Bd.named
  have hnm := (name_of_methodNamed Bd.named Bd.method).1
  have X0 : Stand p l e ({ frames := 0, cells := 0, slots := 0, locals := 0 } : Room) s m #[(.ref a1), (.int p2)] below meth c s₁ [] 0 0 := Stand.of_body Bd
  have e0 : s₁.heap = h0 := by rw [← hh, Bd.state]; rfl
  have N0 := Fr.nil n0
  have p0 : own_go p e below (s₁.setTop (entryFrame m #[(.ref a1), (.int p2)] 2)) (s₁.setTop (mkF m 0 #[.val (.ref a1), .val (.int p2)] [])) := fun ttx ktx => castTop (ef_4 m a1 p2) ktx
  obtain ⟨E_a1, F_seen, F_found, F_query, E_tf, k1, k2, sv, fv, V_ts, V_tf, F_count, hsv, hfv, hxn⟩ := hft
  obtain ⟨sz, hsz⟩ : ∃ q : Int32, q = Int32.ofNat xs.length := ⟨_, rfl⟩
  rw [← hsz] at F_count
  have hszi : sz.toInt = xs.length := by rw [hsz]; exact own_of _ (by omega)
  have hx8 : (xs.length : Int) ≤ 8 := by omega
  obtain ⟨T1, X1, e1, st1⟩ := getF X0 hx hZ hown (host := "") (Or.inl (hw _ (List.mem_of_getElem? (i := 11) rfl))) Via.refl e0 F_seen (g := (mkF m 1 #[.val (.ref a1), .val (.int p2)] [(.ref a1)])) rfl rfl (hb hby d4_1)
  obtain ⟨cl2, Ar2, q2, S2, M2, H2, G2⟩ := id V_ts
  obtain ⟨x, hx1, hx2, hx3⟩ := hsv p2.toNatClampNeg (by rw [own_tn]; omega)
  rw [own_back hp.1 (by omega)] at hx3
  have hin2 : ¬ (p2 < 0 ∨ cl2.slots.size ≤ (p2).toNatClampNeg) := inb_of S2 ⟨own_nn hp.1, Int32.lt_iff_toInt_lt.mpr hp.2⟩
  have hat2 := Has.at H2 hin2 hx1
  obtain ⟨T3, X3, e3, st3⟩ := getF X1 hx hZ hown (host := "") (Or.inl (hw _ (List.mem_of_getElem? (i := 20) rfl))) Via.refl e1 F_query (g := (mkF m 7 #[.val (.ref a1), .val (.int p2)] [(.ref a1), (.int x)])) rfl rfl (hb hby d4_7)
  have go4 : own_go p e below (s₁.setTop (entryFrame m #[(.ref a1), (.int p2)] 2)) (T3.setTop (mkF m 10 #[.val (.ref a1), .val (.int p2)] [(.int q), (.int x)])) := by
    intro ttx ktx
    refine p0 ttx ?_
    show Steps p.tables e below (s₁.setTop (mkF m 0 #[.val (.ref a1), .val (.int p2)] [])) _
    refine XS.aloadN X0.here hx rfl (hb hby d4_0) rfl rfl ?_
    show Steps p.tables e below (s₁.setTop (mkF m 1 #[.val (.ref a1), .val (.int p2)] [(.ref a1)])) _
    refine st1 _ ?_
    show Steps p.tables e below (T1.setTop (mkF m 4 #[.val (.ref a1), .val (.int p2)] [(.ref ts)])) _
    refine XS.iloadN X1.here hx rfl (hb hby d4_4) rfl ?_
    show Steps p.tables e below (T1.setTop (mkF m 5 #[.val (.ref a1), .val (.int p2)] [(.int p2), (.ref ts)])) _
    refine X1.iaload hx (j := p2) (v := (.int x)) (own_hp e1 Ar2.1) (State.isArrayOf_alike hZ.alike Ar2.2.1) Ar2.2.2 hin2 hat2 (g := (mkF m 5 #[.val (.ref a1), .val (.int p2)] [(.int p2), (.ref ts)])) rfl rfl (hb hby d4_5) _ ?_
    show Steps p.tables e below (T1.setTop (mkF m 6 #[.val (.ref a1), .val (.int p2)] [(.int x)])) _
    refine XS.aloadN X1.here hx rfl (hb hby d4_6) rfl rfl ?_
    show Steps p.tables e below (T1.setTop (mkF m 7 #[.val (.ref a1), .val (.int p2)] [(.ref a1), (.int x)])) _
    refine st3 _ ?_
    exact ktx
  by_cases hc5_10 : x = q
  · have go6 : own_go p e below (s₁.setTop (entryFrame m #[(.ref a1), (.int p2)] 2)) (T3.setTop (mkF m 43 #[.val (.ref a1), .val (.int p2)] [])) := by
      intro ttx ktx
      refine go4 ttx ?_
      show Steps p.tables e below (T3.setTop (mkF m 10 #[.val (.ref a1), .val (.int p2)] [(.int q), (.int x)])) _
      refine XS.icmpYes X3.here hx rfl (pc0 := 10) (pc' := 43) rfl (hb hby d4_10) rfl (teq hc5_10).1 (by decide) (by decide) ?_
      exact ktx
    obtain ⟨fs, hr, hrun, hended, hW, hsame⟩ := X3.leave (v := none) (fun _ => rfl)
    refine ⟨_, _, go6 _ ?_, hrun, hended, _, _, rfl, ?_, ⟨_, rfl⟩, hW, hsame.mono (by decide) (by decide)⟩
    · exact X3.returnOut hx Bd.returns (hb hby d4_43) hr
    · show QADD Z a1 p2 ts tf n q xs h0 n0 _ T3.heap _
      rw [e3]
      have e : own_ins xs p2 = xs := if_pos (hx3.mp hc5_10)
      unfold QADD
      rw [e]
      exact ⟨rfl, N0, (Keep.refl h0 [a1, ts, tf]), E_a1, F_seen, F_found, F_query, E_tf, _, _, _, _, V_ts, V_tf, by rw [← hsz]; exact F_count, hsv, hfv, hxn⟩
  · obtain ⟨T7, X7, e7, st7⟩ := getF X3 hx hZ hown (host := "") (Or.inl (hw _ (List.mem_of_getElem? (i := 11) rfl))) Via.refl e3 F_seen (g := (mkF m 14 #[.val (.ref a1), .val (.int p2)] [(.ref a1)])) rfl rfl (hb hby d4_14)
    obtain ⟨T8, X8, e8, st8⟩ := getF X7 hx hZ hown (host := "") (Or.inl (hw _ (List.mem_of_getElem? (i := 20) rfl))) Via.refl e7 F_query (g := (mkF m 19 #[.val (.ref a1), .val (.int p2)] [(.ref a1), (.int p2), (.ref ts)])) rfl rfl (hb hby d4_19)
    have Vp9 := V_ts.pad (pad_rep sv (.int (0 : Int32)) 20)
    obtain ⟨cl10, Ar10, q10, S10, M10, H10, G10⟩ := id Vp9
    have hin10 : ¬ (p2 < 0 ∨ cl10.slots.size ≤ (p2).toNatClampNeg) := inb_of S10 ⟨own_nn hp.1, Int32.lt_iff_toInt_lt.mpr hp.2⟩
    obtain ⟨T11, h11, X11, e11, W11, st11⟩ := stI X8 hx hZ e8 Ar10 (j := p2) hin10 (g := (mkF m 22 #[.val (.ref a1), .val (.int p2)] [(.int q), (.int p2), (.ref ts)])) rfl rfl (hb hby d4_22)
    have Z11 : n0 ≤ h11.size := Nat.le_trans Z0 (Nat.le_of_eq W11.size.symm)
    have K11 : Keep h0 h11 [a1, ts, tf] := (Keep.refl h0 [a1, ts, tf]).wr W11 (Or.inl (List.mem_of_getElem? (i := 1) rfl))
    have N11 := Fr.snoc X11 N0 g_ts
    have V11 := Arv.set Ar10 q10 S10 M10 H10 G10 rfl W11 p2.toNatClampNeg rfl (by rw [own_tn, List.length_append, List.length_replicate]; omega)
    have f12 := (F_found.other W11 (Or.inl ne1))
    obtain ⟨T13, X13, e13, st13⟩ := getF X11 hx hZ hown (host := "") (Or.inl (hw _ (List.mem_of_getElem? (i := 13) rfl))) Via.refl e11 f12 (g := (mkF m 24 #[.val (.ref a1), .val (.int p2)] [(.ref a1)])) rfl rfl (hb hby d4_24)
    have f14 := (F_count.other W11 (Or.inl ne1))
    obtain ⟨T15, X15, e15, st15⟩ := getF X13 hx hZ hown (host := "") (Or.inl (hw _ (List.mem_of_getElem? (i := 22) rfl))) Via.refl e13 f14 (g := (mkF m 28 #[.val (.ref a1), .val (.int p2)] [(.ref a1), (.ref tf)])) rfl rfl (hb hby d4_28)
    have f16 := (V_tf.other W11 (Ne.symm ne3))
    have Vp17 := f16.pad (pad_rep fv (.int (0 : Int32)) 20)
    obtain ⟨cl18, Ar18, q18, S18, M18, H18, G18⟩ := id Vp17
    have hlt2 := hlt (fun z => hc5_10 (hx3.mpr z))
    have hin18 : ¬ (sz < 0 ∨ cl18.slots.size ≤ (sz).toNatClampNeg) := inb_of S18 ⟨own_nn (by omega), Int32.lt_iff_toInt_lt.mpr (by omega)⟩
    obtain ⟨T19, h19, X19, e19, W19, st19⟩ := stI X15 hx hZ e15 Ar18 (j := sz) hin18 (g := (mkF m 32 #[.val (.ref a1), .val (.int p2)] [(.int p2), (.int sz), (.ref tf)])) rfl rfl (hb hby d4_32)
    have Z19 : n0 ≤ h19.size := Nat.le_trans Z11 (Nat.le_of_eq W19.size.symm)
    have K19 : Keep h0 h19 [a1, ts, tf] := K11.wr W19 (Or.inl (List.mem_of_getElem? (i := 2) rfl))
    have N19 := Fr.snoc X19 N11 g_tf
    have V19 := Arv.set Ar18 q18 S18 M18 H18 G18 rfl W19 sz.toNatClampNeg rfl (by rw [own_tn, List.length_append, List.length_replicate]; omega)
    have go20 : own_go p e below (s₁.setTop (entryFrame m #[(.ref a1), (.int p2)] 2)) (T19.setTop (mkF m 35 #[.val (.ref a1), .val (.int p2)] [(.ref a1), (.ref a1)])) := by
      intro ttx ktx
      refine go4 ttx ?_
      show Steps p.tables e below (T3.setTop (mkF m 10 #[.val (.ref a1), .val (.int p2)] [(.int q), (.int x)])) _
      refine XS.icmpNo X3.here hx rfl (hb hby d4_10) rfl (feq hc5_10).1 ?_
      show Steps p.tables e below (T3.setTop (mkF m 13 #[.val (.ref a1), .val (.int p2)] [])) _
      refine XS.aloadN X3.here hx rfl (hb hby d4_13) rfl rfl ?_
      show Steps p.tables e below (T3.setTop (mkF m 14 #[.val (.ref a1), .val (.int p2)] [(.ref a1)])) _
      refine st7 _ ?_
      show Steps p.tables e below (T7.setTop (mkF m 17 #[.val (.ref a1), .val (.int p2)] [(.ref ts)])) _
      refine XS.iloadN X7.here hx rfl (hb hby d4_17) rfl ?_
      show Steps p.tables e below (T7.setTop (mkF m 18 #[.val (.ref a1), .val (.int p2)] [(.int p2), (.ref ts)])) _
      refine XS.aloadN X7.here hx rfl (hb hby d4_18) rfl rfl ?_
      show Steps p.tables e below (T7.setTop (mkF m 19 #[.val (.ref a1), .val (.int p2)] [(.ref a1), (.int p2), (.ref ts)])) _
      refine st8 _ ?_
      show Steps p.tables e below (T8.setTop (mkF m 22 #[.val (.ref a1), .val (.int p2)] [(.int q), (.int p2), (.ref ts)])) _
      refine st11 _ ?_
      show Steps p.tables e below (T11.setTop (mkF m 23 #[.val (.ref a1), .val (.int p2)] [])) _
      refine XS.aloadN X11.here hx rfl (hb hby d4_23) rfl rfl ?_
      show Steps p.tables e below (T11.setTop (mkF m 24 #[.val (.ref a1), .val (.int p2)] [(.ref a1)])) _
      refine st13 _ ?_
      show Steps p.tables e below (T13.setTop (mkF m 27 #[.val (.ref a1), .val (.int p2)] [(.ref tf)])) _
      refine XS.aloadN X13.here hx rfl (hb hby d4_27) rfl rfl ?_
      show Steps p.tables e below (T13.setTop (mkF m 28 #[.val (.ref a1), .val (.int p2)] [(.ref a1), (.ref tf)])) _
      refine st15 _ ?_
      show Steps p.tables e below (T15.setTop (mkF m 31 #[.val (.ref a1), .val (.int p2)] [(.int sz), (.ref tf)])) _
      refine XS.iloadN X15.here hx rfl (hb hby d4_31) rfl ?_
      show Steps p.tables e below (T15.setTop (mkF m 32 #[.val (.ref a1), .val (.int p2)] [(.int p2), (.int sz), (.ref tf)])) _
      refine st19 _ ?_
      show Steps p.tables e below (T19.setTop (mkF m 33 #[.val (.ref a1), .val (.int p2)] [])) _
      refine XS.aloadN X19.here hx rfl (hb hby d4_33) rfl rfl ?_
      show Steps p.tables e below (T19.setTop (mkF m 34 #[.val (.ref a1), .val (.int p2)] [(.ref a1)])) _
      refine XS.dup X19.here hx rfl (hb hby d4_34) rfl rfl ?_
      exact ktx
    have f21 := (f14.other W19 (Or.inl ne2))
    obtain ⟨T22, X22, e22, st22⟩ := getF X19 hx hZ hown (host := "") (Or.inl (hw _ (List.mem_of_getElem? (i := 22) rfl))) Via.refl e19 f21 (g := (mkF m 35 #[.val (.ref a1), .val (.int p2)] [(.ref a1), (.ref a1)])) rfl rfl (hb hby d4_35)
    have f23 := ((E_a1.wr W11).wr W19)
    obtain ⟨T24, h24, X24, e24, W24, st24⟩ := putF X22 hx hZ hown (host := "") (Or.inl (hw _ (List.mem_of_getElem? (i := 22) rfl))) Via.refl e22 f21 f23 (Or.inl (hw _ (List.mem_of_getElem? (i := 23) rfl))) (hw _ (List.mem_of_getElem? (i := 2) rfl)) (ty := .int) (by decide) rfl rfl (g := (mkF m 40 #[.val (.ref a1), .val (.int p2)] [(.int (sz + (1 : Int32))), (.ref a1)])) rfl rfl (hb hby d4_40)
    have Z24 : n0 ≤ h24.size := Nat.le_trans Z19 (Nat.le_of_eq W24.size.symm)
    have K24 : Keep h0 h24 [a1, ts, tf] := K19.wr W24 (Or.inl (List.mem_of_getElem? (i := 0) rfl))
    have N24 := Fr.snoc X24 N19 g_a1
    have Fw24 := f21.same W24
    have go25 : own_go p e below (s₁.setTop (entryFrame m #[(.ref a1), (.int p2)] 2)) (T24.setTop (mkF m 43 #[.val (.ref a1), .val (.int p2)] [])) := by
      intro ttx ktx
      refine go20 ttx ?_
      show Steps p.tables e below (T19.setTop (mkF m 35 #[.val (.ref a1), .val (.int p2)] [(.ref a1), (.ref a1)])) _
      refine st22 _ ?_
      show Steps p.tables e below (T22.setTop (mkF m 38 #[.val (.ref a1), .val (.int p2)] [(.int sz), (.ref a1)])) _
      refine XS.iconst X22.here hx rfl (hb hby d4_38) ?_
      show Steps p.tables e below (T22.setTop (mkF m 39 #[.val (.ref a1), .val (.int p2)] [(.int (1 : Int32)), (.int sz), (.ref a1)])) _
      refine XS.iadd X22.here hx rfl (hb hby d4_39) rfl ?_
      show Steps p.tables e below (T22.setTop (mkF m 40 #[.val (.ref a1), .val (.int p2)] [(.int (sz + (1 : Int32))), (.ref a1)])) _
      refine st24 _ ?_
      exact ktx
    obtain ⟨fs, hr, hrun, hended, hW, hsame⟩ := X24.leave (v := none) (fun _ => rfl)
    refine ⟨_, _, go25 _ ?_, hrun, hended, _, _, rfl, ?_, ⟨_, rfl⟩, hW, hsame.mono (by decide) (by decide)⟩
    · exact X24.returnOut hx Bd.returns (hb hby d4_43) hr
    · show QADD Z a1 p2 ts tf n q xs h0 n0 _ T24.heap _
      rw [e24]
      have f26 := (((F_seen.other W11 (Or.inl ne1)).other W19 (Or.inl ne2)).other W24 (Or.inr (slot_ne (Or.inr (hw _ (List.mem_of_getElem? (i := 12) rfl))) (Or.inl (hw _ (List.mem_of_getElem? (i := 23) rfl))) (by decide) (t := (.array .int)) (t' := .int) (by decide) (by decide))))
      have f27 := ((f12.other W19 (Or.inl ne2)).other W24 (Or.inr (slot_ne (Or.inr (hw _ (List.mem_of_getElem? (i := 14) rfl))) (Or.inl (hw _ (List.mem_of_getElem? (i := 23) rfl))) (by decide) (t := (.array .int)) (t' := .int) (by decide) (by decide))))
      have f28 := (((F_query.other W11 (Or.inl ne1)).other W19 (Or.inl ne2)).other W24 (Or.inr (slot_ne (Or.inl (hw _ (List.mem_of_getElem? (i := 21) rfl))) (Or.inl (hw _ (List.mem_of_getElem? (i := 23) rfl))) (by decide) (t := .int) (t' := .int) (by decide) (by decide))))
      have f29 := (f23.wr W24)
      have f30 := (((E_tf.wr W11).wr W19).wr W24)
      have f31 := ((V11.other W19 ne3).other W24 (Ne.symm ne1))
      have f32 := (V19.other W24 (Ne.symm ne2))
      have e : own_ins xs p2 = xs ++ [p2] := if_neg (fun z => hc5_10 (hx3.mpr z))
      unfold QADD
      rw [e]
      exact ⟨rfl, N24, K24, f29, f26, f27, f28, f30, _, _, _, _, f31, f32, by rw [List.length_append]; show Fld Z _ _ _ _ _ (.int (Int32.ofNat (xs.length + 1))); rw [← own_up, ← hsz]; exact Fw24, own_see sv xs n q p2 hp.1 hp.2 (by omega) hsv, fun i hi => own_snoc _ _ _ _ _ (by rw [own_tn]; omega) (by rw [own_tn, List.length_append, List.length_replicate]; omega) (own_pad fv xs hfv) hi, by rw [List.length_append]; show ((xs.length + 1 : Nat) : Int) ≤ n.toInt; omega⟩
theorem d5_0 : decode prog_15_method_4_code 0 = .ok (.aload_n 0, 1) := by decide +kernel
theorem d5_1 : decode prog_15_method_4_code 1 = .ok (.getfield 13, 3) := by decide +kernel
theorem d5_4 : decode prog_15_method_4_code 4 = .ok (.aload_n 0, 1) := by decide +kernel
theorem d5_5 : decode prog_15_method_4_code 5 = .ok (.getfield 20, 3) := by decide +kernel
theorem own_pd2 : parseMethodDescriptor "([II)[I" = some ⟨[(.array .int), .int], some (.array .int)⟩ := by decide +kernel
theorem d5_8 : decode prog_15_method_4_code 8 = .ok (.invokestatic 23, 3) := by decide +kernel
theorem d5_11 : decode prog_15_method_4_code 11 = .ok (.astore_n 1, 1) := by decide +kernel
theorem d5_12 : decode prog_15_method_4_code 12 = .ok (.aload_n 1, 1) := by decide +kernel
theorem d5_13 : decode prog_15_method_4_code 13 = .ok (.invokestatic 29, 3) := by decide +kernel
theorem d5_16 : decode prog_15_method_4_code 16 = .ok (.aload_n 1, 1) := by decide +kernel
theorem d5_17 : decode prog_15_method_4_code 17 = .ok (.areturn, 1) := by decide +kernel
theorem ef_5 (m : MethodId) (x0 : Addr) : entryFrame m #[(.ref x0)] 2 = mkF m 0 #[.val (.ref x0), .unset] [] := by first | (simp [entryFrame, mkF, argsToLocals, Value.category]; done) | rfl
def Q5 (Z : State) (a1 : Addr) (ts : Addr) (tf : Addr) (n : Int32) (q : Int32) (xs : List Int32) (h0 : Heap) (n0 : Nat) (v : Option Value) (h : Heap) (L : List Loc) : Prop := ∃ (b : Addr) (kb : ClassId) (ys : List Int32), v = some (.ref b) ∧ Fr n0 L ∧ Keep h0 h [] ∧ h0.size ≤ b ∧ Arv Z h b kb .int (Int32.ofNat xs.length) (ys.map Value.int) (.int (0 : Int32)) ∧ ys.Perm xs ∧ ys.Pairwise (· ≤ ·)
set_option maxRecDepth 65536 in
set_option maxHeartbeats 40000000 in
theorem rm5 (l : Launch) (Z : State) (a0 : Array Value) (hw : ∀ d ∈ tables_1, d.before a0 Z = true) (ws : List Jvm.Cond) (a1 : Addr) (ts : Addr) (tf : Addr) (n : Int32) (q : Int32) (xs : List Int32) (h0 : Heap) (n0 : Nat) (Z0 : n0 ≤ h0.size) (ne1 : a1 ≠ ts) (ne2 : a1 ≠ tf) (ne3 : ts ≠ tf) (hft : own_ft Z h0 a1 ts tf n q xs) (hn : n.toInt ≤ 8) :
    MetFree l (⟨"com/example/linkwright/linkwright/link/FoundTargets", "ascending", "()[I"⟩ : MethodName) (head1 (Jvm.Cond.code (⟨"com/example/linkwright/linkwright/link/FoundTargets", "ascending", "()[I"⟩ : MethodName) prog_15_method_4_code 2 (some (.array .int)) :: ws) ({ frames := 5, cells := 1, slots := 16, locals := 162 } : Room)) (fun aax UU => aax = #[(.ref a1)] ∧ Z.Warmed39 UU.vm ∧ UU.heap = h0) (fun _ _ _ _ _ => True) (fun _ UU oux UU' => ∃ rvx Lrx, oux = .returned rvx ∧ Q5 Z a1 ts tf n q xs h0 n0 rvx UU'.heap Lrx ∧ FrameEnd UU oux UU' Lrx ({ frames := 5, cells := 1, slots := 16, locals := 162 } : Room).cells ({ frames := 5, cells := 1, slots := 16, locals := 162 } : Room).slots) := by
  refine MetFree.of_bodySF (plainFor_of_name own_pn_com_example_linkwright_linkwright_link_FoundTargets) hisR ?_
  intro p e s m args below meth c s₁ Bd hml0 hP hK
  obtain ⟨rfl, hZ, hh⟩ := hP
  have hx := Bd.exec
  have hby := Bd.bytes
  have hml : c.maxLocals = 2 := hml0
  have hown : s.vm.findClass "com/example/linkwright/linkwright/link/FoundTargets" = some m.cls := findClass_of_methodNamed Bd.named
  have hnm := (name_of_methodNamed Bd.named Bd.method).1
  have X0 : Stand p l e ({ frames := 5, cells := 1, slots := 16, locals := 162 } : Room) s m #[(.ref a1)] below meth c s₁ [] 0 0 := Stand.of_body Bd
  have e0 : s₁.heap = h0 := by rw [← hh, Bd.state]; rfl
  have N0 := Fr.nil n0
  have p0 : own_go p e below (s₁.setTop (entryFrame m #[(.ref a1)] 2)) (s₁.setTop (mkF m 0 #[.val (.ref a1), .unset] [])) := fun ttx ktx => castTop (ef_5 m a1) ktx
  obtain ⟨E_a1, F_seen, F_found, F_query, E_tf, k1, k2, sv, fv, V_ts, V_tf, F_count, hsv, hfv, hxn⟩ := hft
  obtain ⟨sz, hsz⟩ : ∃ q : Int32, q = Int32.ofNat xs.length := ⟨_, rfl⟩
  rw [← hsz] at F_count
  have hszi : sz.toInt = xs.length := by rw [hsz]; exact own_of _ (by omega)
  have hx8 : (xs.length : Int) ≤ 8 := by omega
  obtain ⟨T1, X1, e1, st1⟩ := getF X0 hx hZ hown (host := "") (Or.inl (hw _ (List.mem_of_getElem? (i := 13) rfl))) Via.refl e0 F_found (g := (mkF m 1 #[.val (.ref a1), .unset] [(.ref a1)])) rfl rfl (hb hby d5_1)
  obtain ⟨T2, X2, e2, st2⟩ := getF X1 hx hZ hown (host := "") (Or.inl (hw _ (List.mem_of_getElem? (i := 22) rfl))) Via.refl e1 F_count (g := (mkF m 5 #[.val (.ref a1), .unset] [(.ref a1), (.ref tf)])) rfl rfl (hb hby d5_5)
  obtain ⟨_, _, ⟨T3, L3, k3, n3⟩, -, X3, ⟨Lc3, hQ3, l3, y3, z3⟩, st3⟩ := Jvm.LawKit.callS X2 hx (y := (⟨"java/util/Arrays", "copyOf", "([II)[I"⟩ : MethodName)) hown (mvT hZ (hw _ (List.mem_of_getElem? (i := 34) rfl))) (mvT hZ (hw _ (List.mem_of_getElem? (i := 35) rfl))) (mvT hZ (hw _ (List.mem_of_getElem? (i := 36) rfl))) (mvT hZ (hw _ (List.mem_of_getElem? (i := 37) rfl))) (by decide) (backOf (W := 0) (rmCPY l Z a0 hw [] tf sz k2 n fv h0 n0 Z0 V_tf E_tf (by omega) (by omega)) hZ (hw _ (List.mem_of_getElem? (i := 37) rfl)) (hw _ (List.mem_of_getElem? (i := 36) rfl)) (by decide) (by decide)) (g := (mkF m 8 #[.val (.ref a1), .unset] [(.int sz), (.ref tf)])) rfl (by rw [hml]; rfl) (argsL := [(.ref tf), (.int sz)]) (rest := []) (lenOf own_pd2 rfl) rfl (by show 2 * 0 + _ ≤ _; exact Nat.le_of_eq rfl) (hb hby d5_8) (fun _ _ => ⟨rfl, e2, (by decide : 0 + 1 ≤ _), (by decide : 0 + 16 ≤ _)⟩)
  dsimp only [Pt.U, Pt.locs, Pt.cells, Pt.slots] at X3 l3 y3 z3 st3 hQ3
  subst l3 y3 z3
  obtain ⟨b3, kb3, ws3, rfl, Nq3, Kq3, sq3, Eq3, Vq3, hq3⟩ := hQ3
  have N3 := Fr.app N0 Nq3
  have ne4 : a1 ≠ b3 := Nat.ne_of_lt (Nat.lt_of_lt_of_le E_a1.lt sq3)
  have ne5 : tf ≠ b3 := Nat.ne_of_lt (Nat.lt_of_lt_of_le E_tf.lt sq3)
  have ne6 : ts ≠ b3 := Nat.ne_of_lt (Nat.lt_of_lt_of_le V_ts.lt sq3)
  have g_b3 : n0 ≤ b3 := Nat.le_trans Z0 sq3
  have sz_b3 : h0.size ≤ b3 := Nat.le_trans (Keep.refl h0 []).1 sq3
  have Z3 : n0 ≤ T3.heap.size := Nat.le_trans Z0 Kq3.1
  have K3 : Keep h0 T3.heap [] := (Keep.refl h0 []).trans Kq3 all0
  have go7 : own_go p e below (s₁.setTop (entryFrame m #[(.ref a1)] 2)) (T3.setTop (mkF m 13 #[.val (.ref a1), .val (.ref b3)] [(.ref b3)])) := by
    intro ttx ktx
    refine p0 ttx ?_
    show Steps p.tables e below (s₁.setTop (mkF m 0 #[.val (.ref a1), .unset] [])) _
    refine XS.aloadN X0.here hx rfl (hb hby d5_0) rfl rfl ?_
    show Steps p.tables e below (s₁.setTop (mkF m 1 #[.val (.ref a1), .unset] [(.ref a1)])) _
    refine st1 _ ?_
    show Steps p.tables e below (T1.setTop (mkF m 4 #[.val (.ref a1), .unset] [(.ref tf)])) _
    refine XS.aloadN X1.here hx rfl (hb hby d5_4) rfl rfl ?_
    show Steps p.tables e below (T1.setTop (mkF m 5 #[.val (.ref a1), .unset] [(.ref a1), (.ref tf)])) _
    refine st2 _ ?_
    show Steps p.tables e below (T2.setTop (mkF m 8 #[.val (.ref a1), .unset] [(.int sz), (.ref tf)])) _
    refine st3 _ ?_
    show Steps p.tables e below (T3.setTop (mkF m 11 #[.val (.ref a1), .unset] [(.ref b3)])) _
    refine XS.astoreN X3.here hx rfl (hb hby d5_11) rfl rfl (l' := #[.val (.ref a1), .val (.ref b3)]) rfl ?_
    show Steps p.tables e below (T3.setTop (mkF m 12 #[.val (.ref a1), .val (.ref b3)] [])) _
    refine XS.aloadN X3.here hx rfl (hb hby d5_12) rfl rfl ?_
    exact ktx
  have Vs : Arv Z T3.heap b3 kb3 .int sz (xs.map Value.int) (.int (0 : Int32)) := by
    obtain ⟨cl, A, q1, S1, M1, H1, G1⟩ := Vq3
    have hS : cl.slots.size = xs.length := by rw [S1, own_tn]; omega
    have hg : ∀ i, i < cl.slots.size → ws3.getD i (.int (0 : Int32)) = (xs.map Value.int).getD i (.int (0 : Int32)) := fun i hi => by rw [own_getD Value.int xs 0 i, hq3 i (by rw [own_tn]; omega) (by rw [own_tn]; omega)]; exact hfv i (by omega)
    exact ⟨cl, A, q1, S1, M1, fun i hi => by rw [← hg i hi]; exact H1 i hi, fun i hi => by rw [← hg i hi]; exact G1 i hi⟩
  obtain ⟨T8, h8, L8, ys, X8, e8, N8, Kc8, Vy, hperm, hpw, st8⟩ := own_sort X3 hx hZ hw hown (hw _ (List.mem_of_getElem? (i := 47) rfl)) rfl Vs hszi (by omega) N3 g_b3 (g := (mkF m 13 #[.val (.ref a1), .val (.ref b3)] [(.ref b3)])) rfl (by rw [hml]; rfl) rfl (hb hby d5_13) (W := 0) (by show 2 * 0 + _ ≤ _; exact Nat.le_of_eq rfl) (by decide) (by decide) (by decide) (by decide)
  have Z8 : n0 ≤ h8.size := Nat.le_trans Z3 Kc8.1
  have K8 : Keep h0 h8 [] := K3.trans Kc8 (allS (Or.inr sz_b3) all0)
  have go9 : own_go p e below (s₁.setTop (entryFrame m #[(.ref a1)] 2)) (T8.setTop (mkF m 17 #[.val (.ref a1), .val (.ref b3)] [(.ref b3)])) := by
    intro ttx ktx
    refine go7 ttx ?_
    show Steps p.tables e below (T3.setTop (mkF m 13 #[.val (.ref a1), .val (.ref b3)] [(.ref b3)])) _
    refine st8 _ ?_
    show Steps p.tables e below (T8.setTop (mkF m 16 #[.val (.ref a1), .val (.ref b3)] [])) _
    refine XS.aloadN X8.here hx rfl (hb hby d5_16) rfl rfl ?_
    exact ktx
  obtain ⟨fs, hr, hrun, hended, hW, hsame⟩ := X8.leave (v := some (.ref b3)) (fun h => by rw [Bd.returns] at h; cases h)
  refine ⟨_, _, go9 _ ?_, hrun, hended, _, _, rfl, ?_, ⟨_, rfl⟩, hW, hsame.mono (by decide) (by decide)⟩
  · exact retOut X8 hx Bd.returns rfl (Or.inr (Or.inr (Or.inr (Or.inr ⟨rfl, rfl, rfl⟩)))) (hb hby d5_17) hr
  · show Q5 Z a1 ts tf n q xs h0 n0 _ T8.heap _
    rw [e8]
    exact ⟨b3, _, ys, rfl, N8, K8, sz_b3, by rw [← hsz]; exact Vy, hperm, hpw⟩
theorem own_ft.keep0 {Z : State} {h h' : Heap} {r ts tf : Addr} {n q : Int32} {xs : List Int32} (F : own_ft Z h r ts tf n q xs) (K : Keep h h' []) : own_ft Z h' r ts tf n q xs := by
  obtain ⟨a1, a2, a3, a4, a5, k1, k2, sv, fv, b1, b2, b3, b4⟩ := F
  exact ⟨a1.keep K, a2.keep K nin0, a3.keep K nin0, a4.keep K nin0, a5.keep K, k1, k2, sv, fv, b1.keep K nin0, b2.keep K nin0, b3.keep K nin0, b4⟩
theorem own_ne_s {Z : State} {h : Heap} {r ts tf b : Addr} {n q : Int32} {xs : List Int32} (F : own_ft Z h r ts tf n q xs) (K : h.size ≤ b) : ts ≠ b := by
  obtain ⟨a1, a2, a3, a4, a5, k1, k2, sv, fv, b1, b2, b3, b4⟩ := F
  exact Nat.ne_of_lt (Nat.lt_of_lt_of_le b1.lt K)
theorem own_ne_f {Z : State} {h : Heap} {r ts tf b : Addr} {n q : Int32} {xs : List Int32} (F : own_ft Z h r ts tf n q xs) (K : h.size ≤ b) : tf ≠ b := by
  obtain ⟨a1, a2, a3, a4, a5, k1, k2, sv, fv, b1, b2, b3, b4⟩ := F
  exact Nat.ne_of_lt (Nat.lt_of_lt_of_le b2.lt K)
theorem d13_0 : decode jdk_29_method_65_code 0 = .ok (.iload_n 0, 1) := by decide +kernel
theorem d13_1 : decode jdk_29_method_65_code 1 = .ok (.iload_n 1, 1) := by decide +kernel
theorem d13_2 : decode jdk_29_method_65_code 2 = .ok (.if_icmp .lt 7, 3) := by decide +kernel
theorem d13_9 : decode jdk_29_method_65_code 9 = .ok (.iload_n 1, 1) := by decide +kernel
theorem d13_5 : decode jdk_29_method_65_code 5 = .ok (.iload_n 0, 1) := by decide +kernel
theorem d13_6 : decode jdk_29_method_65_code 6 = .ok (.goto 4, 3) := by decide +kernel
theorem d13_10 : decode jdk_29_method_65_code 10 = .ok (.ireturn, 1) := by decide +kernel
theorem ef_13 (m : MethodId) (x0 : Int32) (x1 : Int32) : entryFrame m #[(.int x0), (.int x1)] 2 = mkF m 0 #[.val (.int x0), .val (.int x1)] [] := by first | (simp [entryFrame, mkF, argsToLocals, Value.category]; done) | rfl
def Q13 (Z : State) (p1 : Int32) (p2 : Int32) (h0 : Heap) (n0 : Nat) (v : Option Value) (h : Heap) (L : List Loc) : Prop := v = some (.int (if p1 < p2 then p2 else p1)) ∧ Fr n0 L ∧ h = h0
set_option maxRecDepth 65536 in
set_option maxHeartbeats 40000000 in
theorem rm13 (l : Launch) (Z : State) (a0 : Array Value) (hw : ∀ d ∈ tables_1, d.before a0 Z = true) (ws : List Jvm.Cond) (p1 : Int32) (p2 : Int32) (h0 : Heap) (n0 : Nat) (Z0 : n0 ≤ h0.size) :
    MetFree l (⟨"java/lang/Math", "max", "(II)I"⟩ : MethodName) (head1 (Jvm.Cond.code (⟨"java/lang/Math", "max", "(II)I"⟩ : MethodName) jdk_29_method_65_code 2 (some .int) :: ws) ({ frames := 0, cells := 0, slots := 0, locals := 0 } : Room)) (fun aax UU => aax = #[(.int p1), (.int p2)] ∧ Z.Warmed39 UU.vm ∧ UU.heap = h0) (fun _ _ _ _ _ => True) (fun _ UU oux UU' => ∃ rvx Lrx, oux = .returned rvx ∧ Q13 Z p1 p2 h0 n0 rvx UU'.heap Lrx ∧ FrameEnd UU oux UU' Lrx ({ frames := 0, cells := 0, slots := 0, locals := 0 } : Room).cells ({ frames := 0, cells := 0, slots := 0, locals := 0 } : Room).slots) := by
  refine MetFree.of_bodySF (Jvm.Free.JP.mathPlain rfl (by decide +kernel)) hisR ?_
  intro p e s m args below meth c s₁ Bd hml0 hP hK
  obtain ⟨rfl, hZ, hh⟩ := hP
  have hx := Bd.exec
  have hby := Bd.bytes
  have hml : c.maxLocals = 2 := hml0
  have hown : s.vm.findClass "java/lang/Math" = some m.cls := findClass_of_methodNamed Bd.named
  have hnm := (name_of_methodNamed Bd.named Bd.method).1
  have X0 : Stand p l e ({ frames := 0, cells := 0, slots := 0, locals := 0 } : Room) s m #[(.int p1), (.int p2)] below meth c s₁ [] 0 0 := Stand.of_body Bd
  have e0 : s₁.heap = h0 := by rw [← hh, Bd.state]; rfl
  have N0 := Fr.nil n0
  have p0 : own_go p e below (s₁.setTop (entryFrame m #[(.int p1), (.int p2)] 2)) (s₁.setTop (mkF m 0 #[.val (.int p1), .val (.int p2)] [])) := fun ttx ktx => castTop (ef_13 m p1 p2) ktx
  have go1 : own_go p e below (s₁.setTop (entryFrame m #[(.int p1), (.int p2)] 2)) (s₁.setTop (mkF m 2 #[.val (.int p1), .val (.int p2)] [(.int p2), (.int p1)])) := by
    intro ttx ktx
    refine p0 ttx ?_
    show Steps p.tables e below (s₁.setTop (mkF m 0 #[.val (.int p1), .val (.int p2)] [])) _
    refine XS.iloadN X0.here hx rfl (hb hby d13_0) rfl ?_
    show Steps p.tables e below (s₁.setTop (mkF m 1 #[.val (.int p1), .val (.int p2)] [(.int p1)])) _
    refine XS.iloadN X0.here hx rfl (hb hby d13_1) rfl ?_
    exact ktx
  obtain ⟨v5, hv_v5, go6⟩ : ∃ (v5 : Int32), v5 = (if p1 < p2 then p2 else p1) ∧ own_go p e below (s₁.setTop (entryFrame m #[(.int p1), (.int p2)] 2)) (s₁.setTop (mkF m 10 #[.val (.int p1), .val (.int p2)] [(.int v5)])) := by
    by_cases hc2_2 : p1 < p2
    · have go3 : own_go p e below (s₁.setTop (entryFrame m #[(.int p1), (.int p2)] 2)) (s₁.setTop (mkF m 10 #[.val (.int p1), .val (.int p2)] [(.int p2)])) := by
        intro ttx ktx
        refine go1 ttx ?_
        show Steps p.tables e below (s₁.setTop (mkF m 2 #[.val (.int p1), .val (.int p2)] [(.int p2), (.int p1)])) _
        refine XS.icmpYes X0.here hx rfl (pc0 := 2) (pc' := 9) rfl (hb hby d13_2) rfl (tlt hc2_2).1 (by decide) (by decide) ?_
        show Steps p.tables e below (s₁.setTop (mkF m 9 #[.val (.int p1), .val (.int p2)] [])) _
        refine XS.iloadN X0.here hx rfl (hb hby d13_9) rfl ?_
        exact ktx
      exact ⟨_, (if_pos hc2_2).symm, go3⟩
    · have go4 : own_go p e below (s₁.setTop (entryFrame m #[(.int p1), (.int p2)] 2)) (s₁.setTop (mkF m 10 #[.val (.int p1), .val (.int p2)] [(.int p1)])) := by
        intro ttx ktx
        refine go1 ttx ?_
        show Steps p.tables e below (s₁.setTop (mkF m 2 #[.val (.int p1), .val (.int p2)] [(.int p2), (.int p1)])) _
        refine XS.icmpNo X0.here hx rfl (hb hby d13_2) rfl (flt hc2_2).1 ?_
        show Steps p.tables e below (s₁.setTop (mkF m 5 #[.val (.int p1), .val (.int p2)] [])) _
        refine XS.iloadN X0.here hx rfl (hb hby d13_5) rfl ?_
        show Steps p.tables e below (s₁.setTop (mkF m 6 #[.val (.int p1), .val (.int p2)] [(.int p1)])) _
        refine XS.goto X0.here hx rfl (pc0 := 6) (pc' := 10) rfl (hb hby d13_6) (by decide) (by decide) ?_
        exact ktx
      exact ⟨_, (if_neg hc2_2).symm, go4⟩
  obtain ⟨fs, hr, hrun, hended, hW, hsame⟩ := X0.leave (v := some (.int v5)) (fun h => by rw [Bd.returns] at h; cases h)
  refine ⟨_, _, go6 _ ?_, hrun, hended, _, _, rfl, ?_, ⟨_, rfl⟩, hW, hsame.mono (by decide) (by decide)⟩
  · exact retI X0 hx Bd.returns (hb hby d13_10) hr
  · show Q13 Z p1 p2 h0 n0 _ s₁.heap _
    rw [e0]
    exact ⟨by rw [hv_v5], N0, rfl⟩
theorem d12_0 : decode method_2_code 0 = .ok (.iload_n 1, 1) := by decide +kernel
theorem d12_1 : decode method_2_code 1 = .ok (.iload_n 2, 1) := by decide +kernel
theorem d12_2 : decode method_2_code 2 = .ok (.if_icmp .ne 22, 3) := by decide +kernel
theorem d12_5 : decode method_2_code 5 = .ok (.aload_n 0, 1) := by decide +kernel
theorem d12_6 : decode method_2_code 6 = .ok (.arraylength, 1) := by decide +kernel
theorem d12_7 : decode method_2_code 7 = .ok (.iconst 1, 1) := by decide +kernel
theorem d12_8 : decode method_2_code 8 = .ok (.if_icmp .ne 14, 3) := by decide +kernel
theorem d12_11 : decode method_2_code 11 = .ok (.aload_n 0, 1) := by decide +kernel
theorem d12_12 : decode method_2_code 12 = .ok (.iconst 0, 1) := by decide +kernel
theorem d12_13 : decode method_2_code 13 = .ok (.iaload, 1) := by decide +kernel
theorem d12_14 : decode method_2_code 14 = .ok (.iload_n 1, 1) := by decide +kernel
theorem d12_15 : decode method_2_code 15 = .ok (.if_icmp .ne 7, 3) := by decide +kernel
theorem d12_18 : decode method_2_code 18 = .ok (.iconst 1, 1) := by decide +kernel
theorem d12_19 : decode method_2_code 19 = .ok (.goto 4, 3) := by decide +kernel
theorem d12_23 : decode method_2_code 23 = .ok (.ireturn, 1) := by decide +kernel
theorem d12_24 : decode method_2_code 24 = .ok (.aload_n 0, 1) := by decide +kernel
theorem d12_25 : decode method_2_code 25 = .ok (.arraylength, 1) := by decide +kernel
theorem d12_26 : decode method_2_code 26 = .ok (.iconst 2, 1) := by decide +kernel
theorem d12_27 : decode method_2_code 27 = .ok (.if_icmp .ne 29, 3) := by decide +kernel
theorem d12_30 : decode method_2_code 30 = .ok (.aload_n 0, 1) := by decide +kernel
theorem d12_31 : decode method_2_code 31 = .ok (.iconst 0, 1) := by decide +kernel
theorem d12_32 : decode method_2_code 32 = .ok (.iaload, 1) := by decide +kernel
theorem d12_33 : decode method_2_code 33 = .ok (.iload_n 1, 1) := by decide +kernel
theorem d12_34 : decode method_2_code 34 = .ok (.iload_n 2, 1) := by decide +kernel
theorem d12_35 : decode method_2_code 35 = .ok (.invokestatic 7, 3) := by decide +kernel
theorem d12_38 : decode method_2_code 38 = .ok (.if_icmp .ne 18, 3) := by decide +kernel
theorem d12_41 : decode method_2_code 41 = .ok (.aload_n 0, 1) := by decide +kernel
theorem d12_42 : decode method_2_code 42 = .ok (.iconst 1, 1) := by decide +kernel
theorem d12_43 : decode method_2_code 43 = .ok (.iaload, 1) := by decide +kernel
theorem d12_44 : decode method_2_code 44 = .ok (.iload_n 1, 1) := by decide +kernel
theorem d12_45 : decode method_2_code 45 = .ok (.iload_n 2, 1) := by decide +kernel
theorem d12_46 : decode method_2_code 46 = .ok (.invokestatic 13, 3) := by decide +kernel
theorem d12_49 : decode method_2_code 49 = .ok (.if_icmp .ne 7, 3) := by decide +kernel
theorem d12_52 : decode method_2_code 52 = .ok (.iconst 1, 1) := by decide +kernel
theorem d12_53 : decode method_2_code 53 = .ok (.goto 4, 3) := by decide +kernel
theorem d12_57 : decode method_2_code 57 = .ok (.ireturn, 1) := by decide +kernel
theorem own_pn_com_example_linkwright_linkwright_link_FoundTargetsStartPinLaw : plainName "com/example/linkwright/linkwright/link/FoundTargetsStartPinLaw" = true := by first | (simp [plainName, overriddenIn]; done) | decide +kernel
theorem ef_12 (m : MethodId) (x0 : Addr) (x1 : Int32) (x2 : Int32) : entryFrame m #[(.ref x0), (.int x1), (.int x2)] 3 = mkF m 0 #[.val (.ref x0), .val (.int x1), .val (.int x2)] [] := by first | (simp [entryFrame, mkF, argsToLocals, Value.category]; done) | rfl
def Q12 (Z : State) (a1 : Addr) (p2 : Int32) (p3 : Int32) (kb : ClassId) (z : Int32) (ys : List Int32) (h0 : Heap) (n0 : Nat) (v : Option Value) (h : Heap) (L : List Loc) : Prop := v = some (.int (1 : Int32)) ∧ Fr n0 L ∧ h = h0
set_option maxRecDepth 65536 in
set_option maxHeartbeats 40000000 in
theorem rm12 (l : Launch) (Z : State) (a0 : Array Value) (hw : ∀ d ∈ tables_1, d.before a0 Z = true) (ws : List Jvm.Cond) (a1 : Addr) (p2 : Int32) (p3 : Int32) (kb : ClassId) (z : Int32) (ys : List Int32) (h0 : Heap) (n0 : Nat) (Z0 : n0 ≤ h0.size) (V_a : Arv Z h0 a1 kb .int z (ys.map Value.int) (.int (0 : Int32))) (hE : p2 = p3 → z = (1 : Int32) ∧ ys.getD 0 0 = p2) (hD : ¬ p2 = p3 → z = (2 : Int32) ∧ ys.getD 0 0 = (if p3 < p2 then p3 else p2) ∧ ys.getD 1 0 = (if p2 < p3 then p3 else p2)) :
    MetFree l (⟨"com/example/linkwright/linkwright/link/FoundTargetsStartPinLaw", "isSet", "([III)Z"⟩ : MethodName) (head1 (Jvm.Cond.code (⟨"com/example/linkwright/linkwright/link/FoundTargetsStartPinLaw", "isSet", "([III)Z"⟩ : MethodName) method_2_code 3 (some .boolean) :: ws) ({ frames := 1, cells := 0, slots := 0, locals := 14 } : Room)) (fun aax UU => aax = #[(.ref a1), (.int p2), (.int p3)] ∧ Z.Warmed39 UU.vm ∧ UU.heap = h0) (fun _ _ _ _ _ => True) (fun _ UU oux UU' => ∃ rvx Lrx, oux = .returned rvx ∧ Q12 Z a1 p2 p3 kb z ys h0 n0 rvx UU'.heap Lrx ∧ FrameEnd UU oux UU' Lrx ({ frames := 1, cells := 0, slots := 0, locals := 14 } : Room).cells ({ frames := 1, cells := 0, slots := 0, locals := 14 } : Room).slots) := by
  refine MetFree.of_bodySF (plainFor_of_name own_pn_com_example_linkwright_linkwright_link_FoundTargetsStartPinLaw) hisR ?_
  intro p e s m args below meth c s₁ Bd hml0 hP hK
  obtain ⟨rfl, hZ, hh⟩ := hP
  have hx := Bd.exec
  have hby := Bd.bytes
  have hml : c.maxLocals = 3 := hml0
  have hown : s.vm.findClass "com/example/linkwright/linkwright/link/FoundTargetsStartPinLaw" = some m.cls := findClass_of_methodNamed Bd.named
  have hnm := (name_of_methodNamed Bd.named Bd.method).1
  have X0 : Stand p l e ({ frames := 1, cells := 0, slots := 0, locals := 14 } : Room) s m #[(.ref a1), (.int p2), (.int p3)] below meth c s₁ [] 0 0 := Stand.of_body Bd
  have e0 : s₁.heap = h0 := by rw [← hh, Bd.state]; rfl
  have N0 := Fr.nil n0
  have p0 : own_go p e below (s₁.setTop (entryFrame m #[(.ref a1), (.int p2), (.int p3)] 3)) (s₁.setTop (mkF m 0 #[.val (.ref a1), .val (.int p2), .val (.int p3)] [])) := fun ttx ktx => castTop (ef_12 m a1 p2 p3) ktx
  have go1 : own_go p e below (s₁.setTop (entryFrame m #[(.ref a1), (.int p2), (.int p3)] 3)) (s₁.setTop (mkF m 2 #[.val (.ref a1), .val (.int p2), .val (.int p3)] [(.int p3), (.int p2)])) := by
    intro ttx ktx
    refine p0 ttx ?_
    show Steps p.tables e below (s₁.setTop (mkF m 0 #[.val (.ref a1), .val (.int p2), .val (.int p3)] [])) _
    refine XS.iloadN X0.here hx rfl (hb hby d12_0) rfl ?_
    show Steps p.tables e below (s₁.setTop (mkF m 1 #[.val (.ref a1), .val (.int p2), .val (.int p3)] [(.int p2)])) _
    refine XS.iloadN X0.here hx rfl (hb hby d12_1) rfl ?_
    exact ktx
  by_cases hc2_2 : p2 = p3
  · obtain ⟨hz, hy0⟩ := hE hc2_2
    obtain ⟨cl3, Ar3, -, S3, M3, -, -⟩ := id V_a
    have hc4_8 : z = (1 : Int32) := hz
    obtain ⟨cl5, Ar5, q5, S5, M5, H5, G5⟩ := id V_a
    have hin5 : ¬ ((0 : Int32) < 0 ∨ cl5.slots.size ≤ ((0 : Int32)).toNatClampNeg) := inb_of S5 ⟨by decide, by rw [hz]; decide⟩
    have hat5 := Has.at H5 hin5 (own_getD Value.int ys 0 0)
    have hc6_15 : (ys.getD 0 0) = p2 := hy0
    have go7 : own_go p e below (s₁.setTop (entryFrame m #[(.ref a1), (.int p2), (.int p3)] 3)) (s₁.setTop (mkF m 23 #[.val (.ref a1), .val (.int p2), .val (.int p3)] [(.int (1 : Int32))])) := by
      intro ttx ktx
      refine go1 ttx ?_
      show Steps p.tables e below (s₁.setTop (mkF m 2 #[.val (.ref a1), .val (.int p2), .val (.int p3)] [(.int p3), (.int p2)])) _
      refine XS.icmpNo X0.here hx rfl (hb hby d12_2) rfl (teq hc2_2).2 ?_
      show Steps p.tables e below (s₁.setTop (mkF m 5 #[.val (.ref a1), .val (.int p2), .val (.int p3)] [])) _
      refine XS.aloadN X0.here hx rfl (hb hby d12_5) rfl rfl ?_
      show Steps p.tables e below (s₁.setTop (mkF m 6 #[.val (.ref a1), .val (.int p2), .val (.int p3)] [(.ref a1)])) _
      refine X0.arraylength hx (own_hp e0 Ar3.1) (State.isArrayOf_alike hZ.alike Ar3.2.1) (g := (mkF m 6 #[.val (.ref a1), .val (.int p2), .val (.int p3)] [(.ref a1)])) rfl rfl (hb hby d12_6) _ ?_
      rw [len_of S3 M3]
      show Steps p.tables e below (s₁.setTop (mkF m 7 #[.val (.ref a1), .val (.int p2), .val (.int p3)] [(.int z)])) _
      refine XS.iconst X0.here hx rfl (hb hby d12_7) ?_
      show Steps p.tables e below (s₁.setTop (mkF m 8 #[.val (.ref a1), .val (.int p2), .val (.int p3)] [(.int (1 : Int32)), (.int z)])) _
      refine XS.icmpNo X0.here hx rfl (hb hby d12_8) rfl (teq hc4_8).2 ?_
      show Steps p.tables e below (s₁.setTop (mkF m 11 #[.val (.ref a1), .val (.int p2), .val (.int p3)] [])) _
      refine XS.aloadN X0.here hx rfl (hb hby d12_11) rfl rfl ?_
      show Steps p.tables e below (s₁.setTop (mkF m 12 #[.val (.ref a1), .val (.int p2), .val (.int p3)] [(.ref a1)])) _
      refine XS.iconst X0.here hx rfl (hb hby d12_12) ?_
      show Steps p.tables e below (s₁.setTop (mkF m 13 #[.val (.ref a1), .val (.int p2), .val (.int p3)] [(.int (0 : Int32)), (.ref a1)])) _
      refine X0.iaload hx (j := (0 : Int32)) (v := (.int (ys.getD 0 0))) (own_hp e0 Ar5.1) (State.isArrayOf_alike hZ.alike Ar5.2.1) Ar5.2.2 hin5 hat5 (g := (mkF m 13 #[.val (.ref a1), .val (.int p2), .val (.int p3)] [(.int (0 : Int32)), (.ref a1)])) rfl rfl (hb hby d12_13) _ ?_
      show Steps p.tables e below (s₁.setTop (mkF m 14 #[.val (.ref a1), .val (.int p2), .val (.int p3)] [(.int (ys.getD 0 0))])) _
      refine XS.iloadN X0.here hx rfl (hb hby d12_14) rfl ?_
      show Steps p.tables e below (s₁.setTop (mkF m 15 #[.val (.ref a1), .val (.int p2), .val (.int p3)] [(.int p2), (.int (ys.getD 0 0))])) _
      refine XS.icmpNo X0.here hx rfl (hb hby d12_15) rfl (teq hc6_15).2 ?_
      show Steps p.tables e below (s₁.setTop (mkF m 18 #[.val (.ref a1), .val (.int p2), .val (.int p3)] [])) _
      refine XS.iconst X0.here hx rfl (hb hby d12_18) ?_
      show Steps p.tables e below (s₁.setTop (mkF m 19 #[.val (.ref a1), .val (.int p2), .val (.int p3)] [(.int (1 : Int32))])) _
      refine XS.goto X0.here hx rfl (pc0 := 19) (pc' := 23) rfl (hb hby d12_19) (by decide) (by decide) ?_
      exact ktx
    obtain ⟨fs, hr, hrun, hended, hW, hsame⟩ := X0.leave (v := some (.int (1 : Int32))) (fun h => by rw [Bd.returns] at h; cases h)
    refine ⟨_, _, go7 _ ?_, hrun, hended, _, _, rfl, ?_, ⟨_, rfl⟩, hW, hsame.mono (by decide) (by decide)⟩
    · exact retN X0 hx (t := .boolean) Bd.returns (by simp) (hb hby d12_23) hr
    · show Q12 Z a1 p2 p3 kb z ys h0 n0 _ s₁.heap _
      rw [e0]
      exact ⟨rfl, N0, rfl⟩
  · obtain ⟨hz, hy0, hy1⟩ := hD hc2_2
    obtain ⟨cl8, Ar8, -, S8, M8, -, -⟩ := id V_a
    have hc9_27 : z = (2 : Int32) := hz
    obtain ⟨cl10, Ar10, q10, S10, M10, H10, G10⟩ := id V_a
    have hin10 : ¬ ((0 : Int32) < 0 ∨ cl10.slots.size ≤ ((0 : Int32)).toNatClampNeg) := inb_of S10 ⟨by decide, by rw [hz]; decide⟩
    have hat10 := Has.at H10 hin10 (own_getD Value.int ys 0 0)
    obtain ⟨_, _, ⟨T11, L11, k11, n11⟩, -, X11, ⟨Lc11, hQ11, l11, y11, z11⟩, st11⟩ := Jvm.LawKit.callS X0 hx (y := (⟨"java/lang/Math", "min", "(II)I"⟩ : MethodName)) hown (mvT hZ (hw _ (List.mem_of_getElem? (i := 72) rfl))) (mvT hZ (hw _ (List.mem_of_getElem? (i := 61) rfl))) (mvT hZ (hw _ (List.mem_of_getElem? (i := 62) rfl))) (mvT hZ (hw _ (List.mem_of_getElem? (i := 63) rfl))) (by decide) (backOf (W := 1) (rm11 l Z a0 hw [] p2 p3  h0 n0 Z0 ) hZ (hw _ (List.mem_of_getElem? (i := 63) rfl)) (hw _ (List.mem_of_getElem? (i := 62) rfl)) (by decide) (by decide)) (g := (mkF m 35 #[.val (.ref a1), .val (.int p2), .val (.int p3)] [(.int p3), (.int p2), (.int (ys.getD 0 0))])) rfl (by rw [hml]; rfl) (argsL := [(.int p2), (.int p3)]) (rest := [(.int (ys.getD 0 0))]) (lenOf own_pd0 rfl) rfl (by show 2 * 0 + _ ≤ _; exact Nat.le_of_eq rfl) (hb hby d12_35) (fun _ _ => ⟨rfl, e0, (by decide : 0 + 0 ≤ _), (by decide : 0 + 0 ≤ _)⟩)
    dsimp only [Pt.U, Pt.locs, Pt.cells, Pt.slots] at X11 l11 y11 z11 st11 hQ11
    subst l11 y11 z11
    obtain ⟨rfl, Nq11, e11⟩ := hQ11
    have N11 := Fr.app N0 Nq11
    have hc12_38 : (ys.getD 0 0) = (if p3 < p2 then p3 else p2) := hy0
    have go13 : own_go p e below (s₁.setTop (entryFrame m #[(.ref a1), (.int p2), (.int p3)] 3)) (T11.setTop (mkF m 43 #[.val (.ref a1), .val (.int p2), .val (.int p3)] [(.int (1 : Int32)), (.ref a1)])) := by
      intro ttx ktx
      refine go1 ttx ?_
      show Steps p.tables e below (s₁.setTop (mkF m 2 #[.val (.ref a1), .val (.int p2), .val (.int p3)] [(.int p3), (.int p2)])) _
      refine XS.icmpYes X0.here hx rfl (pc0 := 2) (pc' := 24) rfl (hb hby d12_2) rfl (feq hc2_2).2 (by decide) (by decide) ?_
      show Steps p.tables e below (s₁.setTop (mkF m 24 #[.val (.ref a1), .val (.int p2), .val (.int p3)] [])) _
      refine XS.aloadN X0.here hx rfl (hb hby d12_24) rfl rfl ?_
      show Steps p.tables e below (s₁.setTop (mkF m 25 #[.val (.ref a1), .val (.int p2), .val (.int p3)] [(.ref a1)])) _
      refine X0.arraylength hx (own_hp e0 Ar8.1) (State.isArrayOf_alike hZ.alike Ar8.2.1) (g := (mkF m 25 #[.val (.ref a1), .val (.int p2), .val (.int p3)] [(.ref a1)])) rfl rfl (hb hby d12_25) _ ?_
      rw [len_of S8 M8]
      show Steps p.tables e below (s₁.setTop (mkF m 26 #[.val (.ref a1), .val (.int p2), .val (.int p3)] [(.int z)])) _
      refine XS.iconst X0.here hx rfl (hb hby d12_26) ?_
      show Steps p.tables e below (s₁.setTop (mkF m 27 #[.val (.ref a1), .val (.int p2), .val (.int p3)] [(.int (2 : Int32)), (.int z)])) _
      refine XS.icmpNo X0.here hx rfl (hb hby d12_27) rfl (teq hc9_27).2 ?_
      show Steps p.tables e below (s₁.setTop (mkF m 30 #[.val (.ref a1), .val (.int p2), .val (.int p3)] [])) _
      refine XS.aloadN X0.here hx rfl (hb hby d12_30) rfl rfl ?_
      show Steps p.tables e below (s₁.setTop (mkF m 31 #[.val (.ref a1), .val (.int p2), .val (.int p3)] [(.ref a1)])) _
      refine XS.iconst X0.here hx rfl (hb hby d12_31) ?_
      show Steps p.tables e below (s₁.setTop (mkF m 32 #[.val (.ref a1), .val (.int p2), .val (.int p3)] [(.int (0 : Int32)), (.ref a1)])) _
      refine X0.iaload hx (j := (0 : Int32)) (v := (.int (ys.getD 0 0))) (own_hp e0 Ar10.1) (State.isArrayOf_alike hZ.alike Ar10.2.1) Ar10.2.2 hin10 hat10 (g := (mkF m 32 #[.val (.ref a1), .val (.int p2), .val (.int p3)] [(.int (0 : Int32)), (.ref a1)])) rfl rfl (hb hby d12_32) _ ?_
      show Steps p.tables e below (s₁.setTop (mkF m 33 #[.val (.ref a1), .val (.int p2), .val (.int p3)] [(.int (ys.getD 0 0))])) _
      refine XS.iloadN X0.here hx rfl (hb hby d12_33) rfl ?_
      show Steps p.tables e below (s₁.setTop (mkF m 34 #[.val (.ref a1), .val (.int p2), .val (.int p3)] [(.int p2), (.int (ys.getD 0 0))])) _
      refine XS.iloadN X0.here hx rfl (hb hby d12_34) rfl ?_
      show Steps p.tables e below (s₁.setTop (mkF m 35 #[.val (.ref a1), .val (.int p2), .val (.int p3)] [(.int p3), (.int p2), (.int (ys.getD 0 0))])) _
      refine st11 _ ?_
      show Steps p.tables e below (T11.setTop (mkF m 38 #[.val (.ref a1), .val (.int p2), .val (.int p3)] [(.int (if p3 < p2 then p3 else p2)), (.int (ys.getD 0 0))])) _
      refine XS.icmpNo X11.here hx rfl (hb hby d12_38) rfl (teq hc12_38).2 ?_
      show Steps p.tables e below (T11.setTop (mkF m 41 #[.val (.ref a1), .val (.int p2), .val (.int p3)] [])) _
      refine XS.aloadN X11.here hx rfl (hb hby d12_41) rfl rfl ?_
      show Steps p.tables e below (T11.setTop (mkF m 42 #[.val (.ref a1), .val (.int p2), .val (.int p3)] [(.ref a1)])) _
      refine XS.iconst X11.here hx rfl (hb hby d12_42) ?_
      exact ktx
    obtain ⟨cl14, Ar14, q14, S14, M14, H14, G14⟩ := id V_a
    have hin14 : ¬ ((1 : Int32) < 0 ∨ cl14.slots.size ≤ ((1 : Int32)).toNatClampNeg) := inb_of S14 ⟨by decide, by rw [hz]; decide⟩
    have hat14 := Has.at H14 hin14 (own_getD Value.int ys 0 1)
    obtain ⟨_, _, ⟨T15, L15, k15, n15⟩, -, X15, ⟨Lc15, hQ15, l15, y15, z15⟩, st15⟩ := Jvm.LawKit.callS X11 hx (y := (⟨"java/lang/Math", "max", "(II)I"⟩ : MethodName)) hown (mvT hZ (hw _ (List.mem_of_getElem? (i := 73) rfl))) (mvT hZ (hw _ (List.mem_of_getElem? (i := 74) rfl))) (mvT hZ (hw _ (List.mem_of_getElem? (i := 62) rfl))) (mvT hZ (hw _ (List.mem_of_getElem? (i := 75) rfl))) (by decide) (backOf (W := 1) (rm13 l Z a0 hw [] p2 p3  h0 n0 Z0 ) hZ (hw _ (List.mem_of_getElem? (i := 75) rfl)) (hw _ (List.mem_of_getElem? (i := 62) rfl)) (by decide) (by decide)) (g := (mkF m 46 #[.val (.ref a1), .val (.int p2), .val (.int p3)] [(.int p3), (.int p2), (.int (ys.getD 1 0))])) rfl (by rw [hml]; rfl) (argsL := [(.int p2), (.int p3)]) (rest := [(.int (ys.getD 1 0))]) (lenOf own_pd0 rfl) rfl (by show 2 * 0 + _ ≤ _; exact Nat.le_of_eq rfl) (hb hby d12_46) (fun _ _ => ⟨rfl, e11, (by decide : 0 + 0 ≤ _), (by decide : 0 + 0 ≤ _)⟩)
    dsimp only [Pt.U, Pt.locs, Pt.cells, Pt.slots] at X15 l15 y15 z15 st15 hQ15
    subst l15 y15 z15
    obtain ⟨rfl, Nq15, e15⟩ := hQ15
    have N15 := Fr.app N11 Nq15
    have hc16_49 : (ys.getD 1 0) = (if p2 < p3 then p3 else p2) := hy1
    have go17 : own_go p e below (s₁.setTop (entryFrame m #[(.ref a1), (.int p2), (.int p3)] 3)) (T15.setTop (mkF m 57 #[.val (.ref a1), .val (.int p2), .val (.int p3)] [(.int (1 : Int32))])) := by
      intro ttx ktx
      refine go13 ttx ?_
      show Steps p.tables e below (T11.setTop (mkF m 43 #[.val (.ref a1), .val (.int p2), .val (.int p3)] [(.int (1 : Int32)), (.ref a1)])) _
      refine X11.iaload hx (j := (1 : Int32)) (v := (.int (ys.getD 1 0))) (own_hp e11 Ar14.1) (State.isArrayOf_alike hZ.alike Ar14.2.1) Ar14.2.2 hin14 hat14 (g := (mkF m 43 #[.val (.ref a1), .val (.int p2), .val (.int p3)] [(.int (1 : Int32)), (.ref a1)])) rfl rfl (hb hby d12_43) _ ?_
      show Steps p.tables e below (T11.setTop (mkF m 44 #[.val (.ref a1), .val (.int p2), .val (.int p3)] [(.int (ys.getD 1 0))])) _
      refine XS.iloadN X11.here hx rfl (hb hby d12_44) rfl ?_
      show Steps p.tables e below (T11.setTop (mkF m 45 #[.val (.ref a1), .val (.int p2), .val (.int p3)] [(.int p2), (.int (ys.getD 1 0))])) _
      refine XS.iloadN X11.here hx rfl (hb hby d12_45) rfl ?_
      show Steps p.tables e below (T11.setTop (mkF m 46 #[.val (.ref a1), .val (.int p2), .val (.int p3)] [(.int p3), (.int p2), (.int (ys.getD 1 0))])) _
      refine st15 _ ?_
      show Steps p.tables e below (T15.setTop (mkF m 49 #[.val (.ref a1), .val (.int p2), .val (.int p3)] [(.int (if p2 < p3 then p3 else p2)), (.int (ys.getD 1 0))])) _
      refine XS.icmpNo X15.here hx rfl (hb hby d12_49) rfl (teq hc16_49).2 ?_
      show Steps p.tables e below (T15.setTop (mkF m 52 #[.val (.ref a1), .val (.int p2), .val (.int p3)] [])) _
      refine XS.iconst X15.here hx rfl (hb hby d12_52) ?_
      show Steps p.tables e below (T15.setTop (mkF m 53 #[.val (.ref a1), .val (.int p2), .val (.int p3)] [(.int (1 : Int32))])) _
      refine XS.goto X15.here hx rfl (pc0 := 53) (pc' := 57) rfl (hb hby d12_53) (by decide) (by decide) ?_
      exact ktx
    obtain ⟨fs, hr, hrun, hended, hW, hsame⟩ := X15.leave (v := some (.int (1 : Int32))) (fun h => by rw [Bd.returns] at h; cases h)
    refine ⟨_, _, go17 _ ?_, hrun, hended, _, _, rfl, ?_, ⟨_, rfl⟩, hW, hsame.mono (by decide) (by decide)⟩
    · exact retN X15 hx (t := .boolean) Bd.returns (by simp) (hb hby d12_57) hr
    · show Q12 Z a1 p2 p3 kb z ys h0 n0 _ T15.heap _
      rw [e15]
      exact ⟨rfl, N15, rfl⟩
theorem own_isE (x y : Int32) (ys : List Int32) (hp : ys.Perm (own_ins (own_ins [] x) y)) (e : x = y) : Int32.ofNat (own_ins (own_ins [] x) y).length = (1 : Int32) ∧ ys.getD 0 0 = x := by
  subst e
  have h : own_ins (own_ins [] x) x = [x] := by simp [own_ins]
  rw [h] at hp ⊢
  rw [List.perm_singleton.mp hp]
  exact ⟨rfl, rfl⟩
theorem own_isD (x y : Int32) (ys : List Int32) (hp : ys.Perm (own_ins (own_ins [] x) y)) (hs : ys.Pairwise (· ≤ ·)) (e : ¬ x = y) : Int32.ofNat (own_ins (own_ins [] x) y).length = (2 : Int32) ∧ ys.getD 0 0 = (if y < x then y else x) ∧ ys.getD 1 0 = (if x < y then y else x) := by
  have e' : ¬ y = x := fun q => e q.symm
  have h : own_ins (own_ins [] x) y = [x, y] := by simp [own_ins, e']
  rw [h] at hp ⊢
  have hl : ys.length = 2 := hp.length_eq
  match ys, hl with
  | [a, b], _ =>
    have hab : a ≤ b := by simpa using hs
    have hm : x ∈ [a, b] := hp.mem_iff.mpr (by simp)
    have hm' : y ∈ [a, b] := hp.mem_iff.mpr (by simp)
    refine ⟨rfl, ?_, ?_⟩
    all_goals
      simp only [List.mem_cons, List.not_mem_nil, or_false] at hm hm'
      rw [Int32.le_iff_toInt_le] at hab
      simp only [List.getD, List.getElem?_cons_zero, List.getElem?_cons_succ, Option.getD_some]
      have hne : x.toInt ≠ y.toInt := fun q => e (Int32.toInt_inj.mp q)
      split
      · rename_i c; rw [Int32.lt_iff_toInt_lt] at c
        rcases hm with rfl | rfl <;> rcases hm' with rfl | rfl <;> first | rfl | (exfalso; omega) | (exact absurd rfl e)
      · rename_i c; rw [Int32.lt_iff_toInt_lt] at c
        rcases hm with rfl | rfl <;> rcases hm' with rfl | rfl <;> first | rfl | (exfalso; omega) | (exact absurd rfl e)
theorem own_second (d e : Int32) (n : Int) (hd : 0 ≤ d.toInt ∧ d.toInt < n) (he : 0 ≤ e.toInt ∧ e.toInt < n) (h : e ∉ own_ins [] d) : ((own_ins [] d).length : Int) < n := by
  have q : own_ins [] d = [d] := by simp [own_ins]
  rw [q] at h ⊢
  have hne : d.toInt ≠ e.toInt := fun z => h (by simp [Int32.toInt_inj.mp z])
  simp; omega
theorem own_n (x : Int32) : 1 ≤ ((x &&& (7 : Int32)) + (1 : Int32)).toInt ∧ ((x &&& (7 : Int32)) + (1 : Int32)).toInt ≤ 8 := by
  have a := c_and x 7 (by decide)
  have b := c_iadd (x &&& 7) 1
  have r := rng32 ((x &&& 7) + 1)
  have e1 : (1 : Int32).toInt = 1 := rfl
  have e7 : (7 : Int32).toInt = 7 := rfl
  omega
theorem own_r (x n : Int32) (hn : 1 ≤ n.toInt) : 0 ≤ ((x &&& (2147483647 : Int32)) % n).toInt ∧ ((x &&& (2147483647 : Int32)) % n).toInt < n.toInt := by
  have a := c_and x 2147483647 (by decide)
  have b := (c_iremV (x &&& 2147483647) n).1 a.1 (by omega)
  omega
theorem own_nz {n : Int32} (h : 1 ≤ n.toInt) : n ≠ 0 := fun e => by subst e; exact absurd h (by decide)
theorem own_pd3 : parseMethodDescriptor "(I)V" = some ⟨[.int], none⟩ := by decide +kernel
theorem own_pd4 : parseMethodDescriptor "()V" = some ⟨[], none⟩ := by decide +kernel
theorem own_pd5 : parseMethodDescriptor "()[I" = some ⟨[], some (.array .int)⟩ := by decide +kernel
theorem own_pd6 : parseMethodDescriptor "([III)Z" = some ⟨[(.array .int), .int, .int], some .boolean⟩ := by decide +kernel
theorem ef_0 (m : MethodId) (x0 : Int32) (x1 : Int32) (x2 : Int32) (x3 : Int32) : entryFrame m #[(.int x0), (.int x1), (.int x2), (.int x3)] maxLocals = mkF m 0 #[.val (.int x0), .val (.int x1), .val (.int x2), .val (.int x3), .unset, .unset, .unset, .unset, .unset, .unset, .unset, .unset] [] := by first | (simp [entryFrame, mkF, argsToLocals, Value.category, maxLocals]; done) | rfl
def Q0 (Z : State) (p1 : Int32) (p2 : Int32) (p3 : Int32) (p4 : Int32) (h0 : Heap) (n0 : Nat) (v : Option Value) (h : Heap) (L : List Loc) : Prop := v = some (.int 1) ∧ Fr n0 L
set_option maxRecDepth 65536 in
set_option maxHeartbeats 40000000 in
theorem rm0 (l : Launch) (Z : State) (a0 : Array Value) (hw : ∀ d ∈ tables_1, d.before a0 Z = true) (ws : List Jvm.Cond) (p1 : Int32) (p2 : Int32) (p3 : Int32) (p4 : Int32) (h0 : Heap) (n0 : Nat) (Z0 : n0 ≤ h0.size) :
    MetFree l x (head1 (Jvm.Cond.code x code maxLocals ret :: ws) room_1) (fun aax UU => aax = #[(.int p1), (.int p2), (.int p3), (.int p4)] ∧ Z.Warmed39 UU.vm ∧ UU.heap = h0) (fun _ _ _ _ _ => True) (fun _ UU oux UU' => ∃ rvx Lrx, oux = .returned rvx ∧ Q0 Z p1 p2 p3 p4 h0 n0 rvx UU'.heap Lrx ∧ FrameEnd UU oux UU' Lrx 24 128) := by
  refine MetFree.of_bodySF (plainFor_of_name own_pn_com_example_linkwright_linkwright_link_FoundTargetsStartPinLaw) hisR ?_
  intro p e s m args below meth c s₁ Bd hml0 hP hK
  obtain ⟨rfl, hZ, hh⟩ := hP
  have hx := Bd.exec
  have hby := Bd.bytes
  have hml : c.maxLocals = 12 := hml0
  have hown : s.vm.findClass "com/example/linkwright/linkwright/link/FoundTargetsStartPinLaw" = some m.cls := findClass_of_methodNamed Bd.named
  have hnm := (name_of_methodNamed Bd.named Bd.method).1
  have X0 : Stand p l e room_1 s m #[(.int p1), (.int p2), (.int p3), (.int p4)] below meth c s₁ [] 0 0 := Stand.of_body Bd
  have e0 : s₁.heap = h0 := by rw [← hh, Bd.state]; rfl
  have N0 := Fr.nil n0
  have p0 : own_go p e below (s₁.setTop (entryFrame m #[(.int p1), (.int p2), (.int p3), (.int p4)] maxLocals)) (s₁.setTop (mkF m 0 #[.val (.int p1), .val (.int p2), .val (.int p3), .val (.int p4), .unset, .unset, .unset, .unset, .unset, .unset, .unset, .unset] [])) := fun ttx ktx => castTop (ef_0 m p1 p2 p3 p4) ktx
  obtain ⟨v1, hv_v1⟩ : ∃ z : Int32, z = ((p1 &&& (7 : Int32)) + (1 : Int32)) := ⟨_, rfl⟩
  have hn1 : 1 ≤ v1.toInt ∧ v1.toInt ≤ 8 := by rw [hv_v1]; exact own_n _
  have hn8 : v1.toInt ≤ 8 := hn1.2
  have hn0 : 0 ≤ v1.toInt := by omega
  have hpn : ¬ v1 < 0 ∧ v1.toNatClampNeg ≤ 8 := ⟨own_nn hn0, by rw [own_tn]; omega⟩
  obtain ⟨v2, hv_v2⟩ : ∃ z : Int32, z = ((p2 &&& (2147483647 : Int32)) % v1) := ⟨_, rfl⟩
  have go3 : own_go p e below (s₁.setTop (entryFrame m #[(.int p1), (.int p2), (.int p3), (.int p4)] maxLocals)) (s₁.setTop (mkF m 18 #[.val (.int p1), .val (.int p2), .val (.int p3), .val (.int p4), .val (.int v1), .val (.int v2), .unset, .unset, .unset, .unset, .unset, .unset] [(.int p3)])) := by
    intro ttx ktx
    refine p0 ttx ?_
    show Steps p.tables e below (s₁.setTop (mkF m 0 #[.val (.int p1), .val (.int p2), .val (.int p3), .val (.int p4), .unset, .unset, .unset, .unset, .unset, .unset, .unset, .unset] [])) _
    refine XS.iloadN X0.here hx rfl (hb hby at_0) rfl ?_
    show Steps p.tables e below (s₁.setTop (mkF m 1 #[.val (.int p1), .val (.int p2), .val (.int p3), .val (.int p4), .unset, .unset, .unset, .unset, .unset, .unset, .unset, .unset] [(.int p1)])) _
    refine XS.bipush X0.here hx rfl (hb hby at_1) ?_
    show Steps p.tables e below (s₁.setTop (mkF m 3 #[.val (.int p1), .val (.int p2), .val (.int p3), .val (.int p4), .unset, .unset, .unset, .unset, .unset, .unset, .unset, .unset] [(.int (7 : Int32)), (.int p1)])) _
    refine XS.iand X0.here hx rfl (hb hby at_3) rfl ?_
    show Steps p.tables e below (s₁.setTop (mkF m 4 #[.val (.int p1), .val (.int p2), .val (.int p3), .val (.int p4), .unset, .unset, .unset, .unset, .unset, .unset, .unset, .unset] [(.int (p1 &&& (7 : Int32)))])) _
    refine XS.iconst X0.here hx rfl (hb hby at_4) ?_
    show Steps p.tables e below (s₁.setTop (mkF m 5 #[.val (.int p1), .val (.int p2), .val (.int p3), .val (.int p4), .unset, .unset, .unset, .unset, .unset, .unset, .unset, .unset] [(.int (1 : Int32)), (.int (p1 &&& (7 : Int32)))])) _
    refine XS.iadd X0.here hx rfl (hb hby at_5) rfl ?_
    show Steps p.tables e below (s₁.setTop (mkF m 6 #[.val (.int p1), .val (.int p2), .val (.int p3), .val (.int p4), .unset, .unset, .unset, .unset, .unset, .unset, .unset, .unset] [(.int ((p1 &&& (7 : Int32)) + (1 : Int32)))])) _
    rw [← hv_v1]
    show Steps p.tables e below (s₁.setTop (mkF m 6 #[.val (.int p1), .val (.int p2), .val (.int p3), .val (.int p4), .unset, .unset, .unset, .unset, .unset, .unset, .unset, .unset] [(.int v1)])) _
    refine XS.istore X0.here hx rfl (hb hby at_6) rfl (l' := #[.val (.int p1), .val (.int p2), .val (.int p3), .val (.int p4), .val (.int v1), .unset, .unset, .unset, .unset, .unset, .unset, .unset]) rfl ?_
    show Steps p.tables e below (s₁.setTop (mkF m 8 #[.val (.int p1), .val (.int p2), .val (.int p3), .val (.int p4), .val (.int v1), .unset, .unset, .unset, .unset, .unset, .unset, .unset] [])) _
    refine XS.iloadN X0.here hx rfl (hb hby at_8) rfl ?_
    show Steps p.tables e below (s₁.setTop (mkF m 9 #[.val (.int p1), .val (.int p2), .val (.int p3), .val (.int p4), .val (.int v1), .unset, .unset, .unset, .unset, .unset, .unset, .unset] [(.int p2)])) _
    refine X0.ldcInt hx hown (mvT hZ (hw _ (List.mem_of_getElem? (i := 0) rfl))) (g := (mkF m 9 #[.val (.int p1), .val (.int p2), .val (.int p3), .val (.int p4), .val (.int v1), .unset, .unset, .unset, .unset, .unset, .unset, .unset] [(.int p2)])) rfl (hb hby at_9) _ ?_
    show Steps p.tables e below (s₁.setTop (mkF m 11 #[.val (.int p1), .val (.int p2), .val (.int p3), .val (.int p4), .val (.int v1), .unset, .unset, .unset, .unset, .unset, .unset, .unset] [(.int (2147483647 : Int32)), (.int p2)])) _
    refine XS.iand X0.here hx rfl (hb hby at_11) rfl ?_
    show Steps p.tables e below (s₁.setTop (mkF m 12 #[.val (.int p1), .val (.int p2), .val (.int p3), .val (.int p4), .val (.int v1), .unset, .unset, .unset, .unset, .unset, .unset, .unset] [(.int (p2 &&& (2147483647 : Int32)))])) _
    refine XS.iload X0.here hx rfl (hb hby at_12) rfl ?_
    show Steps p.tables e below (s₁.setTop (mkF m 14 #[.val (.int p1), .val (.int p2), .val (.int p3), .val (.int p4), .val (.int v1), .unset, .unset, .unset, .unset, .unset, .unset, .unset] [(.int v1), (.int (p2 &&& (2147483647 : Int32)))])) _
    refine iremM X0 hx rfl (hb hby at_14) rfl (own_nz hn1.1) ?_
    show Steps p.tables e below (s₁.setTop (mkF m 15 #[.val (.int p1), .val (.int p2), .val (.int p3), .val (.int p4), .val (.int v1), .unset, .unset, .unset, .unset, .unset, .unset, .unset] [(.int ((p2 &&& (2147483647 : Int32)) % v1))])) _
    rw [← hv_v2]
    show Steps p.tables e below (s₁.setTop (mkF m 15 #[.val (.int p1), .val (.int p2), .val (.int p3), .val (.int p4), .val (.int v1), .unset, .unset, .unset, .unset, .unset, .unset, .unset] [(.int v2)])) _
    refine XS.istore X0.here hx rfl (hb hby at_15) rfl (l' := #[.val (.int p1), .val (.int p2), .val (.int p3), .val (.int p4), .val (.int v1), .val (.int v2), .unset, .unset, .unset, .unset, .unset, .unset]) rfl ?_
    show Steps p.tables e below (s₁.setTop (mkF m 17 #[.val (.int p1), .val (.int p2), .val (.int p3), .val (.int p4), .val (.int v1), .val (.int v2), .unset, .unset, .unset, .unset, .unset, .unset] [])) _
    refine XS.iloadN X0.here hx rfl (hb hby at_17) rfl ?_
    exact ktx
  obtain ⟨v4, hv_v4⟩ : ∃ z : Int32, z = ((p3 &&& (2147483647 : Int32)) % v1) := ⟨_, rfl⟩
  obtain ⟨v5, hv_v5⟩ : ∃ z : Int32, z = ((p4 &&& (2147483647 : Int32)) % v1) := ⟨_, rfl⟩
  have hb_v2 : 0 ≤ v2.toInt ∧ v2.toInt < v1.toInt := by rw [hv_v2]; exact own_r _ _ hn1.1
  have hb_v4 : 0 ≤ v4.toInt ∧ v4.toInt < v1.toInt := by rw [hv_v4]; exact own_r _ _ hn1.1
  have hb_v5 : 0 ≤ v5.toInt ∧ v5.toInt < v1.toInt := by rw [hv_v5]; exact own_r _ _ hn1.1
  obtain ⟨T6, h6, X6, e6, E6, A6, D6, -, st6⟩ := newO X0 hx hZ hown (hw _ (List.mem_of_getElem? (i := 1) rfl)) (hw _ (List.mem_of_getElem? (i := 2) rfl)) (hw _ (List.mem_of_getElem? (i := 3) rfl)) e0 (g := (mkF m 35 #[.val (.int p1), .val (.int p2), .val (.int p3), .val (.int p4), .val (.int v1), .val (.int v2), .val (.int v4), .val (.int v5), .unset, .unset, .unset, .unset] [])) rfl (hb hby at_35) (by decide) (by decide)
  obtain ⟨b6, g6⟩ : ∃ z, z = h0.size := ⟨_, rfl⟩
  rw [← g6] at A6 D6 st6
  have g_b6 : n0 ≤ b6 := Nat.le_trans Z0 (Nat.le_of_eq g6.symm)
  have Z6 : n0 ≤ h6.size := Nat.le_trans Z0 E6.1
  have F6_seen : Fld Z h6 b6 "com/example/linkwright/linkwright/link/FoundTargets" "seen" "[I" .null := D6 (Or.inr (hw _ (List.mem_of_getElem? (i := 12) rfl))) (ty := (.array .int)) (by decide)
  have F6_found : Fld Z h6 b6 "com/example/linkwright/linkwright/link/FoundTargets" "found" "[I" .null := D6 (Or.inr (hw _ (List.mem_of_getElem? (i := 14) rfl))) (ty := (.array .int)) (by decide)
  have F6_query : Fld Z h6 b6 "com/example/linkwright/linkwright/link/FoundTargets" "query" "I" (.int (0 : Int32)) := D6 (Or.inl (hw _ (List.mem_of_getElem? (i := 21) rfl))) (ty := .int) (by decide)
  have F6_count : Fld Z h6 b6 "com/example/linkwright/linkwright/link/FoundTargets" "count" "I" (.int (0 : Int32)) := D6 (Or.inl (hw _ (List.mem_of_getElem? (i := 23) rfl))) (ty := .int) (by decide)
  have go7 : own_go p e below (s₁.setTop (entryFrame m #[(.int p1), (.int p2), (.int p3), (.int p4)] maxLocals)) (T6.setTop (mkF m 39 #[.val (.int p1), .val (.int p2), .val (.int p3), .val (.int p4), .val (.int v1), .val (.int v2), .val (.int v4), .val (.int v5), .unset, .unset, .unset, .unset] [(.ref b6), (.ref b6)])) := by
    intro ttx ktx
    refine go3 ttx ?_
    show Steps p.tables e below (s₁.setTop (mkF m 18 #[.val (.int p1), .val (.int p2), .val (.int p3), .val (.int p4), .val (.int v1), .val (.int v2), .unset, .unset, .unset, .unset, .unset, .unset] [(.int p3)])) _
    refine X0.ldcInt hx hown (mvT hZ (hw _ (List.mem_of_getElem? (i := 0) rfl))) (g := (mkF m 18 #[.val (.int p1), .val (.int p2), .val (.int p3), .val (.int p4), .val (.int v1), .val (.int v2), .unset, .unset, .unset, .unset, .unset, .unset] [(.int p3)])) rfl (hb hby at_18) _ ?_
    show Steps p.tables e below (s₁.setTop (mkF m 20 #[.val (.int p1), .val (.int p2), .val (.int p3), .val (.int p4), .val (.int v1), .val (.int v2), .unset, .unset, .unset, .unset, .unset, .unset] [(.int (2147483647 : Int32)), (.int p3)])) _
    refine XS.iand X0.here hx rfl (hb hby at_20) rfl ?_
    show Steps p.tables e below (s₁.setTop (mkF m 21 #[.val (.int p1), .val (.int p2), .val (.int p3), .val (.int p4), .val (.int v1), .val (.int v2), .unset, .unset, .unset, .unset, .unset, .unset] [(.int (p3 &&& (2147483647 : Int32)))])) _
    refine XS.iload X0.here hx rfl (hb hby at_21) rfl ?_
    show Steps p.tables e below (s₁.setTop (mkF m 23 #[.val (.int p1), .val (.int p2), .val (.int p3), .val (.int p4), .val (.int v1), .val (.int v2), .unset, .unset, .unset, .unset, .unset, .unset] [(.int v1), (.int (p3 &&& (2147483647 : Int32)))])) _
    refine iremM X0 hx rfl (hb hby at_23) rfl (own_nz hn1.1) ?_
    show Steps p.tables e below (s₁.setTop (mkF m 24 #[.val (.int p1), .val (.int p2), .val (.int p3), .val (.int p4), .val (.int v1), .val (.int v2), .unset, .unset, .unset, .unset, .unset, .unset] [(.int ((p3 &&& (2147483647 : Int32)) % v1))])) _
    rw [← hv_v4]
    show Steps p.tables e below (s₁.setTop (mkF m 24 #[.val (.int p1), .val (.int p2), .val (.int p3), .val (.int p4), .val (.int v1), .val (.int v2), .unset, .unset, .unset, .unset, .unset, .unset] [(.int v4)])) _
    refine XS.istore X0.here hx rfl (hb hby at_24) rfl (l' := #[.val (.int p1), .val (.int p2), .val (.int p3), .val (.int p4), .val (.int v1), .val (.int v2), .val (.int v4), .unset, .unset, .unset, .unset, .unset]) rfl ?_
    show Steps p.tables e below (s₁.setTop (mkF m 26 #[.val (.int p1), .val (.int p2), .val (.int p3), .val (.int p4), .val (.int v1), .val (.int v2), .val (.int v4), .unset, .unset, .unset, .unset, .unset] [])) _
    refine XS.iloadN X0.here hx rfl (hb hby at_26) rfl ?_
    show Steps p.tables e below (s₁.setTop (mkF m 27 #[.val (.int p1), .val (.int p2), .val (.int p3), .val (.int p4), .val (.int v1), .val (.int v2), .val (.int v4), .unset, .unset, .unset, .unset, .unset] [(.int p4)])) _
    refine X0.ldcInt hx hown (mvT hZ (hw _ (List.mem_of_getElem? (i := 0) rfl))) (g := (mkF m 27 #[.val (.int p1), .val (.int p2), .val (.int p3), .val (.int p4), .val (.int v1), .val (.int v2), .val (.int v4), .unset, .unset, .unset, .unset, .unset] [(.int p4)])) rfl (hb hby at_27) _ ?_
    show Steps p.tables e below (s₁.setTop (mkF m 29 #[.val (.int p1), .val (.int p2), .val (.int p3), .val (.int p4), .val (.int v1), .val (.int v2), .val (.int v4), .unset, .unset, .unset, .unset, .unset] [(.int (2147483647 : Int32)), (.int p4)])) _
    refine XS.iand X0.here hx rfl (hb hby at_29) rfl ?_
    show Steps p.tables e below (s₁.setTop (mkF m 30 #[.val (.int p1), .val (.int p2), .val (.int p3), .val (.int p4), .val (.int v1), .val (.int v2), .val (.int v4), .unset, .unset, .unset, .unset, .unset] [(.int (p4 &&& (2147483647 : Int32)))])) _
    refine XS.iload X0.here hx rfl (hb hby at_30) rfl ?_
    show Steps p.tables e below (s₁.setTop (mkF m 32 #[.val (.int p1), .val (.int p2), .val (.int p3), .val (.int p4), .val (.int v1), .val (.int v2), .val (.int v4), .unset, .unset, .unset, .unset, .unset] [(.int v1), (.int (p4 &&& (2147483647 : Int32)))])) _
    refine iremM X0 hx rfl (hb hby at_32) rfl (own_nz hn1.1) ?_
    show Steps p.tables e below (s₁.setTop (mkF m 33 #[.val (.int p1), .val (.int p2), .val (.int p3), .val (.int p4), .val (.int v1), .val (.int v2), .val (.int v4), .unset, .unset, .unset, .unset, .unset] [(.int ((p4 &&& (2147483647 : Int32)) % v1))])) _
    rw [← hv_v5]
    show Steps p.tables e below (s₁.setTop (mkF m 33 #[.val (.int p1), .val (.int p2), .val (.int p3), .val (.int p4), .val (.int v1), .val (.int v2), .val (.int v4), .unset, .unset, .unset, .unset, .unset] [(.int v5)])) _
    refine XS.istore X0.here hx rfl (hb hby at_33) rfl (l' := #[.val (.int p1), .val (.int p2), .val (.int p3), .val (.int p4), .val (.int v1), .val (.int v2), .val (.int v4), .val (.int v5), .unset, .unset, .unset, .unset]) rfl ?_
    show Steps p.tables e below (s₁.setTop (mkF m 35 #[.val (.int p1), .val (.int p2), .val (.int p3), .val (.int p4), .val (.int v1), .val (.int v2), .val (.int v4), .val (.int v5), .unset, .unset, .unset, .unset] [])) _
    refine st6 _ ?_
    show Steps p.tables e below (T6.setTop (mkF m 38 #[.val (.int p1), .val (.int p2), .val (.int p3), .val (.int p4), .val (.int v1), .val (.int v2), .val (.int v4), .val (.int v5), .unset, .unset, .unset, .unset] [(.ref b6)])) _
    refine XS.dup X6.here hx rfl (hb hby at_38) rfl rfl ?_
    exact ktx
  obtain ⟨_, _, ⟨T8, L8, k8, n8⟩, -, X8, ⟨Lc8, hQ8, l8, y8, z8⟩, st8⟩ := X6.specialBack hx (y := (⟨"com/example/linkwright/linkwright/link/FoundTargets", "<init>", "(I)V"⟩ : MethodName)) rfl hown (mvT hZ (hw _ (List.mem_of_getElem? (i := 4) rfl))) (mvT hZ (hw _ (List.mem_of_getElem? (i := 5) rfl))) (mvT hZ (hw _ (List.mem_of_getElem? (i := 6) rfl))) (by decide) (backOf (W := 1) (rm1 l Z a0 hw [] b6 v1  h6 n0 Z6 A6 g_b6 F6_seen F6_found F6_query F6_count hpn) hZ (hw _ (List.mem_of_getElem? (i := 6) rfl)) (hw _ (List.mem_of_getElem? (i := 3) rfl)) (by decide) (by decide)) (g := (mkF m 41 #[.val (.int p1), .val (.int p2), .val (.int p3), .val (.int p4), .val (.int v1), .val (.int v2), .val (.int v4), .val (.int v5), .unset, .unset, .unset, .unset] [(.int v1), (.ref b6), (.ref b6)])) rfl (by rw [hml]; rfl) (Steps.refl _) (a := b6) (argsL := [(.int v1)]) (rest := [(.ref b6)]) (lenOf own_pd3 rfl) rfl (by show 2 * 0 + _ ≤ _; exact Nat.le_of_eq rfl) (hb hby at_41) (fun _ _ => ⟨rfl, e6, (by decide : 1 + 2 ≤ _), (by decide : 4 + 16 ≤ _)⟩)
  dsimp only [Pt.U, Pt.locs, Pt.cells, Pt.slots] at X8 l8 y8 z8 st8 hQ8
  subst l8 y8 z8
  obtain ⟨rfl, Nq8, Kq8, ts8, tf8, ga8, gb8, sa8, sb8, nt8, fb8⟩ := hQ8
  have N8 := Fr.app N0 Nq8
  have ne9 : b6 ≠ ts8 := Nat.ne_of_lt (Nat.lt_of_lt_of_le A6.lt sa8)
  have ne10 : b6 ≠ tf8 := Nat.ne_of_lt (Nat.lt_of_lt_of_le A6.lt sb8)
  have g_ts8 := ga8
  have g_tf8 := gb8
  have Z8 : n0 ≤ T8.heap.size := Nat.le_trans Z6 Kq8.1
  have Eq8 := fb8.1
  obtain ⟨cq11, kq11, q11a, q11b, q11c⟩ := isOf hZ rfl Eq8
  obtain ⟨_, _, ⟨T11, L11, k11, n11⟩, -, X11, ⟨Lc11, hQ11, l11, y11, z11⟩, st11⟩ := X8.virtualBack hx (y := (⟨"com/example/linkwright/linkwright/link/FoundTargets", "start", "()V"⟩ : MethodName)) (z := (⟨"com/example/linkwright/linkwright/link/FoundTargets", "start", "()V"⟩ : MethodName)) hown (mvT hZ (hw _ (List.mem_of_getElem? (i := 15) rfl))) (mvT hZ (hw _ (List.mem_of_getElem? (i := 16) rfl))) (notFace_of_selects (args := #[]) (mvT hZ (hw _ (List.mem_of_getElem? (i := 18) rfl)))) (mvT hZ (hw _ (List.mem_of_getElem? (i := 18) rfl))) (mvT hZ (hw _ (List.mem_of_getElem? (i := 17) rfl))) (by decide) (backOf (W := 0) (rm3 l Z a0 hw [] b6 ts8 tf8 v1 (0 : Int32) T8.heap n0 Z8 g_b6 ne9 ne10 nt8 fb8 (by decide) hn0) hZ (hw _ (List.mem_of_getElem? (i := 19) rfl)) (hw _ (List.mem_of_getElem? (i := 3) rfl)) (by decide) (by decide)) q11a q11c (g := (mkF m 48 #[.val (.int p1), .val (.int p2), .val (.int p3), .val (.int p4), .val (.int v1), .val (.int v2), .val (.int v4), .val (.int v5), .val (.ref b6), .unset, .unset, .unset] [(.ref b6)])) rfl (by rw [hml]; rfl) (Steps.refl _) (argsL := []) (rest := []) (lenOf own_pd4 rfl) rfl (by show 2 * 0 + _ ≤ _; exact Nat.le_of_eq rfl) (hb hby at_48) (fun _ _ => ⟨rfl, rfl, (by decide : 3 + 0 ≤ _), (by decide : 20 + 0 ≤ _)⟩)
  dsimp only [Pt.U, Pt.locs, Pt.cells, Pt.slots] at X11 l11 y11 z11 st11 hQ11
  subst l11 y11 z11
  obtain ⟨rfl, Nq11, Kq11, fq11⟩ := hQ11
  have N11 := Fr.app N8 Nq11
  have Z11 : n0 ≤ T11.heap.size := Nat.le_trans Z8 Kq11.1
  have ft11 : own_ft Z T11.heap b6 ts8 tf8 v1 (1 : Int32) [] := fq11
  have Eq11 := ft11.1
  obtain ⟨cq12, kq12, q12a, q12b, q12c⟩ := isOf hZ rfl Eq11
  obtain ⟨_, _, ⟨T12, L12, k12, n12⟩, -, X12, ⟨Lc12, hQ12, l12, y12, z12⟩, st12⟩ := X11.virtualBack hx (y := (⟨"com/example/linkwright/linkwright/link/FoundTargets", "add", "(I)V"⟩ : MethodName)) (z := (⟨"com/example/linkwright/linkwright/link/FoundTargets", "add", "(I)V"⟩ : MethodName)) hown (mvT hZ (hw _ (List.mem_of_getElem? (i := 24) rfl))) (mvT hZ (hw _ (List.mem_of_getElem? (i := 25) rfl))) (notFace_of_selects (args := #[]) (mvT hZ (hw _ (List.mem_of_getElem? (i := 27) rfl)))) (mvT hZ (hw _ (List.mem_of_getElem? (i := 27) rfl))) (mvT hZ (hw _ (List.mem_of_getElem? (i := 26) rfl))) (by decide) (backOf (W := 0) (rm4 l Z a0 hw [] b6 v2 ts8 tf8 v1 (1 : Int32) ([] : List Int32) T11.heap n0 Z11 g_b6 g_ts8 g_tf8 ne9 ne10 nt8 ft11 hn8 hb_v2 (fun _ => by simp; omega)) hZ (hw _ (List.mem_of_getElem? (i := 28) rfl)) (hw _ (List.mem_of_getElem? (i := 3) rfl)) (by decide) (by decide)) q12a q12c (g := (mkF m 55 #[.val (.int p1), .val (.int p2), .val (.int p3), .val (.int p4), .val (.int v1), .val (.int v2), .val (.int v4), .val (.int v5), .val (.ref b6), .unset, .unset, .unset] [(.int v2), (.ref b6)])) rfl (by rw [hml]; rfl) (Steps.refl _) (argsL := [(.int v2)]) (rest := []) (lenOf own_pd3 rfl) rfl (by show 2 * 0 + _ ≤ _; exact Nat.le_of_eq rfl) (hb hby at_55) (fun _ _ => ⟨rfl, rfl, (by decide : 3 + 0 ≤ _), (by decide : 20 + 0 ≤ _)⟩)
  dsimp only [Pt.U, Pt.locs, Pt.cells, Pt.slots] at X12 l12 y12 z12 st12 hQ12
  subst l12 y12 z12
  obtain ⟨rfl, Nq12, Kq12, ft12⟩ := hQ12
  have N12 := Fr.app N11 Nq12
  have Z12 : n0 ≤ T12.heap.size := Nat.le_trans Z11 Kq12.1
  have Eq12 := ft12.1
  obtain ⟨cq13, kq13, q13a, q13b, q13c⟩ := isOf hZ rfl Eq12
  obtain ⟨_, _, ⟨T13, L13, k13, n13⟩, -, X13, ⟨Lc13, hQ13, l13, y13, z13⟩, st13⟩ := X12.virtualBack hx (y := (⟨"com/example/linkwright/linkwright/link/FoundTargets", "add", "(I)V"⟩ : MethodName)) (z := (⟨"com/example/linkwright/linkwright/link/FoundTargets", "add", "(I)V"⟩ : MethodName)) hown (mvT hZ (hw _ (List.mem_of_getElem? (i := 24) rfl))) (mvT hZ (hw _ (List.mem_of_getElem? (i := 25) rfl))) (notFace_of_selects (args := #[]) (mvT hZ (hw _ (List.mem_of_getElem? (i := 27) rfl)))) (mvT hZ (hw _ (List.mem_of_getElem? (i := 27) rfl))) (mvT hZ (hw _ (List.mem_of_getElem? (i := 26) rfl))) (by decide) (backOf (W := 0) (rm4 l Z a0 hw [] b6 v4 ts8 tf8 v1 (1 : Int32) (own_ins ([] : List Int32) v2) T12.heap n0 Z12 g_b6 g_ts8 g_tf8 ne9 ne10 nt8 ft12 hn8 hb_v4 (own_second _ _ _ hb_v2 hb_v4)) hZ (hw _ (List.mem_of_getElem? (i := 28) rfl)) (hw _ (List.mem_of_getElem? (i := 3) rfl)) (by decide) (by decide)) q13a q13c (g := (mkF m 62 #[.val (.int p1), .val (.int p2), .val (.int p3), .val (.int p4), .val (.int v1), .val (.int v2), .val (.int v4), .val (.int v5), .val (.ref b6), .unset, .unset, .unset] [(.int v4), (.ref b6)])) rfl (by rw [hml]; rfl) (Steps.refl _) (argsL := [(.int v4)]) (rest := []) (lenOf own_pd3 rfl) rfl (by show 2 * 0 + _ ≤ _; exact Nat.le_of_eq rfl) (hb hby at_62) (fun _ _ => ⟨rfl, rfl, (by decide : 3 + 0 ≤ _), (by decide : 20 + 0 ≤ _)⟩)
  dsimp only [Pt.U, Pt.locs, Pt.cells, Pt.slots] at X13 l13 y13 z13 st13 hQ13
  subst l13 y13 z13
  obtain ⟨rfl, Nq13, Kq13, ft13⟩ := hQ13
  have N13 := Fr.app N12 Nq13
  have Z13 : n0 ≤ T13.heap.size := Nat.le_trans Z12 Kq13.1
  have Eq13 := ft13.1
  obtain ⟨cq14, kq14, q14a, q14b, q14c⟩ := isOf hZ rfl Eq13
  obtain ⟨_, _, ⟨T14, L14, k14, n14⟩, -, X14, ⟨Lc14, hQ14, l14, y14, z14⟩, st14⟩ := X13.virtualBack hx (y := (⟨"com/example/linkwright/linkwright/link/FoundTargets", "ascending", "()[I"⟩ : MethodName)) (z := (⟨"com/example/linkwright/linkwright/link/FoundTargets", "ascending", "()[I"⟩ : MethodName)) hown (mvT hZ (hw _ (List.mem_of_getElem? (i := 29) rfl))) (mvT hZ (hw _ (List.mem_of_getElem? (i := 30) rfl))) (notFace_of_selects (args := #[]) (mvT hZ (hw _ (List.mem_of_getElem? (i := 32) rfl)))) (mvT hZ (hw _ (List.mem_of_getElem? (i := 32) rfl))) (mvT hZ (hw _ (List.mem_of_getElem? (i := 31) rfl))) (by decide) (backOf (W := 0) (rm5 l Z a0 hw [] b6 ts8 tf8 v1 (1 : Int32) (own_ins (own_ins ([] : List Int32) v2) v4) T13.heap n0 Z13 ne9 ne10 nt8 ft13 hn8) hZ (hw _ (List.mem_of_getElem? (i := 33) rfl)) (hw _ (List.mem_of_getElem? (i := 3) rfl)) (by decide) (by decide)) q14a q14c (g := (mkF m 67 #[.val (.int p1), .val (.int p2), .val (.int p3), .val (.int p4), .val (.int v1), .val (.int v2), .val (.int v4), .val (.int v5), .val (.ref b6), .unset, .unset, .unset] [(.ref b6)])) rfl (by rw [hml]; rfl) (Steps.refl _) (argsL := []) (rest := []) (lenOf own_pd5 rfl) rfl (by show 2 * 0 + _ ≤ _; exact Nat.le_of_eq rfl) (hb hby at_67) (fun _ _ => ⟨rfl, rfl, (by decide : 3 + 1 ≤ _), (by decide : 20 + 16 ≤ _)⟩)
  dsimp only [Pt.U, Pt.locs, Pt.cells, Pt.slots] at X14 l14 y14 z14 st14 hQ14
  subst l14 y14 z14
  obtain ⟨b14, kb14, ys14, rfl, Nq14, Kq14, sq14, Vq14, hp14, hw14⟩ := hQ14
  have N14 := Fr.app N13 Nq14
  have ne15 : b6 ≠ b14 := Nat.ne_of_lt (Nat.lt_of_lt_of_le Eq13.lt sq14)
  have ne16 : ts8 ≠ b14 := own_ne_s ft13 sq14
  have ne17 : tf8 ≠ b14 := own_ne_f ft13 sq14
  have g_b14 : n0 ≤ b14 := Nat.le_trans Z13 sq14
  have Z14 : n0 ≤ T14.heap.size := Nat.le_trans Z13 Kq14.1
  have ft14 := own_ft.keep0 ft13 Kq14
  have go18 : own_go p e below (s₁.setTop (entryFrame m #[(.int p1), (.int p2), (.int p3), (.int p4)] maxLocals)) (T14.setTop (mkF m 74 #[.val (.int p1), .val (.int p2), .val (.int p3), .val (.int p4), .val (.int v1), .val (.int v2), .val (.int v4), .val (.int v5), .val (.ref b6), .val (.ref b14), .unset, .unset] [(.ref b6)])) := by
    intro ttx ktx
    refine go7 ttx ?_
    show Steps p.tables e below (T6.setTop (mkF m 39 #[.val (.int p1), .val (.int p2), .val (.int p3), .val (.int p4), .val (.int v1), .val (.int v2), .val (.int v4), .val (.int v5), .unset, .unset, .unset, .unset] [(.ref b6), (.ref b6)])) _
    refine XS.iload X6.here hx rfl (hb hby at_39) rfl ?_
    show Steps p.tables e below (T6.setTop (mkF m 41 #[.val (.int p1), .val (.int p2), .val (.int p3), .val (.int p4), .val (.int v1), .val (.int v2), .val (.int v4), .val (.int v5), .unset, .unset, .unset, .unset] [(.int v1), (.ref b6), (.ref b6)])) _
    refine st8.trans ?_
    show Steps p.tables e below (T8.setTop (mkF m 44 #[.val (.int p1), .val (.int p2), .val (.int p3), .val (.int p4), .val (.int v1), .val (.int v2), .val (.int v4), .val (.int v5), .unset, .unset, .unset, .unset] [(.ref b6)])) _
    refine XS.astore X8.here hx rfl (hb hby at_44) rfl rfl (l' := #[.val (.int p1), .val (.int p2), .val (.int p3), .val (.int p4), .val (.int v1), .val (.int v2), .val (.int v4), .val (.int v5), .val (.ref b6), .unset, .unset, .unset]) rfl ?_
    show Steps p.tables e below (T8.setTop (mkF m 46 #[.val (.int p1), .val (.int p2), .val (.int p3), .val (.int p4), .val (.int v1), .val (.int v2), .val (.int v4), .val (.int v5), .val (.ref b6), .unset, .unset, .unset] [])) _
    refine XS.aload X8.here hx rfl (hb hby at_46) rfl rfl ?_
    show Steps p.tables e below (T8.setTop (mkF m 48 #[.val (.int p1), .val (.int p2), .val (.int p3), .val (.int p4), .val (.int v1), .val (.int v2), .val (.int v4), .val (.int v5), .val (.ref b6), .unset, .unset, .unset] [(.ref b6)])) _
    refine st11.trans ?_
    show Steps p.tables e below (T11.setTop (mkF m 51 #[.val (.int p1), .val (.int p2), .val (.int p3), .val (.int p4), .val (.int v1), .val (.int v2), .val (.int v4), .val (.int v5), .val (.ref b6), .unset, .unset, .unset] [])) _
    refine XS.aload X11.here hx rfl (hb hby at_51) rfl rfl ?_
    show Steps p.tables e below (T11.setTop (mkF m 53 #[.val (.int p1), .val (.int p2), .val (.int p3), .val (.int p4), .val (.int v1), .val (.int v2), .val (.int v4), .val (.int v5), .val (.ref b6), .unset, .unset, .unset] [(.ref b6)])) _
    refine XS.iload X11.here hx rfl (hb hby at_53) rfl ?_
    show Steps p.tables e below (T11.setTop (mkF m 55 #[.val (.int p1), .val (.int p2), .val (.int p3), .val (.int p4), .val (.int v1), .val (.int v2), .val (.int v4), .val (.int v5), .val (.ref b6), .unset, .unset, .unset] [(.int v2), (.ref b6)])) _
    refine st12.trans ?_
    show Steps p.tables e below (T12.setTop (mkF m 58 #[.val (.int p1), .val (.int p2), .val (.int p3), .val (.int p4), .val (.int v1), .val (.int v2), .val (.int v4), .val (.int v5), .val (.ref b6), .unset, .unset, .unset] [])) _
    refine XS.aload X12.here hx rfl (hb hby at_58) rfl rfl ?_
    show Steps p.tables e below (T12.setTop (mkF m 60 #[.val (.int p1), .val (.int p2), .val (.int p3), .val (.int p4), .val (.int v1), .val (.int v2), .val (.int v4), .val (.int v5), .val (.ref b6), .unset, .unset, .unset] [(.ref b6)])) _
    refine XS.iload X12.here hx rfl (hb hby at_60) rfl ?_
    show Steps p.tables e below (T12.setTop (mkF m 62 #[.val (.int p1), .val (.int p2), .val (.int p3), .val (.int p4), .val (.int v1), .val (.int v2), .val (.int v4), .val (.int v5), .val (.ref b6), .unset, .unset, .unset] [(.int v4), (.ref b6)])) _
    refine st13.trans ?_
    show Steps p.tables e below (T13.setTop (mkF m 65 #[.val (.int p1), .val (.int p2), .val (.int p3), .val (.int p4), .val (.int v1), .val (.int v2), .val (.int v4), .val (.int v5), .val (.ref b6), .unset, .unset, .unset] [])) _
    refine XS.aload X13.here hx rfl (hb hby at_65) rfl rfl ?_
    show Steps p.tables e below (T13.setTop (mkF m 67 #[.val (.int p1), .val (.int p2), .val (.int p3), .val (.int p4), .val (.int v1), .val (.int v2), .val (.int v4), .val (.int v5), .val (.ref b6), .unset, .unset, .unset] [(.ref b6)])) _
    refine st14.trans ?_
    show Steps p.tables e below (T14.setTop (mkF m 70 #[.val (.int p1), .val (.int p2), .val (.int p3), .val (.int p4), .val (.int v1), .val (.int v2), .val (.int v4), .val (.int v5), .val (.ref b6), .unset, .unset, .unset] [(.ref b14)])) _
    refine XS.astore X14.here hx rfl (hb hby at_70) rfl rfl (l' := #[.val (.int p1), .val (.int p2), .val (.int p3), .val (.int p4), .val (.int v1), .val (.int v2), .val (.int v4), .val (.int v5), .val (.ref b6), .val (.ref b14), .unset, .unset]) rfl ?_
    show Steps p.tables e below (T14.setTop (mkF m 72 #[.val (.int p1), .val (.int p2), .val (.int p3), .val (.int p4), .val (.int v1), .val (.int v2), .val (.int v4), .val (.int v5), .val (.ref b6), .val (.ref b14), .unset, .unset] [])) _
    refine XS.aload X14.here hx rfl (hb hby at_72) rfl rfl ?_
    exact ktx
  have f20 := (Eq13.keep Kq14)
  obtain ⟨cq19, kq19, q19a, q19b, q19c⟩ := isOf hZ rfl f20
  obtain ⟨_, _, ⟨T19, L19, k19, n19⟩, -, X19, ⟨Lc19, hQ19, l19, y19, z19⟩, st19⟩ := X14.virtualBack hx (y := (⟨"com/example/linkwright/linkwright/link/FoundTargets", "start", "()V"⟩ : MethodName)) (z := (⟨"com/example/linkwright/linkwright/link/FoundTargets", "start", "()V"⟩ : MethodName)) hown (mvT hZ (hw _ (List.mem_of_getElem? (i := 15) rfl))) (mvT hZ (hw _ (List.mem_of_getElem? (i := 16) rfl))) (notFace_of_selects (args := #[]) (mvT hZ (hw _ (List.mem_of_getElem? (i := 18) rfl)))) (mvT hZ (hw _ (List.mem_of_getElem? (i := 18) rfl))) (mvT hZ (hw _ (List.mem_of_getElem? (i := 17) rfl))) (by decide) (backOf (W := 0) (rm3 l Z a0 hw [] b6 ts8 tf8 v1 (1 : Int32) T14.heap n0 Z14 g_b6 ne9 ne10 nt8 ft14.fb (by decide) hn0) hZ (hw _ (List.mem_of_getElem? (i := 19) rfl)) (hw _ (List.mem_of_getElem? (i := 3) rfl)) (by decide) (by decide)) q19a q19c (g := (mkF m 74 #[.val (.int p1), .val (.int p2), .val (.int p3), .val (.int p4), .val (.int v1), .val (.int v2), .val (.int v4), .val (.int v5), .val (.ref b6), .val (.ref b14), .unset, .unset] [(.ref b6)])) rfl (by rw [hml]; rfl) (Steps.refl _) (argsL := []) (rest := []) (lenOf own_pd4 rfl) rfl (by show 2 * 0 + _ ≤ _; exact Nat.le_of_eq rfl) (hb hby at_74) (fun _ _ => ⟨rfl, rfl, (by decide : 4 + 0 ≤ _), (by decide : 36 + 0 ≤ _)⟩)
  dsimp only [Pt.U, Pt.locs, Pt.cells, Pt.slots] at X19 l19 y19 z19 st19 hQ19
  subst l19 y19 z19
  obtain ⟨rfl, Nq19, Kq19, fq19⟩ := hQ19
  have N19 := Fr.app N14 Nq19
  have Z19 : n0 ≤ T19.heap.size := Nat.le_trans Z14 Kq19.1
  have ft19 : own_ft Z T19.heap b6 ts8 tf8 v1 (2 : Int32) [] := fq19
  have Eq19 := ft19.1
  obtain ⟨cq21, kq21, q21a, q21b, q21c⟩ := isOf hZ rfl Eq19
  obtain ⟨_, _, ⟨T21, L21, k21, n21⟩, -, X21, ⟨Lc21, hQ21, l21, y21, z21⟩, st21⟩ := X19.virtualBack hx (y := (⟨"com/example/linkwright/linkwright/link/FoundTargets", "ascending", "()[I"⟩ : MethodName)) (z := (⟨"com/example/linkwright/linkwright/link/FoundTargets", "ascending", "()[I"⟩ : MethodName)) hown (mvT hZ (hw _ (List.mem_of_getElem? (i := 29) rfl))) (mvT hZ (hw _ (List.mem_of_getElem? (i := 30) rfl))) (notFace_of_selects (args := #[]) (mvT hZ (hw _ (List.mem_of_getElem? (i := 32) rfl)))) (mvT hZ (hw _ (List.mem_of_getElem? (i := 32) rfl))) (mvT hZ (hw _ (List.mem_of_getElem? (i := 31) rfl))) (by decide) (backOf (W := 0) (rm5 l Z a0 hw [] b6 ts8 tf8 v1 (2 : Int32) ([] : List Int32) T19.heap n0 Z19 ne9 ne10 nt8 ft19 hn8) hZ (hw _ (List.mem_of_getElem? (i := 33) rfl)) (hw _ (List.mem_of_getElem? (i := 3) rfl)) (by decide) (by decide)) q21a q21c (g := (mkF m 79 #[.val (.int p1), .val (.int p2), .val (.int p3), .val (.int p4), .val (.int v1), .val (.int v2), .val (.int v4), .val (.int v5), .val (.ref b6), .val (.ref b14), .unset, .unset] [(.ref b6)])) rfl (by rw [hml]; rfl) (Steps.refl _) (argsL := []) (rest := []) (lenOf own_pd5 rfl) rfl (by show 2 * 0 + _ ≤ _; exact Nat.le_of_eq rfl) (hb hby at_79) (fun _ _ => ⟨rfl, rfl, (by decide : 4 + 1 ≤ _), (by decide : 36 + 16 ≤ _)⟩)
  dsimp only [Pt.U, Pt.locs, Pt.cells, Pt.slots] at X21 l21 y21 z21 st21 hQ21
  subst l21 y21 z21
  obtain ⟨b21, kb21, ys21, rfl, Nq21, Kq21, sq21, Vq21, hp21, hw21⟩ := hQ21
  have N21 := Fr.app N19 Nq21
  have ne22 : b6 ≠ b21 := Nat.ne_of_lt (Nat.lt_of_lt_of_le Eq19.lt sq21)
  have f24 := (Vq14.keep Kq19 (ninS (Ne.symm ne15) nin0))
  have ne23 : b14 ≠ b21 := Nat.ne_of_lt (Nat.lt_of_lt_of_le f24.lt sq21)
  have ne25 : ts8 ≠ b21 := own_ne_s ft19 sq21
  have ne26 : tf8 ≠ b21 := own_ne_f ft19 sq21
  have g_b21 : n0 ≤ b21 := Nat.le_trans Z19 sq21
  have Z21 : n0 ≤ T21.heap.size := Nat.le_trans Z19 Kq21.1
  have ft21 := own_ft.keep0 ft19 Kq21
  have f28 := (Eq19.keep Kq21)
  obtain ⟨cq27, kq27, q27a, q27b, q27c⟩ := isOf hZ rfl f28
  obtain ⟨_, _, ⟨T27, L27, k27, n27⟩, -, X27, ⟨Lc27, hQ27, l27, y27, z27⟩, st27⟩ := X21.virtualBack hx (y := (⟨"com/example/linkwright/linkwright/link/FoundTargets", "add", "(I)V"⟩ : MethodName)) (z := (⟨"com/example/linkwright/linkwright/link/FoundTargets", "add", "(I)V"⟩ : MethodName)) hown (mvT hZ (hw _ (List.mem_of_getElem? (i := 24) rfl))) (mvT hZ (hw _ (List.mem_of_getElem? (i := 25) rfl))) (notFace_of_selects (args := #[]) (mvT hZ (hw _ (List.mem_of_getElem? (i := 27) rfl)))) (mvT hZ (hw _ (List.mem_of_getElem? (i := 27) rfl))) (mvT hZ (hw _ (List.mem_of_getElem? (i := 26) rfl))) (by decide) (backOf (W := 0) (rm4 l Z a0 hw [] b6 v4 ts8 tf8 v1 (2 : Int32) ([] : List Int32) T21.heap n0 Z21 g_b6 g_ts8 g_tf8 ne9 ne10 nt8 ft21 hn8 hb_v4 (fun _ => by simp; omega)) hZ (hw _ (List.mem_of_getElem? (i := 28) rfl)) (hw _ (List.mem_of_getElem? (i := 3) rfl)) (by decide) (by decide)) q27a q27c (g := (mkF m 88 #[.val (.int p1), .val (.int p2), .val (.int p3), .val (.int p4), .val (.int v1), .val (.int v2), .val (.int v4), .val (.int v5), .val (.ref b6), .val (.ref b14), .val (.ref b21), .unset] [(.int v4), (.ref b6)])) rfl (by rw [hml]; rfl) (Steps.refl _) (argsL := [(.int v4)]) (rest := []) (lenOf own_pd3 rfl) rfl (by show 2 * 0 + _ ≤ _; exact Nat.le_of_eq rfl) (hb hby at_88) (fun _ _ => ⟨rfl, rfl, (by decide : 5 + 0 ≤ _), (by decide : 52 + 0 ≤ _)⟩)
  dsimp only [Pt.U, Pt.locs, Pt.cells, Pt.slots] at X27 l27 y27 z27 st27 hQ27
  subst l27 y27 z27
  obtain ⟨rfl, Nq27, Kq27, ft27⟩ := hQ27
  have N27 := Fr.app N21 Nq27
  have Z27 : n0 ≤ T27.heap.size := Nat.le_trans Z21 Kq27.1
  have Eq27 := ft27.1
  obtain ⟨cq29, kq29, q29a, q29b, q29c⟩ := isOf hZ rfl Eq27
  obtain ⟨_, _, ⟨T29, L29, k29, n29⟩, -, X29, ⟨Lc29, hQ29, l29, y29, z29⟩, st29⟩ := X27.virtualBack hx (y := (⟨"com/example/linkwright/linkwright/link/FoundTargets", "add", "(I)V"⟩ : MethodName)) (z := (⟨"com/example/linkwright/linkwright/link/FoundTargets", "add", "(I)V"⟩ : MethodName)) hown (mvT hZ (hw _ (List.mem_of_getElem? (i := 24) rfl))) (mvT hZ (hw _ (List.mem_of_getElem? (i := 25) rfl))) (notFace_of_selects (args := #[]) (mvT hZ (hw _ (List.mem_of_getElem? (i := 27) rfl)))) (mvT hZ (hw _ (List.mem_of_getElem? (i := 27) rfl))) (mvT hZ (hw _ (List.mem_of_getElem? (i := 26) rfl))) (by decide) (backOf (W := 0) (rm4 l Z a0 hw [] b6 v5 ts8 tf8 v1 (2 : Int32) (own_ins ([] : List Int32) v4) T27.heap n0 Z27 g_b6 g_ts8 g_tf8 ne9 ne10 nt8 ft27 hn8 hb_v5 (own_second _ _ _ hb_v4 hb_v5)) hZ (hw _ (List.mem_of_getElem? (i := 28) rfl)) (hw _ (List.mem_of_getElem? (i := 3) rfl)) (by decide) (by decide)) q29a q29c (g := (mkF m 95 #[.val (.int p1), .val (.int p2), .val (.int p3), .val (.int p4), .val (.int v1), .val (.int v2), .val (.int v4), .val (.int v5), .val (.ref b6), .val (.ref b14), .val (.ref b21), .unset] [(.int v5), (.ref b6)])) rfl (by rw [hml]; rfl) (Steps.refl _) (argsL := [(.int v5)]) (rest := []) (lenOf own_pd3 rfl) rfl (by show 2 * 0 + _ ≤ _; exact Nat.le_of_eq rfl) (hb hby at_95) (fun _ _ => ⟨rfl, rfl, (by decide : 5 + 0 ≤ _), (by decide : 52 + 0 ≤ _)⟩)
  dsimp only [Pt.U, Pt.locs, Pt.cells, Pt.slots] at X29 l29 y29 z29 st29 hQ29
  subst l29 y29 z29
  obtain ⟨rfl, Nq29, Kq29, ft29⟩ := hQ29
  have N29 := Fr.app N27 Nq29
  have Z29 : n0 ≤ T29.heap.size := Nat.le_trans Z27 Kq29.1
  have Eq29 := ft29.1
  obtain ⟨cq30, kq30, q30a, q30b, q30c⟩ := isOf hZ rfl Eq29
  obtain ⟨_, _, ⟨T30, L30, k30, n30⟩, -, X30, ⟨Lc30, hQ30, l30, y30, z30⟩, st30⟩ := X29.virtualBack hx (y := (⟨"com/example/linkwright/linkwright/link/FoundTargets", "ascending", "()[I"⟩ : MethodName)) (z := (⟨"com/example/linkwright/linkwright/link/FoundTargets", "ascending", "()[I"⟩ : MethodName)) hown (mvT hZ (hw _ (List.mem_of_getElem? (i := 29) rfl))) (mvT hZ (hw _ (List.mem_of_getElem? (i := 30) rfl))) (notFace_of_selects (args := #[]) (mvT hZ (hw _ (List.mem_of_getElem? (i := 32) rfl)))) (mvT hZ (hw _ (List.mem_of_getElem? (i := 32) rfl))) (mvT hZ (hw _ (List.mem_of_getElem? (i := 31) rfl))) (by decide) (backOf (W := 0) (rm5 l Z a0 hw [] b6 ts8 tf8 v1 (2 : Int32) (own_ins (own_ins ([] : List Int32) v4) v5) T29.heap n0 Z29 ne9 ne10 nt8 ft29 hn8) hZ (hw _ (List.mem_of_getElem? (i := 33) rfl)) (hw _ (List.mem_of_getElem? (i := 3) rfl)) (by decide) (by decide)) q30a q30c (g := (mkF m 100 #[.val (.int p1), .val (.int p2), .val (.int p3), .val (.int p4), .val (.int v1), .val (.int v2), .val (.int v4), .val (.int v5), .val (.ref b6), .val (.ref b14), .val (.ref b21), .unset] [(.ref b6)])) rfl (by rw [hml]; rfl) (Steps.refl _) (argsL := []) (rest := []) (lenOf own_pd5 rfl) rfl (by show 2 * 0 + _ ≤ _; exact Nat.le_of_eq rfl) (hb hby at_100) (fun _ _ => ⟨rfl, rfl, (by decide : 5 + 1 ≤ _), (by decide : 52 + 16 ≤ _)⟩)
  dsimp only [Pt.U, Pt.locs, Pt.cells, Pt.slots] at X30 l30 y30 z30 st30 hQ30
  subst l30 y30 z30
  obtain ⟨b30, kb30, ys30, rfl, Nq30, Kq30, sq30, Vq30, hp30, hw30⟩ := hQ30
  have N30 := Fr.app N29 Nq30
  have ne31 : b6 ≠ b30 := Nat.ne_of_lt (Nat.lt_of_lt_of_le Eq29.lt sq30)
  have f33 := (((f24.keep Kq21 nin0).keep Kq27 (ninS (Ne.symm ne15) (ninS (Ne.symm ne16) (ninS (Ne.symm ne17) nin0)))).keep Kq29 (ninS (Ne.symm ne15) (ninS (Ne.symm ne16) (ninS (Ne.symm ne17) nin0))))
  have ne32 : b14 ≠ b30 := Nat.ne_of_lt (Nat.lt_of_lt_of_le f33.lt sq30)
  have f35 := ((Vq21.keep Kq27 (ninS (Ne.symm ne22) (ninS (Ne.symm ne25) (ninS (Ne.symm ne26) nin0)))).keep Kq29 (ninS (Ne.symm ne22) (ninS (Ne.symm ne25) (ninS (Ne.symm ne26) nin0))))
  have ne34 : b21 ≠ b30 := Nat.ne_of_lt (Nat.lt_of_lt_of_le f35.lt sq30)
  have ne36 : ts8 ≠ b30 := own_ne_s ft29 sq30
  have ne37 : tf8 ≠ b30 := own_ne_f ft29 sq30
  have g_b30 : n0 ≤ b30 := Nat.le_trans Z29 sq30
  have Z30 : n0 ≤ T30.heap.size := Nat.le_trans Z29 Kq30.1
  have ft30 := own_ft.keep0 ft29 Kq30
  have go38 : own_go p e below (s₁.setTop (entryFrame m #[(.int p1), (.int p2), (.int p3), (.int p4)] maxLocals)) (T30.setTop (mkF m 109 #[.val (.int p1), .val (.int p2), .val (.int p3), .val (.int p4), .val (.int v1), .val (.int v2), .val (.int v4), .val (.int v5), .val (.ref b6), .val (.ref b14), .val (.ref b21), .val (.ref b30)] [(.int v2), (.ref b14)])) := by
    intro ttx ktx
    refine go18 ttx ?_
    show Steps p.tables e below (T14.setTop (mkF m 74 #[.val (.int p1), .val (.int p2), .val (.int p3), .val (.int p4), .val (.int v1), .val (.int v2), .val (.int v4), .val (.int v5), .val (.ref b6), .val (.ref b14), .unset, .unset] [(.ref b6)])) _
    refine st19.trans ?_
    show Steps p.tables e below (T19.setTop (mkF m 77 #[.val (.int p1), .val (.int p2), .val (.int p3), .val (.int p4), .val (.int v1), .val (.int v2), .val (.int v4), .val (.int v5), .val (.ref b6), .val (.ref b14), .unset, .unset] [])) _
    refine XS.aload X19.here hx rfl (hb hby at_77) rfl rfl ?_
    show Steps p.tables e below (T19.setTop (mkF m 79 #[.val (.int p1), .val (.int p2), .val (.int p3), .val (.int p4), .val (.int v1), .val (.int v2), .val (.int v4), .val (.int v5), .val (.ref b6), .val (.ref b14), .unset, .unset] [(.ref b6)])) _
    refine st21.trans ?_
    show Steps p.tables e below (T21.setTop (mkF m 82 #[.val (.int p1), .val (.int p2), .val (.int p3), .val (.int p4), .val (.int v1), .val (.int v2), .val (.int v4), .val (.int v5), .val (.ref b6), .val (.ref b14), .unset, .unset] [(.ref b21)])) _
    refine XS.astore X21.here hx rfl (hb hby at_82) rfl rfl (l' := #[.val (.int p1), .val (.int p2), .val (.int p3), .val (.int p4), .val (.int v1), .val (.int v2), .val (.int v4), .val (.int v5), .val (.ref b6), .val (.ref b14), .val (.ref b21), .unset]) rfl ?_
    show Steps p.tables e below (T21.setTop (mkF m 84 #[.val (.int p1), .val (.int p2), .val (.int p3), .val (.int p4), .val (.int v1), .val (.int v2), .val (.int v4), .val (.int v5), .val (.ref b6), .val (.ref b14), .val (.ref b21), .unset] [])) _
    refine XS.aload X21.here hx rfl (hb hby at_84) rfl rfl ?_
    show Steps p.tables e below (T21.setTop (mkF m 86 #[.val (.int p1), .val (.int p2), .val (.int p3), .val (.int p4), .val (.int v1), .val (.int v2), .val (.int v4), .val (.int v5), .val (.ref b6), .val (.ref b14), .val (.ref b21), .unset] [(.ref b6)])) _
    refine XS.iload X21.here hx rfl (hb hby at_86) rfl ?_
    show Steps p.tables e below (T21.setTop (mkF m 88 #[.val (.int p1), .val (.int p2), .val (.int p3), .val (.int p4), .val (.int v1), .val (.int v2), .val (.int v4), .val (.int v5), .val (.ref b6), .val (.ref b14), .val (.ref b21), .unset] [(.int v4), (.ref b6)])) _
    refine st27.trans ?_
    show Steps p.tables e below (T27.setTop (mkF m 91 #[.val (.int p1), .val (.int p2), .val (.int p3), .val (.int p4), .val (.int v1), .val (.int v2), .val (.int v4), .val (.int v5), .val (.ref b6), .val (.ref b14), .val (.ref b21), .unset] [])) _
    refine XS.aload X27.here hx rfl (hb hby at_91) rfl rfl ?_
    show Steps p.tables e below (T27.setTop (mkF m 93 #[.val (.int p1), .val (.int p2), .val (.int p3), .val (.int p4), .val (.int v1), .val (.int v2), .val (.int v4), .val (.int v5), .val (.ref b6), .val (.ref b14), .val (.ref b21), .unset] [(.ref b6)])) _
    refine XS.iload X27.here hx rfl (hb hby at_93) rfl ?_
    show Steps p.tables e below (T27.setTop (mkF m 95 #[.val (.int p1), .val (.int p2), .val (.int p3), .val (.int p4), .val (.int v1), .val (.int v2), .val (.int v4), .val (.int v5), .val (.ref b6), .val (.ref b14), .val (.ref b21), .unset] [(.int v5), (.ref b6)])) _
    refine st29.trans ?_
    show Steps p.tables e below (T29.setTop (mkF m 98 #[.val (.int p1), .val (.int p2), .val (.int p3), .val (.int p4), .val (.int v1), .val (.int v2), .val (.int v4), .val (.int v5), .val (.ref b6), .val (.ref b14), .val (.ref b21), .unset] [])) _
    refine XS.aload X29.here hx rfl (hb hby at_98) rfl rfl ?_
    show Steps p.tables e below (T29.setTop (mkF m 100 #[.val (.int p1), .val (.int p2), .val (.int p3), .val (.int p4), .val (.int v1), .val (.int v2), .val (.int v4), .val (.int v5), .val (.ref b6), .val (.ref b14), .val (.ref b21), .unset] [(.ref b6)])) _
    refine st30.trans ?_
    show Steps p.tables e below (T30.setTop (mkF m 103 #[.val (.int p1), .val (.int p2), .val (.int p3), .val (.int p4), .val (.int v1), .val (.int v2), .val (.int v4), .val (.int v5), .val (.ref b6), .val (.ref b14), .val (.ref b21), .unset] [(.ref b30)])) _
    refine XS.astore X30.here hx rfl (hb hby at_103) rfl rfl (l' := #[.val (.int p1), .val (.int p2), .val (.int p3), .val (.int p4), .val (.int v1), .val (.int v2), .val (.int v4), .val (.int v5), .val (.ref b6), .val (.ref b14), .val (.ref b21), .val (.ref b30)]) rfl ?_
    show Steps p.tables e below (T30.setTop (mkF m 105 #[.val (.int p1), .val (.int p2), .val (.int p3), .val (.int p4), .val (.int v1), .val (.int v2), .val (.int v4), .val (.int v5), .val (.ref b6), .val (.ref b14), .val (.ref b21), .val (.ref b30)] [])) _
    refine XS.aload X30.here hx rfl (hb hby at_105) rfl rfl ?_
    show Steps p.tables e below (T30.setTop (mkF m 107 #[.val (.int p1), .val (.int p2), .val (.int p3), .val (.int p4), .val (.int v1), .val (.int v2), .val (.int v4), .val (.int v5), .val (.ref b6), .val (.ref b14), .val (.ref b21), .val (.ref b30)] [(.ref b14)])) _
    refine XS.iload X30.here hx rfl (hb hby at_107) rfl ?_
    exact ktx
  have f40 := (f33.keep Kq30 nin0)
  obtain ⟨_, _, ⟨T39, L39, k39, n39⟩, -, X39, ⟨Lc39, hQ39, l39, y39, z39⟩, st39⟩ := Jvm.LawKit.callS X30 hx (y := (⟨"com/example/linkwright/linkwright/link/FoundTargetsStartPinLaw", "isSet", "([III)Z"⟩ : MethodName)) hown (mvT hZ (hw _ (List.mem_of_getElem? (i := 68) rfl))) (mvT hZ (hw _ (List.mem_of_getElem? (i := 69) rfl))) (mvT hZ (hw _ (List.mem_of_getElem? (i := 70) rfl))) (mvT hZ (hw _ (List.mem_of_getElem? (i := 71) rfl))) (by decide) (backOf (W := 0) (rm12 l Z a0 hw [] b14 v2 v4 kb14 (Int32.ofNat (own_ins (own_ins ([] : List Int32) v2) v4).length) ys14 T30.heap n0 Z30 f40 (own_isE _ _ _ hp14) (own_isD _ _ _ hp14 hw14)) hZ (hw _ (List.mem_of_getElem? (i := 71) rfl)) (hw _ (List.mem_of_getElem? (i := 70) rfl)) (by decide) (by decide)) (g := (mkF m 111 #[.val (.int p1), .val (.int p2), .val (.int p3), .val (.int p4), .val (.int v1), .val (.int v2), .val (.int v4), .val (.int v5), .val (.ref b6), .val (.ref b14), .val (.ref b21), .val (.ref b30)] [(.int v4), (.int v2), (.ref b14)])) rfl (by rw [hml]; rfl) (argsL := [(.ref b14), (.int v2), (.int v4)]) (rest := []) (lenOf own_pd6 rfl) rfl (by show 2 * 0 + _ ≤ _; exact Nat.le_of_eq rfl) (hb hby at_111) (fun _ _ => ⟨rfl, rfl, (by decide : 6 + 0 ≤ _), (by decide : 68 + 0 ≤ _)⟩)
  dsimp only [Pt.U, Pt.locs, Pt.cells, Pt.slots] at X39 l39 y39 z39 st39 hQ39
  subst l39 y39 z39
  obtain ⟨rfl, Nq39, e39⟩ := hQ39
  have N39 := Fr.app N30 Nq39
  have hc41_114 : ¬ ((1 : Int32) = (0 : Int32)) := (by decide)
  have f42 := (f35.keep Kq30 nin0)
  obtain ⟨cl43, Ar43, -, S43, M43, -, -⟩ := id f42
  have hc44_120 : (Int32.ofNat ([] : List Int32).length) = (0 : Int32) := rfl
  obtain ⟨_, _, ⟨T45, L45, k45, n45⟩, -, X45, ⟨Lc45, hQ45, l45, y45, z45⟩, st45⟩ := Jvm.LawKit.callS X39 hx (y := (⟨"com/example/linkwright/linkwright/link/FoundTargetsStartPinLaw", "isSet", "([III)Z"⟩ : MethodName)) hown (mvT hZ (hw _ (List.mem_of_getElem? (i := 68) rfl))) (mvT hZ (hw _ (List.mem_of_getElem? (i := 69) rfl))) (mvT hZ (hw _ (List.mem_of_getElem? (i := 70) rfl))) (mvT hZ (hw _ (List.mem_of_getElem? (i := 71) rfl))) (by decide) (backOf (W := 0) (rm12 l Z a0 hw [] b30 v4 v5 kb30 (Int32.ofNat (own_ins (own_ins ([] : List Int32) v4) v5).length) ys30 T30.heap n0 Z30 Vq30 (own_isE _ _ _ hp30) (own_isD _ _ _ hp30 hw30)) hZ (hw _ (List.mem_of_getElem? (i := 71) rfl)) (hw _ (List.mem_of_getElem? (i := 70) rfl)) (by decide) (by decide)) (g := (mkF m 129 #[.val (.int p1), .val (.int p2), .val (.int p3), .val (.int p4), .val (.int v1), .val (.int v2), .val (.int v4), .val (.int v5), .val (.ref b6), .val (.ref b14), .val (.ref b21), .val (.ref b30)] [(.int v5), (.int v4), (.ref b30)])) rfl (by rw [hml]; rfl) (argsL := [(.ref b30), (.int v4), (.int v5)]) (rest := []) (lenOf own_pd6 rfl) rfl (by show 2 * 0 + _ ≤ _; exact Nat.le_of_eq rfl) (hb hby at_129) (fun _ _ => ⟨rfl, e39, (by decide : 6 + 0 ≤ _), (by decide : 68 + 0 ≤ _)⟩)
  dsimp only [Pt.U, Pt.locs, Pt.cells, Pt.slots] at X45 l45 y45 z45 st45 hQ45
  subst l45 y45 z45
  obtain ⟨rfl, Nq45, e45⟩ := hQ45
  have N45 := Fr.app N39 Nq45
  have hc46_132 : ¬ ((1 : Int32) = (0 : Int32)) := (by decide)
  have go47 : own_go p e below (s₁.setTop (entryFrame m #[(.int p1), (.int p2), (.int p3), (.int p4)] maxLocals)) (T45.setTop (mkF m 140 #[.val (.int p1), .val (.int p2), .val (.int p3), .val (.int p4), .val (.int v1), .val (.int v2), .val (.int v4), .val (.int v5), .val (.ref b6), .val (.ref b14), .val (.ref b21), .val (.ref b30)] [(.int (1 : Int32))])) := by
    intro ttx ktx
    refine go38 ttx ?_
    show Steps p.tables e below (T30.setTop (mkF m 109 #[.val (.int p1), .val (.int p2), .val (.int p3), .val (.int p4), .val (.int v1), .val (.int v2), .val (.int v4), .val (.int v5), .val (.ref b6), .val (.ref b14), .val (.ref b21), .val (.ref b30)] [(.int v2), (.ref b14)])) _
    refine XS.iload X30.here hx rfl (hb hby at_109) rfl ?_
    show Steps p.tables e below (T30.setTop (mkF m 111 #[.val (.int p1), .val (.int p2), .val (.int p3), .val (.int p4), .val (.int v1), .val (.int v2), .val (.int v4), .val (.int v5), .val (.ref b6), .val (.ref b14), .val (.ref b21), .val (.ref b30)] [(.int v4), (.int v2), (.ref b14)])) _
    refine st39 _ ?_
    show Steps p.tables e below (T39.setTop (mkF m 114 #[.val (.int p1), .val (.int p2), .val (.int p3), .val (.int p4), .val (.int v1), .val (.int v2), .val (.int v4), .val (.int v5), .val (.ref b6), .val (.ref b14), .val (.ref b21), .val (.ref b30)] [(.int (1 : Int32))])) _
    refine XS.ifNo X39.here hx rfl (hb hby at_114) rfl ((if0 _ _).trans (feq hc41_114).1) ?_
    show Steps p.tables e below (T39.setTop (mkF m 117 #[.val (.int p1), .val (.int p2), .val (.int p3), .val (.int p4), .val (.int v1), .val (.int v2), .val (.int v4), .val (.int v5), .val (.ref b6), .val (.ref b14), .val (.ref b21), .val (.ref b30)] [])) _
    refine XS.aload X39.here hx rfl (hb hby at_117) rfl rfl ?_
    show Steps p.tables e below (T39.setTop (mkF m 119 #[.val (.int p1), .val (.int p2), .val (.int p3), .val (.int p4), .val (.int v1), .val (.int v2), .val (.int v4), .val (.int v5), .val (.ref b6), .val (.ref b14), .val (.ref b21), .val (.ref b30)] [(.ref b21)])) _
    refine X39.arraylength hx (own_hp e39 Ar43.1) (State.isArrayOf_alike hZ.alike Ar43.2.1) (g := (mkF m 119 #[.val (.int p1), .val (.int p2), .val (.int p3), .val (.int p4), .val (.int v1), .val (.int v2), .val (.int v4), .val (.int v5), .val (.ref b6), .val (.ref b14), .val (.ref b21), .val (.ref b30)] [(.ref b21)])) rfl rfl (hb hby at_119) _ ?_
    rw [len_of S43 M43]
    show Steps p.tables e below (T39.setTop (mkF m 120 #[.val (.int p1), .val (.int p2), .val (.int p3), .val (.int p4), .val (.int v1), .val (.int v2), .val (.int v4), .val (.int v5), .val (.ref b6), .val (.ref b14), .val (.ref b21), .val (.ref b30)] [(.int (Int32.ofNat ([] : List Int32).length))])) _
    refine XS.ifNo X39.here hx rfl (hb hby at_120) rfl ((if0 _ _).trans (teq hc44_120).2) ?_
    show Steps p.tables e below (T39.setTop (mkF m 123 #[.val (.int p1), .val (.int p2), .val (.int p3), .val (.int p4), .val (.int v1), .val (.int v2), .val (.int v4), .val (.int v5), .val (.ref b6), .val (.ref b14), .val (.ref b21), .val (.ref b30)] [])) _
    refine XS.aload X39.here hx rfl (hb hby at_123) rfl rfl ?_
    show Steps p.tables e below (T39.setTop (mkF m 125 #[.val (.int p1), .val (.int p2), .val (.int p3), .val (.int p4), .val (.int v1), .val (.int v2), .val (.int v4), .val (.int v5), .val (.ref b6), .val (.ref b14), .val (.ref b21), .val (.ref b30)] [(.ref b30)])) _
    refine XS.iload X39.here hx rfl (hb hby at_125) rfl ?_
    show Steps p.tables e below (T39.setTop (mkF m 127 #[.val (.int p1), .val (.int p2), .val (.int p3), .val (.int p4), .val (.int v1), .val (.int v2), .val (.int v4), .val (.int v5), .val (.ref b6), .val (.ref b14), .val (.ref b21), .val (.ref b30)] [(.int v4), (.ref b30)])) _
    refine XS.iload X39.here hx rfl (hb hby at_127) rfl ?_
    show Steps p.tables e below (T39.setTop (mkF m 129 #[.val (.int p1), .val (.int p2), .val (.int p3), .val (.int p4), .val (.int v1), .val (.int v2), .val (.int v4), .val (.int v5), .val (.ref b6), .val (.ref b14), .val (.ref b21), .val (.ref b30)] [(.int v5), (.int v4), (.ref b30)])) _
    refine st45 _ ?_
    show Steps p.tables e below (T45.setTop (mkF m 132 #[.val (.int p1), .val (.int p2), .val (.int p3), .val (.int p4), .val (.int v1), .val (.int v2), .val (.int v4), .val (.int v5), .val (.ref b6), .val (.ref b14), .val (.ref b21), .val (.ref b30)] [(.int (1 : Int32))])) _
    refine XS.ifNo X45.here hx rfl (hb hby at_132) rfl ((if0 _ _).trans (feq hc46_132).1) ?_
    show Steps p.tables e below (T45.setTop (mkF m 135 #[.val (.int p1), .val (.int p2), .val (.int p3), .val (.int p4), .val (.int v1), .val (.int v2), .val (.int v4), .val (.int v5), .val (.ref b6), .val (.ref b14), .val (.ref b21), .val (.ref b30)] [])) _
    refine XS.iconst X45.here hx rfl (hb hby at_135) ?_
    show Steps p.tables e below (T45.setTop (mkF m 136 #[.val (.int p1), .val (.int p2), .val (.int p3), .val (.int p4), .val (.int v1), .val (.int v2), .val (.int v4), .val (.int v5), .val (.ref b6), .val (.ref b14), .val (.ref b21), .val (.ref b30)] [(.int (1 : Int32))])) _
    refine XS.goto X45.here hx rfl (pc0 := 136) (pc' := 140) rfl (hb hby at_136) (by decide) (by decide) ?_
    exact ktx
  obtain ⟨fs, hr, hrun, hended, hW, hsame⟩ := X45.leave (v := some (.int (1 : Int32))) (fun h => by rw [Bd.returns] at h; cases h)
  refine ⟨_, _, go47 _ ?_, hrun, hended, _, _, rfl, ?_, ⟨_, rfl⟩, hW, hsame.mono (by decide) (by decide)⟩
  · exact retN X45 hx (t := .boolean) Bd.returns (by simp) (hb hby at_140) hr
  · show Q0 Z p1 p2 p3 p4 h0 n0 _ T45.heap _
    rw [e45]
    exact ⟨rfl, N45⟩
set_option maxRecDepth 65536 in
set_option maxHeartbeats 40000000 in
theorem comes_1 {Post : Tables → Env → Array Value → State → Outcome → State → Prop} (hpost : ∀ tb e args s v u, (limb_1_1.after args s (.returned v) u = true ∧ limb_1_2.after args s (.returned v) u = true ∧ True) → FrameEnd s (.returned v) u (Jvm.fieldLocs frame_1_writes args s ++ Jvm.arrayLocs frame_1_arrays args s ++ Jvm.staticLocs frame_1_statics s) 24 128 → Post tb e args s (.returned v) u) :
    ArmFor flags0 classFile x code maxLocals ret World_1 tables_1 room_1 Calls_1 rest_1 Pre_1 Post := by
  intro l hfl _ _ p e ha hc hk s m args below hf hA hF happ hP
  obtain ⟨hcalls, hrest, hpre⟩ := hP
  obtain ⟨-, -, -, hnamed, -, -, -, hat⟩ := (Spec.applies_iff hf).mp happ
  obtain ⟨hg, hn⟩ := and_e (Cond.before_iff.mp (show (Jvm.Cond.and given_1 narrow_1).before args s = true from hpre))
  obtain ⟨ga0, gb0⟩ := and_e hg
  obtain ⟨ga1, gb1⟩ := and_e gb0
  obtain ⟨ga2, gb2⟩ := and_e gb1
  obtain ⟨ga3, gb3⟩ := and_e gb2
  obtain ⟨w0, w1, w2, w3, rfl⟩ : ∃ w0 w1 w2 w3 : Value, args = #[w0, w1, w2, w3] := by
    have hs : args.size = 4 := by simpa [Cond.value, given_1] using ga0
    obtain ⟨L⟩ := args
    match L, hs with
    | [w0, w1, w2, w3], _ => exact ⟨w0, w1, w2, w3, rfl⟩
  have hw := fun d (hd : d ∈ tables_1) => atoms_spec (ws := Jvm.Cond.code x code maxLocals ret :: tables_1) hat d (List.mem_cons_of_mem _ hd)
  have hfit : Fit s := fun {y c} hc i hi => by
    obtain ⟨ha, rfl⟩ := Array.getElem?_eq_some_iff.mp hc
    have q := List.all_eq_true.mp ((Array.all_eq_true_iff_forall_mem.mp hF) _ (Array.getElem_mem ha)) i (List.mem_range.mpr hi)
    simpa [Array.getElem?_eq_getElem hi] using q
  obtain ⟨i0, ei0⟩ := is_v ga1
  obtain rfl : w0 = (.int i0) := Option.some.inj ei0
  obtain ⟨i1, ei1⟩ := is_v ga2
  obtain rfl : w1 = (.int i1) := Option.some.inj ei1
  obtain ⟨i2, ei2⟩ := is_v ga3
  obtain rfl : w2 = (.int i2) := Option.some.inj ei2
  obtain ⟨i3, ei3⟩ := is_v gb3
  obtain rfl : w3 = (.int i3) := Option.some.inj ei3
  obtain ⟨n, o, h1, h2, h3, _, L, rfl, ⟨rfl, N⟩, hq⟩ := rm0 l s _ hw tables_1 i0 i1 i2 i3  s.heap s.heap.size (Nat.le_refl _)  p e ha hc hk s m _ below hf ((Spec.applies_iff_loose hf).mp happ).1 ⟨rfl, State.Warmed39.refl s, rfl⟩ trivial
  refine ⟨n, _, h1, h2, h3, hpost _ _ _ _ _ _ ⟨Cond.after_iff.mpr rfl, Cond.after_iff.mpr (eq_i res_at (Term.int_eval (1)) rfl), trivial⟩ ⟨hq.1, hq.2.1, (hq.2.2.sift fun y hy => Or.inr (N y hy)).mono (by decide) (by decide)⟩⟩
theorem main_1_1 : Claimed_1_1 := comes_1 fun _ _ _ _ _ _ h hF => ⟨h.1, hF⟩
theorem main_1_2 : Claimed_1_2 := comes_1 fun _ _ _ _ _ _ h hF => ⟨h.2.1, hF⟩
end Jvm.Pilot.@@N@@
namespace Jvm.Pilot.@@N@@
open Jvm Jvm.ClassFile Sem Op Lib Jvm.Free Jvm.Stand Jvm.Pilot.@@N@@.Jvm.D
/-! MADE BY PROGRAM (witnessworld.py) out of the Statement's table words and the real class files: 13 classes; the members and pool entries that the words name. The judged class is class 1, her method 2. -/
namespace start1
open Jvm.ClassFile
def u (s : String) : CpInfo := .utf8 (stringToUtf16 s)
/-- a pool by its gaps: so many unusable entries, then the entry; so many at the end -/
def gap : Nat → List CpInfo → List CpInfo
  | 0, r => r
  | n + 1, r => .unusable :: gap n r
def poolList (es : List (Nat × CpInfo)) (last : Nat) : List CpInfo := es.foldr (fun e r => gap e.1 (e.2 :: r)) (gap last [])
def pool (es : List (Nat × CpInfo)) (last : Nat) : Array CpInfo := ⟨poolList es last⟩
def fileOf (pool : Array CpInfo) (this : Nat) (attrs : Array Attribute := #[]) (ms : Array MethodInfo := #[]) (fl : Nat := 33) (sup : Nat := 0) (ifs : Array Nat := #[]) (fds : Array FieldInfo := #[]) : ClassFile where
  minorVersion := 0
  majorVersion := 65
  constantPool := pool
  accessFlags := fl
  thisClass := this
  superClass := sup
  interfaces := ifs
  fields := fds
  methods := ms
  attributes := attrs
def plain (name : String) (sup : Option ClassId) : Class where
  name := name
  kind := .ordinary
  loader := none
  accessFlags := 33
  super := sup
  interfaces := #[]
  cf := none
  fields := #[]
  methods := #[]
  instanceTypes := #[]
  staticTypes := #[]
  resolved := #[]
  callSites := []
  init := .initialized
  statics := none
  mirror := none

def pool0 : Array CpInfo := pool [(5, u "<init>"), (0, u "()V"), (1, .class_ 10), (1, u "java/lang/Object"), (85, u "clone"), (0, u "()Ljava/lang/Object;")] 26

def k0c0 : Code := { maxStack := 0, maxLocals := 1, code := object_method_1_code, exceptionTable := #[], attributes := #[] }
def k0m0 : Method := { name := "<init>", desc := "()V", sig := { parameters := [], returnType := none }, accessFlags := 1, code := some k0c0 }
def k0m1 : Method := { name := "clone", desc := "()Ljava/lang/Object;", sig := { parameters := [], returnType := some (.object "java/lang/Object") }, accessFlags := 260, code := none }
/-- java/lang/Object -/
def k0 : Class := { plain "java/lang/Object" none with
  accessFlags := 33
  interfaces := #[]
  cf := some (fileOf pool0 8 #[] #[{ accessFlags := 1, nameIndex := 5, descriptorIndex := 6, attributes := #[] }, { accessFlags := 260, nameIndex := 96, descriptorIndex := 97, attributes := #[] }] 33 0 #[] #[])
  fields := #[]
  methods := #[k0m0, k0m1]
  instanceTypes := #[]
  staticTypes := #[]
  resolved := Array.replicate 124 none
  statics := none }

def pool1 : Array CpInfo := pool [(2, .class_ 4), (1, u "java/lang/Object"), (0, u "<init>"), (0, u "()V"), (0, .methodref 8 9), (0, .class_ 10), (0, .nameAndType 11 12), (0, u "java/lang/Math"), (0, u "min"), (0, u "(II)I"), (0, .methodref 8 14), (0, .nameAndType 15 12), (0, u "max"), (0, .integer 2147483647), (0, .class_ 18), (0, u "com/example/linkwright/linkwright/link/FoundTargets"), (0, .methodref 17 20), (0, .nameAndType 5 21), (0, u "(I)V"), (0, .methodref 17 23), (0, .nameAndType 24 6), (0, u "start"), (0, .methodref 17 26), (0, .nameAndType 27 21), (0, u "add"), (0, .methodref 17 29), (0, .nameAndType 30 31), (0, u "ascending"), (0, u "()[I"), (0, .methodref 33 34), (0, .class_ 35), (0, .nameAndType 36 37), (0, u "com/example/linkwright/linkwright/link/FoundTargetsStartPinLaw"), (0, u "isSet"), (0, u "([III)Z"), (3, u "law"), (0, u "(IIII)Z")] 4

def k1m0 : Method := { name := "<init>", desc := "()V", sig := { parameters := [], returnType := none }, accessFlags := 1, code := none }
def k1c1 : Code := { maxStack := 3, maxLocals := 3, code := method_2_code, exceptionTable := #[], attributes := #[] }
def k1m1 : Method := { name := "isSet", desc := "([III)Z", sig := { parameters := [(.array .int), .int, .int], returnType := some .boolean }, accessFlags := 10, code := some k1c1 }
def k1c2 : Code := { maxStack := 3, maxLocals := 12, code := code, exceptionTable := #[], attributes := #[] }
def k1m2 : Method := { name := "law", desc := "(IIII)Z", sig := { parameters := [.int, .int, .int, .int], returnType := some .boolean }, accessFlags := 9, code := some k1c2 }
/-- com/example/linkwright/linkwright/link/FoundTargetsStartPinLaw -/
def k1 : Class := { plain "com/example/linkwright/linkwright/link/FoundTargetsStartPinLaw" (some 0) with
  accessFlags := 49
  interfaces := #[]
  cf := some (fileOf pool1 33 #[] #[{ accessFlags := 1, nameIndex := 5, descriptorIndex := 6, attributes := #[] }, { accessFlags := 10, nameIndex := 36, descriptorIndex := 37, attributes := #[] }, { accessFlags := 9, nameIndex := 41, descriptorIndex := 42, attributes := #[] }] 49 2 #[] #[])
  fields := #[]
  methods := #[k1m0, k1m1, k1m2]
  instanceTypes := #[]
  staticTypes := #[]
  resolved := Array.replicate 47 none
  statics := none }

def pool2 : Array CpInfo := pool [(1, .methodref 2 3), (0, .class_ 4), (0, .nameAndType 5 6), (0, u "java/lang/Object"), (0, u "<init>"), (0, u "()V"), (0, .fieldref 8 9), (0, .class_ 10), (0, .nameAndType 11 12), (0, u "com/example/linkwright/linkwright/link/FoundTargets"), (0, u "seen"), (0, u "[I"), (0, .fieldref 8 14), (0, .nameAndType 15 12), (0, u "found"), (0, .fieldref 8 17), (0, .nameAndType 18 19), (0, u "query"), (0, u "I"), (0, .fieldref 8 21), (0, .nameAndType 22 19), (0, u "count"), (0, .methodref 24 25), (0, .class_ 26), (0, .nameAndType 27 28), (0, u "java/util/Arrays"), (0, u "copyOf"), (0, u "([II)[I"), (0, .methodref 24 30), (0, .nameAndType 31 32), (0, u "sort"), (0, u "([I)V"), (0, u "(I)V"), (2, u "start"), (0, u "add"), (1, u "ascending"), (0, u "()[I")] 2

def k2c0 : Code := { maxStack := 2, maxLocals := 2, code := prog_15_method_1_code, exceptionTable := #[], attributes := #[] }
def k2m0 : Method := { name := "<init>", desc := "(I)V", sig := { parameters := [.int], returnType := none }, accessFlags := 0, code := some k2c0 }
def k2c1 : Code := { maxStack := 3, maxLocals := 1, code := prog_15_method_2_code, exceptionTable := #[], attributes := #[] }
def k2m1 : Method := { name := "start", desc := "()V", sig := { parameters := [], returnType := none }, accessFlags := 0, code := some k2c1 }
def k2c2 : Code := { maxStack := 3, maxLocals := 2, code := prog_15_method_3_code, exceptionTable := #[], attributes := #[] }
def k2m2 : Method := { name := "add", desc := "(I)V", sig := { parameters := [.int], returnType := none }, accessFlags := 0, code := some k2c2 }
def k2c3 : Code := { maxStack := 2, maxLocals := 2, code := prog_15_method_4_code, exceptionTable := #[], attributes := #[] }
def k2m3 : Method := { name := "ascending", desc := "()[I", sig := { parameters := [], returnType := some (.array .int) }, accessFlags := 0, code := some k2c3 }
/-- com/example/linkwright/linkwright/link/FoundTargets -/
def k2 : Class := { plain "com/example/linkwright/linkwright/link/FoundTargets" (some 0) with
  accessFlags := 48
  interfaces := #[]
  cf := some (fileOf pool2 8 #[] #[{ accessFlags := 0, nameIndex := 5, descriptorIndex := 33, attributes := #[] }, { accessFlags := 0, nameIndex := 36, descriptorIndex := 6, attributes := #[] }, { accessFlags := 0, nameIndex := 37, descriptorIndex := 33, attributes := #[] }, { accessFlags := 0, nameIndex := 39, descriptorIndex := 40, attributes := #[] }] 48 2 #[] #[{ accessFlags := 18, nameIndex := 11, descriptorIndex := 12, attributes := #[] }, { accessFlags := 18, nameIndex := 15, descriptorIndex := 12, attributes := #[] }, { accessFlags := 2, nameIndex := 18, descriptorIndex := 19, attributes := #[] }, { accessFlags := 2, nameIndex := 22, descriptorIndex := 19, attributes := #[] }])
  fields := #[{ name := "seen", type := (.array .int), accessFlags := 18, slot := 0, constantValue := 0 }, { name := "found", type := (.array .int), accessFlags := 18, slot := 1, constantValue := 0 }, { name := "query", type := .int, accessFlags := 2, slot := 2, constantValue := 0 }, { name := "count", type := .int, accessFlags := 2, slot := 3, constantValue := 0 }]
  methods := #[k2m0, k2m1, k2m2, k2m3]
  instanceTypes := #[(.array .int), (.array .int), .int, .int]
  staticTypes := #[]
  resolved := Array.replicate 43 none
  statics := none }

def pool3 : Array CpInfo := pool [(2, .class_ 4), (1, u "java/lang/Object"), (0, u "<init>"), (0, u "()V"), (0, .methodref 8 9), (0, .class_ 10), (0, .nameAndType 11 12), (0, u "java/util/DualPivotQuicksort"), (0, u "sort"), (0, u "([IIII)V"), (1, .class_ 16), (1, u "java/util/Arrays"), (57, .class_ 76), (1, u "java/util/Arrays$NaturalOrder"), (32, u "()Ljava/lang/Object;"), (3, .class_ 115), (1, u "java/util/Arrays$LegacyMergeSort"), (1, u "Z"), (10, .nameAndType 129 109), (0, u "clone"), (20, .methodref 151 152), (0, .class_ 153), (0, .nameAndType 154 155), (0, u "java/lang/System"), (0, u "arraycopy"), (0, u "(Ljava/lang/Object;ILjava/lang/Object;II)V"), (146, u "copyOf"), (1, .methodref 305 306), (0, .class_ 307), (0, .nameAndType 308 309), (0, u "java/lang/Math"), (0, u "min"), (0, u "(II)I"), (6, .methodref 317 128), (0, .class_ 318), (0, u "[I"), (56, .class_ 376), (0, u "java/util/Arrays$ArrayList"), (68, u "$assertionsDisabled"), (269, u "MIN_ARRAY_SORT_GRAN"), (0, u "I"), (2, u "INSERTIONSORT_THRESHOLD"), (6, u "([I)V"), (144, u "([II)[I"), (103, .class_ 976), (0, u "java/util/Arrays$ArrayItr")] 52

def k3m0 : Method := { name := "<init>", desc := "()V", sig := { parameters := [], returnType := none }, accessFlags := 2, code := none }
def k3c1 : Code := { maxStack := 4, maxLocals := 1, code := jdk_65_method_2_code, exceptionTable := #[], attributes := #[] }
def k3m1 : Method := { name := "sort", desc := "([I)V", sig := { parameters := [(.array .int)], returnType := none }, accessFlags := 9, code := some k3c1 }
def k3c2 : Code := { maxStack := 6, maxLocals := 3, code := jdk_65_method_123_code, exceptionTable := #[], attributes := #[] }
def k3m2 : Method := { name := "copyOf", desc := "([II)[I", sig := { parameters := [(.array .int), .int], returnType := some (.array .int) }, accessFlags := 9, code := some k3c2 }
/-- java/util/Arrays -/
def k3 : Class := { plain "java/util/Arrays" (some 0) with
  accessFlags := 49
  interfaces := #[]
  cf := some (fileOf pool3 14 #[.nestMembers #[975, 375, 113, 74]] #[{ accessFlags := 2, nameIndex := 5, descriptorIndex := 6, attributes := #[] }, { accessFlags := 9, nameIndex := 11, descriptorIndex := 726, attributes := #[] }, { accessFlags := 9, nameIndex := 302, descriptorIndex := 871, attributes := #[] }] 49 2 #[] #[{ accessFlags := 26, nameIndex := 715, descriptorIndex := 716, attributes := #[] }, { accessFlags := 26, nameIndex := 719, descriptorIndex := 716, attributes := #[] }, { accessFlags := 4120, nameIndex := 445, descriptorIndex := 117, attributes := #[] }])
  fields := #[{ name := "MIN_ARRAY_SORT_GRAN", type := .int, accessFlags := 26, slot := 0, constantValue := 0 }, { name := "INSERTIONSORT_THRESHOLD", type := .int, accessFlags := 26, slot := 1, constantValue := 0 }, { name := "$assertionsDisabled", type := .boolean, accessFlags := 4120, slot := 2, constantValue := 0 }]
  methods := #[k3m0, k3m1, k3m2]
  instanceTypes := #[]
  staticTypes := #[.int, .int, .boolean]
  resolved := Array.replicate 1029 none
  statics := none }

def pool4 : Array CpInfo := pool [(1, .class_ 2), (0, u "java/lang/Cloneable"), (0, .class_ 4), (0, u "java/lang/Object")] 2

/-- java/lang/Cloneable -/
def k4 : Class := { plain "java/lang/Cloneable" (some 0) with
  accessFlags := 1537
  interfaces := #[]
  cf := some (fileOf pool4 1 #[] #[] 1537 3 #[] #[])
  fields := #[]
  methods := #[]
  instanceTypes := #[]
  staticTypes := #[]
  resolved := Array.replicate 7 none
  statics := none }

def pool5 : Array CpInfo := pool [(1, .class_ 2), (0, u "java/util/DualPivotQuicksort"), (5, .class_ 10), (1, u "java/lang/Object"), (0, u "<init>"), (0, u "()V"), (4, .class_ 18), (0, u "java/util/DualPivotQuicksort$Sorter"), (7, .methodref 1 27), (0, .nameAndType 28 29), (0, u "sort"), (0, u "(Ljava/util/DualPivotQuicksort$Sorter;[IIII)V"), (3, u "([IIII)V"), (0, .methodref 1 35), (0, .nameAndType 36 37), (0, u "insertionSort"), (0, u "([III)V"), (30, u "I"), (4, .class_ 74), (0, u "java/util/DualPivotQuicksort$RunMerger"), (10, .class_ 86), (0, u "java/util/DualPivotQuicksort$Merger"), (127, u "MAX_MIXED_INSERTION_SORT_SIZE"), (2, u "MAX_INSERTION_SORT_SIZE"), (1, u "MIN_PARALLEL_SORT_SIZE"), (1, u "MIN_TRY_MERGE_SIZE"), (0, u "MIN_FIRST_RUN_SIZE"), (1, u "MIN_FIRST_RUNS_FACTOR"), (1, u "MAX_RUN_CAPACITY"), (1, u "MIN_RUN_COUNT"), (1, u "MIN_PARALLEL_MERGE_PARTS_SIZE"), (0, u "MIN_BYTE_COUNTING_SORT_SIZE"), (1, u "MIN_SHORT_OR_CHAR_COUNTING_SORT_SIZE"), (1, u "DELTA"), (1, u "MAX_RECURSION_DEPTH"), (1, u "NUM_BYTE_VALUES"), (1, u "MAX_BYTE_INDEX"), (0, u "NUM_CHAR_VALUES"), (0, u "NUM_SHORT_VALUES"), (0, u "MAX_SHORT_INDEX")] 86

def k5m0 : Method := { name := "<init>", desc := "()V", sig := { parameters := [], returnType := none }, accessFlags := 2, code := none }
def k5c1 : Code := { maxStack := 9, maxLocals := 7, code := jdk_2529_method_3_code, exceptionTable := #[], attributes := #[] }
def k5m1 : Method := { name := "sort", desc := "([IIII)V", sig := { parameters := [(.array .int), .int, .int, .int], returnType := none }, accessFlags := 8, code := some k5c1 }
def k5c2 : Code := { maxStack := 6, maxLocals := 21, code := jdk_2529_method_4_code, exceptionTable := #[], attributes := #[] }
def k5m2 : Method := { name := "sort", desc := "(Ljava/util/DualPivotQuicksort$Sorter;[IIII)V", sig := { parameters := [(.object "java/util/DualPivotQuicksort$Sorter"), (.array .int), .int, .int, .int], returnType := none }, accessFlags := 8, code := some k5c2 }
def k5c3 : Code := { maxStack := 4, maxLocals := 6, code := jdk_2529_method_6_code, exceptionTable := #[], attributes := #[] }
def k5m3 : Method := { name := "insertionSort", desc := "([III)V", sig := { parameters := [(.array .int), .int, .int], returnType := none }, accessFlags := 10, code := some k5c3 }
/-- java/util/DualPivotQuicksort -/
def k5 : Class := { plain "java/util/DualPivotQuicksort" (some 0) with
  accessFlags := 48
  interfaces := #[]
  cf := some (fileOf pool5 1 #[.nestMembers #[73, 85, 17]] #[{ accessFlags := 2, nameIndex := 11, descriptorIndex := 12, attributes := #[] }, { accessFlags := 8, nameIndex := 28, descriptorIndex := 33, attributes := #[] }, { accessFlags := 8, nameIndex := 28, descriptorIndex := 29, attributes := #[] }, { accessFlags := 10, nameIndex := 36, descriptorIndex := 37, attributes := #[] }] 48 8 #[] #[{ accessFlags := 26, nameIndex := 214, descriptorIndex := 68, attributes := #[] }, { accessFlags := 26, nameIndex := 217, descriptorIndex := 68, attributes := #[] }, { accessFlags := 26, nameIndex := 219, descriptorIndex := 68, attributes := #[] }, { accessFlags := 26, nameIndex := 221, descriptorIndex := 68, attributes := #[] }, { accessFlags := 26, nameIndex := 222, descriptorIndex := 68, attributes := #[] }, { accessFlags := 26, nameIndex := 224, descriptorIndex := 68, attributes := #[] }, { accessFlags := 26, nameIndex := 226, descriptorIndex := 68, attributes := #[] }, { accessFlags := 26, nameIndex := 228, descriptorIndex := 68, attributes := #[] }, { accessFlags := 26, nameIndex := 230, descriptorIndex := 68, attributes := #[] }, { accessFlags := 26, nameIndex := 231, descriptorIndex := 68, attributes := #[] }, { accessFlags := 26, nameIndex := 233, descriptorIndex := 68, attributes := #[] }, { accessFlags := 26, nameIndex := 235, descriptorIndex := 68, attributes := #[] }, { accessFlags := 26, nameIndex := 237, descriptorIndex := 68, attributes := #[] }, { accessFlags := 26, nameIndex := 239, descriptorIndex := 68, attributes := #[] }, { accessFlags := 26, nameIndex := 241, descriptorIndex := 68, attributes := #[] }, { accessFlags := 26, nameIndex := 242, descriptorIndex := 68, attributes := #[] }, { accessFlags := 26, nameIndex := 243, descriptorIndex := 68, attributes := #[] }, { accessFlags := 26, nameIndex := 244, descriptorIndex := 68, attributes := #[] }])
  fields := #[{ name := "MAX_MIXED_INSERTION_SORT_SIZE", type := .int, accessFlags := 26, slot := 0, constantValue := 0 }, { name := "MAX_INSERTION_SORT_SIZE", type := .int, accessFlags := 26, slot := 1, constantValue := 0 }, { name := "MIN_PARALLEL_SORT_SIZE", type := .int, accessFlags := 26, slot := 2, constantValue := 0 }, { name := "MIN_TRY_MERGE_SIZE", type := .int, accessFlags := 26, slot := 3, constantValue := 0 }, { name := "MIN_FIRST_RUN_SIZE", type := .int, accessFlags := 26, slot := 4, constantValue := 0 }, { name := "MIN_FIRST_RUNS_FACTOR", type := .int, accessFlags := 26, slot := 5, constantValue := 0 }, { name := "MAX_RUN_CAPACITY", type := .int, accessFlags := 26, slot := 6, constantValue := 0 }, { name := "MIN_RUN_COUNT", type := .int, accessFlags := 26, slot := 7, constantValue := 0 }, { name := "MIN_PARALLEL_MERGE_PARTS_SIZE", type := .int, accessFlags := 26, slot := 8, constantValue := 0 }, { name := "MIN_BYTE_COUNTING_SORT_SIZE", type := .int, accessFlags := 26, slot := 9, constantValue := 0 }, { name := "MIN_SHORT_OR_CHAR_COUNTING_SORT_SIZE", type := .int, accessFlags := 26, slot := 10, constantValue := 0 }, { name := "DELTA", type := .int, accessFlags := 26, slot := 11, constantValue := 0 }, { name := "MAX_RECURSION_DEPTH", type := .int, accessFlags := 26, slot := 12, constantValue := 0 }, { name := "NUM_BYTE_VALUES", type := .int, accessFlags := 26, slot := 13, constantValue := 0 }, { name := "MAX_BYTE_INDEX", type := .int, accessFlags := 26, slot := 14, constantValue := 0 }, { name := "NUM_CHAR_VALUES", type := .int, accessFlags := 26, slot := 15, constantValue := 0 }, { name := "NUM_SHORT_VALUES", type := .int, accessFlags := 26, slot := 16, constantValue := 0 }, { name := "MAX_SHORT_INDEX", type := .int, accessFlags := 26, slot := 17, constantValue := 0 }]
  methods := #[k5m0, k5m1, k5m2, k5m3]
  instanceTypes := #[]
  staticTypes := #[.int, .int, .int, .int, .int, .int, .int, .int, .int, .int, .int, .int, .int, .int, .int, .int, .int, .int]
  resolved := Array.replicate 331 none
  statics := none }

def pool6 : Array CpInfo := pool [(1, .class_ 2), (0, u "java/lang/Math"), (1, .class_ 6), (1, u "java/lang/Object"), (0, u "<init>"), (0, u "()V"), (89, .class_ 100), (1, u "java/lang/Math$RandomNumberGeneratorHolder"), (71, u "negativeZeroFloatBits"), (0, u "J"), (2, u "negativeZeroDoubleBits"), (21, u "max"), (2, u "min"), (43, u "$assertionsDisabled"), (0, u "Z"), (88, u "(II)I"), (2, u "twoToTheDoubleScaleDown"), (0, u "D"), (4, u "twoToTheDoubleScaleUp"), (9, u "E"), (3, u "PI"), (2, u "TAU"), (2, u "DEGREES_TO_RADIANS"), (0, u "RADIANS_TO_DEGREES")] 94

def k6m0 : Method := { name := "<init>", desc := "()V", sig := { parameters := [], returnType := none }, accessFlags := 2, code := none }
def k6c1 : Code := { maxStack := 2, maxLocals := 2, code := jdk_29_method_65_code, exceptionTable := #[], attributes := #[] }
def k6m1 : Method := { name := "max", desc := "(II)I", sig := { parameters := [.int, .int], returnType := some .int }, accessFlags := 9, code := some k6c1 }
def k6c2 : Code := { maxStack := 2, maxLocals := 2, code := jdk_29_method_69_code, exceptionTable := #[], attributes := #[] }
def k6m2 : Method := { name := "min", desc := "(II)I", sig := { parameters := [.int, .int], returnType := some .int }, accessFlags := 9, code := some k6c2 }
/-- java/lang/Math -/
def k6 : Class := { plain "java/lang/Math" (some 0) with
  accessFlags := 49
  interfaces := #[]
  cf := some (fileOf pool6 1 #[.nestMembers #[98]] #[{ accessFlags := 2, nameIndex := 7, descriptorIndex := 8, attributes := #[] }, { accessFlags := 9, nameIndex := 198, descriptorIndex := 335, attributes := #[] }, { accessFlags := 9, nameIndex := 201, descriptorIndex := 335, attributes := #[] }] 49 4 #[] #[{ accessFlags := 25, nameIndex := 354, descriptorIndex := 339, attributes := #[] }, { accessFlags := 25, nameIndex := 358, descriptorIndex := 339, attributes := #[] }, { accessFlags := 25, nameIndex := 361, descriptorIndex := 339, attributes := #[] }, { accessFlags := 26, nameIndex := 364, descriptorIndex := 339, attributes := #[] }, { accessFlags := 26, nameIndex := 365, descriptorIndex := 339, attributes := #[] }, { accessFlags := 26, nameIndex := 172, descriptorIndex := 173, attributes := #[] }, { accessFlags := 26, nameIndex := 176, descriptorIndex := 173, attributes := #[] }, { accessFlags := 8, nameIndex := 344, descriptorIndex := 339, attributes := #[] }, { accessFlags := 8, nameIndex := 338, descriptorIndex := 339, attributes := #[] }, { accessFlags := 4120, nameIndex := 245, descriptorIndex := 246, attributes := #[] }])
  fields := #[{ name := "E", type := .double, accessFlags := 25, slot := 0, constantValue := 0 }, { name := "PI", type := .double, accessFlags := 25, slot := 1, constantValue := 0 }, { name := "TAU", type := .double, accessFlags := 25, slot := 2, constantValue := 0 }, { name := "DEGREES_TO_RADIANS", type := .double, accessFlags := 26, slot := 3, constantValue := 0 }, { name := "RADIANS_TO_DEGREES", type := .double, accessFlags := 26, slot := 4, constantValue := 0 }, { name := "negativeZeroFloatBits", type := .long, accessFlags := 26, slot := 5, constantValue := 0 }, { name := "negativeZeroDoubleBits", type := .long, accessFlags := 26, slot := 6, constantValue := 0 }, { name := "twoToTheDoubleScaleUp", type := .double, accessFlags := 8, slot := 7, constantValue := 0 }, { name := "twoToTheDoubleScaleDown", type := .double, accessFlags := 8, slot := 8, constantValue := 0 }, { name := "$assertionsDisabled", type := .boolean, accessFlags := 4120, slot := 9, constantValue := 0 }]
  methods := #[k6m0, k6m1, k6m2]
  instanceTypes := #[]
  staticTypes := #[.double, .double, .double, .double, .double, .long, .long, .double, .double, .boolean]
  resolved := Array.replicate 460 none
  statics := none }

def pool7 : Array CpInfo := pool [(2, .class_ 4), (1, u "java/lang/Object"), (0, u "<init>"), (0, u "()V"), (1, .class_ 10), (1, u "java/lang/System"), (0, u "allowSecurityManager"), (0, u "I"), (16, u "cons"), (0, u "Ljava/io/Console;"), (77, .class_ 110), (1, u "java/lang/System$CallersHolder"), (43, u "initialErrStream"), (0, u "Ljava/io/PrintStream;"), (19, u "security"), (0, u "Ljava/lang/SecurityManager;"), (31, .class_ 209), (0, u "java/lang/System$1"), (7, u "props"), (0, u "Ljava/util/Properties;"), (2, u "lineSeparator"), (0, u "Ljava/lang/String;"), (96, .class_ 321), (1, u "java/lang/System$LoggerFinder"), (5, .class_ 328), (0, u "java/lang/System$Logger"), (67, u "err"), (2, u "out"), (91, u "notSupportedJnuEncoding"), (15, u "in"), (17, u "initialIn"), (0, u "Ljava/io/InputStream;"), (35, u "bootLayer"), (0, u "Ljava/lang/ModuleLayer;"), (99, .class_ 664), (0, u "java/lang/System$2"), (9, u "NEVER"), (2, u "MAYBE"), (49, u "arraycopy"), (0, u "(Ljava/lang/Object;ILjava/lang/Object;II)V"), (72, .class_ 802), (0, u "java/lang/System$Logger$Level")] 31

def k7m0 : Method := { name := "<init>", desc := "()V", sig := { parameters := [], returnType := none }, accessFlags := 2, code := none }
def k7m1 : Method := { name := "arraycopy", desc := "(Ljava/lang/Object;ILjava/lang/Object;II)V", sig := { parameters := [(.object "java/lang/Object"), .int, (.object "java/lang/Object"), .int, .int], returnType := none }, accessFlags := 265, code := none }
/-- java/lang/System -/
def k7 : Class := { plain "java/lang/System" (some 0) with
  accessFlags := 49
  interfaces := #[]
  cf := some (fileOf pool7 8 #[.nestMembers #[319, 327, 801, 108, 663, 208]] #[{ accessFlags := 2, nameIndex := 5, descriptorIndex := 6, attributes := #[] }, { accessFlags := 265, nameIndex := 727, descriptorIndex := 728, attributes := #[] }] 49 2 #[] #[{ accessFlags := 25, nameIndex := 507, descriptorIndex := 526, attributes := #[] }, { accessFlags := 25, nameIndex := 399, descriptorIndex := 155, attributes := #[] }, { accessFlags := 25, nameIndex := 396, descriptorIndex := 155, attributes := #[] }, { accessFlags := 10, nameIndex := 525, descriptorIndex := 526, attributes := #[] }, { accessFlags := 26, nameIndex := 674, descriptorIndex := 12, attributes := #[] }, { accessFlags := 26, nameIndex := 677, descriptorIndex := 12, attributes := #[] }, { accessFlags := 10, nameIndex := 11, descriptorIndex := 12, attributes := #[] }, { accessFlags := 74, nameIndex := 175, descriptorIndex := 176, attributes := #[] }, { accessFlags := 10, nameIndex := 491, descriptorIndex := 222, attributes := #[] }, { accessFlags := 74, nameIndex := 29, descriptorIndex := 30, attributes := #[] }, { accessFlags := 74, nameIndex := 154, descriptorIndex := 155, attributes := #[] }, { accessFlags := 10, nameIndex := 217, descriptorIndex := 218, attributes := #[] }, { accessFlags := 10, nameIndex := 221, descriptorIndex := 222, attributes := #[] }, { accessFlags := 8, nameIndex := 562, descriptorIndex := 563, attributes := #[] }])
  fields := #[{ name := "in", type := (.object "java/io/InputStream"), accessFlags := 25, slot := 0, constantValue := 0 }, { name := "out", type := (.object "java/io/PrintStream"), accessFlags := 25, slot := 1, constantValue := 0 }, { name := "err", type := (.object "java/io/PrintStream"), accessFlags := 25, slot := 2, constantValue := 0 }, { name := "initialIn", type := (.object "java/io/InputStream"), accessFlags := 10, slot := 3, constantValue := 0 }, { name := "NEVER", type := .int, accessFlags := 26, slot := 4, constantValue := 0 }, { name := "MAYBE", type := .int, accessFlags := 26, slot := 5, constantValue := 0 }, { name := "allowSecurityManager", type := .int, accessFlags := 10, slot := 6, constantValue := 0 }, { name := "security", type := (.object "java/lang/SecurityManager"), accessFlags := 74, slot := 7, constantValue := 0 }, { name := "notSupportedJnuEncoding", type := (.object "java/lang/String"), accessFlags := 10, slot := 8, constantValue := 0 }, { name := "cons", type := (.object "java/io/Console"), accessFlags := 74, slot := 9, constantValue := 0 }, { name := "initialErrStream", type := (.object "java/io/PrintStream"), accessFlags := 74, slot := 10, constantValue := 0 }, { name := "props", type := (.object "java/util/Properties"), accessFlags := 10, slot := 11, constantValue := 0 }, { name := "lineSeparator", type := (.object "java/lang/String"), accessFlags := 10, slot := 12, constantValue := 0 }, { name := "bootLayer", type := (.object "java/lang/ModuleLayer"), accessFlags := 8, slot := 13, constantValue := 0 }]
  methods := #[k7m0, k7m1]
  instanceTypes := #[]
  staticTypes := #[(.object "java/io/InputStream"), (.object "java/io/PrintStream"), (.object "java/io/PrintStream"), (.object "java/io/InputStream"), .int, .int, .int, (.object "java/lang/SecurityManager"), (.object "java/lang/String"), (.object "java/io/Console"), (.object "java/io/PrintStream"), (.object "java/util/Properties"), (.object "java/lang/String"), (.object "java/lang/ModuleLayer")]
  resolved := Array.replicate 834 none
  statics := none }

def pool8 : Array CpInfo := pool [(1, u "java/io/Serializable"), (0, .class_ 1), (0, u "java/lang/Object"), (0, .class_ 3)] 3

/-- java/io/Serializable -/
def k8 : Class := { plain "java/io/Serializable" (some 0) with
  accessFlags := 1537
  interfaces := #[]
  cf := some (fileOf pool8 2 #[] #[] 1537 4 #[] #[])
  fields := #[]
  methods := #[]
  instanceTypes := #[]
  staticTypes := #[]
  resolved := Array.replicate 8 none
  statics := none }

/-- the primitive byte -/
def k9 : Class := { plain "byte" none with kind := .primitive 'B', accessFlags := 0x411 }
/-- [B -/
def k10 : Class := { plain "[B" (some 0) with kind := .array 9 .byte, interfaces := #[4, 8], accessFlags := 1041 }

/-- the primitive int -/
def k11 : Class := { plain "int" none with kind := .primitive 'I', accessFlags := 0x411 }
/-- [I -/
def k12 : Class := { plain "[I" (some 0) with kind := .array 11 .int, interfaces := #[4, 8], accessFlags := 1041 }

def heap : Heap := #[]
def classes : Array Class := #[k0, k1, k2, k3, k4, k5, k6, k7, k8, k9, k10, k11, k12]
def interned : List (Array UInt16 × Addr) := []
def slotsUsed : Nat := 0
def theMethod : MethodId := ⟨1, 2⟩
def args0 : Array Value := #[.int 3, .int 5, .int 7, .int 9]
def aboutOver (below : List Frame) : State where
  vm := { classes := classes, interned := interned.toArray }
  heap := heap
  slotsUsed := slotsUsed
  threads := #[{ frames := .invoking theMethod args0 :: below }]
def below0 : List Frame := [.native { method := ⟨0, 0⟩, args := #[] }]
def about1 : State := aboutOver below0
def p0 : Program := .bare "" "" ""
def e0 : Env := launch0.env 0 0 0
theorem w_frames : about1.frames = Frame.invoking theMethod args0 :: below0 := rfl
set_option maxRecDepth 65536 in
theorem w_args : argsFit about1.vm theMethod args0 = true := by decide +kernel
set_option maxRecDepth 65536 in
theorem w_heap : heapFits about1 = true := by decide +kernel
set_option maxRecDepth 65536 in
theorem w_runnable : about1.curStatus? = some .runnable := by decide +kernel
set_option maxRecDepth 65536 in
theorem w_alone : about1.alone = true := by decide +kernel
set_option maxRecDepth 65536 in
theorem w_named : about1.methodNamed? x = some theMethod := by decide +kernel
set_option maxRecDepth 65536 in
theorem w_hears : about1.hears theMethod below0 = true := by decide +kernel
set_option maxRecDepth 65536 in
theorem w_ripe : about1.ripe theMethod args0 below0 = true := by decide +kernel
theorem w_running : about1.status = .running := rfl
set_option maxRecDepth 65536 in
theorem w_room : about1.hasRoom e0.platform room_1 = true :=
  launch0.hasRoom_least _ room_1 (by decide +kernel) (by decide +kernel) (by decide +kernel) (by decide +kernel) (by decide +kernel) (by decide +kernel)
theorem allAtoms_all (ts : List Jvm.Cond) (a : Array Jvm.Value) (st : Jvm.State) : (allAtoms ts).before a st = ts.all (fun c => c.before a st) := by
  induction ts with
  | nil => rfl
  | cons c t ih =>
    show (Jvm.Cond.and c (allAtoms t)).before a st = _
    rw [Jvm.Cond.before_and, ih, List.all_cons]
def words1 : List Jvm.Cond := Jvm.Cond.code x code maxLocals ret :: tables_1
/-- a 'code' word, met by the world's own term for the bytes: nothing is compared byte by byte -/
theorem code_word {y : MethodName} {bytes : ByteArray} {mx : Nat} {rt : Option FieldType} {a : Array Value} {s : State} {m : MethodId} {meth : Method} {c : Code} (h1 : s.methodNamed? y = some m) (h2 : s.vm.method? m = some meth) (h3 : meth.code = some c) (h4 : c.code = bytes)
    (h5 : (c.maxLocals == mx && c.exceptionTable.isEmpty && decide (c.maxStack ≤ mostOperands) && decide (meth.sig.returnType = rt) && !meth.locks && decide (parseMethodDescriptor y.desc = some meth.sig)) = true) : (Jvm.Cond.code y bytes mx rt).before a s = true := by
  simp only [Bool.and_eq_true, beq_iff_eq, Bool.not_eq_true', decide_eq_true_eq] at h5
  obtain ⟨⟨⟨⟨⟨g1, g2⟩, g3⟩, g4⟩, g5⟩, g6⟩ := h5
  simp [Cond.before, Cond.holds, Cond.value, h1, h2, h3, h4, g1, g2, g3, g4, g5, g6]
def isCode : Jvm.Cond → Bool
  | .code _ _ _ _ => true
  | _ => false
theorem all_split {L : List Jvm.Cond} {P : Jvm.Cond → Bool} (h1 : L.all (fun c => isCode c || P c) = true) (h2 : ∀ c ∈ L.filter isCode, P c = true) : L.all P = true := by
  refine List.all_eq_true.mpr fun c hc => ?_
  have h := List.all_eq_true.mp h1 c hc
  rcases Bool.eq_false_or_eq_true (isCode c) with hi | hi
  · exact h2 c (List.mem_filter.mpr ⟨hc, hi⟩)
  · simpa [hi] using h
set_option maxRecDepth 65536 in
theorem w_c0 : (Jvm.Cond.code x code maxLocals ret).before args0 about1 = true := code_word (m := ⟨1, 2⟩) (meth := k1m2) (c := k1c2) (by decide +kernel) rfl rfl rfl (by decide +kernel)
set_option maxRecDepth 65536 in
theorem w_c1 : (Jvm.Cond.code ({ cls := "com/example/linkwright/linkwright/link/FoundTargets", name := "<init>", desc := "(I)V" } : Jvm.MethodName) prog_15_method_1_code (2 : Nat) (Option.none : Option Jvm.ClassFile.FieldType)).before args0 about1 = true := code_word (m := ⟨2, 0⟩) (meth := k2m0) (c := k2c0) (by decide +kernel) rfl rfl rfl (by decide +kernel)
set_option maxRecDepth 65536 in
theorem w_c2 : (Jvm.Cond.code ({ cls := "java/lang/Object", name := "<init>", desc := "()V" } : Jvm.MethodName) object_method_1_code (1 : Nat) (Option.none : Option Jvm.ClassFile.FieldType)).before args0 about1 = true := code_word (m := ⟨0, 0⟩) (meth := k0m0) (c := k0c0) (by decide +kernel) rfl rfl rfl (by decide +kernel)
set_option maxRecDepth 65536 in
theorem w_c3 : (Jvm.Cond.code ({ cls := "com/example/linkwright/linkwright/link/FoundTargets", name := "start", desc := "()V" } : Jvm.MethodName) prog_15_method_2_code (1 : Nat) (Option.none : Option Jvm.ClassFile.FieldType)).before args0 about1 = true := code_word (m := ⟨2, 1⟩) (meth := k2m1) (c := k2c1) (by decide +kernel) rfl rfl rfl (by decide +kernel)
set_option maxRecDepth 65536 in
theorem w_c4 : (Jvm.Cond.code ({ cls := "com/example/linkwright/linkwright/link/FoundTargets", name := "add", desc := "(I)V" } : Jvm.MethodName) prog_15_method_3_code (2 : Nat) (Option.none : Option Jvm.ClassFile.FieldType)).before args0 about1 = true := code_word (m := ⟨2, 2⟩) (meth := k2m2) (c := k2c2) (by decide +kernel) rfl rfl rfl (by decide +kernel)
set_option maxRecDepth 65536 in
theorem w_c5 : (Jvm.Cond.code ({ cls := "com/example/linkwright/linkwright/link/FoundTargets", name := "ascending", desc := "()[I" } : Jvm.MethodName) prog_15_method_4_code (2 : Nat) (Option.some (Jvm.ClassFile.FieldType.array Jvm.ClassFile.FieldType.int))).before args0 about1 = true := code_word (m := ⟨2, 3⟩) (meth := k2m3) (c := k2c3) (by decide +kernel) rfl rfl rfl (by decide +kernel)
set_option maxRecDepth 65536 in
theorem w_c6 : (Jvm.Cond.code ({ cls := "java/util/Arrays", name := "copyOf", desc := "([II)[I" } : Jvm.MethodName) jdk_65_method_123_code (3 : Nat) (Option.some (Jvm.ClassFile.FieldType.array Jvm.ClassFile.FieldType.int))).before args0 about1 = true := code_word (m := ⟨3, 2⟩) (meth := k3m2) (c := k3c2) (by decide +kernel) rfl rfl rfl (by decide +kernel)
set_option maxRecDepth 65536 in
theorem w_c7 : (Jvm.Cond.code ({ cls := "java/util/Arrays", name := "sort", desc := "([I)V" } : Jvm.MethodName) jdk_65_method_2_code (1 : Nat) (Option.none : Option Jvm.ClassFile.FieldType)).before args0 about1 = true := code_word (m := ⟨3, 1⟩) (meth := k3m1) (c := k3c1) (by decide +kernel) rfl rfl rfl (by decide +kernel)
set_option maxRecDepth 65536 in
theorem w_c8 : (Jvm.Cond.code ({ cls := "java/util/DualPivotQuicksort", name := "sort", desc := "([IIII)V" } : Jvm.MethodName) jdk_2529_method_3_code (7 : Nat) (Option.none : Option Jvm.ClassFile.FieldType)).before args0 about1 = true := code_word (m := ⟨5, 1⟩) (meth := k5m1) (c := k5c1) (by decide +kernel) rfl rfl rfl (by decide +kernel)
set_option maxRecDepth 65536 in
theorem w_c9 : (Jvm.Cond.code ({ cls := "java/util/DualPivotQuicksort", name := "sort", desc := "(Ljava/util/DualPivotQuicksort$Sorter;[IIII)V" } : Jvm.MethodName) jdk_2529_method_4_code (21 : Nat) (Option.none : Option Jvm.ClassFile.FieldType)).before args0 about1 = true := code_word (m := ⟨5, 2⟩) (meth := k5m2) (c := k5c2) (by decide +kernel) rfl rfl rfl (by decide +kernel)
set_option maxRecDepth 65536 in
theorem w_c10 : (Jvm.Cond.code ({ cls := "java/util/DualPivotQuicksort", name := "insertionSort", desc := "([III)V" } : Jvm.MethodName) jdk_2529_method_6_code (6 : Nat) (Option.none : Option Jvm.ClassFile.FieldType)).before args0 about1 = true := code_word (m := ⟨5, 3⟩) (meth := k5m3) (c := k5c3) (by decide +kernel) rfl rfl rfl (by decide +kernel)
set_option maxRecDepth 65536 in
theorem w_c11 : (Jvm.Cond.code ({ cls := "java/lang/Math", name := "min", desc := "(II)I" } : Jvm.MethodName) jdk_29_method_69_code (2 : Nat) (Option.some Jvm.ClassFile.FieldType.int)).before args0 about1 = true := code_word (m := ⟨6, 2⟩) (meth := k6m2) (c := k6c2) (by decide +kernel) rfl rfl rfl (by decide +kernel)
set_option maxRecDepth 65536 in
theorem w_c12 : (Jvm.Cond.code ({ cls := "com/example/linkwright/linkwright/link/FoundTargetsStartPinLaw", name := "isSet", desc := "([III)Z" } : Jvm.MethodName) method_2_code (3 : Nat) (Option.some Jvm.ClassFile.FieldType.boolean)).before args0 about1 = true := code_word (m := ⟨1, 1⟩) (meth := k1m1) (c := k1c1) (by decide +kernel) rfl rfl rfl (by decide +kernel)
set_option maxRecDepth 65536 in
theorem w_c13 : (Jvm.Cond.code ({ cls := "java/lang/Math", name := "max", desc := "(II)I" } : Jvm.MethodName) jdk_29_method_65_code (2 : Nat) (Option.some Jvm.ClassFile.FieldType.int)).before args0 about1 = true := code_word (m := ⟨6, 1⟩) (meth := k6m1) (c := k6c1) (by decide +kernel) rfl rfl rfl (by decide +kernel)
def codes1 : List Jvm.Cond := [Jvm.Cond.code x code maxLocals ret, Jvm.Cond.code ({ cls := "com/example/linkwright/linkwright/link/FoundTargets", name := "<init>", desc := "(I)V" } : Jvm.MethodName) prog_15_method_1_code (2 : Nat) (Option.none : Option Jvm.ClassFile.FieldType), Jvm.Cond.code ({ cls := "java/lang/Object", name := "<init>", desc := "()V" } : Jvm.MethodName) object_method_1_code (1 : Nat) (Option.none : Option Jvm.ClassFile.FieldType), Jvm.Cond.code ({ cls := "com/example/linkwright/linkwright/link/FoundTargets", name := "start", desc := "()V" } : Jvm.MethodName) prog_15_method_2_code (1 : Nat) (Option.none : Option Jvm.ClassFile.FieldType), Jvm.Cond.code ({ cls := "com/example/linkwright/linkwright/link/FoundTargets", name := "add", desc := "(I)V" } : Jvm.MethodName) prog_15_method_3_code (2 : Nat) (Option.none : Option Jvm.ClassFile.FieldType), Jvm.Cond.code ({ cls := "com/example/linkwright/linkwright/link/FoundTargets", name := "ascending", desc := "()[I" } : Jvm.MethodName) prog_15_method_4_code (2 : Nat) (Option.some (Jvm.ClassFile.FieldType.array Jvm.ClassFile.FieldType.int)), Jvm.Cond.code ({ cls := "java/util/Arrays", name := "copyOf", desc := "([II)[I" } : Jvm.MethodName) jdk_65_method_123_code (3 : Nat) (Option.some (Jvm.ClassFile.FieldType.array Jvm.ClassFile.FieldType.int)), Jvm.Cond.code ({ cls := "java/util/Arrays", name := "sort", desc := "([I)V" } : Jvm.MethodName) jdk_65_method_2_code (1 : Nat) (Option.none : Option Jvm.ClassFile.FieldType), Jvm.Cond.code ({ cls := "java/util/DualPivotQuicksort", name := "sort", desc := "([IIII)V" } : Jvm.MethodName) jdk_2529_method_3_code (7 : Nat) (Option.none : Option Jvm.ClassFile.FieldType), Jvm.Cond.code ({ cls := "java/util/DualPivotQuicksort", name := "sort", desc := "(Ljava/util/DualPivotQuicksort$Sorter;[IIII)V" } : Jvm.MethodName) jdk_2529_method_4_code (21 : Nat) (Option.none : Option Jvm.ClassFile.FieldType), Jvm.Cond.code ({ cls := "java/util/DualPivotQuicksort", name := "insertionSort", desc := "([III)V" } : Jvm.MethodName) jdk_2529_method_6_code (6 : Nat) (Option.none : Option Jvm.ClassFile.FieldType), Jvm.Cond.code ({ cls := "java/lang/Math", name := "min", desc := "(II)I" } : Jvm.MethodName) jdk_29_method_69_code (2 : Nat) (Option.some Jvm.ClassFile.FieldType.int), Jvm.Cond.code ({ cls := "com/example/linkwright/linkwright/link/FoundTargetsStartPinLaw", name := "isSet", desc := "([III)Z" } : Jvm.MethodName) method_2_code (3 : Nat) (Option.some Jvm.ClassFile.FieldType.boolean), Jvm.Cond.code ({ cls := "java/lang/Math", name := "max", desc := "(II)I" } : Jvm.MethodName) jdk_29_method_65_code (2 : Nat) (Option.some Jvm.ClassFile.FieldType.int)]
set_option maxRecDepth 65536 in
theorem codes_eq : words1.filter isCode = codes1 := rfl
theorem w_codes : ∀ c ∈ words1.filter isCode, c.before args0 about1 = true := by
  rw [codes_eq]
  intro c hc
  simp only [codes1, List.mem_cons, List.not_mem_nil, or_false] at hc
  rcases hc with rfl | rfl | rfl | rfl | rfl | rfl | rfl | rfl | rfl | rfl | rfl | rfl | rfl | rfl
  · exact w_c0
  · exact w_c1
  · exact w_c2
  · exact w_c3
  · exact w_c4
  · exact w_c5
  · exact w_c6
  · exact w_c7
  · exact w_c8
  · exact w_c9
  · exact w_c10
  · exact w_c11
  · exact w_c12
  · exact w_c13
set_option maxRecDepth 65536 in
theorem w_t1 : (words1.take 24).all (fun c => isCode c || c.before args0 about1) = true := by decide +kernel
set_option maxRecDepth 65536 in
theorem w_t2 : ((words1.drop 24).take 24).all (fun c => isCode c || c.before args0 about1) = true := by decide +kernel
set_option maxRecDepth 65536 in
theorem w_t3 : (((words1.drop 24).drop 24).take 24).all (fun c => isCode c || c.before args0 about1) = true := by decide +kernel
set_option maxRecDepth 65536 in
theorem w_t4 : (((words1.drop 24).drop 24).drop 24).all (fun c => isCode c || c.before args0 about1) = true := by decide +kernel
theorem w_tables : (allAtoms (Jvm.Cond.code x code maxLocals ret :: tables_1)).before args0 about1 = true := by
  rw [allAtoms_all]
  show words1.all (fun c => c.before args0 about1) = true
  refine all_split ?_ w_codes
  rw [← List.take_append_drop 24 words1, List.all_append, w_t1, ← List.take_append_drop 24 (words1.drop 24), List.all_append, w_t2, ← List.take_append_drop 24 ((words1.drop 24).drop 24), List.all_append, w_t3, w_t4]
  rfl
set_option maxRecDepth 65536 in
theorem w_case : (Jvm.Cond.and given_1 narrow_1).before args0 about1 = true := by decide +kernel
theorem w_applies : (headSpec (Jvm.Cond.code x code maxLocals ret :: tables_1) room_1).applies x e0.platform about1 = true :=
  (Spec.applies_iff w_frames).mpr ⟨w_running, w_runnable, w_alone, w_named, w_hears, w_ripe, w_room, w_tables⟩
theorem atStart : AtStart classFile x code maxLocals ret World_1 tables_1 room_1 Calls_1 rest_1 Pre_1 launch0 p0 e0 about1 theMethod args0 below0 :=
  ⟨lists_1, trivial, launch0.admits_env _ _ _, launch0.least_env, fairChoices_fair.cas, fairChoices_fair.clock, w_frames, w_args, w_heap, w_applies, trivial, trivial, w_case⟩
end start1
theorem witness_1 : WitnessClaimed_1 := ⟨start1.p0, start1.e0, start1.about1, start1.theMethod, start1.args0, start1.below0, start1.atStart⟩
end Jvm.Pilot.@@N@@
